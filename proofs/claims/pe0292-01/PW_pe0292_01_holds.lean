import PyProof.Rows.All
import Wide.All
import OpenK.AllK
import Wide.FinOn
import Lean
import PySem.Challenge.RW_pe0292_01
open PySem PySem.W PyProof.Rows
set_option Elab.async false
set_option rowWalk.seconds 0
set_option linter.all false
set_option maxRecDepth 100000
set_option maxHeartbeats 4000000
namespace Mine
section
noncomputable abbrev pw : Program := PySem.Challenge.pw_pe0292_01
def nth (l : List Stmt) (n : Nat) : Stmt := l.getD n (.Pass ⟨0, 0, 0, 0⟩)
def stA (i : Nat) : Stmt := nth PySem.Challenge.pw_pe0292_01.main.body i
set_option backward.match.sparseCases false in
noncomputable def sub : Stmt → Nat → Stmt
  | .ClassDef _ _ _ b _ _ _ _ _ _ _, n => nth b n
  | s, _ => s
set_option backward.match.sparseCases false in
def fPar : Stmt → Arguments
  | .FunctionDef _ a _ _ _ _ _ _ _ _ => a
  | _ => ⟨[], [], none, [], [], none, []⟩
set_option backward.match.sparseCases false in
def fBody : Stmt → List Stmt
  | .FunctionDef _ _ b _ _ _ _ _ _ _ => b
  | _ => []
set_option backward.match.sparseCases false in
def fScope : Stmt → Scope
  | .FunctionDef _ _ _ _ _ _ sc _ _ _ => sc
  | _ => ⟨.function, [], false, false, []⟩
set_option backward.match.sparseCases false in
def fPos : Stmt → Pos
  | .FunctionDef _ _ _ _ _ _ _ _ _ p => p
  | _ => ⟨0, 0, 0, 0⟩
noncomputable def K : Params → Frag := fun P =>
  (nat_lit 2, ⟨.none, none, .dict (List.toArray [⟨PyData.keyHash P (Str.ofString "\x69mport.loaded._sre"), .str (Str.ofString "\x69mport.loaded._sre") 183, .bool true⟩, ⟨PyData.keyHash P (Str.ofString "class._frozen_importlib.BuiltinImporter"), .str (Str.ofString "class._frozen_importlib.BuiltinImporter") 185, .ref 14⟩, ⟨PyData.keyHash P (Str.ofString "watched.\x69mport"), .str (Str.ofString "watched.\x69mport") 206, .ref 18⟩, ⟨PyData.keyHash P (Str.ofString "class._frozen_importlib.ModuleSpec"), .str (Str.ofString "class._frozen_importlib.ModuleSpec") 216, .ref 22⟩, ⟨PyData.keyHash P (Str.ofString "sys.modules.booked-epoch"), .str (Str.ofString "sys.modules.booked-epoch") 245, .int 3 0⟩, ⟨PyData.keyHash P (Str.ofString "\x69mport.later-laid._sre"), .str (Str.ofString "\x69mport.later-laid._sre") 270, .bool true⟩, ⟨PyData.keyHash P (Str.ofString "watched.library"), .str (Str.ofString "watched.library") 272, .ref 27⟩, ⟨PyData.keyHash P (Str.ofString "watched.library-objects"), .str (Str.ofString "watched.library-objects") 0, .str (Str.ofString "\x0c") 0⟩, ⟨PyData.keyHash P (Str.ofString "watched.library-deep._sre"), .str (Str.ofString "watched.library-deep._sre") 273, .str (Str.ofString "\x04\x00\x00\x0b\x04\x00\x00\x0b\x04\x00\x00\x03\x04\x00\x00\x0b\x08\x04dict\x02") 0⟩]) 9, (List.toArray [])⟩) ::
  (nat_lit 3, ⟨.type "dict", none, .dict (List.toArray [⟨PyData.keyHash P (Str.ofString "__name__"), .str (Str.ofString "__name__") 165, .str (Str.ofString "law_pe0292_01") 802⟩, ⟨PyData.keyHash P (Str.ofString "__doc__"), .str (Str.ofString "__doc__") 166, .none⟩, ⟨PyData.keyHash P (Str.ofString "__package__"), .str (Str.ofString "__package__") 167, .none⟩, ⟨PyData.keyHash P (Str.ofString "__loader__"), .str (Str.ofString "__loader__") 168, .builtin "__main__.__loader__#opaque"⟩, ⟨PyData.keyHash P (Str.ofString "__spec__"), .str (Str.ofString "__spec__") 169, .none⟩, ⟨PyData.keyHash P (Str.ofString "__annotations__"), .str (Str.ofString "__annotations__") 170, .ref 6⟩, ⟨PyData.keyHash P (Str.ofString "__builtins__"), .str (Str.ofString "__builtins__") 171, .ref 4⟩, ⟨PyData.keyHash P (Str.ofString "__file__"), .str (Str.ofString "__file__") 173, .str (Str.ofString "/claim/cut.py") 172⟩, ⟨PyData.keyHash P (Str.ofString "__cached__"), .str (Str.ofString "__cached__") 174, .none⟩, ⟨PyData.keyHash P (Str.ofString "_sre"), .str (Str.ofString "_sre") 275, .ref 12⟩, ⟨PyData.keyHash P (Str.ofString "_wall"), .str (Str.ofString "_wall") 288, .ref 38⟩, ⟨PyData.keyHash P (Str.ofString "_twin_re_1"), .str (Str.ofString "_twin_re_1") 328, .ref 43⟩, ⟨PyData.keyHash P (Str.ofString "_namespace_map"), .str (Str.ofString "_namespace_map") 350, .ref 44⟩, ⟨PyData.keyHash P (Str.ofString "_raise_serialization_error"), .str (Str.ofString "_raise_serialization_error") 357, .ref 51⟩, ⟨PyData.keyHash P (Str.ofString "_looks_like_prefix_name"), .str (Str.ofString "_looks_like_prefix_name") 359, .ref 52⟩, ⟨PyData.keyHash P (Str.ofString "C14NWriterTarget"), .str (Str.ofString "C14NWriterTarget") 524, .ref 150⟩, ⟨PyData.keyHash P (Str.ofString "_escape_cdata_c14n"), .str (Str.ofString "_escape_cdata_c14n") 531, .ref 161⟩, ⟨PyData.keyHash P (Str.ofString "_escape_attrib_c14n"), .str (Str.ofString "_escape_attrib_c14n") 538, .ref 168⟩, ⟨PyData.keyHash P (Str.ofString "tspecials"), .str (Str.ofString "tspecials") 574, .ref 173⟩, ⟨PyData.keyHash P (Str.ofString "_name_disallowed_re"), .str (Str.ofString "_name_disallowed_re") 600, .ref 178⟩, ⟨PyData.keyHash P (Str.ofString "_value_disallowed_re"), .str (Str.ofString "_value_disallowed_re") 634, .ref 183⟩, ⟨PyData.keyHash P (Str.ofString "_formatparam"), .str (Str.ofString "_formatparam") 644, .ref 191⟩, ⟨PyData.keyHash P (Str.ofString "Headers"), .str (Str.ofString "Headers") 801, .ref 312⟩, ⟨PyData.keyHash P (Str.ofString "_law_spell"), .str (Str.ofString "_law_spell") 809, .ref 321⟩, ⟨PyData.keyHash P (Str.ofString "_law_lay"), .str (Str.ofString "_law_lay") 817, .ref 328⟩, ⟨PyData.keyHash P (Str.ofString "_law_step"), .str (Str.ofString "_law_step") 828, .ref 335⟩, ⟨PyData.keyHash P (Str.ofString "_law_call"), .str (Str.ofString "_law_call") 838, .ref 342⟩, ⟨PyData.keyHash P (Str.ofString "_law_same"), .str (Str.ofString "_law_same") 844, .ref 347⟩, ⟨PyData.keyHash P (Str.ofString "_law_run"), .str (Str.ofString "_law_run") 850, .ref 352⟩, ⟨PyData.keyHash P (Str.ofString "law"), .str (Str.ofString "law") 864, .ref 359⟩]) 30, (List.toArray [])⟩) ::
  (nat_lit 32, ⟨.type "tuple", none, .seq (List.toArray []) 0, (List.toArray [])⟩) ::
  (nat_lit 34, ⟨.type "tuple", none, .seq (List.toArray [.str (Str.ofString "k") 285]) 0, (List.toArray [])⟩) ::
  (nat_lit 35, ⟨.type "tuple", none, .seq (List.toArray []) 0, (List.toArray [])⟩) ::
  (nat_lit 37, ⟨.type "code", none, .fields (List.toArray [.str (Str.ofString "_wall") 282, .str (Str.ofString "_wall") 283, .str (Str.ofString "/claim/cut.py") 284, .int 2 0, .int 1 0, .int 0 0, .int 0 0, .int 3 0, .ref 32, .bool true, .int 276 0, .ref 33, .none, .ref 34, .ref 35, .ref 36, .int 286 0, .int 2 0, .str (Str.ofString "/claim/cut.py") 287]), (List.toArray [])⟩) ::
  (nat_lit 38, ⟨.type "function", none, .func (fnOf (Str.ofString "_wall") (Str.ofString "_wall") (fPar (stA 1)) (fBody (stA 1)) (fScope (stA 1)) (.none) (.none) (.none) (.str (Str.ofString "__main__") 164) none (.ref 37) (.none)), (List.toArray [])⟩) ::
  (nat_lit 42, ⟨.type "tuple", none, .seq (List.toArray [.int 14 0, .int 4 0, .int 0 0, .int 3 0, .int 4294967295 0, .int 6 0, .int 0 0, .int 24 0, .int 9 0, .int 1 0, .int 4294967295 0, .int 13 0, .int 4 0, .int 8 0, .int 14 0, .int 0 0, .int 1 0, .int 16 0, .int 58 0, .int 24 0, .int 9 0, .int 1 0, .int 4294967295 0, .int 13 0, .int 4 0, .int 8 0, .int 14 0, .int 0 0, .int 1 0, .int 6 0, .int 5 0, .int 1 0]) 0, (List.toArray [])⟩) ::
  (nat_lit 43, ⟨.type "re.Pattern", none, .fields (List.toArray [.str (Str.ofString "^\\w+:\\w+$") 292, .int 32 327, .int 0 0, .none, .none, .ref 42, .int 0 0]), (List.toArray [])⟩) ::
  (nat_lit 44, ⟨.type "dict", none, .dict (List.toArray [⟨PyData.keyHash P (Str.ofString "http://www.w3.org/XML/1998/namespace"), .str (Str.ofString "http://www.w3.org/XML/1998/namespace") 329, .str (Str.ofString "xml") 330⟩, ⟨PyData.keyHash P (Str.ofString "http://www.w3.org/1999/xhtml"), .str (Str.ofString "http://www.w3.org/1999/xhtml") 331, .str (Str.ofString "html") 332⟩, ⟨PyData.keyHash P (Str.ofString "http://www.w3.org/1999/02/22-rdf-syntax-ns#"), .str (Str.ofString "http://www.w3.org/1999/02/22-rdf-syntax-ns#") 333, .str (Str.ofString "rdf") 334⟩, ⟨PyData.keyHash P (Str.ofString "http://schemas.xmlsoap.org/wsdl/"), .str (Str.ofString "http://schemas.xmlsoap.org/wsdl/") 335, .str (Str.ofString "wsdl") 336⟩, ⟨PyData.keyHash P (Str.ofString "http://www.w3.org/2001/XMLSchema"), .str (Str.ofString "http://www.w3.org/2001/XMLSchema") 337, .str (Str.ofString "xs") 338⟩, ⟨PyData.keyHash P (Str.ofString "http://www.w3.org/2001/XMLSchema-instance"), .str (Str.ofString "http://www.w3.org/2001/XMLSchema-instance") 339, .str (Str.ofString "xsi") 340⟩, ⟨PyData.keyHash P (Str.ofString "http://purl.org/dc/elements/1.1/"), .str (Str.ofString "http://purl.org/dc/elements/1.1/") 341, .str (Str.ofString "dc") 342⟩]) 7, (List.toArray [])⟩) ::
  (nat_lit 45, ⟨.type "tuple", none, .seq (List.toArray []) 0, (List.toArray [])⟩) ::
  (nat_lit 47, ⟨.type "tuple", none, .seq (List.toArray [.str (Str.ofString "text") 354]) 0, (List.toArray [])⟩) ::
  (nat_lit 48, ⟨.type "tuple", none, .seq (List.toArray []) 0, (List.toArray [])⟩) ::
  (nat_lit 50, ⟨.type "code", none, .fields (List.toArray [.str (Str.ofString "_raise_serialization_error") 351, .str (Str.ofString "_raise_serialization_error") 352, .str (Str.ofString "/claim/cut.py") 353, .int 8 0, .int 1 0, .int 0 0, .int 0 0, .int 3 0, .ref 45, .bool true, .int 276 0, .ref 46, .none, .ref 47, .ref 48, .ref 49, .int 355 0, .int 8 0, .str (Str.ofString "/claim/cut.py") 356]), (List.toArray [])⟩) ::
  (nat_lit 51, ⟨.type "function", none, .func (fnOf (Str.ofString "_raise_serialization_error") (Str.ofString "_raise_serialization_error") (fPar (stA 5)) (fBody (stA 5)) (fScope (stA 5)) (.none) (.none) (.none) (.str (Str.ofString "cpy313.xml.etree.ElementTree") 289) none (.ref 50) (.none)), (List.toArray [])⟩) ::
  (nat_lit 52, ⟨.type "builtin_function_or_method", none, .fields (List.toArray [.builtin "re.Pattern.match", .ref 43]), (List.toArray [])⟩) ::
  (nat_lit 60, ⟨.type "dict", none, .dict (List.toArray [⟨PyData.keyHash P (Str.ofString "with_comments"), .str (Str.ofString "with_comments") 372, .bool false⟩, ⟨PyData.keyHash P (Str.ofString "strip_text"), .str (Str.ofString "strip_text") 373, .bool false⟩, ⟨PyData.keyHash P (Str.ofString "rewrite_prefixes"), .str (Str.ofString "rewrite_prefixes") 374, .bool false⟩, ⟨PyData.keyHash P (Str.ofString "qname_aware_tags"), .str (Str.ofString "qname_aware_tags") 375, .none⟩, ⟨PyData.keyHash P (Str.ofString "qname_aware_attrs"), .str (Str.ofString "qname_aware_attrs") 376, .none⟩, ⟨PyData.keyHash P (Str.ofString "exclude_attrs"), .str (Str.ofString "exclude_attrs") 377, .none⟩, ⟨PyData.keyHash P (Str.ofString "exclude_tags"), .str (Str.ofString "exclude_tags") 378, .none⟩]) 7, (List.toArray [])⟩) ::
  (nat_lit 61, ⟨.type "tuple", none, .seq (List.toArray []) 0, (List.toArray [])⟩) ::
  (nat_lit 63, ⟨.type "tuple", none, .seq (List.toArray [.str (Str.ofString "self") 382, .str (Str.ofString "write") 383, .str (Str.ofString "with_comments") 384, .str (Str.ofString "strip_text") 385, .str (Str.ofString "rewrite_prefixes") 386, .str (Str.ofString "qname_aware_tags") 387, .str (Str.ofString "qname_aware_attrs") 388, .str (Str.ofString "exclude_attrs") 389, .str (Str.ofString "exclude_tags") 390]) 0, (List.toArray [])⟩) ::
  (nat_lit 64, ⟨.type "tuple", none, .seq (List.toArray []) 0, (List.toArray [])⟩) ::
  (nat_lit 66, ⟨.type "code", none, .fields (List.toArray [.str (Str.ofString "__init__") 379, .str (Str.ofString "C14NWriterTarget.__init__") 380, .str (Str.ofString "/claim/cut.py") 381, .int 13 0, .int 2 0, .int 0 0, .int 7 0, .int 3 0, .ref 61, .bool true, .int 276 0, .ref 62, .none, .ref 63, .ref 64, .ref 65, .int 391 0, .int 13 0, .str (Str.ofString "/claim/cut.py") 392]), (List.toArray [])⟩) ::
  (nat_lit 67, ⟨.type "function", none, .func (fnOf (Str.ofString "__init__") (Str.ofString "C14NWriterTarget.__init__") (fPar (sub (stA 7) 0)) (fBody (sub (stA 7) 0)) (fScope (sub (stA 7) 0)) (.none) (.ref 60) (.none) (.str (Str.ofString "cpy313.xml.etree.ElementTree") 289) none (.ref 66) (.none)), (List.toArray [])⟩) ::
  (nat_lit 68, ⟨.type "tuple", none, .seq (List.toArray [.type "reversed"]) 0, (List.toArray [])⟩) ::
  (nat_lit 69, ⟨.type "tuple", none, .seq (List.toArray []) 0, (List.toArray [])⟩) ::
  (nat_lit 71, ⟨.type "tuple", none, .seq (List.toArray [.str (Str.ofString "self") 397, .str (Str.ofString "ns_stack") 398, .str (Str.ofString "_reversed") 399, .str (Str.ofString "namespaces") 400]) 0, (List.toArray [])⟩) ::
  (nat_lit 72, ⟨.type "tuple", none, .seq (List.toArray []) 0, (List.toArray [])⟩) ::
  (nat_lit 74, ⟨.type "code", none, .fields (List.toArray [.str (Str.ofString "_iter_namespaces") 394, .str (Str.ofString "C14NWriterTarget._iter_namespaces") 395, .str (Str.ofString "/claim/cut.py") 396, .int 41 0, .int 3 0, .int 0 0, .int 0 0, .int 35 0, .ref 69, .bool true, .int 276 0, .ref 70, .none, .ref 71, .ref 72, .ref 73, .int 401 0, .int 41 0, .str (Str.ofString "/claim/cut.py") 402]), (List.toArray [])⟩) ::
  (nat_lit 75, ⟨.type "function", none, .func (fnOf (Str.ofString "_iter_namespaces") (Str.ofString "C14NWriterTarget._iter_namespaces") (fPar (sub (stA 7) 1)) (fBody (sub (stA 7) 1)) (fScope (sub (stA 7) 1)) (.ref 68) (.none) (.none) (.str (Str.ofString "cpy313.xml.etree.ElementTree") 289) none (.ref 74) (.none)), (List.toArray [])⟩) ::
  (nat_lit 76, ⟨.type "tuple", none, .seq (List.toArray []) 0, (List.toArray [])⟩) ::
  (nat_lit 78, ⟨.type "tuple", none, .seq (List.toArray [.str (Str.ofString "self") 407, .str (Str.ofString "prefixed_name") 408, .str (Str.ofString "prefix") 409, .str (Str.ofString "name") 410, .str (Str.ofString "uri") 411, .str (Str.ofString "p") 412]) 0, (List.toArray [])⟩) ::
  (nat_lit 79, ⟨.type "tuple", none, .seq (List.toArray []) 0, (List.toArray [])⟩) ::
  (nat_lit 81, ⟨.type "code", none, .fields (List.toArray [.str (Str.ofString "_resolve_prefix_name") 404, .str (Str.ofString "C14NWriterTarget._resolve_prefix_name") 405, .str (Str.ofString "/claim/cut.py") 406, .int 46 0, .int 2 0, .int 0 0, .int 0 0, .int 3 0, .ref 76, .bool true, .int 276 0, .ref 77, .none, .ref 78, .ref 79, .ref 80, .int 413 0, .int 46 0, .str (Str.ofString "/claim/cut.py") 414]), (List.toArray [])⟩) ::
  (nat_lit 82, ⟨.type "function", none, .func (fnOf (Str.ofString "_resolve_prefix_name") (Str.ofString "C14NWriterTarget._resolve_prefix_name") (fPar (sub (stA 7) 2)) (fBody (sub (stA 7) 2)) (fScope (sub (stA 7) 2)) (.none) (.none) (.none) (.str (Str.ofString "cpy313.xml.etree.ElementTree") 289) none (.ref 81) (.none)), (List.toArray [])⟩) ::
  (nat_lit 83, ⟨.type "tuple", none, .seq (List.toArray [.none]) 0, (List.toArray [])⟩) ::
  (nat_lit 84, ⟨.type "tuple", none, .seq (List.toArray []) 0, (List.toArray [])⟩) ::
  (nat_lit 86, ⟨.type "tuple", none, .seq (List.toArray [.str (Str.ofString "self") 419, .str (Str.ofString "qname") 420, .str (Str.ofString "uri") 421, .str (Str.ofString "tag") 422, .str (Str.ofString "prefixes_seen") 423, .str (Str.ofString "u") 424, .str (Str.ofString "prefix") 425]) 0, (List.toArray [])⟩) ::
  (nat_lit 87, ⟨.type "tuple", none, .seq (List.toArray []) 0, (List.toArray [])⟩) ::
  (nat_lit 89, ⟨.type "code", none, .fields (List.toArray [.str (Str.ofString "_qname") 416, .str (Str.ofString "C14NWriterTarget._qname") 417, .str (Str.ofString "/claim/cut.py") 418, .int 53 0, .int 3 0, .int 0 0, .int 0 0, .int 3 0, .ref 84, .bool true, .int 276 0, .ref 85, .none, .ref 86, .ref 87, .ref 88, .int 426 0, .int 53 0, .str (Str.ofString "/claim/cut.py") 427]), (List.toArray [])⟩) ::
  (nat_lit 90, ⟨.type "function", none, .func (fnOf (Str.ofString "_qname") (Str.ofString "C14NWriterTarget._qname") (fPar (sub (stA 7) 3)) (fBody (sub (stA 7) 3)) (fScope (sub (stA 7) 3)) (.ref 83) (.none) (.none) (.str (Str.ofString "cpy313.xml.etree.ElementTree") 289) none (.ref 89) (.none)), (List.toArray [])⟩) ::
  (nat_lit 91, ⟨.type "tuple", none, .seq (List.toArray []) 0, (List.toArray [])⟩) ::
  (nat_lit 93, ⟨.type "tuple", none, .seq (List.toArray [.str (Str.ofString "self") 432, .str (Str.ofString "data") 433]) 0, (List.toArray [])⟩) ::
  (nat_lit 94, ⟨.type "tuple", none, .seq (List.toArray []) 0, (List.toArray [])⟩) ::
  (nat_lit 96, ⟨.type "code", none, .fields (List.toArray [.str (Str.ofString "data") 429, .str (Str.ofString "C14NWriterTarget.data") 430, .str (Str.ofString "/claim/cut.py") 431, .int 80 0, .int 2 0, .int 0 0, .int 0 0, .int 3 0, .ref 91, .bool true, .int 276 0, .ref 92, .none, .ref 93, .ref 94, .ref 95, .int 434 0, .int 80 0, .str (Str.ofString "/claim/cut.py") 435]), (List.toArray [])⟩) ::
  (nat_lit 97, ⟨.type "function", none, .func (fnOf (Str.ofString "data") (Str.ofString "C14NWriterTarget.data") (fPar (sub (stA 7) 4)) (fBody (sub (stA 7) 4)) (fScope (sub (stA 7) 4)) (.none) (.none) (.none) (.str (Str.ofString "cpy313.xml.etree.ElementTree") 289) none (.ref 96) (.none)), (List.toArray [])⟩) ::
  (nat_lit 98, ⟨.type "builtin_function_or_method", none, .fields (List.toArray [.builtin "str.join", .str (Str.ofString "") 437]), (List.toArray [])⟩) ::
  (nat_lit 99, ⟨.type "tuple", none, .seq (List.toArray [.ref 98]) 0, (List.toArray [])⟩) ::
  (nat_lit 100, ⟨.type "tuple", none, .seq (List.toArray []) 0, (List.toArray [])⟩) ::
  (nat_lit 102, ⟨.type "tuple", none, .seq (List.toArray [.str (Str.ofString "self") 442, .str (Str.ofString "_join_text") 443, .str (Str.ofString "data") 444, .str (Str.ofString "args") 445, .str (Str.ofString "qname_text") 446]) 0, (List.toArray [])⟩) ::
  (nat_lit 103, ⟨.type "tuple", none, .seq (List.toArray []) 0, (List.toArray [])⟩) ::
  (nat_lit 105, ⟨.type "code", none, .fields (List.toArray [.str (Str.ofString "_flush") 439, .str (Str.ofString "C14NWriterTarget._flush") 440, .str (Str.ofString "/claim/cut.py") 441, .int 84 0, .int 2 0, .int 0 0, .int 0 0, .int 3 0, .ref 100, .bool true, .int 276 0, .ref 101, .none, .ref 102, .ref 103, .ref 104, .int 447 0, .int 84 0, .str (Str.ofString "/claim/cut.py") 448]), (List.toArray [])⟩) ::
  (nat_lit 106, ⟨.type "function", none, .func (fnOf (Str.ofString "_flush") (Str.ofString "C14NWriterTarget._flush") (fPar (sub (stA 7) 5)) (fBody (sub (stA 7) 5)) (fScope (sub (stA 7) 5)) (.ref 99) (.none) (.none) (.str (Str.ofString "cpy313.xml.etree.ElementTree") 289) none (.ref 105) (.none)), (List.toArray [])⟩) ::
  (nat_lit 107, ⟨.type "tuple", none, .seq (List.toArray []) 0, (List.toArray [])⟩) ::
  (nat_lit 109, ⟨.type "tuple", none, .seq (List.toArray [.str (Str.ofString "self") 453, .str (Str.ofString "prefix") 454, .str (Str.ofString "uri") 455]) 0, (List.toArray [])⟩) ::
  (nat_lit 110, ⟨.type "tuple", none, .seq (List.toArray []) 0, (List.toArray [])⟩) ::
  (nat_lit 112, ⟨.type "code", none, .fields (List.toArray [.str (Str.ofString "start_ns") 450, .str (Str.ofString "C14NWriterTarget.start_ns") 451, .str (Str.ofString "/claim/cut.py") 452, .int 98 0, .int 3 0, .int 0 0, .int 0 0, .int 3 0, .ref 107, .bool true, .int 276 0, .ref 108, .none, .ref 109, .ref 110, .ref 111, .int 456 0, .int 98 0, .str (Str.ofString "/claim/cut.py") 457]), (List.toArray [])⟩) ::
  (nat_lit 113, ⟨.type "function", none, .func (fnOf (Str.ofString "start_ns") (Str.ofString "C14NWriterTarget.start_ns") (fPar (sub (stA 7) 6)) (fBody (sub (stA 7) 6)) (fScope (sub (stA 7) 6)) (.none) (.none) (.none) (.str (Str.ofString "cpy313.xml.etree.ElementTree") 289) none (.ref 112) (.none)), (List.toArray [])⟩) ::
  (nat_lit 114, ⟨.type "tuple", none, .seq (List.toArray []) 0, (List.toArray [])⟩) ::
  (nat_lit 116, ⟨.type "tuple", none, .seq (List.toArray [.str (Str.ofString "self") 462, .str (Str.ofString "tag") 463, .str (Str.ofString "attrs") 464, .str (Str.ofString "new_namespaces") 465]) 0, (List.toArray [])⟩) ::
  (nat_lit 117, ⟨.type "tuple", none, .seq (List.toArray []) 0, (List.toArray [])⟩) ::
  (nat_lit 119, ⟨.type "code", none, .fields (List.toArray [.str (Str.ofString "start") 459, .str (Str.ofString "C14NWriterTarget.start") 460, .str (Str.ofString "/claim/cut.py") 461, .int 101 0, .int 3 0, .int 0 0, .int 0 0, .int 3 0, .ref 114, .bool true, .int 276 0, .ref 115, .none, .ref 116, .ref 117, .ref 118, .int 466 0, .int 101 0, .str (Str.ofString "/claim/cut.py") 467]), (List.toArray [])⟩) ::
  (nat_lit 120, ⟨.type "function", none, .func (fnOf (Str.ofString "start") (Str.ofString "C14NWriterTarget.start") (fPar (sub (stA 7) 7)) (fBody (sub (stA 7) 7)) (fScope (sub (stA 7) 7)) (.none) (.none) (.none) (.str (Str.ofString "cpy313.xml.etree.ElementTree") 289) none (.ref 119) (.none)), (List.toArray [])⟩) ::
  (nat_lit 121, ⟨.type "tuple", none, .seq (List.toArray [.none]) 0, (List.toArray [])⟩) ::
  (nat_lit 122, ⟨.type "tuple", none, .seq (List.toArray []) 0, (List.toArray [])⟩) ::
  (nat_lit 125, ⟨.type "code", none, .fields (List.toArray [.str (Str.ofString "_start") 469, .str (Str.ofString "C14NWriterTarget._start") 470, .str (Str.ofString "/claim/cut.py") 471, .int 114 0, .int 5 0, .int 0 0, .int 0 0, .int 3 0, .ref 122, .bool true, .int 276 0, .ref 123, .none, .none, .none, .ref 124, .int 472 0, .int 114 0, .str (Str.ofString "/claim/cut.py") 473]), (List.toArray [])⟩) ::
  (nat_lit 126, ⟨.type "function", none, .func (fnOf (Str.ofString "_start") (Str.ofString "C14NWriterTarget._start") (fPar (sub (stA 7) 8)) (fBody (sub (stA 7) 8)) (fScope (sub (stA 7) 8)) (.ref 121) (.none) (.none) (.str (Str.ofString "cpy313.xml.etree.ElementTree") 289) none (.ref 125) (.none)), (List.toArray [])⟩) ::
  (nat_lit 127, ⟨.type "tuple", none, .seq (List.toArray []) 0, (List.toArray [])⟩) ::
  (nat_lit 129, ⟨.type "tuple", none, .seq (List.toArray [.str (Str.ofString "self") 478, .str (Str.ofString "tag") 479]) 0, (List.toArray [])⟩) ::
  (nat_lit 130, ⟨.type "tuple", none, .seq (List.toArray []) 0, (List.toArray [])⟩) ::
  (nat_lit 132, ⟨.type "code", none, .fields (List.toArray [.str (Str.ofString "end") 475, .str (Str.ofString "C14NWriterTarget.end") 476, .str (Str.ofString "/claim/cut.py") 477, .int 159 0, .int 2 0, .int 0 0, .int 0 0, .int 3 0, .ref 127, .bool true, .int 276 0, .ref 128, .none, .ref 129, .ref 130, .ref 131, .int 480 0, .int 159 0, .str (Str.ofString "/claim/cut.py") 481]), (List.toArray [])⟩) ::
  (nat_lit 133, ⟨.type "function", none, .func (fnOf (Str.ofString "end") (Str.ofString "C14NWriterTarget.end") (fPar (sub (stA 7) 9)) (fBody (sub (stA 7) 9)) (fScope (sub (stA 7) 9)) (.none) (.none) (.none) (.str (Str.ofString "cpy313.xml.etree.ElementTree") 289) none (.ref 132) (.none)), (List.toArray [])⟩) ::
  (nat_lit 134, ⟨.type "tuple", none, .seq (List.toArray []) 0, (List.toArray [])⟩) ::
  (nat_lit 136, ⟨.type "tuple", none, .seq (List.toArray [.str (Str.ofString "self") 486, .str (Str.ofString "text") 487]) 0, (List.toArray [])⟩) ::
  (nat_lit 137, ⟨.type "tuple", none, .seq (List.toArray []) 0, (List.toArray [])⟩) ::
  (nat_lit 139, ⟨.type "code", none, .fields (List.toArray [.str (Str.ofString "comment") 483, .str (Str.ofString "C14NWriterTarget.comment") 484, .str (Str.ofString "/claim/cut.py") 485, .int 171 0, .int 2 0, .int 0 0, .int 0 0, .int 3 0, .ref 134, .bool true, .int 276 0, .ref 135, .none, .ref 136, .ref 137, .ref 138, .int 488 0, .int 171 0, .str (Str.ofString "/claim/cut.py") 489]), (List.toArray [])⟩) ::
  (nat_lit 140, ⟨.type "function", none, .func (fnOf (Str.ofString "comment") (Str.ofString "C14NWriterTarget.comment") (fPar (sub (stA 7) 10)) (fBody (sub (stA 7) 10)) (fScope (sub (stA 7) 10)) (.none) (.none) (.none) (.str (Str.ofString "cpy313.xml.etree.ElementTree") 289) none (.ref 139) (.none)), (List.toArray [])⟩) ::
  (nat_lit 141, ⟨.type "tuple", none, .seq (List.toArray []) 0, (List.toArray [])⟩) ::
  (nat_lit 143, ⟨.type "tuple", none, .seq (List.toArray [.str (Str.ofString "self") 494, .str (Str.ofString "target") 495, .str (Str.ofString "data") 496]) 0, (List.toArray [])⟩) ::
  (nat_lit 144, ⟨.type "tuple", none, .seq (List.toArray []) 0, (List.toArray [])⟩) ::
  (nat_lit 146, ⟨.type "code", none, .fields (List.toArray [.str (Str.ofString "pi") 491, .str (Str.ofString "C14NWriterTarget.pi") 492, .str (Str.ofString "/claim/cut.py") 493, .int 184 0, .int 3 0, .int 0 0, .int 0 0, .int 3 0, .ref 141, .bool true, .int 276 0, .ref 142, .none, .ref 143, .ref 144, .ref 145, .int 497 0, .int 184 0, .str (Str.ofString "/claim/cut.py") 498]), (List.toArray [])⟩) ::
  (nat_lit 147, ⟨.type "function", none, .func (fnOf (Str.ofString "pi") (Str.ofString "C14NWriterTarget.pi") (fPar (sub (stA 7) 11)) (fBody (sub (stA 7) 11)) (fScope (sub (stA 7) 11)) (.none) (.none) (.none) (.str (Str.ofString "cpy313.xml.etree.ElementTree") 289) none (.ref 146) (.none)), (List.toArray [])⟩) ::
  (nat_lit 148, ⟨.type "tuple", none, .seq (List.toArray [.str (Str.ofString "_data") 500, .str (Str.ofString "_declared_ns_stack") 501, .str (Str.ofString "_exclude_attrs") 502, .str (Str.ofString "_exclude_tags") 503, .str (Str.ofString "_find_qname_aware_attrs") 504, .str (Str.ofString "_ignored_depth") 505, .str (Str.ofString "_ns_stack") 506, .str (Str.ofString "_pending_start") 507, .str (Str.ofString "_prefix_map") 508, .str (Str.ofString "_preserve_space") 509, .str (Str.ofString "_qname_aware_tags") 510, .str (Str.ofString "_rewrite_prefixes") 511, .str (Str.ofString "_root_done") 512, .str (Str.ofString "_root_seen") 513, .str (Str.ofString "_strip_text") 514, .str (Str.ofString "_with_comments") 515, .str (Str.ofString "_write") 516]) 0, (List.toArray [])⟩) ::
  (nat_lit 149, ⟨.type "dict", none, .dict (List.toArray [⟨PyData.keyHash P (Str.ofString "__module__"), .str (Str.ofString "__module__") 367, .str (Str.ofString "cpy313.xml.etree.ElementTree") 289⟩, ⟨PyData.keyHash P (Str.ofString "__firstlineno__"), .str (Str.ofString "__firstlineno__") 371, .int 11 370⟩, ⟨PyData.keyHash P (Str.ofString "__init__"), .str (Str.ofString "__init__") 393, .ref 67⟩, ⟨PyData.keyHash P (Str.ofString "_iter_namespaces"), .str (Str.ofString "_iter_namespaces") 403, .ref 75⟩, ⟨PyData.keyHash P (Str.ofString "_resolve_prefix_name"), .str (Str.ofString "_resolve_prefix_name") 415, .ref 82⟩, ⟨PyData.keyHash P (Str.ofString "_qname"), .str (Str.ofString "_qname") 428, .ref 90⟩, ⟨PyData.keyHash P (Str.ofString "data"), .str (Str.ofString "data") 436, .ref 97⟩, ⟨PyData.keyHash P (Str.ofString "_flush"), .str (Str.ofString "_flush") 449, .ref 106⟩, ⟨PyData.keyHash P (Str.ofString "start_ns"), .str (Str.ofString "start_ns") 458, .ref 113⟩, ⟨PyData.keyHash P (Str.ofString "start"), .str (Str.ofString "start") 468, .ref 120⟩, ⟨PyData.keyHash P (Str.ofString "_start"), .str (Str.ofString "_start") 474, .ref 126⟩, ⟨PyData.keyHash P (Str.ofString "end"), .str (Str.ofString "end") 482, .ref 133⟩, ⟨PyData.keyHash P (Str.ofString "comment"), .str (Str.ofString "comment") 490, .ref 140⟩, ⟨PyData.keyHash P (Str.ofString "pi"), .str (Str.ofString "pi") 499, .ref 147⟩, ⟨PyData.keyHash P (Str.ofString "__static_attributes__"), .str (Str.ofString "__static_attributes__") 517, .ref 148⟩, ⟨PyData.keyHash P (Str.ofString "__dict__"), .str (Str.ofString "__dict__") 519, .ref 151⟩, ⟨PyData.keyHash P (Str.ofString "__weakref__"), .str (Str.ofString "__weakref__") 521, .ref 152⟩, ⟨PyData.keyHash P (Str.ofString "__doc__"), .str (Str.ofString "__doc__") 522, .none⟩]) 4, (List.toArray [])⟩) ::
  (nat_lit 150, ⟨.type "type", none, .cls { name := (Str.ofString "C14NWriterTarget"), bases := [.type "object"], mro := [.ref 150, .type "object"], ns := 149, qualname := (Str.ofString "C14NWriterTarget"), hasDict := true, slotNames := [], subclasses := [], abstract := false, collection := none, hasDel := false }, (List.toArray [none, none, (some (.str (Str.ofString "C14NWriterTarget") 360)), (some (.str (Str.ofString "C14NWriterTarget") 368)), (some (.builtin "object.__new__")), (some (.bool true))])⟩) ::
  (nat_lit 151, ⟨.type "getset_descriptor", none, .fields (List.toArray [.str (Str.ofString "__dict__") 518, .ref 150, .builtin "function.__dict__", .builtin "function.__dict__#set"]), (List.toArray [])⟩) ::
  (nat_lit 152, ⟨.type "getset_descriptor", none, .fields (List.toArray [.str (Str.ofString "__weakref__") 520, .ref 150, .builtin "ExceptionGroup.__weakref__", .none]), (List.toArray [])⟩) ::
  (nat_lit 155, ⟨.type "tuple", none, .seq (List.toArray []) 0, (List.toArray [])⟩) ::
  (nat_lit 157, ⟨.type "tuple", none, .seq (List.toArray [.str (Str.ofString "text") 528]) 0, (List.toArray [])⟩) ::
  (nat_lit 158, ⟨.type "tuple", none, .seq (List.toArray []) 0, (List.toArray [])⟩) ::
  (nat_lit 160, ⟨.type "code", none, .fields (List.toArray [.str (Str.ofString "_escape_cdata_c14n") 525, .str (Str.ofString "_escape_cdata_c14n") 526, .str (Str.ofString "/claim/cut.py") 527, .int 194 0, .int 1 0, .int 0 0, .int 0 0, .int 3 0, .ref 155, .bool true, .int 276 0, .ref 156, .none, .ref 157, .ref 158, .ref 159, .int 529 0, .int 194 0, .str (Str.ofString "/claim/cut.py") 530]), (List.toArray [])⟩) ::
  (nat_lit 161, ⟨.type "function", none, .func (fnOf (Str.ofString "_escape_cdata_c14n") (Str.ofString "_escape_cdata_c14n") (fPar (stA 8)) (fBody (stA 8)) (fScope (stA 8)) (.none) (.none) (.none) (.str (Str.ofString "cpy313.xml.etree.ElementTree") 289) none (.ref 160) (.none)), (List.toArray [])⟩) ::
  (nat_lit 162, ⟨.type "tuple", none, .seq (List.toArray []) 0, (List.toArray [])⟩) ::
  (nat_lit 164, ⟨.type "tuple", none, .seq (List.toArray [.str (Str.ofString "text") 535]) 0, (List.toArray [])⟩) ::
  (nat_lit 165, ⟨.type "tuple", none, .seq (List.toArray []) 0, (List.toArray [])⟩) ::
  (nat_lit 167, ⟨.type "code", none, .fields (List.toArray [.str (Str.ofString "_escape_attrib_c14n") 532, .str (Str.ofString "_escape_attrib_c14n") 533, .str (Str.ofString "/claim/cut.py") 534, .int 207 0, .int 1 0, .int 0 0, .int 0 0, .int 3 0, .ref 162, .bool true, .int 276 0, .ref 163, .none, .ref 164, .ref 165, .ref 166, .int 536 0, .int 207 0, .str (Str.ofString "/claim/cut.py") 537]), (List.toArray [])⟩) ::
  (nat_lit 168, ⟨.type "function", none, .func (fnOf (Str.ofString "_escape_attrib_c14n") (Str.ofString "_escape_attrib_c14n") (fPar (stA 9)) (fBody (stA 9)) (fScope (stA 9)) (.none) (.none) (.none) (.str (Str.ofString "cpy313.xml.etree.ElementTree") 289) none (.ref 167) (.none)), (List.toArray [])⟩) ::
  (nat_lit 172, ⟨.type "tuple", none, .seq (List.toArray [.int 14 0, .int 14 0, .int 4 0, .int 1 0, .int 1 0, .int 9 0, .int 0 0, .int 4227896069 0, .int 939524097 0, .int 0 0, .int 0 0, .int 0 0, .int 0 0, .int 0 0, .int 0 0, .int 13 0, .int 11 0, .int 9 0, .int 0 0, .int 4227896069 0, .int 939524097 0, .int 0 0, .int 0 0, .int 0 0, .int 0 0, .int 0 0, .int 0 0, .int 1 0]) 0, (List.toArray [])⟩) ::
  (nat_lit 173, ⟨.type "re.Pattern", none, .fields (List.toArray [.str (Str.ofString "[ \\(\\)<>@,;:\\\\\"/\\[\\]\\?=]") 542, .int 32 573, .int 0 0, .none, .none, .ref 172, .int 0 0]), (List.toArray [])⟩) ::
  (nat_lit 177, ⟨.type "tuple", none, .seq (List.toArray [.int 14 0, .int 10 0, .int 4 0, .int 1 0, .int 1 0, .int 22 0, .int 0 0, .int 31 0, .int 16 0, .int 127 0, .int 0 0, .int 13 0, .int 7 0, .int 22 0, .int 0 0, .int 31 0, .int 16 0, .int 127 0, .int 0 0, .int 1 0]) 0, (List.toArray [])⟩) ::
  (nat_lit 178, ⟨.type "re.Pattern", none, .fields (List.toArray [.str (Str.ofString "[\\x00-\\x1F\\x7F]") 576, .int 32 599, .int 0 0, .none, .none, .ref 177, .int 0 0]), (List.toArray [])⟩) ::
  (nat_lit 182, ⟨.type "tuple", none, .seq (List.toArray [.int 14 0, .int 14 0, .int 4 0, .int 1 0, .int 1 0, .int 9 0, .int 4294966783 0, .int 0 0, .int 0 0, .int 2147483648 0, .int 0 0, .int 0 0, .int 0 0, .int 0 0, .int 0 0, .int 13 0, .int 11 0, .int 9 0, .int 4294966783 0, .int 0 0, .int 0 0, .int 2147483648 0, .int 0 0, .int 0 0, .int 0 0, .int 0 0, .int 0 0, .int 1 0]) 0, (List.toArray [])⟩) ::
  (nat_lit 183, ⟨.type "re.Pattern", none, .fields (List.toArray [.str (Str.ofString "[\\x00-\\x08\\x0A-\\x1F\\x7F]") 602, .int 32 633, .int 0 0, .none, .none, .ref 182, .int 0 0]), (List.toArray [])⟩) ::
  (nat_lit 184, ⟨.type "tuple", none, .seq (List.toArray [.none, .int 1 635]) 0, (List.toArray [])⟩) ::
  (nat_lit 185, ⟨.type "tuple", none, .seq (List.toArray []) 0, (List.toArray [])⟩) ::
  (nat_lit 187, ⟨.type "tuple", none, .seq (List.toArray [.str (Str.ofString "param") 639, .str (Str.ofString "value") 640, .str (Str.ofString "quote") 641]) 0, (List.toArray [])⟩) ::
  (nat_lit 188, ⟨.type "tuple", none, .seq (List.toArray []) 0, (List.toArray [])⟩) ::
  (nat_lit 190, ⟨.type "code", none, .fields (List.toArray [.str (Str.ofString "_formatparam") 636, .str (Str.ofString "_formatparam") 637, .str (Str.ofString "/claim/cut.py") 638, .int 228 0, .int 3 0, .int 0 0, .int 0 0, .int 3 0, .ref 185, .bool true, .int 276 0, .ref 186, .none, .ref 187, .ref 188, .ref 189, .int 642 0, .int 228 0, .str (Str.ofString "/claim/cut.py") 643]), (List.toArray [])⟩) ::
  (nat_lit 191, ⟨.type "function", none, .func (fnOf (Str.ofString "_formatparam") (Str.ofString "_formatparam") (fPar (stA 14)) (fBody (stA 14)) (fScope (stA 14)) (.ref 184) (.none) (.none) (.str (Str.ofString "cpy313.wsgiref.headers") 539) none (.ref 190) (.none)), (List.toArray [])⟩) ::
  (nat_lit 199, ⟨.type "tuple", none, .seq (List.toArray [.none]) 0, (List.toArray [])⟩) ::
  (nat_lit 200, ⟨.type "tuple", none, .seq (List.toArray []) 0, (List.toArray [])⟩) ::
  (nat_lit 202, ⟨.type "tuple", none, .seq (List.toArray [.str (Str.ofString "self") 660, .str (Str.ofString "headers") 661, .str (Str.ofString "k") 662, .str (Str.ofString "v") 663]) 0, (List.toArray [])⟩) ::
  (nat_lit 203, ⟨.type "tuple", none, .seq (List.toArray []) 0, (List.toArray [])⟩) ::
  (nat_lit 205, ⟨.type "code", none, .fields (List.toArray [.str (Str.ofString "__init__") 657, .str (Str.ofString "Headers.__init__") 658, .str (Str.ofString "/claim/cut.py") 659, .int 239 0, .int 2 0, .int 0 0, .int 0 0, .int 3 0, .ref 200, .bool true, .int 276 0, .ref 201, .none, .ref 202, .ref 203, .ref 204, .int 664 0, .int 239 0, .str (Str.ofString "/claim/cut.py") 665]), (List.toArray [])⟩) ::
  (nat_lit 206, ⟨.type "function", none, .func (fnOf (Str.ofString "__init__") (Str.ofString "Headers.__init__") (fPar (sub (stA 15) 0)) (fBody (sub (stA 15) 0)) (fScope (sub (stA 15) 0)) (.ref 199) (.none) (.none) (.str (Str.ofString "cpy313.wsgiref.headers") 539) none (.ref 205) (.none)), (List.toArray [])⟩) ::
  (nat_lit 207, ⟨.type "tuple", none, .seq (List.toArray []) 0, (List.toArray [])⟩) ::
  (nat_lit 209, ⟨.type "tuple", none, .seq (List.toArray [.str (Str.ofString "self") 670, .str (Str.ofString "value") 671, .str (Str.ofString "name") 672, .str (Str.ofString "regex") 673]) 0, (List.toArray [])⟩) ::
  (nat_lit 210, ⟨.type "tuple", none, .seq (List.toArray []) 0, (List.toArray [])⟩) ::
  (nat_lit 212, ⟨.type "code", none, .fields (List.toArray [.str (Str.ofString "_convert_string_type") 667, .str (Str.ofString "Headers._convert_string_type") 668, .str (Str.ofString "/claim/cut.py") 669, .int 249 0, .int 2 0, .int 0 0, .int 1 0, .int 3 0, .ref 207, .bool true, .int 276 0, .ref 208, .none, .ref 209, .ref 210, .ref 211, .int 674 0, .int 249 0, .str (Str.ofString "/claim/cut.py") 675]), (List.toArray [])⟩) ::
  (nat_lit 213, ⟨.type "function", none, .func (fnOf (Str.ofString "_convert_string_type") (Str.ofString "Headers._convert_string_type") (fPar (sub (stA 15) 1)) (fBody (sub (stA 15) 1)) (fScope (sub (stA 15) 1)) (.none) (.none) (.none) (.str (Str.ofString "cpy313.wsgiref.headers") 539) none (.ref 212) (.none)), (List.toArray [])⟩) ::
  (nat_lit 214, ⟨.type "tuple", none, .seq (List.toArray []) 0, (List.toArray [])⟩) ::
  (nat_lit 216, ⟨.type "tuple", none, .seq (List.toArray [.str (Str.ofString "self") 680]) 0, (List.toArray [])⟩) ::
  (nat_lit 217, ⟨.type "tuple", none, .seq (List.toArray []) 0, (List.toArray [])⟩) ::
  (nat_lit 219, ⟨.type "code", none, .fields (List.toArray [.str (Str.ofString "__len__") 677, .str (Str.ofString "Headers.__len__") 678, .str (Str.ofString "/claim/cut.py") 679, .int 257 0, .int 1 0, .int 0 0, .int 0 0, .int 3 0, .ref 214, .bool true, .int 276 0, .ref 215, .none, .ref 216, .ref 217, .ref 218, .int 681 0, .int 257 0, .str (Str.ofString "/claim/cut.py") 682]), (List.toArray [])⟩) ::
  (nat_lit 220, ⟨.type "function", none, .func (fnOf (Str.ofString "__len__") (Str.ofString "Headers.__len__") (fPar (sub (stA 15) 2)) (fBody (sub (stA 15) 2)) (fScope (sub (stA 15) 2)) (.none) (.none) (.none) (.str (Str.ofString "cpy313.wsgiref.headers") 539) none (.ref 219) (.none)), (List.toArray [])⟩) ::
  (nat_lit 221, ⟨.type "tuple", none, .seq (List.toArray []) 0, (List.toArray [])⟩) ::
  (nat_lit 223, ⟨.type "tuple", none, .seq (List.toArray [.str (Str.ofString "self") 687, .str (Str.ofString "name") 688, .str (Str.ofString "val") 689]) 0, (List.toArray [])⟩) ::
  (nat_lit 224, ⟨.type "tuple", none, .seq (List.toArray []) 0, (List.toArray [])⟩) ::
  (nat_lit 226, ⟨.type "code", none, .fields (List.toArray [.str (Str.ofString "__setitem__") 684, .str (Str.ofString "Headers.__setitem__") 685, .str (Str.ofString "/claim/cut.py") 686, .int 260 0, .int 3 0, .int 0 0, .int 0 0, .int 3 0, .ref 221, .bool true, .int 276 0, .ref 222, .none, .ref 223, .ref 224, .ref 225, .int 690 0, .int 260 0, .str (Str.ofString "/claim/cut.py") 691]), (List.toArray [])⟩) ::
  (nat_lit 227, ⟨.type "function", none, .func (fnOf (Str.ofString "__setitem__") (Str.ofString "Headers.__setitem__") (fPar (sub (stA 15) 3)) (fBody (sub (stA 15) 3)) (fScope (sub (stA 15) 3)) (.none) (.none) (.none) (.str (Str.ofString "cpy313.wsgiref.headers") 539) none (.ref 226) (.none)), (List.toArray [])⟩) ::
  (nat_lit 228, ⟨.type "tuple", none, .seq (List.toArray []) 0, (List.toArray [])⟩) ::
  (nat_lit 231, ⟨.type "code", none, .fields (List.toArray [.str (Str.ofString "__delitem__") 693, .str (Str.ofString "Headers.__delitem__") 694, .str (Str.ofString "/claim/cut.py") 695, .int 264 0, .int 2 0, .int 0 0, .int 0 0, .int 3 0, .ref 228, .bool true, .int 276 0, .ref 229, .none, .none, .none, .ref 230, .int 696 0, .int 264 0, .str (Str.ofString "/claim/cut.py") 697]), (List.toArray [])⟩) ::
  (nat_lit 232, ⟨.type "function", none, .func (fnOf (Str.ofString "__delitem__") (Str.ofString "Headers.__delitem__") (fPar (sub (stA 15) 4)) (fBody (sub (stA 15) 4)) (fScope (sub (stA 15) 4)) (.none) (.none) (.none) (.str (Str.ofString "cpy313.wsgiref.headers") 539) none (.ref 231) (.none)), (List.toArray [])⟩) ::
  (nat_lit 233, ⟨.type "tuple", none, .seq (List.toArray []) 0, (List.toArray [])⟩) ::
  (nat_lit 235, ⟨.type "tuple", none, .seq (List.toArray [.str (Str.ofString "self") 702, .str (Str.ofString "name") 703]) 0, (List.toArray [])⟩) ::
  (nat_lit 236, ⟨.type "tuple", none, .seq (List.toArray []) 0, (List.toArray [])⟩) ::
  (nat_lit 238, ⟨.type "code", none, .fields (List.toArray [.str (Str.ofString "__getitem__") 699, .str (Str.ofString "Headers.__getitem__") 700, .str (Str.ofString "/claim/cut.py") 701, .int 268 0, .int 2 0, .int 0 0, .int 0 0, .int 3 0, .ref 233, .bool true, .int 276 0, .ref 234, .none, .ref 235, .ref 236, .ref 237, .int 704 0, .int 268 0, .str (Str.ofString "/claim/cut.py") 705]), (List.toArray [])⟩) ::
  (nat_lit 239, ⟨.type "function", none, .func (fnOf (Str.ofString "__getitem__") (Str.ofString "Headers.__getitem__") (fPar (sub (stA 15) 5)) (fBody (sub (stA 15) 5)) (fScope (sub (stA 15) 5)) (.none) (.none) (.none) (.str (Str.ofString "cpy313.wsgiref.headers") 539) none (.ref 238) (.none)), (List.toArray [])⟩) ::
  (nat_lit 240, ⟨.type "tuple", none, .seq (List.toArray []) 0, (List.toArray [])⟩) ::
  (nat_lit 242, ⟨.type "tuple", none, .seq (List.toArray [.str (Str.ofString "self") 710, .str (Str.ofString "name") 711]) 0, (List.toArray [])⟩) ::
  (nat_lit 243, ⟨.type "tuple", none, .seq (List.toArray []) 0, (List.toArray [])⟩) ::
  (nat_lit 245, ⟨.type "code", none, .fields (List.toArray [.str (Str.ofString "__contains__") 707, .str (Str.ofString "Headers.__contains__") 708, .str (Str.ofString "/claim/cut.py") 709, .int 271 0, .int 2 0, .int 0 0, .int 0 0, .int 3 0, .ref 240, .bool true, .int 276 0, .ref 241, .none, .ref 242, .ref 243, .ref 244, .int 712 0, .int 271 0, .str (Str.ofString "/claim/cut.py") 713]), (List.toArray [])⟩) ::
  (nat_lit 246, ⟨.type "function", none, .func (fnOf (Str.ofString "__contains__") (Str.ofString "Headers.__contains__") (fPar (sub (stA 15) 6)) (fBody (sub (stA 15) 6)) (fScope (sub (stA 15) 6)) (.none) (.none) (.none) (.str (Str.ofString "cpy313.wsgiref.headers") 539) none (.ref 245) (.none)), (List.toArray [])⟩) ::
  (nat_lit 247, ⟨.type "tuple", none, .seq (List.toArray []) 0, (List.toArray [])⟩) ::
  (nat_lit 250, ⟨.type "code", none, .fields (List.toArray [.str (Str.ofString "get_all") 715, .str (Str.ofString "Headers.get_all") 716, .str (Str.ofString "/claim/cut.py") 717, .int 274 0, .int 2 0, .int 0 0, .int 0 0, .int 3 0, .ref 247, .bool true, .int 276 0, .ref 248, .none, .none, .none, .ref 249, .int 718 0, .int 274 0, .str (Str.ofString "/claim/cut.py") 719]), (List.toArray [])⟩) ::
  (nat_lit 251, ⟨.type "function", none, .func (fnOf (Str.ofString "get_all") (Str.ofString "Headers.get_all") (fPar (sub (stA 15) 7)) (fBody (sub (stA 15) 7)) (fScope (sub (stA 15) 7)) (.none) (.none) (.none) (.str (Str.ofString "cpy313.wsgiref.headers") 539) none (.ref 250) (.none)), (List.toArray [])⟩) ::
  (nat_lit 252, ⟨.type "tuple", none, .seq (List.toArray [.none]) 0, (List.toArray [])⟩) ::
  (nat_lit 253, ⟨.type "tuple", none, .seq (List.toArray []) 0, (List.toArray [])⟩) ::
  (nat_lit 255, ⟨.type "tuple", none, .seq (List.toArray [.str (Str.ofString "self") 724, .str (Str.ofString "name") 725, .str (Str.ofString "default") 726, .str (Str.ofString "k") 727, .str (Str.ofString "v") 728]) 0, (List.toArray [])⟩) ::
  (nat_lit 256, ⟨.type "tuple", none, .seq (List.toArray []) 0, (List.toArray [])⟩) ::
  (nat_lit 258, ⟨.type "code", none, .fields (List.toArray [.str (Str.ofString "get") 721, .str (Str.ofString "Headers.get") 722, .str (Str.ofString "/claim/cut.py") 723, .int 278 0, .int 3 0, .int 0 0, .int 0 0, .int 3 0, .ref 253, .bool true, .int 276 0, .ref 254, .none, .ref 255, .ref 256, .ref 257, .int 729 0, .int 278 0, .str (Str.ofString "/claim/cut.py") 730]), (List.toArray [])⟩) ::
  (nat_lit 259, ⟨.type "function", none, .func (fnOf (Str.ofString "get") (Str.ofString "Headers.get") (fPar (sub (stA 15) 8)) (fBody (sub (stA 15) 8)) (fScope (sub (stA 15) 8)) (.ref 252) (.none) (.none) (.str (Str.ofString "cpy313.wsgiref.headers") 539) none (.ref 258) (.none)), (List.toArray [])⟩) ::
  (nat_lit 260, ⟨.type "tuple", none, .seq (List.toArray []) 0, (List.toArray [])⟩) ::
  (nat_lit 263, ⟨.type "code", none, .fields (List.toArray [.str (Str.ofString "keys") 732, .str (Str.ofString "Headers.keys") 733, .str (Str.ofString "/claim/cut.py") 734, .int 285 0, .int 1 0, .int 0 0, .int 0 0, .int 3 0, .ref 260, .bool true, .int 276 0, .ref 261, .none, .none, .none, .ref 262, .int 735 0, .int 285 0, .str (Str.ofString "/claim/cut.py") 736]), (List.toArray [])⟩) ::
  (nat_lit 264, ⟨.type "function", none, .func (fnOf (Str.ofString "keys") (Str.ofString "Headers.keys") (fPar (sub (stA 15) 9)) (fBody (sub (stA 15) 9)) (fScope (sub (stA 15) 9)) (.none) (.none) (.none) (.str (Str.ofString "cpy313.wsgiref.headers") 539) none (.ref 263) (.none)), (List.toArray [])⟩) ::
  (nat_lit 265, ⟨.type "tuple", none, .seq (List.toArray []) 0, (List.toArray [])⟩) ::
  (nat_lit 268, ⟨.type "code", none, .fields (List.toArray [.str (Str.ofString "values") 738, .str (Str.ofString "Headers.values") 739, .str (Str.ofString "/claim/cut.py") 740, .int 288 0, .int 1 0, .int 0 0, .int 0 0, .int 3 0, .ref 265, .bool true, .int 276 0, .ref 266, .none, .none, .none, .ref 267, .int 741 0, .int 288 0, .str (Str.ofString "/claim/cut.py") 742]), (List.toArray [])⟩) ::
  (nat_lit 269, ⟨.type "function", none, .func (fnOf (Str.ofString "values") (Str.ofString "Headers.values") (fPar (sub (stA 15) 10)) (fBody (sub (stA 15) 10)) (fScope (sub (stA 15) 10)) (.none) (.none) (.none) (.str (Str.ofString "cpy313.wsgiref.headers") 539) none (.ref 268) (.none)), (List.toArray [])⟩) ::
  (nat_lit 270, ⟨.type "tuple", none, .seq (List.toArray []) 0, (List.toArray [])⟩) ::
  (nat_lit 272, ⟨.type "tuple", none, .seq (List.toArray [.str (Str.ofString "self") 747]) 0, (List.toArray [])⟩) ::
  (nat_lit 273, ⟨.type "tuple", none, .seq (List.toArray []) 0, (List.toArray [])⟩) ::
  (nat_lit 275, ⟨.type "code", none, .fields (List.toArray [.str (Str.ofString "items") 744, .str (Str.ofString "Headers.items") 745, .str (Str.ofString "/claim/cut.py") 746, .int 291 0, .int 1 0, .int 0 0, .int 0 0, .int 3 0, .ref 270, .bool true, .int 276 0, .ref 271, .none, .ref 272, .ref 273, .ref 274, .int 748 0, .int 291 0, .str (Str.ofString "/claim/cut.py") 749]), (List.toArray [])⟩) ::
  (nat_lit 276, ⟨.type "function", none, .func (fnOf (Str.ofString "items") (Str.ofString "Headers.items") (fPar (sub (stA 15) 11)) (fBody (sub (stA 15) 11)) (fScope (sub (stA 15) 11)) (.none) (.none) (.none) (.str (Str.ofString "cpy313.wsgiref.headers") 539) none (.ref 275) (.none)), (List.toArray [])⟩) ::
  (nat_lit 277, ⟨.type "tuple", none, .seq (List.toArray []) 0, (List.toArray [])⟩) ::
  (nat_lit 279, ⟨.type "tuple", none, .seq (List.toArray [.str (Str.ofString "self") 754]) 0, (List.toArray [])⟩) ::
  (nat_lit 280, ⟨.type "tuple", none, .seq (List.toArray []) 0, (List.toArray [])⟩) ::
  (nat_lit 282, ⟨.type "code", none, .fields (List.toArray [.str (Str.ofString "__repr__") 751, .str (Str.ofString "Headers.__repr__") 752, .str (Str.ofString "/claim/cut.py") 753, .int 294 0, .int 1 0, .int 0 0, .int 0 0, .int 3 0, .ref 277, .bool true, .int 276 0, .ref 278, .none, .ref 279, .ref 280, .ref 281, .int 755 0, .int 294 0, .str (Str.ofString "/claim/cut.py") 756]), (List.toArray [])⟩) ::
  (nat_lit 283, ⟨.type "function", none, .func (fnOf (Str.ofString "__repr__") (Str.ofString "Headers.__repr__") (fPar (sub (stA 15) 12)) (fBody (sub (stA 15) 12)) (fScope (sub (stA 15) 12)) (.none) (.none) (.none) (.str (Str.ofString "cpy313.wsgiref.headers") 539) none (.ref 282) (.none)), (List.toArray [])⟩) ::
  (nat_lit 284, ⟨.type "tuple", none, .seq (List.toArray []) 0, (List.toArray [])⟩) ::
  (nat_lit 287, ⟨.type "code", none, .fields (List.toArray [.str (Str.ofString "__str__") 758, .str (Str.ofString "Headers.__str__") 759, .str (Str.ofString "/claim/cut.py") 760, .int 297 0, .int 1 0, .int 0 0, .int 0 0, .int 3 0, .ref 284, .bool true, .int 276 0, .ref 285, .none, .none, .none, .ref 286, .int 761 0, .int 297 0, .str (Str.ofString "/claim/cut.py") 762]), (List.toArray [])⟩) ::
  (nat_lit 288, ⟨.type "function", none, .func (fnOf (Str.ofString "__str__") (Str.ofString "Headers.__str__") (fPar (sub (stA 15) 13)) (fBody (sub (stA 15) 13)) (fScope (sub (stA 15) 13)) (.none) (.none) (.none) (.str (Str.ofString "cpy313.wsgiref.headers") 539) none (.ref 287) (.none)), (List.toArray [])⟩) ::
  (nat_lit 289, ⟨.type "tuple", none, .seq (List.toArray []) 0, (List.toArray [])⟩) ::
  (nat_lit 291, ⟨.type "tuple", none, .seq (List.toArray [.str (Str.ofString "self") 767]) 0, (List.toArray [])⟩) ::
  (nat_lit 292, ⟨.type "tuple", none, .seq (List.toArray []) 0, (List.toArray [])⟩) ::
  (nat_lit 294, ⟨.type "code", none, .fields (List.toArray [.str (Str.ofString "__bytes__") 764, .str (Str.ofString "Headers.__bytes__") 765, .str (Str.ofString "/claim/cut.py") 766, .int 300 0, .int 1 0, .int 0 0, .int 0 0, .int 3 0, .ref 289, .bool true, .int 276 0, .ref 290, .none, .ref 291, .ref 292, .ref 293, .int 768 0, .int 300 0, .str (Str.ofString "/claim/cut.py") 769]), (List.toArray [])⟩) ::
  (nat_lit 295, ⟨.type "function", none, .func (fnOf (Str.ofString "__bytes__") (Str.ofString "Headers.__bytes__") (fPar (sub (stA 15) 14)) (fBody (sub (stA 15) 14)) (fScope (sub (stA 15) 14)) (.none) (.none) (.none) (.str (Str.ofString "cpy313.wsgiref.headers") 539) none (.ref 294) (.none)), (List.toArray [])⟩) ::
  (nat_lit 296, ⟨.type "tuple", none, .seq (List.toArray []) 0, (List.toArray [])⟩) ::
  (nat_lit 298, ⟨.type "tuple", none, .seq (List.toArray [.str (Str.ofString "self") 774, .str (Str.ofString "name") 775, .str (Str.ofString "value") 776]) 0, (List.toArray [])⟩) ::
  (nat_lit 299, ⟨.type "tuple", none, .seq (List.toArray []) 0, (List.toArray [])⟩) ::
  (nat_lit 301, ⟨.type "code", none, .fields (List.toArray [.str (Str.ofString "setdefault") 771, .str (Str.ofString "Headers.setdefault") 772, .str (Str.ofString "/claim/cut.py") 773, .int 303 0, .int 3 0, .int 0 0, .int 0 0, .int 3 0, .ref 296, .bool true, .int 276 0, .ref 297, .none, .ref 298, .ref 299, .ref 300, .int 777 0, .int 303 0, .str (Str.ofString "/claim/cut.py") 778]), (List.toArray [])⟩) ::
  (nat_lit 302, ⟨.type "function", none, .func (fnOf (Str.ofString "setdefault") (Str.ofString "Headers.setdefault") (fPar (sub (stA 15) 15)) (fBody (sub (stA 15) 15)) (fScope (sub (stA 15) 15)) (.none) (.none) (.none) (.str (Str.ofString "cpy313.wsgiref.headers") 539) none (.ref 301) (.none)), (List.toArray [])⟩) ::
  (nat_lit 303, ⟨.type "tuple", none, .seq (List.toArray []) 0, (List.toArray [])⟩) ::
  (nat_lit 305, ⟨.type "tuple", none, .seq (List.toArray [.str (Str.ofString "self") 783, .str (Str.ofString "_name") 784, .str (Str.ofString "_value") 785, .str (Str.ofString "_params") 786, .str (Str.ofString "parts") 787, .str (Str.ofString "k") 788, .str (Str.ofString "v") 789]) 0, (List.toArray [])⟩) ::
  (nat_lit 306, ⟨.type "tuple", none, .seq (List.toArray []) 0, (List.toArray [])⟩) ::
  (nat_lit 308, ⟨.type "code", none, .fields (List.toArray [.str (Str.ofString "add_header") 780, .str (Str.ofString "Headers.add_header") 781, .str (Str.ofString "/claim/cut.py") 782, .int 306 0, .int 3 0, .int 0 0, .int 0 0, .int 11 0, .ref 303, .bool true, .int 276 0, .ref 304, .none, .ref 305, .ref 306, .ref 307, .int 790 0, .int 306 0, .str (Str.ofString "/claim/cut.py") 791]), (List.toArray [])⟩) ::
  (nat_lit 309, ⟨.type "function", none, .func (fnOf (Str.ofString "add_header") (Str.ofString "Headers.add_header") (fPar (sub (stA 15) 16)) (fBody (sub (stA 15) 16)) (fScope (sub (stA 15) 16)) (.none) (.none) (.none) (.str (Str.ofString "cpy313.wsgiref.headers") 539) none (.ref 308) (.none)), (List.toArray [])⟩) ::
  (nat_lit 310, ⟨.type "tuple", none, .seq (List.toArray [.str (Str.ofString "_headers") 793]) 0, (List.toArray [])⟩) ::
  (nat_lit 311, ⟨.type "dict", none, .dict (List.toArray [⟨PyData.keyHash P (Str.ofString "__module__"), .str (Str.ofString "__module__") 652, .str (Str.ofString "cpy313.wsgiref.headers") 539⟩, ⟨PyData.keyHash P (Str.ofString "__firstlineno__"), .str (Str.ofString "__firstlineno__") 656, .int 237 655⟩, ⟨PyData.keyHash P (Str.ofString "__init__"), .str (Str.ofString "__init__") 666, .ref 206⟩, ⟨PyData.keyHash P (Str.ofString "_convert_string_type"), .str (Str.ofString "_convert_string_type") 676, .ref 213⟩, ⟨PyData.keyHash P (Str.ofString "__len__"), .str (Str.ofString "__len__") 683, .ref 220⟩, ⟨PyData.keyHash P (Str.ofString "__setitem__"), .str (Str.ofString "__setitem__") 692, .ref 227⟩, ⟨PyData.keyHash P (Str.ofString "__delitem__"), .str (Str.ofString "__delitem__") 698, .ref 232⟩, ⟨PyData.keyHash P (Str.ofString "__getitem__"), .str (Str.ofString "__getitem__") 706, .ref 239⟩, ⟨PyData.keyHash P (Str.ofString "__contains__"), .str (Str.ofString "__contains__") 714, .ref 246⟩, ⟨PyData.keyHash P (Str.ofString "get_all"), .str (Str.ofString "get_all") 720, .ref 251⟩, ⟨PyData.keyHash P (Str.ofString "get"), .str (Str.ofString "get") 731, .ref 259⟩, ⟨PyData.keyHash P (Str.ofString "keys"), .str (Str.ofString "keys") 737, .ref 264⟩, ⟨PyData.keyHash P (Str.ofString "values"), .str (Str.ofString "values") 743, .ref 269⟩, ⟨PyData.keyHash P (Str.ofString "items"), .str (Str.ofString "items") 750, .ref 276⟩, ⟨PyData.keyHash P (Str.ofString "__repr__"), .str (Str.ofString "__repr__") 757, .ref 283⟩, ⟨PyData.keyHash P (Str.ofString "__str__"), .str (Str.ofString "__str__") 763, .ref 288⟩, ⟨PyData.keyHash P (Str.ofString "__bytes__"), .str (Str.ofString "__bytes__") 770, .ref 295⟩, ⟨PyData.keyHash P (Str.ofString "setdefault"), .str (Str.ofString "setdefault") 779, .ref 302⟩, ⟨PyData.keyHash P (Str.ofString "add_header"), .str (Str.ofString "add_header") 792, .ref 309⟩, ⟨PyData.keyHash P (Str.ofString "__static_attributes__"), .str (Str.ofString "__static_attributes__") 794, .ref 310⟩, ⟨PyData.keyHash P (Str.ofString "__dict__"), .str (Str.ofString "__dict__") 796, .ref 313⟩, ⟨PyData.keyHash P (Str.ofString "__weakref__"), .str (Str.ofString "__weakref__") 798, .ref 314⟩, ⟨PyData.keyHash P (Str.ofString "__doc__"), .str (Str.ofString "__doc__") 799, .none⟩]) 4, (List.toArray [])⟩) ::
  (nat_lit 312, ⟨.type "type", none, .cls { name := (Str.ofString "Headers"), bases := [.type "object"], mro := [.ref 312, .type "object"], ns := 311, qualname := (Str.ofString "Headers"), hasDict := true, slotNames := [], subclasses := [], abstract := false, collection := none, hasDel := false }, (List.toArray [none, none, (some (.str (Str.ofString "Headers") 645)), (some (.str (Str.ofString "Headers") 653)), (some (.builtin "object.__new__")), (some (.bool true))])⟩) ::
  (nat_lit 313, ⟨.type "getset_descriptor", none, .fields (List.toArray [.str (Str.ofString "__dict__") 795, .ref 312, .builtin "function.__dict__", .builtin "function.__dict__#set"]), (List.toArray [])⟩) ::
  (nat_lit 314, ⟨.type "getset_descriptor", none, .fields (List.toArray [.str (Str.ofString "__weakref__") 797, .ref 312, .builtin "ExceptionGroup.__weakref__", .none]), (List.toArray [])⟩) ::
  (nat_lit 317, ⟨.type "tuple", none, .seq (List.toArray []) 0, (List.toArray [])⟩) ::
  (nat_lit 320, ⟨.type "code", none, .fields (List.toArray [.str (Str.ofString "_law_spell") 804, .str (Str.ofString "_law_spell") 805, .str (Str.ofString "/claim/cut.py") 806, .int 320 0, .int 2 0, .int 0 0, .int 0 0, .int 3 0, .ref 317, .bool true, .int 276 0, .ref 318, .none, .none, .none, .ref 319, .int 807 0, .int 320 0, .str (Str.ofString "/claim/cut.py") 808]), (List.toArray [])⟩) ::
  (nat_lit 321, ⟨.type "function", none, .func (fnOf (Str.ofString "_law_spell") (Str.ofString "_law_spell") (fPar (stA 17)) (fBody (stA 17)) (fScope (stA 17)) (.none) (.none) (.none) (.str (Str.ofString "law_pe0292_01") 802) none (.ref 320) (.none)), (List.toArray [])⟩) ::
  (nat_lit 322, ⟨.type "tuple", none, .seq (List.toArray []) 0, (List.toArray [])⟩) ::
  (nat_lit 324, ⟨.type "tuple", none, .seq (List.toArray [.str (Str.ofString "state") 813, .str (Str.ofString "text") 814]) 0, (List.toArray [])⟩) ::
  (nat_lit 325, ⟨.type "tuple", none, .seq (List.toArray []) 0, (List.toArray [])⟩) ::
  (nat_lit 327, ⟨.type "code", none, .fields (List.toArray [.str (Str.ofString "_law_lay") 810, .str (Str.ofString "_law_lay") 811, .str (Str.ofString "/claim/cut.py") 812, .int 325 0, .int 2 0, .int 0 0, .int 0 0, .int 3 0, .ref 322, .bool true, .int 276 0, .ref 323, .none, .ref 324, .ref 325, .ref 326, .int 815 0, .int 325 0, .str (Str.ofString "/claim/cut.py") 816]), (List.toArray [])⟩) ::
  (nat_lit 328, ⟨.type "function", none, .func (fnOf (Str.ofString "_law_lay") (Str.ofString "_law_lay") (fPar (stA 18)) (fBody (stA 18)) (fScope (stA 18)) (.none) (.none) (.none) (.str (Str.ofString "law_pe0292_01") 802) none (.ref 327) (.none)), (List.toArray [])⟩) ::
  (nat_lit 329, ⟨.type "tuple", none, .seq (List.toArray []) 0, (List.toArray [])⟩) ::
  (nat_lit 331, ⟨.type "tuple", none, .seq (List.toArray [.str (Str.ofString "state") 821, .str (Str.ofString "what") 822, .str (Str.ofString "text") 823, .str (Str.ofString "piece") 824, .str (Str.ofString "held") 825]) 0, (List.toArray [])⟩) ::
  (nat_lit 332, ⟨.type "tuple", none, .seq (List.toArray []) 0, (List.toArray [])⟩) ::
  (nat_lit 334, ⟨.type "code", none, .fields (List.toArray [.str (Str.ofString "_law_step") 818, .str (Str.ofString "_law_step") 819, .str (Str.ofString "/claim/cut.py") 820, .int 330 0, .int 3 0, .int 0 0, .int 0 0, .int 3 0, .ref 329, .bool true, .int 276 0, .ref 330, .none, .ref 331, .ref 332, .ref 333, .int 826 0, .int 330 0, .str (Str.ofString "/claim/cut.py") 827]), (List.toArray [])⟩) ::
  (nat_lit 335, ⟨.type "function", none, .func (fnOf (Str.ofString "_law_step") (Str.ofString "_law_step") (fPar (stA 19)) (fBody (stA 19)) (fScope (stA 19)) (.none) (.none) (.none) (.str (Str.ofString "law_pe0292_01") 802) none (.ref 334) (.none)), (List.toArray [])⟩) ::
  (nat_lit 336, ⟨.type "tuple", none, .seq (List.toArray []) 0, (List.toArray [])⟩) ::
  (nat_lit 338, ⟨.type "tuple", none, .seq (List.toArray [.str (Str.ofString "target") 832, .str (Str.ofString "what") 833, .str (Str.ofString "text") 834, .str (Str.ofString "problem") 835]) 0, (List.toArray [])⟩) ::
  (nat_lit 339, ⟨.type "tuple", none, .seq (List.toArray []) 0, (List.toArray [])⟩) ::
  (nat_lit 341, ⟨.type "code", none, .fields (List.toArray [.str (Str.ofString "_law_call") 829, .str (Str.ofString "_law_call") 830, .str (Str.ofString "/claim/cut.py") 831, .int 358 0, .int 3 0, .int 0 0, .int 0 0, .int 3 0, .ref 336, .bool true, .int 276 0, .ref 337, .none, .ref 338, .ref 339, .ref 340, .int 836 0, .int 358 0, .str (Str.ofString "/claim/cut.py") 837]), (List.toArray [])⟩) ::
  (nat_lit 342, ⟨.type "function", none, .func (fnOf (Str.ofString "_law_call") (Str.ofString "_law_call") (fPar (stA 20)) (fBody (stA 20)) (fScope (stA 20)) (.none) (.none) (.none) (.str (Str.ofString "law_pe0292_01") 802) none (.ref 341) (.none)), (List.toArray [])⟩) ::
  (nat_lit 343, ⟨.type "tuple", none, .seq (List.toArray []) 0, (List.toArray [])⟩) ::
  (nat_lit 346, ⟨.type "code", none, .fields (List.toArray [.str (Str.ofString "_law_same") 839, .str (Str.ofString "_law_same") 840, .str (Str.ofString "/claim/cut.py") 841, .int 373 0, .int 7 0, .int 0 0, .int 0 0, .int 3 0, .ref 343, .bool true, .int 276 0, .ref 344, .none, .none, .none, .ref 345, .int 842 0, .int 373 0, .str (Str.ofString "/claim/cut.py") 843]), (List.toArray [])⟩) ::
  (nat_lit 347, ⟨.type "function", none, .func (fnOf (Str.ofString "_law_same") (Str.ofString "_law_same") (fPar (stA 21)) (fBody (stA 21)) (fScope (stA 21)) (.none) (.none) (.none) (.str (Str.ofString "law_pe0292_01") 802) none (.ref 346) (.none)), (List.toArray [])⟩) ::
  (nat_lit 348, ⟨.type "tuple", none, .seq (List.toArray []) 0, (List.toArray [])⟩) ::
  (nat_lit 351, ⟨.type "code", none, .fields (List.toArray [.str (Str.ofString "_law_run") 845, .str (Str.ofString "_law_run") 846, .str (Str.ofString "/claim/cut.py") 847, .int 385 0, .int 1 0, .int 0 0, .int 0 0, .int 3 0, .ref 348, .bool true, .int 276 0, .ref 349, .none, .none, .none, .ref 350, .int 848 0, .int 385 0, .str (Str.ofString "/claim/cut.py") 849]), (List.toArray [])⟩) ::
  (nat_lit 352, ⟨.type "function", none, .func (fnOf (Str.ofString "_law_run") (Str.ofString "_law_run") (fPar (stA 22)) (fBody (stA 22)) (fScope (stA 22)) (.none) (.none) (.none) (.str (Str.ofString "law_pe0292_01") 802) none (.ref 351) (.none)), (List.toArray [])⟩) ::
  (nat_lit 353, ⟨.type "tuple", none, .seq (List.toArray []) 0, (List.toArray [])⟩) ::
  (nat_lit 355, ⟨.type "tuple", none, .seq (List.toArray [.str (Str.ofString "script") 854, .str (Str.ofString "texts") 855, .str (Str.ofString "values") 856, .str (Str.ofString "calls") 857, .str (Str.ofString "x") 858, .str (Str.ofString "kind") 859, .str (Str.ofString "pick") 860, .str (Str.ofString "what") 861]) 0, (List.toArray [])⟩) ::
  (nat_lit 356, ⟨.type "tuple", none, .seq (List.toArray []) 0, (List.toArray [])⟩) ::
  (nat_lit 358, ⟨.type "code", none, .fields (List.toArray [.str (Str.ofString "law") 851, .str (Str.ofString "law") 852, .str (Str.ofString "/claim/cut.py") 853, .int 408 0, .int 1 0, .int 0 0, .int 0 0, .int 3 0, .ref 353, .bool true, .int 276 0, .ref 354, .none, .ref 355, .ref 356, .ref 357, .int 862 0, .int 408 0, .str (Str.ofString "/claim/cut.py") 863]), (List.toArray [])⟩) ::
  (nat_lit 359, ⟨.type "function", none, .func (fnOf (Str.ofString "law") (Str.ofString "law") (fPar (stA 23)) (fBody (stA 23)) (fScope (stA 23)) (.none) (.none) (.none) (.str (Str.ofString "law_pe0292_01") 802) none (.ref 358) (.none)), (List.toArray [])⟩) :: []
noncomputable abbrev Ks : List Addr := [(nat_lit 2), (nat_lit 3), (nat_lit 32), (nat_lit 34), (nat_lit 35), (nat_lit 37), (nat_lit 38), (nat_lit 42), (nat_lit 43), (nat_lit 44), (nat_lit 45), (nat_lit 47), (nat_lit 48), (nat_lit 50), (nat_lit 51), (nat_lit 52), (nat_lit 60), (nat_lit 61), (nat_lit 63), (nat_lit 64), (nat_lit 66), (nat_lit 67), (nat_lit 68), (nat_lit 69), (nat_lit 71), (nat_lit 72), (nat_lit 74), (nat_lit 75), (nat_lit 76), (nat_lit 78), (nat_lit 79), (nat_lit 81), (nat_lit 82), (nat_lit 83), (nat_lit 84), (nat_lit 86), (nat_lit 87), (nat_lit 89), (nat_lit 90), (nat_lit 91), (nat_lit 93), (nat_lit 94), (nat_lit 96), (nat_lit 97), (nat_lit 98), (nat_lit 99), (nat_lit 100), (nat_lit 102), (nat_lit 103), (nat_lit 105), (nat_lit 106), (nat_lit 107), (nat_lit 109), (nat_lit 110), (nat_lit 112), (nat_lit 113), (nat_lit 114), (nat_lit 116), (nat_lit 117), (nat_lit 119), (nat_lit 120), (nat_lit 121), (nat_lit 122), (nat_lit 125), (nat_lit 126), (nat_lit 127), (nat_lit 129), (nat_lit 130), (nat_lit 132), (nat_lit 133), (nat_lit 134), (nat_lit 136), (nat_lit 137), (nat_lit 139), (nat_lit 140), (nat_lit 141), (nat_lit 143), (nat_lit 144), (nat_lit 146), (nat_lit 147), (nat_lit 148), (nat_lit 149), (nat_lit 150), (nat_lit 151), (nat_lit 152), (nat_lit 155), (nat_lit 157), (nat_lit 158), (nat_lit 160), (nat_lit 161), (nat_lit 162), (nat_lit 164), (nat_lit 165), (nat_lit 167), (nat_lit 168), (nat_lit 172), (nat_lit 173), (nat_lit 177), (nat_lit 178), (nat_lit 182), (nat_lit 183), (nat_lit 184), (nat_lit 185), (nat_lit 187), (nat_lit 188), (nat_lit 190), (nat_lit 191), (nat_lit 199), (nat_lit 200), (nat_lit 202), (nat_lit 203), (nat_lit 205), (nat_lit 206), (nat_lit 207), (nat_lit 209), (nat_lit 210), (nat_lit 212), (nat_lit 213), (nat_lit 214), (nat_lit 216), (nat_lit 217), (nat_lit 219), (nat_lit 220), (nat_lit 221), (nat_lit 223), (nat_lit 224), (nat_lit 226), (nat_lit 227), (nat_lit 228), (nat_lit 231), (nat_lit 232), (nat_lit 233), (nat_lit 235), (nat_lit 236), (nat_lit 238), (nat_lit 239), (nat_lit 240), (nat_lit 242), (nat_lit 243), (nat_lit 245), (nat_lit 246), (nat_lit 247), (nat_lit 250), (nat_lit 251), (nat_lit 252), (nat_lit 253), (nat_lit 255), (nat_lit 256), (nat_lit 258), (nat_lit 259), (nat_lit 260), (nat_lit 263), (nat_lit 264), (nat_lit 265), (nat_lit 268), (nat_lit 269), (nat_lit 270), (nat_lit 272), (nat_lit 273), (nat_lit 275), (nat_lit 276), (nat_lit 277), (nat_lit 279), (nat_lit 280), (nat_lit 282), (nat_lit 283), (nat_lit 284), (nat_lit 287), (nat_lit 288), (nat_lit 289), (nat_lit 291), (nat_lit 292), (nat_lit 294), (nat_lit 295), (nat_lit 296), (nat_lit 298), (nat_lit 299), (nat_lit 301), (nat_lit 302), (nat_lit 303), (nat_lit 305), (nat_lit 306), (nat_lit 308), (nat_lit 309), (nat_lit 310), (nat_lit 311), (nat_lit 312), (nat_lit 313), (nat_lit 314), (nat_lit 317), (nat_lit 320), (nat_lit 321), (nat_lit 322), (nat_lit 324), (nat_lit 325), (nat_lit 327), (nat_lit 328), (nat_lit 329), (nat_lit 331), (nat_lit 332), (nat_lit 334), (nat_lit 335), (nat_lit 336), (nat_lit 338), (nat_lit 339), (nat_lit 341), (nat_lit 342), (nat_lit 343), (nat_lit 346), (nat_lit 347), (nat_lit 348), (nat_lit 351), (nat_lit 352), (nat_lit 353), (nat_lit 355), (nat_lit 356), (nat_lit 358), (nat_lit 359)]
theorem K_keys : ∀ P, Ks = (K P).map (·.1) := fun P => by kernel_rfl!
noncomputable abbrev q : Program := view pw [0, 23]
noncomputable abbrev loose : List Str := [Str.ofString "_wall", Str.ofString "__name__", Str.ofString "_twin_re_1", Str.ofString "_namespace_map", Str.ofString "_raise_serialization_error", Str.ofString "_looks_like_prefix_name",
  Str.ofString "C14NWriterTarget", Str.ofString "_escape_cdata_c14n", Str.ofString "_escape_attrib_c14n", Str.ofString "tspecials", Str.ofString "_name_disallowed_re",
  Str.ofString "_value_disallowed_re", Str.ofString "_formatparam", Str.ofString "Headers", Str.ofString "_law_spell", Str.ofString "_law_lay", Str.ofString "_law_step", Str.ofString "_law_call", Str.ofString "_law_same", Str.ofString "_law_run"]
noncomputable abbrev hook : Hook := kmHook K Ks K_keys [123, 349]
noncomputable abbrev Xt : Shared → Bool := fun s => xlAt q [] s && recOk PySem.Challenge.rw_pe0292_01.row.records s
abbrev lawDef : DefRec := { name := Str.ofString "law", params := fPar (stA 23), body := fBody (stA 23), scope := fScope (stA 23), pos := fPos (stA 23) }
theorem said : PySem.Challenge.rw_pe0292_01.wellSaid = true :=
  (congrFun PySem.W.Fast.te9446332074065402090 PySem.Challenge.rw_pe0292_01).trans (by decide +kernel)
noncomputable def Left1 (w : World) : Prop := (openEnds treeTable pw w 4560).map (fun s => (openSeen q loose (importedModules pw.main.body) Xt true s, hook.obs s)) = some (openGood q loose, hook.val w)
theorem left_f : ∀ w : World, Left1 (w.withFollow "special-get-raises" false) := fun w => by
  unfold Left1 openEnds fencedOpening topFrom
  rw [Fast.te10274390034422433532, Fast.te14364793385576792824, Fast.te14082659384304107361, Fast.te1435165496053646825, Fast.te14289696077712309145, Fast.te4187177175401517315]
  kernel_rfl
theorem left_t : ∀ w : World, Left1 (w.withFollow "special-get-raises" true) := fun w => by
  unfold Left1 openEnds fencedOpening topFrom
  rw [Fast.te10274390034422433532, Fast.te14364793385576792824, Fast.te14082659384304107361, Fast.te1435165496053646825, Fast.te14289696077712309145, Fast.te4187177175401517315]
  kernel_rfl
theorem left : LeftO pw q loose Xt hook.obs hook.val 4560 := fun w => byRow2 (P := Left1) "special-get-raises" left_f left_t w
theorem d_of : defOf q PySem.Challenge.rw_pe0292_01.row.name = some (lawDef, []) := by kernel_rfl!
theorem p_of : PySem.Challenge.rw_pe0292_01.row.prog.theDef PySem.Challenge.rw_pe0292_01.row.name = some (lawDef.params, lawDef.body, lawDef.scope) := by kernel_rfl!
theorem kw_of : kwWritten? lawDef.params.kwonlyargs lawDef.params.kw_defaults = some [] := by kernel_rfl!
theorem ok_of : (chainsOk q && opensWell PySem.Challenge.rw_pe0292_01.row.prog && (frees PySem.Challenge.rw_pe0292_01.row.toRowW && PySem.Challenge.rw_pe0292_01.row.within.isEmpty)) = true := by decide +kernel
theorem promised_of : PySem.Challenge.rw_pe0292_01.row.toRowW.promised := by w_witness2
theorem hd2 (walk : WalkO q loose (XL q []) (kmHook K Ks K_keys [123, 349]).says PySem.Challenge.rw_pe0292_01.row.toRowW lawDef [] fun f vs => call f vs) : PySem.Challenge.rw_pe0292_01.Holds :=
  holds_law said fun k1 =>
    PySem.W.holds_open (q := q) (loose := loose) (Xt := Xt) (XP := XL q []) (Yf := hook.obs) (Ya := hook.val) (YP := hook.says) (N := 4560) left hook.of hook.keeps
      (fun s e => xl_of s (Bool.and_eq_true_iff.mp e).1) XL.keeps d_of p_of kw_of (fun s e => recFacts_of (Bool.and_eq_true_iff.mp e).2) rfl k1 ok_of ⟨rfl, rfl, rfl, rfl, rfl, by decide +kernel⟩ promised_of walk
end
section
noncomputable abbrev prg : Program := PySem.Challenge.rw_pe0292_01.row.prog
noncomputable abbrev LS : List Str := looseW q loose ++ (recsOf q).map (fun x => x.name) ++ (litsOf q).map (fun x => x.1) ++ (clssOf q (looseW q loose)).map (fun x => x.name)
noncomputable abbrev Ar (d u : Nat) (gd : Option (List Code)) (env : Env) (outer : List Env) : Around := { handled := none, depth := d, frames := some (env :: outer), guards := gd, units := u }
structure Cx (w : World) (A₀ : Around) (base h₀ : Heap) (outer : List Env) (env : Env) (L : Addr) (m : Str → Option Value) (mean : ExcName → Option Value) (mg mb : Str → Option Value) (s : Shared) (news : List (Addr × Obj)) (d u : Nat) : Prop where
  B : Below A₀ base outer h₀
  F : Fr h₀ L s.heap m
  X : (K w.params).In h₀
  N : News h₀ L s.heap news
  T : Top topProg LS mean mg mb h₀
  hf : env.frame = some L
  hke : env.scope.kind = .function
  hd : d ≤ 760
  hu : u ≤ 400
noncomputable abbrev Back (s : Shared) (h₀ : Heap) (L : Addr) (m : Str → Option Value) (news : List (Addr × Obj)) (v : Value) (R : Result → Shared → Prop) : Prop :=
  ∀ h' g' d' tk', (AllBare s.gens → AllBare g') → Fr h₀ L h' m → News h₀ L h' news → R (.ok (.ret v)) ⟨h', g', d', tk', s.os⟩
noncomputable abbrev msgS : Str := Str.ofString "Control characters not allowed in headers"
noncomputable abbrev Boom (s : Shared) (base h₀ : Heap) (outer : List Env) (env : Env) (L : Addr) (m : Str → Option Value) (news : List (Addr × Obj)) (R : Result → Shared → Prop) : Prop :=
  ∀ h' g' d' tk' e t tu gb, (AllBare s.gens → AllBare g') → RaisedK base (env :: outer) e (.type "ValueError") t [.str msgS tu] news h' → Fr h₀ L gb m → gb.UpToSlots h' → R (.error (.ref e)) ⟨h', g', d', tk', s.os⟩
theorem raised_sub {base : Heap} {l : List Env} {e t : Addr} {c : Value} {vs : List Value} {news news' : List (Addr × Obj)} {h : Heap} (R : RaisedK base l e c t vs news h) (hs : ∀ p ∈ news', p ∈ news) : RaisedK base l e c t vs news' h :=
  ⟨let ⟨B, a, b, r⟩ := R.1; ⟨B, a, fun q hq => b q (hs q hq), r⟩, R.2⟩
section dicts
variable {w : World} {A : Around} {E : Value → Shared → Prop} {s : Shared} {h₀ : Heap} {L d : Addr} {m : Str → Option Value} {news : List (Addr × Obj)} {g : Obj → List (Addr × Obj)} {o : Obj} {kvs kvs' : List (Str × Value)} {x : Str} {t : Tok} {v : Value}
theorem dict_map (N : News h₀ L s.heap news) (hm : (d, o) ∈ news) (ho : o.IsDictOf (strKind prg w) kvs) : s.heap.MapOf (strKind prg w) d (valueAt kvs) :=
  Heap.DictOf.mapOf (Heap.dictOf_iff.mpr ⟨o, (N _ hm).1, ho⟩)
theorem dget {value slice : Expr} {Q : Value → Shared → Prop} (N : News h₀ L s.heap news) (hm : (d, o) ∈ news) (ho : o.IsDictOf (strKind prg w) kvs) (e : valueAt kvs x = some v) (h : Q v { s with toks := s.toks + 1 })
    (hs : subscripted slice false (.ref d) (.str x t) = operate [.ref d, .str x t] (getItem (.ref d) (.str x t)) := by with_unfolding_all rfl) :
    wpAny (model prg w) A (subscriptTail value slice (.ref d) (.str x t)) Q E s :=
  have hp := dict_map N hm ho
  tail_any hp.typeIs slot_dict_getitem.lookup (wpAny_getItem_of (strKind_is prg w x t) hp e h) hs
theorem dget' {Q : Value → Shared → Prop} (N : News h₀ L s.heap news) (hm : (d, o) ∈ news) (ho : o.IsDictOf (strKind prg w) kvs) (e : valueAt kvs x = some v) (h : Q v { s with toks := s.toks + 1 }) :
    wpAny (model prg w) A (getItem (.ref d) (.str x t)) Q E s := wpAny_getItem_of (strKind_is prg w x t) (dict_map N hm ho) e h
theorem din {Q : Value → Shared → Prop} (N : News h₀ L s.heap news) (hm : (d, o) ∈ news) (ho : o.IsDictOf (strKind prg w) kvs) (lo : (d == sysModules) = false) (h : Q (.bool (valueAt kvs x).isSome) { s with toks := s.toks + 1 }) :
    wpAny (model prg w) A (compareOp .In (.str x t) (.ref d)) Q E s := wpAny_in_of (strKind_is prg w x t) lo (dict_map N hm ho) h
theorem dset {Q : Unit → Shared → Prop} (F : Fr h₀ L s.heap m) (N : News h₀ L s.heap news) (U : UpdF d o news g) (ho : o.IsDictOf (strKind prg w) kvs) (e : stored kvs x v = kvs') (hsz : kvs.length ≤ sizeLine)
    (h : ∀ h' o', Fr h₀ L h' m → News h₀ L h' (g o') → o'.IsDictOf (strKind prg w) kvs' → Q () { s with heap := h', toks := s.toks + 1 }) :
    wpAny (model prg w) A (setItem (.ref d) (.str x t) v) Q E s := by
  obtain ⟨pre, post, rfl, hg, a, b⟩ := U.split
  have D := N (d, o) (by simp)
  refine wpAny_setItem_pairs (hsz := hsz) (strKind_is prg w x t) (Heap.dictOf_iff.mpr ⟨o, D.1, ho⟩) fun h' hd' hs' => ?_
  obtain ⟨o', e1, e2⟩ := Heap.dictOf_iff.mp hd'
  exact h h' o' (F.change hs' D.2.1 D.2.2) (hg o' ▸ news_set N a b hs' e1) (e ▸ e2)
end dicts
end
section
theorem below_ne1 {l : List (Addr × Obj)} {a : Addr} (h : ∀ p ∈ l, p.1 < a) : ∀ p ∈ l, p.1 ≠ a + 1 := fun p hp e => absurd (h p hp) (by rw [e]; exact Nat.not_lt.mpr (Nat.le_succ _))
theorem below_ne2 {l : List (Addr × Obj)} {a : Addr} (h : ∀ p ∈ l, p.1 < a) : ∀ p ∈ l, p.1 ≠ a + 2 := fun p hp e => absurd (h p hp) (by rw [e]; exact Nat.not_lt.mpr (Nat.le_trans (Nat.le_succ _) (Nat.le_succ _)))
theorem gen_toks {M : Model} {A : Around} {α : Type} {p : Sem α} {Q : α → Shared → Prop} {E : Value → Shared → Prop} {h : Heap} {g : Array GenState} {dr : Drawn} {X : Nat} {o : OsState} (hX : 0 < X) (H : ∀ tk, 0 < tk → wpAny M A p Q E ⟨h, g, dr, tk, o⟩) : wpAny M A p Q E ⟨h, g, dr, X, o⟩ := H X hX
theorem nt1 {h₀ h : Heap} {L : Addr} {l : List (Addr × Obj)} {a : Addr × Obj} (N : News h₀ L h (a :: l)) : News h₀ L h l := fun p hp => N p (.tail _ hp)
theorem nt2 {h₀ h : Heap} {L : Addr} {l : List (Addr × Obj)} {a b : Addr × Obj} (N : News h₀ L h (a :: b :: l)) : News h₀ L h l := nt1 (nt1 N)
theorem nt3 {h₀ h : Heap} {L : Addr} {l : List (Addr × Obj)} {a b c : Addr × Obj} (N : News h₀ L h (a :: b :: c :: l)) : News h₀ L h l := nt1 (nt2 N)
theorem nt4 {h₀ h : Heap} {L : Addr} {l : List (Addr × Obj)} {a b c d : Addr × Obj} (N : News h₀ L h (a :: b :: c :: d :: l)) : News h₀ L h l := nt1 (nt3 N)
theorem ite_tt {a b : Prop} (h : a) : if true = true then a else b := h
theorem ite_ff {a b : Prop} (h : b) : if false = true then a else b := h
theorem ne_size {h₀ h : Heap} {L a : Addr} {o : Obj} {l : List (Addr × Obj)} (N : News h₀ L h l) (hm : (a, o) ∈ l) : h.objs.size ≠ a := Nat.ne_of_gt (Heap.lt_size (N _ hm).1)
theorem size_ne {h₀ h : Heap} {L a : Addr} {o : Obj} {l : List (Addr × Obj)} (N : News h₀ L h l) (hm : (a, o) ∈ l) : a ≠ h.objs.size := Nat.ne_of_lt (Heap.lt_size (N _ hm).1)
theorem nk1d3 {h₀ h : Heap} {L : Addr} {l : List (Addr × Obj)} {a b c d : Addr × Obj} (N : News h₀ L h (a :: b :: c :: d :: l)) : News h₀ L h (a :: l) := fun p hp => by
  rcases List.mem_cons.mp hp with rfl | hp
  · exact N _ (.head _)
  · exact N p (.tail _ (.tail _ (.tail _ (.tail _ hp))))
theorem below_ne11 {l : List (Addr × Obj)} {a : Addr} (h : ∀ p ∈ l, p.1 < a) : ∀ p ∈ l, p.1 ≠ a + 1 + 1 := fun p hp => Nat.ne_of_lt (Nat.lt_succ_of_lt (Nat.lt_succ_of_lt (h p hp)))
theorem below_ne111 {l : List (Addr × Obj)} {a : Addr} (h : ∀ p ∈ l, p.1 < a) : ∀ p ∈ l, p.1 ≠ a + 1 + 1 + 1 := fun p hp => Nat.ne_of_lt (Nat.lt_succ_of_lt (Nat.lt_succ_of_lt (Nat.lt_succ_of_lt (h p hp))))
theorem allLt_mem {a : Addr} : ∀ {l : List (Addr × Obj)}, AllLt a l → ∀ p ∈ l, p.1 < a
  | [], _, _, h => nomatch h
  | _ :: _, x, p, h => by
    rcases List.mem_cons.mp h with rfl | h
    · exact x.1
    · exact allLt_mem x.2 p h
end
section
structure Cy (w : World) (A₀ : Around) (base h₀ : Heap) (outer : List Env) (env : Env) (L : Addr) (m : Str → Option Value) (mean : ExcName → Option Value) (mg mb : Str → Option Value) (h : Heap) (news : List (Addr × Obj)) (d u : Nat) : Prop where
  B : Below A₀ base outer h₀
  F : Fr h₀ L h m
  X : (K w.params).In h₀
  N : News h₀ L h news
  T : Top topProg LS mean mg mb h₀
  hf : env.frame = some L
  hke : env.scope.kind = .function
  hd : d ≤ 760
  hu : u ≤ 400
noncomputable abbrev BackY (g : Array GenState) (os : OsState) (h₀ : Heap) (L : Addr) (m : Str → Option Value) (news : List (Addr × Obj)) (v : Value) (R : Result → Shared → Prop) : Prop :=
  ∀ h' g' d' tk', (AllBare g → AllBare g') → Fr h₀ L h' m → News h₀ L h' news → R (.ok (.ret v)) ⟨h', g', d', tk', os⟩
noncomputable abbrev BoomY (g : Array GenState) (os : OsState) (base h₀ : Heap) (outer : List Env) (env : Env) (L : Addr) (m : Str → Option Value) (news : List (Addr × Obj)) (R : Result → Shared → Prop) : Prop :=
  ∀ h' g' d' tk' e t tu gb, (AllBare g → AllBare g') → RaisedK base (env :: outer) e (.type "ValueError") t [.str msgS tu] news h' → Fr h₀ L gb m → gb.UpToSlots h' → R (.error (.ref e)) ⟨h', g', d', tk', os⟩
theorem Cy.cx {w : World} {A₀ : Around} {base h₀ : Heap} {outer : List Env} {env : Env} {L : Addr} {m : Str → Option Value} {mean : ExcName → Option Value} {mg mb : Str → Option Value} {h : Heap} {g : Array GenState} {dr : Drawn} {tk : Tok} {os : OsState} {news : List (Addr × Obj)} {d u : Nat}
    (c : Cy w A₀ base h₀ outer env L m mean mg mb h news d u) : Cx w A₀ base h₀ outer env L m mean mg mb ⟨h, g, dr, tk, os⟩ news d u := ⟨c.B, c.F, c.X, c.N, c.T, c.hf, c.hke, c.hd, c.hu⟩
noncomputable def TokVar (_ : Tok) : Prop := True
theorem gen_tok {M : Model} {A : Around} {α : Type} {p : Sem α} {Q : α → Shared → Prop} {E : Value → Shared → Prop} {h : Heap} {g : Array GenState} {dr : Drawn} {X : Tok} {o : OsState} (_hX : TokVar X) (H : ∀ tk, TokVar tk → wpAny M A p Q E ⟨h, g, dr, tk, o⟩) : wpAny M A p Q E ⟨h, g, dr, X, o⟩ := H X trivial
inductive Pick {α : Type} (a : α) : List α → List α → Prop
  | here {l} : Pick a (a :: l) l
  | there {b l l'} : Pick a l l' → Pick a (b :: l) (b :: l')
theorem Pick.sub {α : Type} {a : α} {l l' : List α} (p : Pick a l l') : ∀ x ∈ a :: l', x ∈ l := by
  induction p with
  | here => exact fun x h => h
  | there p ih =>
    intro x h
    rcases List.mem_cons.mp h with rfl | h
    · exact .tail _ (ih _ (.head _))
    · rcases List.mem_cons.mp h with rfl | h
      · exact .head _
      · exact .tail _ (ih _ (.tail _ h))
theorem Pick.rest {α : Type} {a : α} {l l' : List α} (p : Pick a l l') : ∀ x ∈ l', x ∈ l := fun x h => p.sub x (.tail _ h)
theorem news1 {h₀ h : Heap} {L : Addr} {a : Addr × Obj} {l l1 : List (Addr × Obj)} (N : News h₀ L h l) (p : Pick a l l1) : News h₀ L h (a :: l1) := fun q hq => N q (p.sub q hq)
theorem news2 {h₀ h : Heap} {L : Addr} {a b : Addr × Obj} {l l1 l2 : List (Addr × Obj)} (N : News h₀ L h l) (p : Pick a l l1) (p2 : Pick b l1 l2) : News h₀ L h (a :: b :: l2) := fun q hq => by
  rcases List.mem_cons.mp hq with rfl | hq
  · exact N _ (p.sub _ (.head _))
  · exact N _ (p.rest _ (p2.sub _ hq))
theorem news3 {h₀ h : Heap} {L : Addr} {a b c : Addr × Obj} {l l1 l2 l3 : List (Addr × Obj)} (N : News h₀ L h l) (p : Pick a l l1) (p2 : Pick b l1 l2) (p3 : Pick c l2 l3) : News h₀ L h (a :: b :: c :: l3) := fun q hq => by
  rcases List.mem_cons.mp hq with rfl | hq
  · exact N _ (p.sub _ (.head _))
  · exact news2 (fun x hx => N x (p.rest x hx)) p2 p3 q hq
theorem news4 {h₀ h : Heap} {L : Addr} {a b c d : Addr × Obj} {l l1 l2 l3 l4 : List (Addr × Obj)} (N : News h₀ L h l) (p : Pick a l l1) (p2 : Pick b l1 l2) (p3 : Pick c l2 l3) (p4 : Pick d l3 l4) : News h₀ L h (a :: b :: c :: d :: l4) := fun q hq => by
  rcases List.mem_cons.mp hq with rfl | hq
  · exact N _ (p.sub _ (.head _))
  · exact news3 (fun x hx => N x (p.rest x hx)) p2 p3 p4 q hq
end
section
noncomputable def coreOf (gb g : Heap) (L : Addr) : Heap := hideAll gb ((List.range gb.objs.size).filter fun b => (g.get? b).isNone && decide (b ≠ L))
theorem core_get {gb g : Heap} {L b : Addr} {o : Obj} (e : gb.get? b = some o) (h : g.get? b ≠ none ∨ b = L) : (coreOf gb g L).get? b = some o :=
  hideAll_get _ e fun hm => by
    have := (List.mem_filter.mp hm).2
    simp only [Bool.and_eq_true, Option.isNone_iff_eq_none, decide_eq_true_eq] at this
    rcases h with h | h
    · exact h this.1
    · exact this.2 h
theorem of_core {gb g : Heap} {L b : Addr} {o : Obj} (e : (coreOf gb g L).get? b = some o) : gb.get? b = some o ∧ (g.get? b ≠ none ∨ b = L) := by
  have e1 := of_hideAll _ e
  refine ⟨e1, ?_⟩
  by_cases hb : b ∈ (List.range gb.objs.size).filter fun b => (g.get? b).isNone && decide (b ≠ L)
  · have := hideAll_none (h := gb) _ hb
    unfold coreOf at e
    rw [this] at e
    cases e
  · rw [List.mem_filter] at hb
    by_cases hg : g.get? b = none
    · by_cases hL : b = L
      · exact .inr hL
      · exact absurd ⟨List.mem_range.mpr (Heap.lt_size e1), by simp only [hg, Option.isNone_none, Bool.true_and]; exact decide_eq_true hL⟩ hb
    · exact .inl hg
section
variable {A₀ : Around} {base g gb h' : Heap} {outer : List Env} {env : Env} {L e t : Addr} {m : Str → Option Value} {cls : Value} {vs : List Value} {news : List (Addr × Obj)}
noncomputable abbrev bareOf (g : Heap) (outer : List Env) : Heap := hideAll g (outer.filterMap (·.frame))
theorem bare_base (K : Below A₀ base outer g) : base.StaysIn (bareOf g outer) := fun b o q => hideAll_get _ (K.stays b o q) fun hm => by
  rw [(K.frames.mem hm).1] at q; cases q
theorem below_bare (K : Below A₀ base outer g) : Below A₀ (bareOf g outer) outer g :=
  ⟨K.stack, fun b o q => of_hideAll _ q, funFrames_hide K.frames fun env he a hf => List.mem_filterMap.mpr ⟨env, he, hf⟩⟩
theorem raised_toS (K : Below A₀ base outer g) (F : Fr g L gb m) (hf : env.frame = some L) (S : gb.UpToSlots h') (R : RaisedK (bareOf g outer) (env :: outer) e cls t vs news h') :
    Fr g L (coreOf gb g L) m ∧ (coreOf gb g L).UpToSlots h' ∧ RaisedS base (coreOf gb g L) (env :: outer) e cls t vs news h' := by
  have hgL : g.get? L = none := by
    cases q : g.get? L with
    | none => rfl
    | some o => exact absurd (Nat.lt_of_lt_of_le (Heap.lt_size q) F.above) (Nat.lt_irrefl _)
  obtain ⟨⟨B, hB, hl, hfl, hnew⟩, htup⟩ := R
  have inL : L ∈ (env :: outer).filterMap (·.frame) := List.mem_filterMap.mpr ⟨env, .head _, hf⟩
  have sub : ∀ b, b ∈ outer.filterMap (·.frame) → b ∈ (env :: outer).filterMap (·.frame) := fun b hb => by
    obtain ⟨x, hx, hxf⟩ := List.mem_filterMap.mp hb
    exact List.mem_filterMap.mpr ⟨x, .tail _ hx, hxf⟩
  have noB : ∀ b, b ∈ (env :: outer).filterMap (·.frame) → B.get? b = none := fun b hb => (hfl.2.2.1.mem hb).1
  refine ⟨⟨?_, fun b o q => ?_, ?_⟩, fun b o q hn => S b o (of_core q).1 hn, ⟨B, fun b o q => hB b o (bare_base K b o q), fun b o q nm => ?_, fun q hq => ⟨(hl q hq).1, ?_, fresh_of_stays (bare_base K) (hl q hq).2⟩, hfl, hnew⟩, htup⟩
  · obtain ⟨o, es, ep, ho, r⟩ := F.ns
    exact ⟨o, es, ep, core_get ho (.inr rfl), r⟩
  · exact core_get (F.keep b o q) (.inl (by rw [q]; exact fun z => by cases z))
  · exact F.above
  · obtain ⟨q1, q2⟩ := of_core q
    rcases q2 with q2 | q2
    · cases q3 : g.get? b with
      | none => exact absurd q3 q2
      | some o' =>
        have := (F.keep b o' q3).symm.trans q1
        cases this
        exact hB b o (hideAll_get _ q3 fun hm => nm (sub b hm))
    · rw [q2] at nm; exact absurd inL nm
  · cases q1 : (coreOf gb g L).get? q.1 with
    | none => rfl
    | some o =>
      exfalso
      have hb := (hl q hq).1
      rcases (of_core q1).2 with q2 | q2
      · cases q3 : g.get? q.1 with
        | none => exact q2 q3
        | some o' =>
          by_cases hm : q.1 ∈ outer.filterMap (·.frame)
          · rw [noB _ (sub _ hm)] at hb; cases hb
          · have := hideAll_get (outer.filterMap (·.frame)) q3 hm
            rw [(hl q hq).2] at this; cases this
      · rw [q2, noB _ inL] at hb; cases hb
end
end
section
theorem mem_frames {env : Env} {outer : List Env} {L b : Addr} (hf : env.frame = some L) (hm : b ∈ (env :: outer).filterMap (·.frame)) : b = L ∨ b ∈ outer.filterMap (·.frame) := by
  obtain ⟨x, he, hx⟩ := List.mem_filterMap.mp hm
  rcases List.mem_cons.mp he with rfl | he
  · exact .inl (Option.some.inj (hx.symm.trans hf))
  · exact .inr (List.mem_filterMap.mpr ⟨x, he, hx⟩)
section
variable {p : Program} {loose : List Str} {mean : ExcName → Option Value} {mg mb : Str → Option Value} {K : Frag} {A₀ A : Around} {s : Shared} {base h₀ : Heap} {outer : List Env} {env : Env} {L : Addr} {m : Str → Option Value} {news : List (Addr × Obj)} {R : Result → Shared → Prop}
noncomputable def LeaveT (p : Program) (loose : List Str) (mean : ExcName → Option Value) (mg mb : Str → Option Value) (K : Frag) (A₀ : Around) (base : Heap) (outer : List Env) (fs : List Addr) (h₀ : Heap) (L : Addr) (m : Str → Option Value) (g : Heap) (R : Result → Shared → Prop) (v : Value) (s' : Shared) : Prop :=
  ∃ g' L' m' news', KtsTurn fs g g' ∧ Fr g' L' s'.heap m' ∧ News g' L' s'.heap news' ∧ ∀ h₀', KtsTurn (outer.filterMap (·.frame)) h₀ h₀' → Fr h₀' L s'.heap m → News h₀' L s'.heap news' → Below A₀ base outer h₀' → K.In h₀' → Top p loose mean mg mb h₀' →
    KtsDicts (outer.filterMap (·.frame)) h₀' → R (.ok (.ret v)) s'
theorem groundT (B : Below A₀ base outer h₀) (F : Fr h₀ L s.heap m) (N : News h₀ L s.heap news) (XB : K.In base) (TB : Top p loose mean mg mb base) (D : KtsDicts (outer.filterMap (·.frame)) h₀) (hA : A.frames = some (env :: outer)) (hf : env.frame = some L) (hke : env.scope.kind = .function) :
    Fr h₀ L (hideAll s.heap (news.map (·.1))) m ∧ Below A base (env :: outer) (hideAll s.heap (news.map (·.1))) ∧ h₀.StaysIn (hideAll s.heap (news.map (·.1))) ∧ KtsDicts ((env :: outer).filterMap (·.frame)) (hideAll s.heap (news.map (·.1))) ∧
      ∀ v s', LeaveT p loose mean mg mb K A₀ base outer ((env :: outer).filterMap (·.frame)) h₀ L m (hideAll s.heap (news.map (·.1))) R v s' → R (.ok (.ret v)) s' := by
  obtain ⟨FG, BG, st, _⟩ := groundX (R := R) B F N hA hf hke
  obtain ⟨oL, es, ep, hLg, hLd, hLk, hLf⟩ := FG.ns
  have nL₀ : h₀.get? L = none := kts_self F
  refine ⟨FG, BG, st, fun b hb => ?_, fun v s' hl => ?_⟩
  · rcases mem_frames hf hb with rfl | hb
    · exact ⟨oL, es, ep, hLg, hLd⟩
    · obtain ⟨o, es', n', ho', hd'⟩ := D b hb
      exact ⟨o, es', n', st b o ho', hd'⟩
  obtain ⟨g', L', m', news', T', F', N', k⟩ := hl
  obtain ⟨sl, hs⟩ := T'.up hLg
  obtain ⟨T₁, S₁⟩ := kts_turn_at (h := s'.heap) (fs := outer.filterMap (·.frame)) (g := h₀)
    (fun b hb => by
      obtain ⟨_, o, ho', _⟩ := B.frames.mem hb
      exact ⟨o, ho'⟩)
    (fun b o e nmem => F'.keep b o (T'.other b o (st b o e) (fun q => by
      rcases mem_frames hf q with z | z
      · rw [z, nL₀] at e
        cases e
      · exact nmem z)))
    (fun b o e hm => by
      obtain ⟨sl', hs'⟩ := T'.up (st b o e)
      exact ⟨sl', F'.keep _ _ hs'⟩)
  have B₃ : Below A₀ base outer (ktsHeap s'.heap (outer.filterMap (·.frame)) h₀) := ⟨B.stack, fun b o e => T₁.other b o (B.stays b o e) (fun hm => by
    rw [(B.frames.mem hm).1] at e
    cases e), B.frames.of_keeps fun b o e _ => by
    obtain ⟨sl', hs'⟩ := T₁.up e
    exact ⟨_, hs', rfl⟩⟩
  refine k _ T₁ ⟨⟨_, es, ep, F'.keep _ _ hs, hLd, hLk, hLf⟩, S₁, by rw [T₁.size]; exact F.above⟩ (fun p hp => ⟨(N' p hp).1, fun q => ?_, ?_⟩) B₃ (XB.keeps B₃.stays) (TB.keeps B₃.stays) (D.turn T₁)
  · have := (N' p hp).2.2; rw [q, hs] at this; cases this
  · refine T₁.none_ _ ?_
    cases q : h₀.get? p.1 with
    | none => rfl
    | some o =>
      obtain ⟨sl', hs'⟩ := T'.up (st _ _ q)
      have := (N' p hp).2.2
      rw [hs'] at this
      cases this
variable {prog : Program} {w : World} {name qual : Str} {params : Arguments} {body : List Stmt} {scope : Scope} {dV kV doc pm cdv ct oc : Value} {an od : Option Addr} {osl : Array (Option Value)} {f : Addr} {args : Args} {binds : List (Str × Value)}
theorem code_defT (B : Below A₀ base outer h₀) (F : Fr h₀ L s.heap m) (X₀ : K.In h₀) (N : News h₀ L s.heap news) (T : Top p loose mean mg mb h₀) (XB : K.In base) (TB : Top p loose mean mg mb base) (D : KtsDicts (outer.filterMap (·.frame)) h₀) (hA : A.frames = some (env :: outer)) (hf : env.frame = some L) (hke : env.scope.kind = .function)
    (ho : K.lookup f = some ⟨oc, od, .func (fnOf name qual params body scope dV kV doc pm an cdv ct), osl⟩) (hcd : codeIn K cdv qual = true) (hroom : A.depth < recursionLimit)
    (hbind : BindsTo s (fnOf name qual params body scope dV kV doc pm an cdv ct) args binds) (hloc : ∀ y ∈ binds, scope.names.lookup y.1 = some .local)
    (h : ∀ g L' h₁, Fr h₀ L g m → Fr g L' h₁ (fun y => binds.reverse.lookup y) → News g L' h₁ news → Below A base (env :: outer) g → K.In g → Top p loose mean mg mb g → KtsDicts ((env :: outer).filterMap (·.frame)) g → (∀ p ∈ news, p.1 < L') →
      wpAny (model prog w) (A.deeper (envOf qual scope L' f cdv)) (execs body (envOf qual scope L' f cdv))
        (fun fl s' => LeaveT p loose mean mg mb K A₀ base outer ((env :: outer).filterMap (·.frame)) h₀ L m g R (match fl with | .ret v => v | _ => .none) s')
        (fun e s' => wpAny (model prog w) (A.deeper (envOf qual scope L' f cdv)) (leaving (envOf qual scope L' f cdv) e) (fun _ s'' => R (.error e) s'') (fun e' s'' => R (.error e') s'') s')
        { s with heap := h₁, toks := s.toks + binds.length })
    (hco : scope.isCoroutine = false) (hgen : scope.isGenerator = false) (hk : scope.kind = .function)
    (hcell : ∀ x ∈ scope.names, x.2 ≠ .cell) : codeAny (model prog w) A (.call (.ref f) args) R s := by
  obtain ⟨FG, BG, st, DG, lv⟩ := groundT (R := R) B F N XB TB D hA hf hke
  have X := X₀.keeps F.keep
  refine codeAny_call_def (fd := fnOf name qual params body scope dV kV doc pm an cdv ct) (body := body) (binds := binds) hroom (X _ _ ho) rfl (T.nolimit.keeps F.keep) (codeRec_of X hcd) rfl hbind hcell hloc (fun h₁ hns hk₁ => ?_) hco hgen hk
  exact wpAny_mono (h _ s.heap.objs.size h₁ FG ⟨hns, fun b o e => hk₁ b o (of_hideAll _ e), Nat.le_of_eq (hideAll_size _ _)⟩
    (fun p hp => ⟨hk₁ _ _ (N p hp).1, Nat.ne_of_lt (Heap.lt_size (N p hp).1), hideAll_none _ (List.mem_map_of_mem hp)⟩) BG (X₀.keeps st) (T.keeps st) DG (fun p hp => Heap.lt_size (N p hp).1)) (fun fl s' hl => lv _ _ hl) fun _ _ y => y
theorem code_defCT (B : Below A₀ base outer h₀) (F : Fr h₀ L s.heap m) (X₀ : K.In h₀) (N : News h₀ L s.heap news) (T : Top p loose mean mg mb h₀) (XB : K.In base) (TB : Top p loose mean mg mb base) (D : KtsDicts (outer.filterMap (·.frame)) h₀) (hA : A.frames = some (env :: outer)) (hf : env.frame = some L) (hke : env.scope.kind = .function)
    (ho : K.lookup f = some ⟨oc, od, .func (fnOf name qual params body scope dV kV doc pm an cdv ct), osl⟩) (hcd : codeIn K cdv qual = true) (hroom : A.depth < recursionLimit)
    (hbind : BindsTo s (fnOf name qual params body scope dV kV doc pm an cdv ct) args binds) (hkind : (binds.all fun y => scope.names.lookup y.1 == some .local || scope.names.lookup y.1 == some .cell) = true)
    (hnd : ((cellsFrom 0 scope.names []).map (·.1)).Nodup)
    (h : ∀ g L' h₁ tk cells, Fr h₀ L g m → Fr g L' h₁ (bindL (envOfC qual scope L' f cdv).kindOf binds fun _ => none) → News g L' h₁ (cells ++ news) →
      CellsAre (bindC (envOfC qual scope L' f cdv).kindOf binds fun _ => none) (cellsFrom (L' + 1) scope.names []) cells → Below A base (env :: outer) g → K.In g → Top p loose mean mg mb g → KtsDicts ((env :: outer).filterMap (·.frame)) g → (∀ p ∈ news, p.1 < L') →
      wpAny (model prog w) (A.deeper (envOfC qual scope L' f cdv)) (execs body (envOfC qual scope L' f cdv))
        (fun fl s' => LeaveT p loose mean mg mb K A₀ base outer ((env :: outer).filterMap (·.frame)) h₀ L m g R (match fl with | .ret v => v | _ => .none) s')
        (fun e s' => wpAny (model prog w) (A.deeper (envOfC qual scope L' f cdv)) (leaving (envOfC qual scope L' f cdv) e) (fun _ s'' => R (.error e) s'') (fun e' s'' => R (.error e') s'') s')
        { s with heap := h₁, toks := tk })
    (hco : scope.isCoroutine = false) (hgen : scope.isGenerator = false) (hk : scope.kind = .function) : codeAny (model prog w) A (.call (.ref f) args) R s := by
  obtain ⟨FG, BG, st, DG, lv⟩ := groundT (R := R) B F N XB TB D hA hf hke
  have X := X₀.keeps F.keep
  refine codeAny_call_function hroom (X _ _ ho) rfl hco hgen rfl (codeRec_of X hcd) (hbind _ _ _ _ ?_)
  refine wpAny_newFunctionEnv_cells hk (kindsX hkind _) fun env' he s' x => ?_
  subst he
  refine ⟨(T.nolimit.keeps F.keep).keeps x.toInCall.keep, codeAny_func ?_⟩
  obtain ⟨h₁, tk, rfl, _⟩ := x.done
  have hk₁ := x.toInCall.keep
  obtain ⟨cells, NC, Y⟩ := Cl.news (h₀ := s.heap) (Nat.le_refl _) fun n c hm => ⟨x.cell n c (lookup_of_mem_nodup (cellsFrom_names scope.names 0 (s.heap.objs.size + 1) [] [] rfl ▸ hnd) hm), x.above n c hm⟩
  refine wpAny_mono (h _ s.heap.objs.size h₁ tk cells FG ⟨x.toInCall.ns, fun b o e => hk₁ b o (of_hideAll _ e), Nat.le_of_eq (hideAll_size _ _)⟩ (fun p hp => ?_) Y BG (X₀.keeps st) (T.keeps st) DG (fun p hp => Heap.lt_size (N p hp).1)) (fun fl s' hl => lv _ _ hl) fun _ _ y => y
  rcases List.mem_append.mp hp with hp | hp
  · refine ⟨(NC p hp).1, (NC p hp).2.1, ?_⟩
    cases q : (hideAll s.heap (news.map (·.1))).get? p.1 with
    | none => rfl
    | some o => have := of_hideAll _ q; rw [(NC p hp).2.2] at this; cases this
  · exact ⟨hk₁ _ _ (N p hp).1, Nat.ne_of_lt (Heap.lt_size (N p hp).1), hideAll_none _ (List.mem_map_of_mem hp)⟩
end
end
section
structure Ct (w : World) (A₀ : Around) (base h₀ : Heap) (outer : List Env) (env : Env) (L : Addr) (m : Str → Option Value) (mean : ExcName → Option Value) (mg mb : Str → Option Value) (h : Heap) (news : List (Addr × Obj)) (d u : Nat) : Prop where
  cy : Cy w A₀ base h₀ outer env L m mean mg mb h news d u
  XB : (K w.params).In base
  TB : Top topProg LS mean mg mb base
  D : KtsDicts (outer.filterMap (·.frame)) h₀
noncomputable abbrev BackT (w : World) (A₀ : Around) (base : Heap) (outer : List Env) (mean : ExcName → Option Value) (mg mb : Str → Option Value) (g : Array GenState) (os : OsState) (h₀ : Heap) (L : Addr) (m : Str → Option Value) (news : List (Addr × Obj)) (v : Value) (R : Result → Shared → Prop) : Prop :=
  ∀ h₀' h' g' d' tk', (AllBare g → AllBare g') → KtsTurn (outer.filterMap (·.frame)) h₀ h₀' → Fr h₀' L h' m → News h₀' L h' news → Below A₀ base outer h₀' → (K w.params).In h₀' → Top topProg LS mean mg mb h₀' → KtsDicts (outer.filterMap (·.frame)) h₀' → R (.ok (.ret v)) ⟨h', g', d', tk', os⟩
noncomputable abbrev refS : Str := Str.ofString "refused: Control characters not allowed in headers"
theorem refS_is : Str.ofString "refused: " ++ msgS = refS := by decide +kernel
noncomputable def toldS (ok : Bool) : Str := if ok then Str.ofString "done" else refS
section
variable {w : World} {A₀ : Around} {d u : Nat} {gd : Option (List Code)} {base g : Heap} {outer : List Env} {env : Env} {L : Addr} {m : Str → Option Value} {mean : ExcName → Option Value} {mg mb : Str → Option Value} {h : Heap} {led : List (Addr × Obj)}
theorem Cy.bare (c : Cy w A₀ base g outer env L m mean mg mb h led d u) : Cy w A₀ (bareOf g outer) g outer env L m mean mg mb h led d u :=
  ⟨below_bare c.B, c.F, c.X, c.N, c.T, c.hf, c.hke, c.hd, c.hu⟩
theorem top_bare (B : Below A₀ base outer g) (XB : (K w.params).In base) : (K w.params).In (bareOf g outer) := XB.keeps (bare_base B)
end
theorem call_binds (a0 a1 a2 : Value) : bindArgs (fnOf (Str.ofString "_law_call") (Str.ofString "_law_call") (fPar (stA 20)) (fBody (stA 20)) (fScope (stA 20)) .none .none .none (.str (Str.ofString "law_pe0292_01") 802) none (.ref 341) .none) ⟨[a0, a1, a2], []⟩ = pure [(Str.ofString "target", a0), (Str.ofString "what", a1), (Str.ofString "text", a2)] := by kernel_rfl!
section
variable {p : Program} {loose : List Str} {mean : ExcName → Option Value} {mg mb : Str → Option Value} {K : Frag} {A₀ : Around} {base h₀ g g' : Heap} {outer : List Env} {fs : List Addr} {L L' : Addr} {m m' : Str → Option Value} {news' : List (Addr × Obj)} {R : Result → Shared → Prop} {v : Value} {s' : Shared}
theorem leaveT_ (F' : Fr g' L' s'.heap m') (N' : News g' L' s'.heap news') (T' : KtsTurn fs g g')
    (k : ∀ h₀', KtsTurn (outer.filterMap (·.frame)) h₀ h₀' → Fr h₀' L s'.heap m → News h₀' L s'.heap news' → Below A₀ base outer h₀' → K.In h₀' → Top p loose mean mg mb h₀' → KtsDicts (outer.filterMap (·.frame)) h₀' → R (.ok (.ret v)) s') :
    LeaveT p loose mean mg mb K A₀ base outer fs h₀ L m g R v s' := ⟨g', L', m', news', T', F', N', k⟩
end
theorem toldS_t {b : Bool} (h : b = true) : toldS b = Str.ofString "done" := by rw [h]; rfl
theorem toldS_f {b : Bool} (h : b = false) : toldS b = refS := by rw [h]; rfl
end
section
theorem below_ne0 {l : List (Addr × Obj)} {a : Addr} (h : ∀ p ∈ l, p.1 < a) : ∀ p ∈ l, p.1 ≠ a := fun p hp => Nat.ne_of_lt (h p hp)
theorem allLt_ne {l : List (Addr × Obj)} {a : Addr} (h : AllLt a l) : ∀ p ∈ l, p.1 ≠ a := fun p hp => Nat.ne_of_lt (allLt_mem h p hp)
end
section
noncomputable abbrev ent (w : World) (x : Str) (t : Tok) (v : Value) : DictEntry := ⟨PyData.keyHash w.params x, .str x t, v⟩
noncomputable abbrev wrD (w : World) (ts : Nat → Tok) (f dd ds dn dm dp : Addr) (seen done : Bool) : Obj := dictOf
  [ent w (Str.ofString "_write") (ts 0) (.ref f), ent w (Str.ofString "_data") (ts 1) (.ref dd), ent w (Str.ofString "_with_comments") (ts 2) (.bool true), ent w (Str.ofString "_strip_text") (ts 3) (.bool false),
   ent w (Str.ofString "_exclude_attrs") (ts 4) .none, ent w (Str.ofString "_exclude_tags") (ts 5) .none, ent w (Str.ofString "_rewrite_prefixes") (ts 6) (.bool false), ent w (Str.ofString "_qname_aware_tags") (ts 7) .none,
   ent w (Str.ofString "_find_qname_aware_attrs") (ts 8) .none, ent w (Str.ofString "_declared_ns_stack") (ts 9) (.ref ds), ent w (Str.ofString "_ns_stack") (ts 10) (.ref dn), ent w (Str.ofString "_prefix_map") (ts 11) (.ref dm),
   ent w (Str.ofString "_preserve_space") (ts 12) (.ref dp), ent w (Str.ofString "_pending_start") (ts 13) .none, ent w (Str.ofString "_root_seen") (ts 14) (.bool seen), ent w (Str.ofString "_root_done") (ts 15) (.bool done), ent w (Str.ofString "_ignored_depth") (ts 16) (.int 0 (ts 17))] 17
noncomputable abbrev tupO (a b : Value) : Obj := { cls := .type "tuple", data := .seq #[a, b] }
noncomputable abbrev xmlS : Str := Str.ofString "http://www.w3.org/XML/1998/namespace"
end
section
open PySem.Sre in
noncomputable abbrev vCode : Array Nat := #[14, 14, 4, 1, 1, 9, 4294966783, 0, 0, 2147483648, 0, 0, 0, 0, 0, 13, 11, 9, 4294966783, 0, 0, 2147483648, 0, 0, 0, 0, 0, 1]
noncomputable abbrev nCode : Array Nat := #[14, 10, 4, 1, 1, 22, 0, 31, 16, 127, 0, 13, 7, 22, 0, 31, 16, 127, 0, 1]
noncomputable def vP (c : Nat) : Bool := c < 256 && (vCode.getD (6 + c / 32) 0).testBit (c % 32)
noncomputable def nP (c : Nat) : Bool := (0 ≤ c && c ≤ 31) || c == 127
theorem v_set5 (c : Nat) (sn : Sre.Seen) : ∃ sn', Sre.inSet vCode c vCode.size 5 true sn = .ok (vP c, sn') := by
  show ∃ sn', (if (c < 256 && (vCode.getD (5 + (1 + c / 32)) 0).testBit (c % 32)) = true then _ else _) = _
  have e : 5 + (1 + c / 32) = 6 + c / 32 := by omega
  rw [e]
  show ∃ sn', (if vP c = true then _ else _) = _
  cases vP c with
  | true => exact ⟨_, rfl⟩
  | false => exact ⟨_, rfl⟩
theorem v_set17 (c : Nat) (sn : Sre.Seen) : ∃ sn', Sre.inSet vCode c vCode.size 17 true sn = .ok (vP c, sn') := by
  show ∃ sn', (if (c < 256 && (vCode.getD (17 + (1 + c / 32)) 0).testBit (c % 32)) = true then _ else _) = _
  have e : (c < 256 && (vCode.getD (17 + (1 + c / 32)) 0).testBit (c % 32)) = vP c := by
    unfold vP
    by_cases h : c < 256
    · have h8 : c / 32 < 8 := by omega
      have : ∀ k, k < 8 → vCode.getD (17 + (1 + k)) 0 = vCode.getD (6 + k) 0 := by decide
      rw [this _ h8]
    · simp [h]
  rw [e]
  cases vP c with
  | true => exact ⟨_, rfl⟩
  | false => exact ⟨_, rfl⟩
theorem n_set5 (c : Nat) (sn : Sre.Seen) : ∃ sn', Sre.inSet nCode c nCode.size 5 true sn = .ok (nP c, sn') := by
  show ∃ sn', (if (0 ≤ c && c ≤ 31) = true then _ else if (c == 127) = true then _ else _) = _
  unfold nP
  cases h1 : (decide (0 ≤ c) && decide (c ≤ 31)) with
  | true => exact ⟨_, rfl⟩
  | false =>
    cases h2 : (c == 127) with
    | true => exact ⟨_, rfl⟩
    | false => exact ⟨_, rfl⟩
noncomputable def firstFrom (p : Nat → Bool) (text : Array Nat) (lim : Nat) : Nat → Nat → Option Nat
  | 0, _ => none
  | f + 1, s => if s ≥ lim then none else if p (text.getD s 0) then some s else firstFrom p text lim f (s + 1)
theorem admitted_eq {m : Sre.M} {p : Nat → Bool} (hs : ∀ c sn, ∃ sn', Sre.inSet m.code c m.code.size 5 true sn = .ok (p c, sn')) : ∀ (f s : Nat) (sn : Sre.Seen), ∃ sn', m.admitted f s sn = .ok (firstFrom p m.text m.lim f s, sn')
  | 0, _, sn => ⟨sn, rfl⟩
  | f + 1, s, sn => by
    unfold Sre.M.admitted firstFrom
    by_cases h : s ≥ m.lim
    · rw [if_pos h, if_pos h]; exact ⟨sn, rfl⟩
    · rw [if_neg h, if_neg h]
      obtain ⟨sn', e⟩ := hs (m.text.getD s 0) sn
      rw [e]
      cases hp : p (m.text.getD s 0) with
      | true => exact ⟨sn', rfl⟩
      | false => exact admitted_eq hs f (s + 1) sn'
theorem firstFrom_none {p : Nat → Bool} {text : Array Nat} {lim : Nat} : ∀ (f s : Nat), (∀ i, s ≤ i → i < lim → p (text.getD i 0) = false) → firstFrom p text lim f s = none
  | 0, _, _ => rfl
  | f + 1, s, h => by
    unfold firstFrom
    by_cases hl : s ≥ lim
    · rw [if_pos hl]
    · rw [if_neg hl, h s (Nat.le_refl _) (Nat.lt_of_not_le hl), if_neg Bool.false_ne_true]
      exact firstFrom_none f (s + 1) fun i hi hl' => h i (by omega) hl'
theorem firstFrom_some {p : Nat → Bool} {text : Array Nat} {lim : Nat} : ∀ (f s i : Nat), s ≤ i → i < lim → lim ≤ s + f → p (text.getD i 0) = true → ∃ j, firstFrom p text lim f s = some j ∧ p (text.getD j 0) = true ∧ j < lim
  | 0, s, i, h1, h2, h3, _ => by omega
  | f + 1, s, i, h1, h2, h3, hp => by
    unfold firstFrom
    rw [if_neg (by omega)]
    cases hs : p (text.getD s 0) with
    | true => exact ⟨s, by rw [if_pos rfl], hs, by omega⟩
    | false =>
      rw [if_neg Bool.false_ne_true]
      have : s ≠ i := fun e => by rw [e, hp] at hs; cases hs
      exact firstFrom_some f (s + 1) i (by omega) h2 (by omega) hp
end
section
theorem drive_failed {m : Sre.M} (ha : m.answer = some false) (hf : m.frames = []) (ho : m.outcome = none) : Builtin.Re.reDrive (2 ^ 64) m = pure { m with outcome := some .failed } := by
  have hstep : m.step = { m with outcome := some .failed } := by
    unfold Sre.M.step
    rw [ho, ha, hf]
    rfl
  have hrun : m.runFor 4 = { m with outcome := some .failed } := by
    show (if m.outcome.isSome then m else Sre.M.runFor 3 m.step) = _
    rw [ho, hstep]
    rfl
  show (if (m.runFor 4).outcome.isSome then (pure (m.runFor 4) : Sem Sre.M) else _) = _
  rw [hrun]
  rfl
theorem drive_matched {m m' : Sre.M} (h : m.runFor 4 = m') (ho : m'.outcome = some .matched) : Builtin.Re.reDrive (2 ^ 64) m = pure m' := by
  show (if (m.runFor 4).outcome.isSome then (pure (m.runFor 4) : Sem Sre.M) else _) = _
  rw [h, ho]
  rfl
noncomputable abbrev at1 (text : Array Nat) (j : Nat) (sn : Sre.Seen) : Sre.M :=
  { code := vCode, text, lim := text.size, start := j, lastStart := text.size, pc := 15, pos := j, handed := j, marks := #[], frames := [{ wait := .nextStart, pc := 15, pos := j, outermost := true }], weight := 1, seen := sn }
theorem step1 {text : Array Nat} {j : Nat} {sn : Sre.Seen} (hj : j < text.size) (hp : vP (text.getD j 0) = true) : ∃ sn', (at1 text j sn).step = { at1 text j sn' with pc := 27, pos := j + 1 } := by
  obtain ⟨sn', e⟩ := v_set17 (text.getD j 0) (sn.add 13)
  refine ⟨sn', ?_⟩
  have h1 : (at1 text j sn).step = (at1 text j sn).exec := rfl
  have h2 : (at1 text j sn).exec = (if j ≥ text.size then ({ at1 text j (sn.add 13) with } : Sre.M).say false else match Sre.inSet vCode (text.getD j 0) vCode.size 17 true (sn.add 13) with
      | .error why => ({ at1 text j (sn.add 13) with } : Sre.M).stick why
      | .ok (false, seen) => { at1 text j (sn.add 13) with seen }.say false
      | .ok (true, seen) => { at1 text j (sn.add 13) with seen, pc := 15 + Sre.itemWidth vCode 15, pos := j + 1 }) := rfl
  rw [h1, h2, if_neg (by omega), e, hp]
  rfl
theorem run4 {text : Array Nat} {j : Nat} {sn : Sre.Seen} (hj : j < text.size) (hp : vP (text.getD j 0) = true) : ∃ m', (at1 text j sn).runFor 4 = m' ∧ m'.outcome = some .matched := by
  obtain ⟨sn', e⟩ := step1 (sn := sn) hj hp
  refine ⟨_, rfl, ?_⟩
  show (Sre.M.runFor 3 (at1 text j sn).step).outcome = _
  rw [e]
  rfl
noncomputable abbrev m00 (text : Array Nat) : Sre.M :=
  { code := vCode, text, lim := text.size, start := 0, pc := 15, pos := 0, handed := 0, marks := #[], seen := ({} : Sre.Seen).add 14 }
theorem for_eq (text : Array Nat) : Sre.forSearch vCode text 0 0 text.size false = if (decide (0 > text.size) || decide (text.size - 0 < 1)) = true then (m00 text).say false else ({ m00 text with lastStart := text.size } : Sre.M).attemptFrom 0 true := rfl
theorem from_eq (text : Array Nat) : ({ m00 text with lastStart := text.size } : Sre.M).attemptFrom 0 true = match Sre.M.admitted ({ m00 text with lastStart := text.size } : Sre.M) (text.size + 1 - 0) 0 (({} : Sre.Seen).add 14) with
  | .ok (some s, seen) => ({ m00 text with lastStart := text.size, mustAdvance := false, seen } : Sre.M).attemptAt s true
  | .ok (none, seen) => ({ m00 text with lastStart := text.size, seen } : Sre.M).say false
  | .error why => ({ m00 text with lastStart := text.size } : Sre.M).stick why := rfl
theorem search_none {text : Array Nat} (h : ∀ i, i < text.size → vP (text.getD i 0) = false) : ∃ m', Builtin.Re.reDrive (2 ^ 64) (Sre.forSearch vCode text 0 0 text.size false) = pure m' ∧ m'.outcome = some .failed := by
  rw [for_eq]
  split
  · exact ⟨_, drive_failed rfl rfl rfl, rfl⟩
  · obtain ⟨sn, e⟩ := admitted_eq (m := { m00 text with lastStart := text.size }) (p := vP) v_set5 (text.size + 1 - 0) 0 (({} : Sre.Seen).add 14)
    rw [from_eq, e]
    rw [show firstFrom vP ({ m00 text with lastStart := text.size } : Sre.M).text ({ m00 text with lastStart := text.size } : Sre.M).lim (text.size + 1 - 0) 0 = none from firstFrom_none _ _ fun i _ hi => h i hi]
    exact ⟨_, drive_failed rfl rfl rfl, rfl⟩
theorem search_some {text : Array Nat} {i : Nat} (hi : i < text.size) (h : vP (text.getD i 0) = true) : ∃ m', Builtin.Re.reDrive (2 ^ 64) (Sre.forSearch vCode text 0 0 text.size false) = pure m' ∧ m'.outcome = some .matched := by
  rw [for_eq]
  rw [if_neg (by simp only [Bool.or_eq_true, decide_eq_true_eq]; omega)]
  obtain ⟨sn, e⟩ := admitted_eq (m := { m00 text with lastStart := text.size }) (p := vP) v_set5 (text.size + 1 - 0) 0 (({} : Sre.Seen).add 14)
  obtain ⟨j, e2, hj, hl⟩ := firstFrom_some (p := vP) (text := text) (lim := text.size) (text.size + 1 - 0) 0 i (Nat.zero_le _) hi (by omega) h
  rw [from_eq, e]
  rw [show firstFrom vP ({ m00 text with lastStart := text.size } : Sre.M).text ({ m00 text with lastStart := text.size } : Sre.M).lim (text.size + 1 - 0) 0 = some j from e2]
  obtain ⟨m', e3, e4⟩ := run4 (sn := sn) hl hj
  exact ⟨m', drive_matched e3 e4, e4⟩
end
section
open PySem.Calls
section
variable {w : World} {A : Around} {s : Shared}
theorem rules_skip {E : Value → Shared → Prop} {body : Nat → PUnit → Sem (ForInStep PUnit)} {Q : PUnit → Shared → Prop} (hb : ∀ i s', wpAny (model prg w) A (body i ⟨⟩) (fun r s'' => r = .yield ⟨⟩ ∧ s'' = s') E s') :
    ∀ (l : List Nat) (s : Shared), Q ⟨⟩ s → wpAny (model prg w) A (forIn l PUnit.unit body) Q E s
  | [], s, h => by rw [List.forIn_nil]; exact wpAny_pure h
  | x :: l, s, h => by
    rw [List.forIn_cons]
    refine wpAny_bind (wpAny_mono (hb x s) (fun r s' h' => ?_) fun _ _ e => e)
    obtain ⟨rfl, rfl⟩ := h'
    exact rules_skip hb l s' h
theorem run_none {E : Value → Shared → Prop} {Q : Option Sre.M → Shared → Prop} {m m' : Sre.M} (h : Builtin.Re.reDrive (2 ^ 64) m = pure m') (ho : m'.outcome = some .failed) (q : Q none s) : wpAny (model prg w) A (Builtin.Re.reRunToEnd m) Q E s := by
  unfold Builtin.Re.reRunToEnd
  rw [h]
  refine wpAny_bind (wpAny_pure (wpAny_bind (rules_skip (fun i s' => ?_) _ s ?_)))
  · split
    · exact wpAny_bind (wpAny_rule (wpAny_pure ⟨rfl, rfl⟩))
    · exact wpAny_pure ⟨rfl, rfl⟩
  · rw [ho]; exact wpAny_pure q
theorem run_some {E : Value → Shared → Prop} {Q : Option Sre.M → Shared → Prop} {m m' : Sre.M} (h : Builtin.Re.reDrive (2 ^ 64) m = pure m') (ho : m'.outcome = some .matched) (q : Q (some m') s) : wpAny (model prg w) A (Builtin.Re.reRunToEnd m) Q E s := by
  unfold Builtin.Re.reRunToEnd
  rw [h]
  refine wpAny_bind (wpAny_pure (wpAny_bind (rules_skip (fun i s' => ?_) _ s ?_)))
  · split
    · exact wpAny_bind (wpAny_rule (wpAny_pure ⟨rfl, rfl⟩))
    · exact wpAny_pure ⟨rfl, rfl⟩
  · rw [ho]; exact wpAny_pure q
theorem named_one (v : Value) : Builtin.Re.reNamed "re.Pattern.search" "search" ["string", "pos", "endpos"] 1 [v] [] = pure [some v, none, none] := by kernel_rfl!
noncomputable abbrev patObj (p f : Value) (g3 g4 : Value) (tc : Addr) : Obj := { cls := .type "re.Pattern", data := .fields #[p, f, .int 0 0, g3, g4, .ref tc, .int 0 0] }
theorem target {E : Value → Shared → Prop} {Q : Builtin.Re.ReTarget → Shared → Prop} {a tc : Addr} {p f g3 g4 : Value} {its : Array Value} {ne : Nat} {oc : Value} {od : Option Addr} {sl : Array (Option Value)} {text : Str} {tt : Tok}
    (ha : s.heap.get? a = some (patObj p f g3 g4 tc)) (ht : s.heap.get? tc = some ⟨oc, od, .seq its ne, sl⟩) (hsz : text.cps.size ≤ 2 ^ 63 - 1)
    (q : Q { pattern := .ref a, string := .str text tt, code := (its.map Builtin.Re.reRawOf).map (·.toNat), text := text.cps, kind := 0, groups := 0, pos := 0, lim := text.cps.size } s) :
    wpAny (model prg w) A (Builtin.Re.reTarget "re.Pattern.search" "search" ⟨[.ref a, .str text tt], []⟩) Q E s := by
  unfold Builtin.Re.reTarget
  refine wpAny_bind ?_
  rw [named_one]
  refine wpAny_pure ?_
  refine wpAny_bind (wpAny_pure (wpAny_bind (wpAny_pure (wpAny_bind (wpAny_fieldsOf ha rfl (wpAny_bind (wpAny_bind (wpAny_pure (wpAny_pure ?_)))))))))
  show wpAny (model prg w) A ((do
      Builtin.Re.reNoCollectionInside (Value.str text tt) 0
      let its ← Builtin.Re.reRawItems (.ref tc)
      pure { pattern := Value.ref a, string := Value.str text tt, code := Array.map (fun x => x.toNat) its, text := text.cps, kind := 0, groups := 0, pos := min (0 : Int).toNat text.cps.size, lim := min (2 ^ 63 - 1 : Int).toNat text.cps.size } : Sem Builtin.Re.ReTarget)) Q E s
  refine wpAny_bind (wpAny_pure (wpAny_bind ?_))
  unfold Builtin.Re.reRawItems
  refine wpAny_bind (wpAny_seqItems ht rfl (wpAny_pure ?_))
  have e1 : min (0 : Int).toNat text.cps.size = 0 := Nat.zero_min _
  have e2 : min (2 ^ 63 - 1 : Int).toNat text.cps.size = text.cps.size := Nat.min_eq_right hsz
  rw [e1, e2]
  exact wpAny_pure q
theorem entry_search : entryFor table "re.Pattern.search" = some Builtin.«re.Pattern.search» := entryFor_of_tree (by kernel_rfl)
theorem slot_search : Slot "re.Pattern" "search" "re.Pattern.search" :=
  .of (owner := "re.Pattern") (n := "search") (by rw [typeLookup_type, builtinLookup_eq_fast]; kernel_rfl) (by decide +kernel) (by decide +kernel) (by decide +kernel)
    (by first | exact .inl (by decide +kernel) | exact .inr (by decide +kernel)) (by rw [isSubtype_type]; kernel_rfl)
theorem type_search : typeOf (.builtin "re.Pattern.search") = pure (.type "method_descriptor") := by show builtinType _ = _; rw [builtinType_eq_fast]; kernel_rfl
theorem plainAttrs_pat : PlainAttrs "re.Pattern" :=
  ⟨⟨"object.__getattribute__", by rw [typeLookup_type, builtinLookup_eq_fast]; kernel_rfl, by decide +kernel⟩, by rw [typeLookup_type, builtinLookup_eq_fast]; kernel_rfl⟩
theorem args_search (a b : Value) : argsOk "re.Pattern.search" ⟨[a, b], []⟩ := by unfold argsOk; kernel_rfl
end
end
section
open PySem.Calls
section
variable {w : World} {A : Around} {E : Value → Shared → Prop} {s : Shared} {h₀ : Heap} {L : Addr} {m : Str → Option Value} {news : List (Addr × Obj)} {a tc : Addr} {p f g3 g4 : Value} {its : Array Value} {ne : Nat} {oc : Value} {od : Option Addr} {sl : Array (Option Value)} {text : Str} {tt : Tok}
theorem pat_method {pl : Sem Bool} {Q : Value × List Value → Shared → Prop} (ha : s.heap.get? a = some (patObj p f g3 g4 tc)) (h : Q (.builtin "re.Pattern.search", [.ref a]) s) :
    wpAny (model prg w) A (getMethod (.ref a) (Str.ofString "search") pl) Q E s :=
  getMethod_builtin ⟨_, ha, rfl⟩ plainAttrs_pat slot_search type_search (fun a' e => by cases e; exact ⟨_, ha, rfl⟩) h
theorem pat_search_none {Q : Value → Shared → Prop} (ha : s.heap.get? a = some (patObj p f g3 g4 tc)) (ht : s.heap.get? tc = some ⟨oc, od, .seq its ne, sl⟩) (hsz : text.cps.size ≤ 2 ^ 63 - 1)
    (hr : ∃ m', Builtin.Re.reDrive (2 ^ 64) (Sre.forSearch ((its.map Builtin.Re.reRawOf).map (·.toNat)) text.cps 0 0 text.cps.size false) = pure m' ∧ m'.outcome = some .failed)
    (h : Q .none s) : wpAny (model prg w) A (call (.builtin "re.Pattern.search") [.ref a, .str text tt]) Q E s := by
  refine wpAny_call_entry slot_search ⟨_, ha, rfl⟩ entry_search ?_ (args_search _ _)
  obtain ⟨m', e1, e2⟩ := hr
  unfold Builtin.«re.Pattern.search»
  refine wpAny_bind (target ha ht hsz ?_)
  unfold Builtin.Re.reAnswer
  exact wpAny_bind (run_none e1 e2 (wpAny_pure ⟨_, rfl, h⟩))
noncomputable abbrev matchObj (vs : List Value) : Obj := { cls := .type "re.Match", data := .fields vs.toArray }
theorem pat_search_some {Q : Value → Shared → Prop} (F : Fr h₀ L s.heap m) (N : News h₀ L s.heap news) (ha : s.heap.get? a = some (patObj p f g3 g4 tc)) (ht : s.heap.get? tc = some ⟨oc, od, .seq its ne, sl⟩) (hsz : text.cps.size ≤ 2 ^ 63 - 1)
    (hr : ∃ m', Builtin.Re.reDrive (2 ^ 64) (Sre.forSearch ((its.map Builtin.Re.reRawOf).map (·.toNat)) text.cps 0 0 text.cps.size false) = pure m' ∧ m'.outcome = some .matched)
    (h : ∀ r vs h', Fr h₀ L h' m → News h₀ L h' ((r, matchObj vs) :: news) → (∀ p ∈ news, p.1 < r) → Q (.ref r) { s with heap := h' }) : wpAny (model prg w) A (call (.builtin "re.Pattern.search") [.ref a, .str text tt]) Q E s := by
  refine wpAny_call_entry slot_search ⟨_, ha, rfl⟩ entry_search ?_ (args_search _ _)
  obtain ⟨m', e1, e2⟩ := hr
  unfold Builtin.«re.Pattern.search»
  refine wpAny_bind (target ha ht hsz ?_)
  unfold Builtin.Re.reAnswer
  refine wpAny_bind (run_some e1 e2 ?_)
  refine wpAny_bind ?_
  show wpAny (model prg w) A.in1 (newTuple [rawInt m'.start, rawInt m'.handed] >>= fun t => newFields "re.Match" [.str text tt, .ref a, rawInt 0, rawInt text.cps.size, rawInt m'.lastindex, t]) _ E s
  refine wpAny_bind (newTuple_N F N (fun h1 F1 N1 => ?_) (by show (2 : Nat) ≤ sizeLine; decide))
  refine wpAny_newObj_type ?_ (by show (6 : Nat) ≤ sizeLine + 2; decide)
  show wpAny (model prg w) A.in1 (pure (PySem.Fin.done (Flow.ret _))) _ _ _
  have z := N1.push F1 (matchObj [.str text tt, .ref a, rawInt 0, rawInt text.cps.size, rawInt m'.lastindex, .ref s.heap.objs.size])
  exact wpAny_pure ⟨_, rfl, h _ [.str text tt, .ref a, rawInt 0, rawInt text.cps.size, rawInt m'.lastindex, .ref s.heap.objs.size] _ (F1.push _)
    (fun q hq => (List.mem_cons.mp hq).elim (fun e => e ▸ z _ (.head _)) fun hq => z _ (.tail _ (.tail _ hq))) fun q hq => Heap.lt_size (N1 q (.tail _ hq)).1⟩
theorem truth_match {r : Addr} {vs : List Value} {Q : Bool → Shared → Prop} (hr : s.heap.get? r = some (matchObj vs)) (h : Q true s) : wpAny (model prg w) A (truthy (.ref r)) Q E s := by
  have hT : s.TypeIs (.ref r) "re.Match" := ⟨_, hr, rfl⟩
  have l1 : typeLookup (.type "re.Match") (Str.ofString "__bool__") = pure none := by rw [typeLookup_type, builtinLookup_eq_fast]; kernel_rfl
  have l2 : typeLookup (.type "re.Match") (Str.ofString "__len__") = pure none := by rw [typeLookup_type, builtinLookup_eq_fast]; kernel_rfl
  unfold truthy
  dsimp only
  first
    | refine wpAny_bind (wpAny_callSpecial?_none (name := Str.ofString "__bool__") hT l1 ?_)
    | refine wpAny_bind (wpAny_pure (wpAny_bind (wpAny_callSpecial?_none (name := Str.ofString "__bool__") hT l1 ?_)))
  refine wpAny_bind (wpAny_specialOf hT l2 ?_)
  exact wpAny_pure h
end
end
section
section
variable {w : World} {A : Around} {E : Value → Shared → Prop} {s : Shared} {h₀ : Heap} {L : Addr} {m : Str → Option Value} {news : List (Addr × Obj)} {text : Str} {tt : Tok}
noncomputable def vBad (t : Str) : Bool := t.cps.toList.any vP
theorem vBad_no {t : Str} (h : vBad t = false) : ∀ i, i < t.cps.size → vP (t.cps.getD i 0) = false := fun i hi => by
  unfold vBad at h
  rw [List.any_eq_false] at h
  have e : t.cps.getD i 0 = t.cps[i] := by simp [Array.getD, hi]
  rw [e]
  have := h t.cps[i] (Array.getElem_mem_toList hi)
  cases hq : vP t.cps[i] with
  | true => exact absurd hq this
  | false => rfl
theorem vBad_yes {t : Str} (h : vBad t = true) : ∃ i, i < t.cps.size ∧ vP (t.cps.getD i 0) = true := by
  unfold vBad at h
  obtain ⟨c, hc, hp⟩ := List.any_eq_true.mp h
  obtain ⟨i, hi, rfl⟩ := List.getElem_of_mem hc
  have hi' : i < t.cps.size := by simpa using hi
  refine ⟨i, hi', ?_⟩
  have e : t.cps.getD i 0 = t.cps[i] := by simp [Array.getD, hi']
  rw [e]
  simpa using hp
noncomputable abbrev vItems : List Value := [.int 14 0, .int 14 0, .int 4 0, .int 1 0, .int 1 0, .int 9 0, .int 4294966783 0, .int 0 0, .int 0 0, .int 2147483648 0, .int 0 0, .int 0 0, .int 0 0, .int 0 0, .int 0 0, .int 13 0, .int 11 0, .int 9 0, .int 4294966783 0, .int 0 0, .int 0 0, .int 2147483648 0, .int 0 0, .int 0 0, .int 0 0, .int 0 0, .int 0 0, .int 1 0]
theorem v_items : ((vItems.toArray.map Builtin.Re.reRawOf).map (·.toNat)) = vCode := by decide +kernel
theorem v_at {h : Heap} (X : (K w.params).In h) : h.get? 183 = some (patObj (.str (Str.ofString "[\\x00-\\x08\\x0A-\\x1F\\x7F]") 602) (.int 32 633) .none .none 182) := X 183 _ (by kernel_rfl!)
theorem v_tab {h : Heap} (X : (K w.params).In h) : h.get? 182 = some ⟨.type "tuple", none, .seq vItems.toArray 0, #[]⟩ := X 182 _ (by kernel_rfl!)
theorem v_method {pl : Sem Bool} {Q : Value × List Value → Shared → Prop} (X : (K w.params).In s.heap) (h : Q (.builtin "re.Pattern.search", [.ref 183]) s) :
    wpAny (model prg w) A (getMethod (.ref 183) (Str.ofString "search") pl) Q E s := by
  exact pat_method (v_at X) h
theorem v_search {Q : Value → Shared → Prop} (F : Fr h₀ L s.heap m) (N : News h₀ L s.heap news) (X : (K w.params).In s.heap) (hsz : text.length ≤ 2 ^ 63 - 1)
    (h0 : vBad text = false → Q .none s)
    (h1 : vBad text = true → ∀ r vs h', Fr h₀ L h' m → News h₀ L h' ((r, matchObj vs) :: news) → (∀ p ∈ news, p.1 < r) → Q (.ref r) { s with heap := h' }) :
    wpAny (model prg w) A (call (.builtin "re.Pattern.search") [.ref 183, .str text tt]) Q E s := by
  have e := v_at X
  cases hb : vBad text with
  | false => exact pat_search_none e (v_tab X) hsz (by rw [v_items]; exact search_none (vBad_no hb)) (h0 hb)
  | true =>
    obtain ⟨i, hi, hp⟩ := vBad_yes hb
    exact pat_search_some F N e (v_tab X) hsz (by rw [v_items]; exact search_some hi hp) (h1 hb)
end
end
section
noncomputable abbrev n00 (text : Array Nat) : Sre.M :=
  { code := nCode, text, lim := text.size, start := 0, pc := 11, pos := 0, handed := 0, marks := #[], seen := ({} : Sre.Seen).add 14 }
theorem nfor_eq (text : Array Nat) : Sre.forSearch nCode text 0 0 text.size false = if (decide (0 > text.size) || decide (text.size - 0 < 1)) = true then (n00 text).say false else ({ n00 text with lastStart := text.size } : Sre.M).attemptFrom 0 true := rfl
theorem nfrom_eq (text : Array Nat) : ({ n00 text with lastStart := text.size } : Sre.M).attemptFrom 0 true = match Sre.M.admitted ({ n00 text with lastStart := text.size } : Sre.M) (text.size + 1 - 0) 0 (({} : Sre.Seen).add 14) with
  | .ok (some s, seen) => ({ n00 text with lastStart := text.size, mustAdvance := false, seen } : Sre.M).attemptAt s true
  | .ok (none, seen) => ({ n00 text with lastStart := text.size, seen } : Sre.M).say false
  | .error why => ({ n00 text with lastStart := text.size } : Sre.M).stick why := rfl
theorem nsearch_none {text : Array Nat} (h : ∀ i, i < text.size → nP (text.getD i 0) = false) : ∃ m', Builtin.Re.reDrive (2 ^ 64) (Sre.forSearch nCode text 0 0 text.size false) = pure m' ∧ m'.outcome = some .failed := by
  rw [nfor_eq]
  split
  · exact ⟨_, drive_failed rfl rfl rfl, rfl⟩
  · obtain ⟨sn, e⟩ := admitted_eq (m := { n00 text with lastStart := text.size }) (p := nP) n_set5 (text.size + 1 - 0) 0 (({} : Sre.Seen).add 14)
    rw [nfrom_eq, e]
    rw [show firstFrom nP ({ n00 text with lastStart := text.size } : Sre.M).text ({ n00 text with lastStart := text.size } : Sre.M).lim (text.size + 1 - 0) 0 = none from firstFrom_none _ _ fun i _ hi => h i hi]
    exact ⟨_, drive_failed rfl rfl rfl, rfl⟩
noncomputable def nBad (t : Str) : Bool := t.cps.toList.any nP
theorem nBad_no {t : Str} (h : nBad t = false) : ∀ i, i < t.cps.size → nP (t.cps.getD i 0) = false := fun i hi => by
  unfold nBad at h
  rw [List.any_eq_false] at h
  have e : t.cps.getD i 0 = t.cps[i] := by simp [Array.getD, hi]
  rw [e]
  have := h t.cps[i] (Array.getElem_mem_toList hi)
  cases hq : nP t.cps[i] with
  | true => exact absurd hq this
  | false => rfl
section
variable {w : World} {A : Around} {E : Value → Shared → Prop} {s : Shared} {text : Str} {tt : Tok}
noncomputable abbrev nItems : List Value := [.int 14 0, .int 10 0, .int 4 0, .int 1 0, .int 1 0, .int 22 0, .int 0 0, .int 31 0, .int 16 0, .int 127 0, .int 0 0, .int 13 0, .int 7 0, .int 22 0, .int 0 0, .int 31 0, .int 16 0, .int 127 0, .int 0 0, .int 1 0]
theorem n_items : ((nItems.toArray.map Builtin.Re.reRawOf).map (·.toNat)) = nCode := by decide +kernel
theorem n_at {h : Heap} (X : (K w.params).In h) : h.get? 178 = some (patObj (.str (Str.ofString "[\\x00-\\x1F\\x7F]") 576) (.int 32 599) .none .none 177) := X 178 _ (by kernel_rfl!)
theorem n_tab {h : Heap} (X : (K w.params).In h) : h.get? 177 = some ⟨.type "tuple", none, .seq nItems.toArray 0, #[]⟩ := X 177 _ (by kernel_rfl!)
theorem n_method {pl : Sem Bool} {Q : Value × List Value → Shared → Prop} (X : (K w.params).In s.heap) (h : Q (.builtin "re.Pattern.search", [.ref 178]) s) :
    wpAny (model prg w) A (getMethod (.ref 178) (Str.ofString "search") pl) Q E s := pat_method (n_at X) h
theorem n_search {Q : Value → Shared → Prop} (X : (K w.params).In s.heap) (hsz : text.length ≤ 2 ^ 63 - 1) (hb : nBad text = false) (h0 : Q .none s) :
    wpAny (model prg w) A (call (.builtin "re.Pattern.search") [.ref 178, .str text tt]) Q E s :=
  pat_search_none (n_at X) (n_tab X) hsz (by rw [n_items]; exact nsearch_none (nBad_no hb)) h0
end
end
section
noncomputable def Sel (C : Prop) (a n : Nat) : Prop := C → a < n
theorem sel0 {a n : Nat} {P : Prop} : Sel (a < n ∧ P) a n := fun h => h.1
theorem sel1 {a n : Nat} {C0 : Prop} {P : Prop} : Sel (C0 ∧ a < n ∧ P) a n := fun h => h.2.1
theorem sle1 {a n : Nat} {C0 : Prop} : Sel (C0 ∧ a < n) a n := fun h => h.2
theorem sel2 {a n : Nat} {C0 C1 : Prop} {P : Prop} : Sel (C0 ∧ C1 ∧ a < n ∧ P) a n := fun h => h.2.2.1
theorem sle2 {a n : Nat} {C0 C1 : Prop} : Sel (C0 ∧ C1 ∧ a < n) a n := fun h => h.2.2
theorem sel3 {a n : Nat} {C0 C1 C2 : Prop} {P : Prop} : Sel (C0 ∧ C1 ∧ C2 ∧ a < n ∧ P) a n := fun h => h.2.2.2.1
theorem sle3 {a n : Nat} {C0 C1 C2 : Prop} : Sel (C0 ∧ C1 ∧ C2 ∧ a < n) a n := fun h => h.2.2.2
theorem selS {a n : Nat} {C C0 C1 C2 C3 : Prop} (k : Sel C a n) : Sel (C0 ∧ C1 ∧ C2 ∧ C3 ∧ C) a n := fun h => k h.2.2.2.2
theorem sle4 {a n : Nat} {C0 C1 C2 C3 : Prop} : Sel (C0 ∧ C1 ∧ C2 ∧ C3 ∧ a < n) a n := fun h => h.2.2.2.2
theorem ne_c {a n b : Nat} {P : Prop} (H : b < n ∧ P) (k : Sel (b < n ∧ P) a n) : a ≠ n := Nat.ne_of_lt (k H)
theorem ne_d {a n b : Nat} {P : Prop} (H : b < n ∧ P) (k : Sel (b < n ∧ P) a n) : n ≠ a := Nat.ne_of_gt (k H)
theorem ne_c1 {a n b : Nat} {P : Prop} (H : b < n ∧ P) (k : Sel (b < n ∧ P) a n) : a ≠ n + 1 := Nat.ne_of_lt (Nat.lt_of_lt_of_le (k H) (by omega))
theorem ne_d1 {a n b : Nat} {P : Prop} (H : b < n ∧ P) (k : Sel (b < n ∧ P) a n) : n + 1 ≠ a := Nat.ne_of_gt (Nat.lt_of_lt_of_le (k H) (by omega))
theorem ne_c2 {a n b : Nat} {P : Prop} (H : b < n ∧ P) (k : Sel (b < n ∧ P) a n) : a ≠ n + 1 + 1 := Nat.ne_of_lt (Nat.lt_of_lt_of_le (k H) (by omega))
theorem ne_d2 {a n b : Nat} {P : Prop} (H : b < n ∧ P) (k : Sel (b < n ∧ P) a n) : n + 1 + 1 ≠ a := Nat.ne_of_gt (Nat.lt_of_lt_of_le (k H) (by omega))
theorem ne_c3 {a n b : Nat} {P : Prop} (H : b < n ∧ P) (k : Sel (b < n ∧ P) a n) : a ≠ n + 1 + 1 + 1 := Nat.ne_of_lt (Nat.lt_of_lt_of_le (k H) (by omega))
theorem ne_d3 {a n b : Nat} {P : Prop} (H : b < n ∧ P) (k : Sel (b < n ∧ P) a n) : n + 1 + 1 + 1 ≠ a := Nat.ne_of_gt (Nat.lt_of_lt_of_le (k H) (by omega))
theorem lt_c {a n b : Nat} {P : Prop} (H : b < n ∧ P) (k : Sel (b < n ∧ P) a n) : a < n := k H
theorem lt_p {a n b : Nat} {P : Prop} (H : b < n ∧ P) (k : Sel (b < n ∧ P) (a + 1) n) : a < n := Nat.lt_of_succ_lt (k H)
theorem bd {a b c k : Nat} (h : a ≤ b) (e : Nat.ble (b + k) c = true) : a + k ≤ c := Nat.le_trans (Nat.add_le_add_right h k) (Nat.le_of_ble_eq_true e)
theorem bd0 {a b c : Nat} (h : a ≤ b) (e : Nat.ble b c = true) : a ≤ c := Nat.le_trans h (Nat.le_of_ble_eq_true e)
theorem bd2 {a b c k j : Nat} (h : a ≤ b) (e : Nat.ble (b + k + j) c = true) : a + k + j ≤ c := Nat.le_trans (Nat.add_le_add_right (Nat.add_le_add_right h k) j) (Nat.le_of_ble_eq_true e)
theorem rm0 {a b c : Nat} (h : a ≤ b) (e : Nat.ble (b + 1) c = true) : a < c := Nat.lt_of_lt_of_le (Nat.lt_succ_of_le h) (Nat.le_of_ble_eq_true e)
theorem rm1 {a b c k : Nat} (h : a ≤ b) (e : Nat.ble (b + k + 1) c = true) : a + k < c := rm0 (Nat.add_le_add_right h k) e
theorem sz1 {a b c k : Nat} (s : a ≤ b + 1) (h : b ≤ k) (e : Nat.ble (k + 1) c = true) : a ≤ c := Nat.le_trans s (Nat.le_trans (Nat.succ_le_succ h) (Nat.le_of_ble_eq_true e))
theorem sz2 {a b c d k : Nat} (s : a ≤ b + 1) (s2 : b ≤ d + 1) (h : d ≤ k) (e : Nat.ble (k + 1 + 1) c = true) : a ≤ c := sz1 s (Nat.le_trans s2 (Nat.succ_le_succ h)) e
theorem sz3 {a b c d f k : Nat} (s : a ≤ b + 1) (s2 : b ≤ d + 1) (s3 : d ≤ f + 1) (h : f ≤ k) (e : Nat.ble (k + 1 + 1 + 1) c = true) : a ≤ c := sz2 s s2 (Nat.le_trans s3 (Nat.succ_le_succ h)) e
theorem ff0 {a : Str} {k c : Nat} (h : a.length ≤ k) (e : Nat.ble k c = true) : a.length ≤ c := Nat.le_trans h (Nat.le_of_ble_eq_true e)
theorem ff1 {a b : Str} {k c : Nat} (h : (a ++ b).length ≤ k) (e : Nat.ble k c = true) : a.length ≤ c := ff0 (Nat.le_trans (by rw [PySem.strLen_append]; exact Nat.le_add_right _ _) h) e
theorem ff2 {a b b2 : Str} {k c : Nat} (h : (a ++ b ++ b2).length ≤ k) (e : Nat.ble k c = true) : a.length ≤ c := ff1 (ff1 (c := k) h (Nat.ble_eq_true_of_le (Nat.le_refl _))) e
theorem ff3 {a b b2 b3 : Str} {k c : Nat} (h : (a ++ b ++ b2 ++ b3).length ≤ k) (e : Nat.ble k c = true) : a.length ≤ c := ff2 (ff1 (c := k) h (Nat.ble_eq_true_of_le (Nat.le_refl _))) e
theorem ff4 {a b b2 b3 b4 : Str} {k c : Nat} (h : (a ++ b ++ b2 ++ b3 ++ b4).length ≤ k) (e : Nat.ble k c = true) : a.length ≤ c := ff3 (ff1 (c := k) h (Nat.ble_eq_true_of_le (Nat.le_refl _))) e
theorem ltt {a d x : Nat} (h2 : d < x) (h1 : a < d) : a < x := Nat.lt_trans h1 h2
theorem nett {a d x : Nat} (h2 : d < x) (h1 : a < d) : a ≠ x := Nat.ne_of_lt (Nat.lt_trans h1 h2)
theorem nett' {a d x : Nat} (h2 : d < x) (h1 : a < d) : x ≠ a := Nat.ne_of_gt (Nat.lt_trans h1 h2)
theorem np1 {a : Nat} : a + 1 ≠ a := Nat.succ_ne_self a
theorem np2 {a : Nat} : a + 1 + 1 ≠ a := Nat.ne_of_gt (Nat.lt_succ_of_lt (Nat.lt_succ_self a))
theorem np3 {a : Nat} : a + 1 + 1 + 1 ≠ a := Nat.ne_of_gt (Nat.lt_succ_of_lt (Nat.lt_succ_of_lt (Nat.lt_succ_self a)))
theorem lt4 : ∀ {n : Nat}, n < 4 → n = 0 ∨ n = 1 ∨ n = 2 ∨ n = 3
  | 0, _ => .inl rfl
  | 1, _ => .inr (.inl rfl)
  | 2, _ => .inr (.inr (.inl rfl))
  | 3, _ => .inr (.inr (.inr rfl))
  | n + 4, h => absurd h (Nat.not_lt.mpr (Nat.le_add_left 4 n))
theorem subs1 {n i : Nat} (h : i < n) : n + 1 - (i + 1) < n + 1 - i := Nat.sub_lt_sub_left (Nat.lt_succ_of_lt h) (Nat.lt_succ_self i)
theorem i6 : ∀ {i : Int}, 0 ≤ i → i < 6 → i = 0 ∨ i = 1 ∨ i = 2 ∨ i = 3 ∨ i = 4 ∨ i = 5
  | .ofNat 0, _, _ => .inl rfl
  | .ofNat 1, _, _ => .inr (.inl rfl)
  | .ofNat 2, _, _ => .inr (.inr (.inl rfl))
  | .ofNat 3, _, _ => .inr (.inr (.inr (.inl rfl)))
  | .ofNat 4, _, _ => .inr (.inr (.inr (.inr (.inl rfl))))
  | .ofNat 5, _, _ => .inr (.inr (.inr (.inr (.inr rfl))))
  | .ofNat (n + 6), _, h => absurd (Int.ofNat_lt.mp (show ((n + 6 : Nat) : Int) < ((6 : Nat) : Int) from h)) (Nat.not_lt.mpr (Nat.le_add_left 6 n))
  | .negSucc n, h, _ => absurd (Int.negSucc_lt_zero n) (Int.not_lt.mpr h)
end
section
theorem mI0 {x : Addr × Obj} {l : List (Addr × Obj)} : x ∈ x :: l := .head _
theorem mI1 {a0 x : Addr × Obj} {l : List (Addr × Obj)} : x ∈ a0 :: x :: l := .tail _ (.head _)
theorem mI2 {a0 a1 x : Addr × Obj} {l : List (Addr × Obj)} : x ∈ a0 :: a1 :: x :: l := .tail _ mI1
theorem mI3 {a0 a1 a2 x : Addr × Obj} {l : List (Addr × Obj)} : x ∈ a0 :: a1 :: a2 :: x :: l := .tail _ mI2
theorem mT1 {a0 x : Addr × Obj} {l : List (Addr × Obj)} (h : x ∈ l) : x ∈ a0 :: l := .tail _ h
theorem mT4 {a0 a1 a2 a3 x : Addr × Obj} {l : List (Addr × Obj)} (h : x ∈ l) : x ∈ a0 :: a1 :: a2 :: a3 :: l := .tail _ (.tail _ (.tail _ (.tail _ h)))
theorem ne_cons {a q : Addr} {o : Obj} {l : List (Addr × Obj)} (h : a ≠ q) (t : ∀ p ∈ l, p.1 ≠ q) : ∀ p ∈ (a, o) :: l, p.1 ≠ q := List.forall_mem_cons.mpr ⟨h, t⟩
theorem ne_cons4 {a b c d q : Addr} {o o1 o2 o3 : Obj} {l : List (Addr × Obj)} (h : a ≠ q) (h1 : b ≠ q) (h2 : c ≠ q) (h3 : d ≠ q) (t : ∀ p ∈ l, p.1 ≠ q) : ∀ p ∈ (a, o) :: (b, o1) :: (c, o2) :: (d, o3) :: l, p.1 ≠ q := ne_cons h (ne_cons h1 (ne_cons h2 (ne_cons h3 t)))
theorem sub_cons {x : Addr × Obj} {l M : List (Addr × Obj)} (h : x ∈ M) (t : ∀ p ∈ l, p ∈ M) : ∀ p ∈ x :: l, p ∈ M := List.forall_mem_cons.mpr ⟨h, t⟩
theorem tokV {X : Tok} : TokVar X := trivial
theorem hk_g {a : Addr × Obj} {l : List (Addr × Obj)} {P : Addr × Obj → Prop} (h : ∀ r ∈ a :: l, P r) : ∀ r ∈ a :: l, P r := h
theorem hk_cons {a : Addr} {o o' : Obj} {l M : List (Addr × Obj)} (h : (a, o') ∈ M) (t : ∀ r ∈ l, ∃ o, (r.1, o) ∈ M) : ∀ r ∈ (a, o) :: l, ∃ o, (r.1, o) ∈ M := List.forall_mem_cons.mpr ⟨⟨_, h⟩, t⟩
theorem hk_sub {l M : List (Addr × Obj)} (t : ∀ p ∈ l, p ∈ M) : ∀ r ∈ l, ∃ o, (r.1, o) ∈ M := fun p hp => ⟨p.2, t p hp⟩
end
section
variable {w : World} {A₀ : Around} {d u : Nat} {gd : Option (List Code)} {base h₀ : Heap} {outer : List Env} {env : Env} {L : Addr} {m : Str → Option Value} {mean : ExcName → Option Value} {mg mb : Str → Option Value} {h : Heap} {g : Array GenState} {dr : Drawn} {tk : Tok} {os : OsState}
local macro_rules | `(tactic| k_room) => `(tactic| k_extra "k_room")
local macro_rules | `(tactic| k_units) => `(tactic| k_extra "k_units")
local macro_rules | `(tactic| k_all) => `(tactic| k_extra "k_all")
local macro_rules | `(tactic| k_mem) => `(tactic| k_extra "k_mem")
local macro_rules | `(tactic| kds_road) => `(tactic| k_extra "kds_road")
local macro_rules | `(tactic| kln_le) => `(tactic| k_extra "kln_le")
local macro_rules | `(tactic| k_ne) => `(tactic| k_extra "k_ne")
local macro_rules | `(tactic| kat_tups) => `(tactic| k_extra "kat_tups")
local macro_rules | `(tactic| kas_types) => `(tactic| k_extra "kas_types")
local macro_rules | `(tactic| ktu_offI) => `(tactic| k_extra "ktu_offI")
local macro_rules | `(tactic| size_fits) => `(tactic| k_extra "size_fits")
local macro_rules | `(tactic| k_upd) => `(tactic| k_extra "k_upd")
local macro_rules | `(tactic| k_enter) => `(tactic| k_extra "k_enter")
local macro_rules | `(tactic| ke_shaped) => `(tactic| k_extra "ke_shaped")
local macro_rules | `(tactic| walk_at $s:str) => `(tactic| k_extra $s)
local macro_rules | `(tactic| k_steps) => `(tactic| repeat' (first | (k_unfold; (try dsimp only)) | (k_end; kc_close) | ((try dsimp only); (try k_extra "fold"); walk1) | (leave1; (try dsimp only)) | fail "no step"))
theorem rowsBaseJ120 : True := by
  k_with "k_room" => ((simp only [depth_under_make, depth_under_kw, depth_in1, depth_deeper, recursionLimit]); omega)
  k_with "k_room" => first | exact rm1 hd1 rfl | exact rm0 hd1 rfl | exact rm0 hd rfl | exact rm1 hd rfl
  k_with "k_units" => ((simp only [units_deeper, units_in1, Around.mark_units, cLine]); omega)
  k_with "k_units" => first | exact bd hd1 rfl | exact bd hu1 rfl | exact bd0 hd1 rfl | exact bd0 hu1 rfl | exact bd2 hd1 rfl | exact bd2 hu1 rfl | fail
  k_with "subscriptTail Name Constant ref str" => (k_here; (with_reducible show wpAny _ _ (subscriptTail _ _ (Value.ref _) (Value.str _ _)) _ _ _); k_dflt (refine dget (by k_asm) (by k_mem) (by k_asm) (by exact rfl) ?_; k_whole))
  k_with "k_all" => first | with_reducible assumption | exact below_ne0 (by with_reducible assumption) | exact allLt_ne (by with_reducible assumption) | exact below_ne1 (by with_reducible assumption) | exact below_ne2 (by with_reducible assumption) | exact below_ne11 (by with_reducible assumption) | exact below_ne111 (by with_reducible assumption) | (refine ne_cons ?_ ?_; k_ne; k_all) | (refine Up.ne (by with_reducible assumption) ?_ (by k_mem); k_all)
  k_with "getMethod ref" => (k_here; k_dflt (first | (refine' v_method (by k_in) ?_) | (refine' n_method (by k_in) ?_)))
  k_with "truthy ref" => (k_here; k_dflt (refine' truth_match (by exact News.get (by k_asm) (by k_mem)) ?_))
  k_with "call builtin:list.append" => (k_here; (try dsimp only [List.cons_append, List.nil_append]); k_dflt (refine append_K (by k_asm) (by k_asm) (by k_upd) ?_ (by size_fits)); intro h'ₓ F'ₓ N'ₓ; (try k_sweep))
  k_with "ite" => (k_here; first | (with_reducible refine ite_tt ?_) | (with_reducible refine ite_ff ?_) | (k_closed; first | (with_reducible refine ite_pos (by k_dflt decide) ?_) | (with_reducible refine ite_neg (by k_dflt decide) ?_)))
  k_with "k_mem" => first | with_reducible assumption | assumption | exact mI0 | exact mI1 | exact mI2 | exact mI3 | (refine mT4 ?_; k_extra "k_mem") | (refine mT1 ?_; k_extra "k_mem") | (refine Up.mem (by with_reducible assumption) ?_; k_extra "k_mem")
  k_with "execs cons" => (k_here; (try dsimp only); (fail_if_success (refine' gen_tok (by with_reducible assumption) ?_)); refine gen_tok trivial ?_; intro tkₓ htkₓ)
  k_with "callWith" => (k_here; (with_reducible show wpAny _ _ (callWith _ (Value.builtin _) [_] (backTo _ (starEach [_] _)) []) _ _ _); k_dflt (refine callWith_method1 ?_))
  k_with "callWith ref" => (k_here; (with_reducible show wpAny _ _ (callWith _ (Value.ref _) _ (backTo _ (starEach (_ :: _) _)) []) _ _ _); k_dflt (refine callWith_K (by k_asm) (by k_is) ?_; k_whole))
  k_with "callWith ref" => (k_here; (with_reducible show wpAny _ _ (callWith _ (Value.ref _) _ (backTo _ (starEach (_ :: _) _)) (backToKw _ _)) _ _ _); k_dflt (refine callWith_KW (by k_asm) (by k_is) (by exact rfl) ?_; k_whole))
  k_with "kds_road" => first | exact sel0 | exact sle1 | exact sel1 | exact sle2 | exact sel2 | exact sle3 | exact sel3 | exact sle4 | (refine selS ?_; kds_road)
  k_with "kln_le" => first | with_reducible assumption | exact bd hd1 rfl | exact bd hu1 rfl | exact bd0 hd1 rfl | exact bd0 hu1 rfl | exact bd2 hd1 rfl | exact bd2 hu1 rfl | exact bd0 (by with_reducible assumption) rfl | exact bd (by with_reducible assumption) rfl | exact bd2 (by with_reducible assumption) rfl | exact sz1 (by with_reducible assumption) (by with_reducible assumption) rfl | exact sz2 (by with_reducible assumption) (by with_reducible assumption) (by with_reducible assumption) rfl | exact sz3 (by with_reducible assumption) (by with_reducible assumption) (by with_reducible assumption) (by with_reducible assumption) rfl | (with_reducible first | (refine lt_c (by assumption) ?_; kds_road) | (refine lt_p (by assumption) ?_; kds_road) | (refine ltt (by assumption) ?_; refine lt_c (by assumption) ?_; kds_road) | (refine ltt (by assumption) ?_; refine lt_p (by assumption) ?_; kds_road) | (refine ltt (by assumption) ?_; refine ltt (by assumption) ?_; refine lt_p (by assumption) ?_; kds_road) | (refine ltt (by assumption) ?_; refine ltt (by assumption) ?_; refine lt_c (by assumption) ?_; kds_road) | exact Nat.lt_succ_self _ | exact Nat.lt_succ_of_lt (Nat.lt_succ_self _)) | omega
  k_with "k_ne" => first | with_reducible assumption | exact Ne.symm (by with_reducible assumption) | (with_reducible first | (refine ne_c (by assumption) ?_; kds_road) | (refine ne_d (by assumption) ?_; kds_road) | (refine ne_c1 (by assumption) ?_; kds_road) | (refine ne_d1 (by assumption) ?_; kds_road) | (refine ne_c2 (by assumption) ?_; kds_road) | (refine ne_d2 (by assumption) ?_; kds_road) | (refine ne_c3 (by assumption) ?_; kds_road) | (refine ne_d3 (by assumption) ?_; kds_road) | (refine nett (by assumption) ?_; refine lt_c (by assumption) ?_; kds_road) | (refine nett' (by assumption) ?_; refine lt_c (by assumption) ?_; kds_road) | (refine nett (by assumption) ?_; refine ltt (by assumption) ?_; refine lt_c (by assumption) ?_; kds_road) | (refine nett' (by assumption) ?_; refine ltt (by assumption) ?_; refine lt_c (by assumption) ?_; kds_road) | exact np1 | exact np2 | exact np3 | exact np1.symm | exact np2.symm | exact np3.symm) | (refine neN ?_; (try dsimp only); omega)
  k_with "getMethod ref" => (k_here; k_dflt (first | (refine method_inst (by k_asm) (by k_asm) (by k_inst) (by k_is) (by k_is) (by k_is) (by k_get) ?_; k_whole) | (refine kmu_own (by k_asm) (by k_asm) (by k_inst) (by k_is) (by k_is) ?_; k_whole)))
  k_with "kat_tups" => with_reducible k_mem
  k_with "kas_types" => first | (refine hk_g ?_; refine hk_cons (by kat_tups) ?_; kas_types) | exact hk_sub (fun pₓ hpₓ => by kat_tups)
  k_with "ktu_offI" => first | (refine sub_cons ?_ ?_; kat_tups; ktu_offI) | exact fun pₓ hpₓ => by kat_tups
  k_with "size_fits" => first | exact ff0 (by with_reducible assumption) (by decide) | exact ff1 (by with_reducible assumption) (by decide) | exact ff2 (by with_reducible assumption) (by decide) | exact ff3 (by with_reducible assumption) (by decide) | exact ff4 (by with_reducible assumption) (by decide)
  k_with "fold" => ((with_reducible show wpAny _ _ (exec (Stmt.If _ _ _ _) _) _ _ _); k_fold)
  k_with "fold" => ((with_reducible show wpAny _ _ (exec (Stmt.Assign _ _ _) _) _ _ _); k_fold)
  k_with "fold" => ((with_reducible show wpAny _ _ (exec (Stmt.Expr _ _) _) _ _ _); k_fold)
  k_with "fold" => ((with_reducible show wpAny _ _ (exec (Stmt.AugAssign _ _ _ _) _) _ _ _); k_fold)
  k_with "fold" => ((with_reducible show wpAny _ _ (exec (Stmt.Return _ _) _) _ _ _); k_fold)
  k_with "exec If" => (k_here; (with_reducible show wpAny _ _ (exec (Stmt.If (Expr.Compare (Expr.Name _ _) [CmpOp.Eq] [Expr.Constant (Const.str _) _ _] _) _ _ _) _) _ _ _); k_dflt (first | (refine If_eqn (by k_asm) (by k_in) (by first | rfl | with_reducible assumption | exact lk_here | exact lk_skip (by decide +kernel) (by with_reducible assumption)) (by decide) ?_) | (refine If_eqf (by k_asm) (by k_in) (by first | rfl | with_reducible assumption | exact lk_here | exact lk_skip (by decide +kernel) (by with_reducible assumption)) (by decide) ?_) | (refine If_eqt (by k_asm) (by k_in) (by first | rfl | with_reducible assumption | exact lk_here | exact lk_skip (by decide +kernel) (by with_reducible assumption)) (by decide) ?_) | (refine If_eq (by k_asm) (by k_in) (by first | rfl | with_reducible assumption | exact lk_here | exact lk_skip (by decide +kernel) (by with_reducible assumption)) (by rfl) (by rfl) (by decide) (fun eqvₓ => ?_) (fun eqvₓ => ?_))))
  k_with "eval Subscript" => (k_here; (with_reducible show wpAny _ _ (eval (Expr.Subscript (Expr.Name _ _) (Expr.Constant (Const.str _) _ _) _) _) _ _ _); k_dflt (refine sub_dict (by k_asm) (by k_in) (by first | rfl | with_reducible assumption | exact lk_here | exact lk_skip (by decide +kernel) (by with_reducible assumption)) (by k_asm) (by k_mem) (by k_asm) (by exact rfl) ?_; k_whole))
  k_with "eval Attribute Name" => (k_here; (with_reducible show wpAny _ _ (eval (Expr.Attribute (Expr.Name _ _) _ _) _) _ _ _); k_dflt (refine attr_own (by k_asm) (by k_in) (by first | rfl | with_reducible assumption | exact lk_here | exact lk_skip (by decide +kernel) (by with_reducible assumption)) (by k_inst) (by k_is) (by k_is) (by k_is) (by k_is) (by k_get) (by k_handed) ?_; k_whole))
  k_with "getMethod ref" => (k_here; (with_reducible show wpAny _ _ (getMethod (Value.ref _) (Str.ofString "append") _) _ _ _); k_dflt (refine' listMethod_K (by k_asm) (by k_mem) PySem.F.slot_list_append PySem.F.type_list_append ?_))
  trivial
section
namespace NX3
theorem hereX3 : True := trivial
end NX3
open NX3
theorem lk_here {m : Str → Option Value} {x : Str} {v : Option Value} : (if x = x then v else m x) = v := if_pos rfl
theorem lk_skip {m : Str → Option Value} {x y : Str} {v z : Option Value} (h : y ≠ x) (hm : m y = z) : (if y = x then v else m y) = z := (if_neg h).trans hm
section
variable {w : World} {A : Around} {E : Value → Shared → Prop} {s : Shared} {h₀ : Heap} {L a : Addr} {m : Str → Option Value} {cn : Str} {cs : Scope} {ccd : Value} {cl : List (Str × Addr)} {x : Str} {p p2 p3 pos : Pos} {n : Nat}
section
variable {Q : Flow → Shared → Prop} {lit t : Str} {tt : Tok} {body orelse : List Stmt}
theorem rowsX30 : True := by
  k_with "eval Name" => (fail_if_success fail_if_success have q := hereX3); (k_here; k_dflt (refine' nameX_L (by assumption) (by assumption) ?_ hk hx hd; k_whole))
  k_with "subscriptTail Name Constant ref str" => (fail_if_success fail_if_success have q := hereX3); (k_here; k_dflt (refine dget (by assumption) hm ho hl ?_))
  k_with "getAttr ref" => (fail_if_success fail_if_success have q := hereX3); (k_here; k_dflt (refine get_own (by assumption) (by assumption) I hg hh ha hn hl hw ?_))
  trivial
theorem If_eq (F : Fr h₀ L s.heap m) (X : (K w.params).In h₀) (hv : m x = some (.str t tt)) (hk : cs.kind = .function) (hx : (envX cn cs L a ccd cl).kindOf x = some .local) (hd : (x == ("__debug__" : Str)) = false)
    (h1 : (t == lit) = true → wpAny (model prg w) A (execs body (envX cn cs L a ccd cl)) Q E ⟨s.heap, s.gens, s.drawn, s.toks + 1, s.os⟩)
    (h0 : (t == lit) = false → wpAny (model prg w) A (execs orelse (envX cn cs L a ccd cl)) Q E ⟨s.heap, s.gens, s.drawn, s.toks + 1, s.os⟩) :
    wpAny (model prg w) A (exec (.If (.Compare (.Name x p) [.Eq] [.Constant (.str lit) n p2] p3) body orelse pos) (envX cn cs L a ccd cl)) Q E s := by
  obtain ⟨h, g, dr, tk, os⟩ := s
  dsimp only at *
  have hrow : PySem.Challenge.rw_pe0292_01 = _ := rfl
  revert hrow X; k_fill; w_top on; intro X _
  k_steps
  · exact h1 (by assumption)
  · exact h0 (by assumption)
theorem If_eqt (F : Fr h₀ L s.heap m) (X : (K w.params).In h₀) (hv : m x = some (.str t tt)) (hb : (t == lit) = true) (h : wpAny (model prg w) A (execs body (envX cn cs L a ccd cl)) Q E ⟨s.heap, s.gens, s.drawn, s.toks + 1, s.os⟩)
    (hk : cs.kind = .function := by rfl) (hx : (envX cn cs L a ccd cl).kindOf x = some .local := by rfl) (hd : (x == ("__debug__" : Str)) = false := by decide) :
    wpAny (model prg w) A (exec (.If (.Compare (.Name x p) [.Eq] [.Constant (.str lit) n p2] p3) body orelse pos) (envX cn cs L a ccd cl)) Q E s :=
  If_eq F X hv hk hx hd (fun _ => h) fun z => Bool.noConfusion (z.symm.trans hb)
theorem If_eqf (F : Fr h₀ L s.heap m) (X : (K w.params).In h₀) (hv : m x = some (.str t tt)) (hb : (t == lit) = false) (h : wpAny (model prg w) A (execs orelse (envX cn cs L a ccd cl)) Q E ⟨s.heap, s.gens, s.drawn, s.toks + 1, s.os⟩)
    (hk : cs.kind = .function := by rfl) (hx : (envX cn cs L a ccd cl).kindOf x = some .local := by rfl) (hd : (x == ("__debug__" : Str)) = false := by decide) :
    wpAny (model prg w) A (exec (.If (.Compare (.Name x p) [.Eq] [.Constant (.str lit) n p2] p3) body orelse pos) (envX cn cs L a ccd cl)) Q E s :=
  If_eq F X hv hk hx hd (fun z => Bool.noConfusion (z.symm.trans hb)) fun _ => h
theorem If_eqn (F : Fr h₀ L s.heap m) (X : (K w.params).In h₀) (hv : m x = some (.str t tt)) (hb : (t == lit) = false) (h : Q .next ⟨s.heap, s.gens, s.drawn, s.toks + 1, s.os⟩)
    (hk : cs.kind = .function := by rfl) (hx : (envX cn cs L a ccd cl).kindOf x = some .local := by rfl) (hd : (x == ("__debug__" : Str)) = false := by decide) :
    wpAny (model prg w) A (exec (.If (.Compare (.Name x p) [.Eq] [.Constant (.str lit) n p2] p3) body [] pos) (envX cn cs L a ccd cl)) Q E s :=
  If_eqf F X hv hb (wpAny_execs_nil h) hk hx hd
end
section
variable {Q : Value → Shared → Prop}
theorem sub_dict {d : Addr} {o : Obj} {k : Str} {v : Value} {kvs : List (Str × Value)} {news : List (Addr × Obj)} (F : Fr h₀ L s.heap m) (X : (K w.params).In h₀) (hv : m x = some (.ref d)) (N : News h₀ L s.heap news) (hm : (d, o) ∈ news) (ho : o.IsDictOf (strKind prg w) kvs) (hl : valueAt kvs k = some v)
    (h : Q v ⟨s.heap, s.gens, s.drawn, s.toks + 1 + 1, s.os⟩) (hk : cs.kind = .function := by rfl) (hx : (envX cn cs L a ccd cl).kindOf x = some .local := by rfl) (hd : (x == ("__debug__" : Str)) = false := by decide) :
    wpAny (model prg w) A (eval (.Subscript (.Name x p) (.Constant (.str k) n p2) p3) (envX cn cs L a ccd cl)) Q E s := by
  obtain ⟨h, g, dr, tk, os⟩ := s
  dsimp only at *
  have hrow : PySem.Challenge.rw_pe0292_01 = _ := rfl
  revert hrow X; k_fill; w_top on; intro X _
  k_steps
  exact h
theorem attr_own {x1 C : Addr} {ox : Obj} {attr : Str} {es : List DictEntry} {v : Value} {fa : Option Value} (F : Fr h₀ L s.heap m) (X : (K w.params).In h₀) (hv : m x = some (.ref x1)) (I : W.InstAt s.heap x1 ox C (some (dictOf es n))) (hg : plainGet (K w.params) C attr = true) (hh : hasDictIn (K w.params) C = true)
    (ha : findIn (K w.params) (.ref C) attr = some fa) (hn : noGet (K w.params) fa = true) (hl : getL attr es = some (some v)) (hw : handedIn v = true) (h : Q v ⟨s.heap, s.gens, s.drawn, s.toks + 1, s.os⟩)
    (hk : cs.kind = .function := by rfl) (hx : (envX cn cs L a ccd cl).kindOf x = some .local := by rfl) (hd : (x == ("__debug__" : Str)) = false := by decide) :
    wpAny (model prg w) A (eval (.Attribute (.Name x p) attr p2) (envX cn cs L a ccd cl)) Q E s := by
  obtain ⟨h, g, dr, tk, os⟩ := s
  dsimp only at *
  have hrow : PySem.Challenge.rw_pe0292_01 = _ := rfl
  revert hrow X; k_fill; w_top on; intro X _
  k_steps
  exact h
end
end
end
section
noncomputable abbrev stK (held depth frm seen laid : Value) : List (Str × Value) := [(Str.ofString "held", held), (Str.ofString "depth", depth), (Str.ofString "from", frm), (Str.ofString "seen", seen), (Str.ofString "laid", laid)]
theorem lay_binds (a b : Value) : bindArgs (fnOf (Str.ofString "_law_lay") (Str.ofString "_law_lay") (fPar (stA 18)) (fBody (stA 18)) (fScope (stA 18)) .none .none .none (.str (Str.ofString "law_pe0292_01") 802) none (.ref 327) .none) ⟨[a, b], []⟩ = pure [(Str.ofString "state", a), (Str.ofString "text", b)] := by kernel_rfl!
noncomputable def bad (t : Str) : Bool := decide (10 ∈ t.cps.toList) || decide (127 ∈ t.cps.toList)
theorem nl_is : Str.ofString "\n" = ⟨#[10]⟩ := by decide +kernel
theorem del_is : Str.ofString "\x7f" = ⟨#[127]⟩ := by decide +kernel
theorem bad_nl {t : Str} (h : (Builtin.Str.occurrences t (Str.ofString "\n") 0 t.length 1).isEmpty = false) : bad t = true := by
  have := StrLaws.found_one t 10
  rw [← nl_is, h] at this
  unfold bad; rw [← this]; rfl
theorem bad_del {t : Str} (h : (Builtin.Str.occurrences t (Str.ofString "\x7f") 0 t.length 1).isEmpty = false) : bad t = true := by
  have := StrLaws.found_one t 127
  rw [← del_is, h] at this
  unfold bad; rw [← this, Bool.not_false, Bool.or_true]
theorem bad_no {t : Str} (h : (Builtin.Str.occurrences t (Str.ofString "\n") 0 t.length 1).isEmpty = true) (h2 : (Builtin.Str.occurrences t (Str.ofString "\x7f") 0 t.length 1).isEmpty = true) : bad t = false := by
  have e := StrLaws.found_one t 10
  have e2 := StrLaws.found_one t 127
  rw [← nl_is, h] at e
  rw [← del_is, h2] at e2
  unfold bad; rw [← e, ← e2]; rfl
set_option maxHeartbeats 8000000
theorem lay_spec {w : World} {A₀ : Around} {d u : Nat} {gd : Option (List Code)} {base h₀ : Heap} {outer : List Env} {env : Env} {L : Addr} {m : Str → Option Value} {mean : ExcName → Option Value} {mg mb : Str → Option Value} {s : Shared} {news news' : List (Addr × Obj)}
    {R : Result → Shared → Prop} {st ll : Addr} {o : Obj} {text : Str} {tt ft : Tok} {frm : Int} {items : Array Value} {n : Nat} {held depth seen : Value}
    (cx : Cx w A₀ base h₀ outer env L m mean mg mb s ((st, o) :: (ll, listOf items n) :: news) d u) (ho : o.IsDictOf (strKind prg w) (stK held depth (.int frm ft) seen (.ref ll)))
    (hne : st ≠ ll) (hnews : ∀ p ∈ news, p.1 ≠ ll) (hlen : items.size ≤ 1000)
    (hF : bad text = true → Back s h₀ L m ((st, o) :: (ll, listOf items n) :: news) (.bool false) R)
    (hT : bad text = false → ∀ q, (st < q ∧ ll < q ∧ AllLt q news) → Back s h₀ L m ((q, ({ cls := .type "tuple", data := .seq #[.int frm ft, .str text tt] } : Obj)) :: (st, o) :: (ll, listOf (items.push (.ref q)) (n + 1)) :: news) (.bool true) R) :
    codeAny (model prg w) (Ar d u gd env outer) (.call (.ref 328) ⟨[.ref st, .str text tt], []⟩) R s := by
  obtain ⟨B, F, X, N, T, hf, hke, hd, hu⟩ := cx
  have hrow : PySem.Challenge.rw_pe0292_01 = _ := rfl
  revert hrow X; k_fill; w_top on; intro X _
  refine' code_def B F X N T rfl hf hke ?k6 ?k7 ?k8 (BindsTo.of_eq (lay_binds _ _)) ?kB ?_ ?c2 ?c3 ?c4 ?c5
  case k6 => k_is
  case k7 => k_is
  case k8 => k_room
  case kB => exact locs rfl
  case c2 => exact rfl
  case c3 => exact rfl
  case c4 => exact rfl
  case c5 => decide
  intro g' L' h' FG' F' N' B' X' T'
  (try dsimp only); (try ((with_reducible show wpAny _ _ _ _ _ _); k_fold))
  k_steps
  all_goals first
    | exact hF (bad_nl (by assumption)) _ _ _ _ id (by assumption) (by assumption)
    | exact hF (bad_del (by assumption)) _ _ _ _ id (by assumption) (by assumption)
    | exact hT (bad_no (by assumption) (by assumption)) _ (by assumption) _ _ _ _ id (by assumption) (by assumption)
    | skip
end
section
namespace NT3b
theorem hereT3b : True := trivial
end NT3b
open NT3b
theorem rowsT3b0 : True := by
  k_with "call builtin:re.Pattern.search" => (fail_if_success fail_if_success have q := hereT3b); (k_here; k_dflt (first | (refine' n_search (by k_in) (by assumption) (by assumption) ?_) | (refine' v_search (by k_asm) (by k_asm) (by k_in) (by assumption) ?_ ?_; (intro hb'ₓ; rotate_left 1); (intro hb'ₓ r'ₓ vs'ₓ h'ₓ F'ₓ N'ₓ l1ₓ; (try k_lt l1ₓ); (try k_sweep); rotate_left 1))))
  k_with "exec Raise some none" => (fail_if_success fail_if_success have q := hereT3b); (k_here; (with_reducible show wpAny _ _ (exec (Stmt.Raise (some (Expr.Call (Expr.Name ("ValueError" : Str) _) (_ :: _) [] _)) none _) _) _ _ _); (with_reducible rename Fr _ _ _ _ => kFₓ); k_dflt (refine' Raise_madeB PySem.F.excCall_ValueError PySem.F.excRaise_ValueError (by first | exact rfl | assumption) ?_; refine' name_B kFₓ (by k_asm) (by k_asm) (by k_is) (by boot_by_name) (by decide) ?_; refine ⟨rfl, ?_⟩))
  trivial
set_option maxHeartbeats 8000000
theorem conv_binds (a b c : Value) : bindArgs (fnOf (Str.ofString "_convert_string_type") (Str.ofString "Headers._convert_string_type") (fPar (sub (stA 15) 1)) (fBody (sub (stA 15) 1)) (fScope (sub (stA 15) 1)) .none .none .none (.str (Str.ofString "cpy313.wsgiref.headers") 539) none (.ref 212) .none) ⟨[a, b], [(Str.ofString "name", c)]⟩ = pure [(Str.ofString "self", a), (Str.ofString "value", b), (Str.ofString "name", c)] := by kernel_rfl!
theorem conv_spec {w : World} {A₀ : Around} {d u : Nat} {gd : Option (List Code)} {base h₀ : Heap} {outer : List Env} {env : Env} {L : Addr} {m : Str → Option Value} {mean : ExcName → Option Value} {mg mb : Str → Option Value} {s : Shared} {news : List (Addr × Obj)}
    {R : Result → Shared → Prop} {self : Value} {text : Str} {tt : Tok}
    (cx : Cx w A₀ base h₀ outer env L m mean mg mb s news d u) (hsz : text.length ≤ 2 ^ 63 - 1)
    (hF : vBad text = false → Back s h₀ L m news (.str text tt) R) (hT : vBad text = true → Boom s base h₀ outer env L m news R) :
    codeAny (model prg w) (Ar d u gd env outer) (.call (.ref 213) ⟨[self, .str text tt], [(Str.ofString "name", .bool false)]⟩) R s := by
  obtain ⟨B, F, X, N, T, hf, hke, hd, hu⟩ := cx
  have hrow : PySem.Challenge.rw_pe0292_01 = _ := rfl
  revert hrow X; k_fill; w_top on; intro X _
  refine' code_def B F X N T rfl hf hke ?k6 ?k7 ?k8 (BindsTo.of_eq (conv_binds _ _ _)) ?kB ?_ ?c2 ?c3 ?c4 ?c5
  case k6 => k_is
  case k7 => k_is
  case k8 => k_room
  case kB => exact locs rfl
  case c2 => exact rfl
  case c3 => exact rfl
  case c4 => exact rfl
  case c5 => decide
  intro g' L' h' FG' F' N' B' X' T'
  (try dsimp only); (try ((with_reducible show wpAny _ _ _ _ _ _); k_fold))
  k_steps
  all_goals first
    | exact hF (by assumption) _ _ _ _ id (by assumption) (by assumption)
    | exact hT (by assumption) _ _ _ _ _ _ _ _ id (raised_sub (by assumption) fun p hp => .tail _ hp) (by assumption) (by assumption)
end
section
namespace NT4
theorem hereT4 : True := trivial
end NT4
open NT4
theorem rowsT40 : True := by
  k_with "call builtin:re.Pattern.search" => (fail_if_success fail_if_success have q := hereT4); (k_here; k_dflt (first | (refine' n_search (by k_in) (by assumption) (by assumption) ?_) | (refine' v_search (by k_asm) (by k_asm) (by k_in) (by assumption) ?_ ?_; (intro hb'ₓ; rotate_left 1); (intro hb'ₓ r'ₓ vs'ₓ h'ₓ F'ₓ N'ₓ l1ₓ; (try k_lt l1ₓ); (try k_sweep); rotate_left 1))))
  k_with "exec Raise some none" => (fail_if_success fail_if_success have q := hereT4); (k_here; (with_reducible show wpAny _ _ (exec (Stmt.Raise (some (Expr.Call (Expr.Name ("ValueError" : Str) _) (_ :: _) [] _)) none _) _) _ _ _); (with_reducible rename Fr _ _ _ _ => kFₓ); k_dflt (refine' Raise_madeB PySem.F.excCall_ValueError PySem.F.excRaise_ValueError (by first | exact rfl | assumption) ?_; refine' name_B kFₓ (by k_asm) (by k_asm) (by k_is) (by boot_by_name) (by decide) ?_; refine ⟨rfl, ?_⟩))
  trivial
theorem convN_spec {w : World} {A₀ : Around} {d u : Nat} {gd : Option (List Code)} {base h₀ : Heap} {outer : List Env} {env : Env} {L : Addr} {m : Str → Option Value} {mean : ExcName → Option Value} {mg mb : Str → Option Value} {s : Shared} {news : List (Addr × Obj)}
    {R : Result → Shared → Prop} {self : Value} {text : Str} {tt : Tok}
    (cx : Cx w A₀ base h₀ outer env L m mean mg mb s news d u) (hsz : text.length ≤ 2 ^ 63 - 1) (hnb : nBad text = false)
    (hF : Back s h₀ L m news (.str text tt) R) :
    codeAny (model prg w) (Ar d u gd env outer) (.call (.ref 213) ⟨[self, .str text tt], [(Str.ofString "name", .bool true)]⟩) R s := by
  obtain ⟨B, F, X, N, T, hf, hke, hd, hu⟩ := cx
  have hrow : PySem.Challenge.rw_pe0292_01 = _ := rfl
  revert hrow X; k_fill; w_top on; intro X _
  refine' code_def B F X N T rfl hf hke ?k6 ?k7 ?k8 (BindsTo.of_eq (conv_binds _ _ _)) ?kB ?_ ?c2 ?c3 ?c4 ?c5
  case k6 => k_is
  case k7 => k_is
  case k8 => k_room
  case kB => exact locs rfl
  case c2 => exact rfl
  case c3 => exact rfl
  case c4 => exact rfl
  case c5 => decide
  intro g' L' h' FG' F' N' B' X' T'
  (try dsimp only); (try ((with_reducible show wpAny _ _ _ _ _ _); k_fold))
  k_steps
  all_goals exact hF _ _ _ _ id (by assumption) (by assumption)
end
section
namespace NE1
theorem hereE1 : True := trivial
end NE1
open NE1
set_option maxHeartbeats 8000000
noncomputable abbrev txM (v : Value) : Str → Option Value := fun y => List.lookup y [(Str.ofString "text", v)].reverse
noncomputable def subs (k : Nat) (z : List Nat) (l : List Nat) : List Nat := l.flatMap fun a => if a = k then z else [a]
theorem subs_append (k : Nat) (z a b : List Nat) : subs k z (a ++ b) = subs k z a ++ subs k z b := List.flatMap_append
theorem subs_free (k : Nat) (z : List Nat) : ∀ l : List Nat, k ∉ l → subs k z l = l
  | [], _ => rfl
  | a :: r, h => by
    have h1 : ¬ a = k := fun e => h (e ▸ List.mem_cons_self ..)
    have h2 : k ∉ r := fun m => h (List.mem_cons_of_mem _ m)
    show (if a = k then z else [a]) ++ subs k z r = _
    rw [if_neg h1, subs_free k z r h2]; rfl
theorem subs_join (k : Nat) (z : Str) : ∀ parts : List Str, (∀ p ∈ parts, k ∉ p.cps.toList) → subs k z.cps.toList (Str.join ⟨#[k]⟩ parts).cps.toList = (Str.join z parts).cps.toList
  | [], _ => rfl
  | [p], h => subs_free k _ _ (h p (List.mem_singleton.mpr rfl))
  | p :: q :: r, h => by
    have ih := subs_join k z (q :: r) fun a ha => h a (List.mem_cons_of_mem _ ha)
    show subs k z.cps.toList (p ++ ⟨#[k]⟩ ++ Str.join ⟨#[k]⟩ (q :: r)).cps.toList = (p ++ z ++ Str.join z (q :: r)).cps.toList
    simp only [Str.cps_append, Array.toList_append]
    rw [subs_append, subs_append, ih, subs_free k _ _ (h p (List.mem_cons_self ..))]
    show p.cps.toList ++ subs k z.cps.toList [k] ++ _ = _
    have e : subs k z.cps.toList [k] = z.cps.toList := by show (if k = k then z.cps.toList else [k]) ++ [] = _; rw [if_pos rfl, List.append_nil]
    rw [e]
theorem replace_subs (x z : Str) (k : Nat) : (Txt.replace x ⟨#[k]⟩ z).cps.toList = subs k z.cps.toList x.cps.toList := by
  rw [StrLaws.replace_one, ← subs_join k z _ (StrLaws.split_free x k), StrLaws.join_split]
theorem subs_len (k : Nat) (z : List Nat) (hz : z.length ≤ 6) : ∀ l : List Nat, (subs k z l).length ≤ 6 * l.length
  | [] => by simp [subs]
  | a :: r => by
    have ih := subs_len k z hz r
    have e : subs k z (a :: r) = (if a = k then z else [a]) ++ subs k z r := rfl
    rw [e, List.length_append, List.length_cons]
    split <;> (try simp only [List.length_cons, List.length_nil]) <;> kln_le
theorem replace_len (x z : Str) (k : Nat) (hz : z.length ≤ 6) : (Txt.replace x ⟨#[k]⟩ z).length ≤ 6 * x.length := by
  have := subs_len k z.cps.toList hz x.cps.toList
  rw [← replace_subs] at this
  exact this
theorem replace_none (x z : Str) (k : Nat) (h : (Builtin.Str.occurrences x ⟨#[k]⟩ 0 x.length 1).isEmpty = true) : Txt.replace x ⟨#[k]⟩ z = x := by
  have e := StrLaws.found_one x k
  rw [h] at e
  have e2 : k ∉ x.cps.toList := of_decide_eq_false e.symm
  have e3 := replace_subs x z k
  rw [subs_free k _ _ e2] at e3
  cases hx : Txt.replace x ⟨#[k]⟩ z with | mk a => cases x with | mk b => rw [hx] at e3; simp only at e3; rw [Array.toList_inj.mp e3]
structure EscJ (g' : Heap) (L' : Addr) (s : Shared) (news : List (Addr × Obj)) (t : Str) (f : Flow) (s' : Shared) : Prop where
  next : f = .next
  here : ∃ h' tk' tt', s' = ⟨h', s.gens, s.drawn, tk', s.os⟩ ∧ Fr g' L' h' (txM (.str t tt')) ∧ News g' L' h' news
noncomputable abbrev one (c : Str) : Nat := c.cps.toList.headD 0
theorem esc_none {g' : Heap} {L' : Addr} {s : Shared} {news : List (Addr × Obj)} {t c r : Str} {tt : Tok} {h' : Heap} {tk' : Nat} (hc : c = ⟨#[one c]⟩) (h : (Builtin.Str.occurrences t c 0 t.length 1).isEmpty = true) (F : Fr g' L' h' (txM (.str t tt))) (N : News g' L' h' news) :
    EscJ g' L' s news (Txt.replace t c r) .next ⟨h', s.gens, s.drawn, tk', s.os⟩ := by
  have e := replace_none t r (one c) (hc ▸ h)
  rw [← hc] at e
  exact ⟨rfl, h', tk', tt, rfl, e.symm ▸ F, N⟩
theorem esc_join {M : Model} {A : Around} {E : Value → Shared → Prop} {s : Shared} {env : Env} {g' : Heap} {L' : Addr} {news : List (Addr × Obj)} {t : Str} {tt : Tok} {b : Nat} {r : Str} {x y z : Expr} {p p2 p3 p4 p5 pos : Pos} {t1 t2 t3 : Tok} {ks : List Keyword} {c c2 : Str} {Q : Flow → Shared → Prop}
    (_F : Fr g' L' s.heap (txM (.str t tt))) (_N : News g' L' s.heap news) (hb : t.length ≤ b) (hc : c = ⟨#[one c]⟩) (hr : r.length ≤ 6) (hcr : (c == r) = false) (hbb : b + (b + 1) * 6 ≤ 16777216)
    (hw : t.length + (t.length + 1) * r.length ≤ 16777216 → (c == r) = false → wpAny M A (isTrue (.Compare (.Constant (.str c) t1 p) [.In] [x] p2) env (eval (.Compare (.Constant (.str c) t1 p) [.In] [x] p2) env)) (fun k s₁ => if k then wpAny M A (execs [.Assign [y] (.Call z [.Constant (.str c2) t2 p3, .Constant (.str r) t3 p4] ks p5) pos] env) (fun f s' => EscJ g' L' s news (Txt.replace t c r) f s') E s₁ else wpAny M A (execs [] env) (fun f s' => EscJ g' L' s news (Txt.replace t c r) f s') E s₁) E s)
    (hk : ∀ h' tk' tt', (Txt.replace t c r).length ≤ 6 * b → Fr g' L' h' (txM (.str (Txt.replace t c r) tt')) → News g' L' h' news → Q .next ⟨h', s.gens, s.drawn, tk', s.os⟩) {p9 : Pos} :
    wpAny M A (exec (.If (.Compare (.Constant (.str c) t1 p) [.In] [x] p2) [.Assign [y] (.Call z [.Constant (.str c2) t2 p3, .Constant (.str r) t3 p4] ks p5) pos] [] p9) env) Q E s := by
  refine wpAny_mono (wpAny_If (hw ?_ hcr)) (fun f s' h => ?_) fun _ _ h => h
  · have h1 : (t.length + 1) * r.length ≤ (t.length + 1) * 6 := Nat.mul_le_mul_left _ hr
    exact Nat.le_trans (Nat.add_le_add hb (Nat.le_trans h1 (Nat.mul_le_mul_right 6 (Nat.succ_le_succ hb)))) hbb
  · obtain ⟨rfl, h', tk', tt', rfl, F', N'⟩ := h
    refine hk _ _ _ ?_ F' N'
    have := replace_len t r (one c) hr
    rw [← hc] at this
    exact Nat.le_trans this (Nat.mul_le_mul_left 6 hb)
theorem tx_store {g L h : _} {a v : Value} (F : Fr g L h (fun y => if y = Str.ofString "text" then some v else txM a y)) : Fr g L h (txM v) := by
  have e : (fun y => if y = Str.ofString "text" then some v else txM a y) = txM v := by
    funext y
    by_cases hy : y = Str.ofString "text"
    · subst hy; rw [if_pos rfl]; exact rfl
    · rw [if_neg hy]; show List.lookup y [(_, _)] = List.lookup y [(_, _)]
      have h0 : (y == Str.ofString "text") = false := beq_eq_false_iff_ne.mpr hy
      simp only [List.lookup, h0]
  exact e ▸ F
section
theorem rowsE10 : True := by
  k_with "eval Call Attribute" => (fail_if_success fail_if_success have q := hereE1); (k_here; refine MethodCall_ ?_ he)
  k_with "eval Name" => (fail_if_success fail_if_success have q := hereE1); (k_here; k_dflt (refine' nameX_L (by assumption) (by rfl) ?_ hk hx; k_whole))
  k_with "storeName" => (fail_if_success fail_if_success have q := hereE1); (k_here; k_dflt (refine' storeX_L (by assumption) (by assumption) ?_ hk hx; k_whole; intro h'ₓ F'ₓ N'ₓ; (try k_sweep)))
  k_with "execs cons" => (fail_if_success fail_if_success have q := hereE1); (k_here; (fail_if_success (refine' gen_toks (by with_reducible assumption) ?_)); refine' gen_toks (by kln_le) ?_; intro tkₓ htkₓ)
  k_with "call builtin:str.replace" => (fail_if_success fail_if_success have q := hereE1); (k_here; (try dsimp only [List.cons_append, List.nil_append]); k_dflt (refine' SC.replace (by ((show @Ne Nat _ _); kln_le)) (by ((show @Ne Nat _ _); kln_le)) (by ((show @Ne Nat _ _); kln_le)) (by assumption) (by assumption) ?_); intro tr'ₓ tkr'ₓ)
  k_with "EscJ" => (fail_if_success fail_if_success have q := hereE1); (k_here; k_dflt (first | (refine' esc_none (by assumption) (by assumption) (by assumption) (by assumption)) | exact ⟨rfl, _, _, _, rfl, tx_store (by assumption), by assumption⟩))
  trivial
theorem esc_step {w : World} {A : Around} {E : Value → Shared → Prop} {Q : Flow → Shared → Prop} {s : Shared} {g' : Heap} {L' a : Addr} {news : List (Addr × Obj)} {t c r cn : Str} {cs : Scope} {cd : Value} {tt : Tok} {b : Nat} {n1 n2 n3 : Nat} {p p1 p2 p3 p4 p5 p6 p7 p8 p9 pos : Pos}
    (X : (K w.params).In g') (F : Fr g' L' s.heap (txM (.str t tt))) (N : News g' L' s.heap news) (hb : t.length ≤ b) (hc : c = ⟨#[one c]⟩) (hr : r.length ≤ 6) (hcr : (c == r) = false) (hbb : b + (b + 1) * 6 ≤ 16777216)
    {pl : Sem Bool} (he : eval (.Call (.Attribute (.Name (Str.ofString "text") p7) (Str.ofString "replace") p8) [.Constant (.str c) n2 p3, .Constant (.str r) n3 p4] [] p5) (envX cn cs L' a cd []) = (do
      let ov ← eval (.Name (Str.ofString "text") p7) (envX cn cs L' a cd [])
      standAt p8.atName
      let (f, first) ← holding [ov] (getMethod ov (Str.ofString "replace") pl)
      callWith p5 f first (backTo p5 (starEach [.Constant (.str c) n2 p3, .Constant (.str r) n3 p4] (envX cn cs L' a cd []))) []))
    (hk : cs.kind = .function) (hx : (envX cn cs L' a cd []).kindOf (Str.ofString "text") = some .local)
    (hq : ∀ h' tk' tt', (Txt.replace t c r).length ≤ 6 * b → Fr g' L' h' (txM (.str (Txt.replace t c r) tt')) → News g' L' h' news → Q .next ⟨h', s.gens, s.drawn, tk', s.os⟩) :
    wpAny (model prg w) A (exec (.If (.Compare (.Constant (.str c) n1 p) [.In] [.Name (Str.ofString "text") p1] p2) [.Assign [.Name (Str.ofString "text") p6] (.Call (.Attribute (.Name (Str.ofString "text") p7) (Str.ofString "replace") p8) [.Constant (.str c) n2 p3, .Constant (.str r) n3 p4] [] p5) pos] [] p9) (envX cn cs L' a cd [])) Q E s := by
  obtain ⟨h, g, dr, tk, os⟩ := s
  dsimp only at F N
  refine esc_join F N hb hc hr hcr hbb (fun he1 he2 => ?_) hq
  have hrow : PySem.Challenge.rw_pe0292_01 = _ := rfl
  revert hrow X; k_fill; w_top on; intro X _
  clear hq
  k_steps
end
noncomputable abbrev escC (t : Str) : Str := Txt.replace (Txt.replace (Txt.replace (Txt.replace t (Str.ofString "&") (Str.ofString "&amp;")) (Str.ofString "<") (Str.ofString "&lt;")) (Str.ofString ">") (Str.ofString "&gt;")) (Str.ofString "\x0d") (Str.ofString "&#xD;")
noncomputable abbrev escA (t : Str) : Str := Txt.replace (Txt.replace (Txt.replace (Txt.replace (Txt.replace (Txt.replace t (Str.ofString "&") (Str.ofString "&amp;")) (Str.ofString "<") (Str.ofString "&lt;")) (Str.ofString "\"") (Str.ofString "&quot;")) (Str.ofString "\t") (Str.ofString "&#x9;")) (Str.ofString "\n") (Str.ofString "&#xA;")) (Str.ofString "\x0d") (Str.ofString "&#xD;")
theorem escc_binds (a : Value) : bindArgs (fnOf (Str.ofString "_escape_cdata_c14n") (Str.ofString "_escape_cdata_c14n") (fPar (stA 8)) (fBody (stA 8)) (fScope (stA 8)) (.none) (.none) (.none) (.str (Str.ofString "cpy313.xml.etree.ElementTree") 289) none (.ref 160) (.none)) ⟨[a], []⟩ = pure [(Str.ofString "text", a)] := by kernel_rfl!
theorem rowsE11 : True := by
  k_with "execs cons" => (fail_if_success fail_if_success have q := hereE1); (k_here; (fail_if_success (refine' gen_toks (by with_reducible assumption) ?_)); refine' gen_toks (by kln_le) ?_; intro tkₓ htkₓ)
  k_with "exec If" => (fail_if_success fail_if_success have q := hereE1); (k_here; k_dflt (refine esc_step (by assumption) (by assumption) (by assumption) (by assumption) (by decide +kernel) (by decide +kernel) (by decide +kernel) (by decide +kernel) rfl rfl rfl (fun h'ₓ tk'ₓ tt'ₓ l'ₓ F'ₓ N'ₓ => ?_)))
  trivial
theorem escc_spec {w : World} {A₀ : Around} {d u : Nat} {gd : Option (List Code)} {base h₀ : Heap} {outer : List Env} {env : Env} {L : Addr} {m : Str → Option Value} {mean : ExcName → Option Value} {mg mb : Str → Option Value} {s : Shared} {news : List (Addr × Obj)}
    {R : Result → Shared → Prop} {text : Str} {tt : Tok}
    (cx : Cx w A₀ base h₀ outer env L m mean mg mb s news d u) (hlen : text.length ≤ 1000)
    (hF : ∀ tt', Back s h₀ L m news (.str (escC text) tt') R) :
    codeAny (model prg w) (Ar d u gd env outer) (.call (.ref 161) ⟨[.str text tt], []⟩) R s := by
  obtain ⟨B, F, X, N, T, hf, hke, hd, hu⟩ := cx
  have hrow : PySem.Challenge.rw_pe0292_01 = _ := rfl
  revert hrow X; k_fill; w_top on; intro X _
  refine' code_def B F X N T rfl hf hke ?k6 ?k7 ?k8 (BindsTo.of_eq (escc_binds _)) ?kB ?_ ?c2 ?c3 ?c4 ?c5
  case k6 => k_is
  case k7 => k_is
  case k8 => k_room
  case kB => exact locs rfl
  case c2 => exact rfl
  case c3 => exact rfl
  case c4 => exact rfl
  case c5 => decide
  intro g' L' h' FG' F' N' B' X' T'
  (try dsimp only); (try ((with_reducible show wpAny _ _ _ _ _ _); k_fold))
  k_steps
  all_goals exact hF _ _ _ _ _ id (by assumption) (by assumption)
theorem esca_binds (a : Value) : bindArgs (fnOf (Str.ofString "_escape_attrib_c14n") (Str.ofString "_escape_attrib_c14n") (fPar (stA 9)) (fBody (stA 9)) (fScope (stA 9)) (.none) (.none) (.none) (.str (Str.ofString "cpy313.xml.etree.ElementTree") 289) none (.ref 167) (.none)) ⟨[a], []⟩ = pure [(Str.ofString "text", a)] := by kernel_rfl!
theorem esca_keep {w : World} {A₀ : Around} {d u : Nat} {gd : Option (List Code)} {base h₀ : Heap} {outer : List Env} {env : Env} {L : Addr} {m : Str → Option Value} {mean : ExcName → Option Value} {mg mb : Str → Option Value} {s : Shared} {news : List (Addr × Obj)}
    {R : Result → Shared → Prop} {text : Str} {tt : Tok}
    (cx : Cx w A₀ base h₀ outer env L m mean mg mb s news d u) (hlen : text.length ≤ 50)
    (hF : ∀ tt' h' tk', Fr h₀ L h' m → News h₀ L h' news → R (.ok (.ret (.str (escA text) tt'))) { s with heap := h', toks := tk' }) :
    codeAny (model prg w) (Ar d u gd env outer) (.call (.ref 168) ⟨[.str text tt], []⟩) R s := by
  obtain ⟨B, F, X, N, T, hf, hke, hd, hu⟩ := cx
  have hrow : PySem.Challenge.rw_pe0292_01 = _ := rfl
  revert hrow X; k_fill; w_top on; intro X _
  refine' code_def B F X N T rfl hf hke ?k6 ?k7 ?k8 (BindsTo.of_eq (esca_binds _)) ?kB ?_ ?c2 ?c3 ?c4 ?c5
  case k6 => k_is
  case k7 => k_is
  case k8 => k_room
  case kB => exact locs rfl
  case c2 => exact rfl
  case c3 => exact rfl
  case c4 => exact rfl
  case c5 => decide
  intro g' L' h' FG' F' N' B' X' T'
  (try dsimp only); (try ((with_reducible show wpAny _ _ _ _ _ _); k_fold))
  k_steps
  all_goals exact hF _ _ _ (by assumption) (by assumption)
theorem esca_spec {w : World} {A₀ : Around} {d u : Nat} {gd : Option (List Code)} {base h₀ : Heap} {outer : List Env} {env : Env} {L : Addr} {m : Str → Option Value} {mean : ExcName → Option Value} {mg mb : Str → Option Value} {s : Shared} {news : List (Addr × Obj)}
    {R : Result → Shared → Prop} {text : Str} {tt : Tok}
    (cx : Cx w A₀ base h₀ outer env L m mean mg mb s news d u) (hlen : text.length ≤ 50)
    (hF : ∀ tt', Back s h₀ L m news (.str (escA text) tt') R) :
    codeAny (model prg w) (Ar d u gd env outer) (.call (.ref 168) ⟨[.str text tt], []⟩) R s := esca_keep cx hlen fun tt' h' tk' F N => hF tt' h' s.gens s.drawn tk' id F N
end
section
section
open PySem.Calls PySem.Spec LCg
variable {prog : Program} {w : World} {A : Around} {E : Value → Shared → Prop} {s : Shared} {h₀ : Heap} {L : Addr} {m : Str → Option Value} {env : Env}
noncomputable def StrSrc (prog : Program) (w : World) (A : Around) (h₀ : Heap) (L : Addr) (m : Str → Option Value) (env : Env) (elt : Expr) (x : Str) (scope : Scope) (cl : List (Str × Addr)) (Fin : Shared → List Value → List (Addr × Obj) → Prop) (xv : Value) (s₁ : Shared) : Prop :=
  ∃ t tk news, xv = .str t tk ∧ A.handled = none ∧ Fr h₀ L s₁.heap m ∧ News h₀ L s₁.heap news ∧ (t.cps.all (· < 128)) = true ∧ t.cps.size ≤ sizeLine ∧
    ∀ s₂ : Shared, (∃ h, s₂ = { s₁ with heap := h }) → CompRest prog w A h₀ L m env elt x scope cl s₂ (fun _ => True) (SignAt t) (Fin s₂) t.cps.size 0 [] news
theorem ListComp_S {elt iter : Expr} {x : Str} {px : Pos} {scope : Scope} {cl : List (Str × Addr)} {pos : Pos} {Q : Value → Shared → Prop} (_F : Fr h₀ L s.heap m)
    (hclos : closureFor scope env = pure cl) (hcell : ∀ y ∈ scope.names, y.2 ≠ .cell) (hkind : scope.kind = .function)
    (hnames : ∀ y ∈ scope.names, y.2 = .local → scope.names.lookup y.1 = some .local) (hx : scope.names.lookup x = some .local)
    (h : wpAny (model prog w) A (eval iter env) (StrSrc prog w A h₀ L m env elt x scope cl (fun s₂ => FinE h₀ L m s₂ Q)) E s)
    (hs : ∀ x, foldedSetIterable iter env x = pure x := by intro _; rfl) :
    wpAny (model prog w) A (eval (.ListComp elt [⟨.Name x px, iter, [], 0⟩] scope pos) env) Q E s := by
  rw [eval_ListComp]
  refine wpAny_comprehension_free (use := none) rfl hs hclos hkind hnames (wpAny_mono h (fun xv s₁ h₁ => ?_) fun _ _ e => e)
  obtain ⟨t, tk, news, rfl, hh, F, N, hasc, hsz, R⟩ := h₁
  refine wpAny_pyIter_ascii hasc ?_
  have up : ∀ (ob : Obj) b o, s₁.heap.get? b = some o → (s₁.heap.push ob).get? b = some o := fun ob b o e => Heap.get?_push_of_some _ e
  refine block_U (Walks.strAscii hh s₁.heap.objs.size t tk) hsz (fun i h st => by obtain ⟨o, e, _⟩ := st; exact ⟨o, e⟩)
    (fun i h h' o nw st e e' _ _ _ => by obtain ⟨o', q, r⟩ := st; rw [e] at q; cases q; exact ⟨o, e', r⟩) hcell hkind hx ⟨_, Heap.get?_push_size _ rfl, rfl, rfl⟩ (fun b hb => ?_)
    (F.keeps (up _)) (N.grown (up _)) (Nat.ne_of_lt F.ns.lt) (next_is_new F) (fun p hp => Nat.ne_of_lt (Heap.lt_size (N p hp).1)) trivial (R _ ⟨_, rfl⟩) ?_
  · rw [List.mem_singleton.mp hb]
    show s₁.heap.objs.size < (s₁.heap.push _).objs.size
    rw [Heap.size_push]; exact Nat.lt_succ_self _
  · intro D C h tk m' ys news' F' N' o1 hn hC₀ hD₀ hCL hDL hCD offC fin
    refine ⟨m', hn, fun h'' hs'' => fin D h'' tk (F'.change hs'' hCL hC₀) (fun p hp => ?_) o1⟩
    refine ⟨hs''.extBut _ _ ?_ (N' p hp).1, (N' p hp).2⟩
    rcases List.mem_cons.mp hp with rfl | hp
    · exact Ne.symm hCD
    · exact offC p hp
structure StrEnd (h₀ : Heap) (L : Addr) (m : Str → Option Value) (s : Shared) (all : List (Addr × Obj)) (r : Str) (y : Value) (s' : Shared) : Prop where
  is : ∃ h' tk' t', s' = { s with heap := h', toks := tk' } ∧ Fr h₀ L h' m ∧ News h₀ L h' all ∧ y = .str r t'
theorem StrEnd.mk' {h₀ : Heap} {L : Addr} {m : Str → Option Value} {s : Shared} {all : List (Addr × Obj)} {r r' : Str} {t : Tok} {h' : Heap} {tk' : Nat} (F : Fr h₀ L h' m) (N : News h₀ L h' all) (e : r' = r) : StrEnd h₀ L m s all r (.str r' t) { s with heap := h', toks := tk' } := ⟨h', tk', t, rfl, F, N, by rw [e]⟩
theorem str_rest {elt : Expr} {x : Str} {scope : Scope} {cl : List (Str × Addr)} {t : Str} (g : Nat → Str) {Fin : List Value → List (Addr × Obj) → Prop} {news : List (Addr × Obj)}
    (turn : ∀ c u I oI C oC D m₂ ys h tk (E' : Value → Shared → Prop), NsObj oC m₂ → m₂ x = some (.str ⟨#[c]⟩ u) → Fr h₀ L h m → News h₀ L h ((I, oI) :: (C, oC) :: (D, lst ys) :: news) → Off3 I C D news → ((@Ne Nat I C) ∧ (@Ne Nat I D) ∧ (@Ne Nat C D)) →
      wpAny (model prog w) A (eval elt (compEnvC scope cl C env)) (StrEnd h₀ L m s ((I, oI) :: (C, oC) :: (D, lst ys) :: news) (g c)) E' { s with heap := h, toks := tk })
    (fin : ∀ ys, CarriedAll ys (t.cps.toList.map fun k => PyData.str (g k)) → Fin ys news) : CompRest prog w A h₀ L m env elt x scope cl s (fun _ => True) (SignAt t) Fin t.cps.size 0 [] news := by
  have key : ∀ (j i : Nat) (ys : List Value), i + j = t.cps.size → StrsAre ys ((t.cps.toList.take i).map g) → CompRest prog w A h₀ L m env elt x scope cl s (fun _ => True) (SignAt t) Fin j i ys news := by
    intro j
    induction j with
    | zero =>
      intro i ys hi hy
      have e : i = t.cps.toList.length := by rw [Array.length_toList]; kln_le
      subst e
      rw [List.take_length] at hy
      have hc := hy.carried
      rw [List.map_map] at hc
      exact CompRest.zero (fin ys hc)
    | succ j ih =>
      intro i ys hi hy
      refine CompRest.succ ?_
      intro v I oI C oC D m₂ h tk E' hv hC hx F N off ne
      obtain ⟨c, u, hc, rfl⟩ := hv
      refine wpAny_mono (turn c u I oI C oC D m₂ ys h tk E' hC hx F N off ne) (fun y s₂ hq => ?_) fun _ _ e => e
      obtain ⟨h', tk', t', rfl, F', N', rfl⟩ := hq.is
      refine ⟨h', tk', news, rfl, F', N', off, trivial, ?_⟩
      refine ih (i + 1) _ (by kln_le) ?_
      have hk : t.cps.toList[i]? = some c := by rw [Array.getElem?_toList]; exact hc
      rw [List.take_add_one, hk]
      simpa using kct_snoc hy
  exact key _ 0 [] (by kln_le) (by simp only [List.take_zero, List.map_nil]; exact .nil)
end
end
section
namespace NP1
theorem hereP1 : True := trivial
end NP1
open NP1
set_option maxHeartbeats 8000000
section
variable {w : World} {A : Around} {E : Value → Shared → Prop} {s : Shared} {h₀ : Heap} {L d : Addr} {m : Str → Option Value} {news : List (Addr × Obj)} {o : Obj} {kvs : List (Str × Value)} {x : Str} {t : Tok} {v : Value}
theorem din_t {Q : Value → Shared → Prop} (N : News h₀ L s.heap news) (hm : (d, o) ∈ news) (ho : o.IsDictOf (strKind prg w) kvs) (lo : (d == sysModules) = false) (e : valueAt kvs x = some v) (h : Q (.bool true) { s with toks := s.toks + 1 }) :
    wpAny (model prg w) A (compareOp .In (.str x t) (.ref d)) Q E s := din N hm ho lo (by rw [e]; exact h)
theorem din_f {Q : Value → Shared → Prop} (N : News h₀ L s.heap news) (hm : (d, o) ∈ news) (ho : o.IsDictOf (strKind prg w) kvs) (lo : (d == sysModules) = false) (e : valueAt kvs x = none) (h : Q (.bool false) { s with toks := s.toks + 1 }) :
    wpAny (model prg w) A (compareOp .In (.str x t) (.ref d)) Q E s := din N hm ho lo (by rw [e]; exact h)
end
theorem kv_of {α β : Type} {P : α → Prop} {Kv : α → β → Prop} {a : α} {ps : β} (h : P a) (hk : Kv a ps) : ∃ kvs, Kv kvs ps ∧ P kvs := ⟨a, hk, h⟩
inductive KVs : List (Str × Value) → List (Nat × Str) → Prop
  | nil : KVs [] []
  | cons {x : Str} {k : Nat} (hx : x = ⟨#[k]⟩) (r : Str) (t : Tok) {a b} : KVs a b → KVs ((x, .str r t) :: a) ((k, r) :: b)
theorem one_ne {a b : Nat} (h : a ≠ b) : (⟨#[a]⟩ : Str) ≠ ⟨#[b]⟩ := fun e => h (by injection e with e; injection e with e; injection e)
theorem KVs.at : ∀ {a b}, KVs a b → ∀ c, (b.lookup c = none ∧ valueAt a ⟨#[c]⟩ = none) ∨ ∃ r t, b.lookup c = some r ∧ valueAt a ⟨#[c]⟩ = some (.str r t)
  | _, _, .nil, _ => .inl ⟨rfl, rfl⟩
  | _, _, .cons (k := k) hx r t h, c => by
    by_cases hk : c = k
    · subst hk
      refine .inr ⟨r, t, by simp [List.lookup], ?_⟩
      unfold valueAt; rw [List.find?_cons_of_pos (by simp [hx])]; rfl
    · have e1 : ∀ b : List (Nat × Str), List.lookup c ((k, r) :: b) = List.lookup c b := fun b => by simp [List.lookup, beq_eq_false_iff_ne.mpr hk]
      have e2 : ∀ a : List (Str × Value), valueAt ((⟨#[k]⟩, .str r t) :: a) ⟨#[c]⟩ = valueAt a ⟨#[c]⟩ := fun a => by
        unfold valueAt; rw [List.find?_cons_of_neg (by simp only [decide_eq_true_eq]; exact one_ne (Ne.symm hk))]
      subst hx; rw [e1, e2]
      exact h.at c
noncomputable abbrev psC : List (Nat × Str) := [(38, Str.ofString "&amp;"), (60, Str.ofString "&lt;"), (62, Str.ofString "&gt;"), (13, Str.ofString "&#xD;")]
noncomputable abbrev psA : List (Nat × Str) := [(38, Str.ofString "&amp;"), (60, Str.ofString "&lt;"), (34, Str.ofString "&quot;"), (9, Str.ofString "&#x9;"), (10, Str.ofString "&#xA;"), (13, Str.ofString "&#xD;")]
noncomputable def sp (ps : List (Nat × Str)) (c : Nat) : Str := (ps.lookup c).getD ⟨#[c]⟩
theorem sp_none {ps : List (Nat × Str)} {c : Nat} (h : ps.lookup c = none) : (⟨#[c]⟩ : Str) = sp ps c := by unfold sp; rw [h]; rfl
theorem sp_some {ps : List (Nat × Str)} {c : Nat} {r : Str} (h : ps.lookup c = some r) : r = sp ps c := by unfold sp; rw [h]; rfl
theorem lookup_mem {ps : List (Nat × Str)} {c : Nat} {r : Str} (h : ps.lookup c = some r) : ∃ p ∈ ps, p.2 = r := by
  induction ps with
  | nil => cases h
  | cons p q ih =>
    obtain ⟨k, z⟩ := p
    rw [List.lookup_cons] at h
    cases hk : c == k <;> rw [hk] at h
    · obtain ⟨y, hy, e⟩ := ih h; exact ⟨y, List.mem_cons_of_mem _ hy, e⟩
    · exact ⟨_, List.mem_cons_self, Option.some.inj h⟩
theorem sp_len {ps : List (Nat × Str)} (hp : ∀ p ∈ ps, p.2.length ≤ 10) (c : Nat) : (sp ps c).length ≤ 10 := by
  unfold sp
  cases h : ps.lookup c with
  | none => exact (show 1 ≤ 10 by decide)
  | some r => obtain ⟨p, hm, rfl⟩ := lookup_mem h; exact hp p hm
noncomputable def spell (ps : List (Nat × Str)) (t : Str) : Str := Txt.join (Str.ofString "") (t.cps.toList.map (sp ps))
theorem spell_binds (a b : Value) : bindArgs (fnOf (Str.ofString "_law_spell") (Str.ofString "_law_spell") (fPar (stA 17)) (fBody (stA 17)) (fScope (stA 17)) .none .none .none (.str (Str.ofString "law_pe0292_01") 802) none (.ref 320) .none) ⟨[a, b], []⟩ = pure [(Str.ofString "text", a), (Str.ofString "within", b)] := by kernel_rfl!
theorem rowsP10 : True := by
  k_with "eval ListComp" => (fail_if_success fail_if_success have q := hereP1); (k_here; k_dflt (refine ListComp_S (by k_asm) (by with_unfolding_all rfl) (by decide) (by rfl) (by decide) (by rfl) ?_))
  k_with "compareOp In str ref" => (fail_if_success fail_if_success have q := hereP1); (k_here; k_dflt (first | (refine' din_t (by k_asm) (by k_mem) (by k_asm) (by assumption) (by assumption) ?_; k_whole) | (refine' din_f (by k_asm) (by k_mem) (by k_asm) (by assumption) (by assumption) ?_; k_whole)))
  k_with "subscriptTail Name Name ref str" => (fail_if_success fail_if_success have q := hereP1); (k_here; k_dflt (refine' dget (by k_asm) (by k_mem) (by k_asm) (by assumption) ?_; k_whole))
  k_with "StrEnd" => (fail_if_success fail_if_success have q := hereP1); (k_here; exact StrEnd.mk' (by assumption) (by assumption) (by assumption))
  trivial
theorem spellC_spec {w : World} {A₀ : Around} {d u : Nat} {gd : Option (List Code)} {base h₀ : Heap} {outer : List Env} {env : Env} {L : Addr} {m : Str → Option Value} {mean : ExcName → Option Value} {mg mb : Str → Option Value} {s : Shared} {news : List (Addr × Obj)}
    {R : Result → Shared → Prop} {text : Str} {tt : Tok}
    (cx : Cx w A₀ base h₀ outer env L m mean mg mb s news d u) (hlen : text.length ≤ 1000) (hasc : (text.cps.all (· < 128)) = true)
    (hF : ∀ tt', Back s h₀ L m news (.str (spell psC text) tt') R) :
    codeAny (model prg w) (Ar d u gd env outer) (.call (.ref 321) ⟨[.str text tt, .bool false], []⟩) R s := by
  obtain ⟨B, F, X, N, T, hf, hke, hd, hu⟩ := cx
  have hrow : PySem.Challenge.rw_pe0292_01 = _ := rfl
  revert hrow X; k_fill; w_top on; intro X _
  refine' code_defC B F X N T rfl hf hke ?k6 ?k7 ?k8 (BindsTo.of_eq (spell_binds _ _)) ?kB ?kD ?_ ?c2 ?c3 ?c4
  case k6 => k_is
  case k7 => k_is
  case k8 => k_room
  case kB => exact rfl
  case kD => decide +kernel
  case c2 => exact rfl
  case c3 => exact rfl
  case c4 => exact rfl
  intro g' L' h' tk' cells' FG' F' N' Y' B' X' T' l1
  (try k_lt l1); k_cells Y'; (try simp only [List.cons_append, List.nil_append] at N')
  (try dsimp only); (try ((with_reducible show wpAny _ _ _ _ _ _); k_fold))
  k_steps
  rename (Obj.IsDictOf _ _ (strPairs _)) => hd1
  obtain ⟨kvs, hkv, hd1⟩ := kv_of (Kv := KVs) (ps := psC) (P := fun a => Obj.IsDictOf (strKind prg w) _ a) hd1 (.cons (k := 38) (by decide +kernel) _ _ (.cons (k := 60) (by decide +kernel) _ _ (.cons (k := 62) (by decide +kernel) _ _ (.cons (k := 13) (by decide +kernel) _ _ .nil))))
  refine ⟨text, tt, _, rfl, rfl, by assumption, by assumption, hasc, Nat.le_trans hlen (by decide), ?_⟩
  rintro _ ⟨g'', rfl⟩
  (try dsimp only)
  refine str_rest (sp psC) ?_ ?_
  · intro c u I oI C oC D m₂ ys h tk E' hC hx F N off ne
    rcases hkv.at c with ⟨e1, e2⟩ | ⟨r, tr, e1, e2⟩
    · have e3 := sp_none e1
      k_steps
    · have e3 := (sp_some e1)
      k_steps
  · intro ys hys D h tk F N off
    k_steps
    refine KT.join_B 10 (News.isList (by assumption) (.head _)) hys (fun a _ => sp_len (by decide +kernel) a) (Nat.le_trans hlen (by decide)) (by decide) fun t' k' => ?_
    k_steps
    all_goals exact hF _ _ _ _ _ id (by assumption) (by first | assumption | exact nt1 (by assumption) | exact nt2 (by assumption) | exact nt3 (by assumption) | exact nt4 (by assumption))
end
section
namespace NP2
theorem hereP2 : True := trivial
end NP2
open NP2
set_option maxHeartbeats 8000000
theorem rowsP20 : True := by
  k_with "eval ListComp" => (fail_if_success fail_if_success have q := hereP2); (k_here; k_dflt (refine ListComp_S (by k_asm) (by with_unfolding_all rfl) (by decide) (by rfl) (by decide) (by rfl) ?_))
  k_with "compareOp In str ref" => (fail_if_success fail_if_success have q := hereP2); (k_here; k_dflt (first | (refine' din_t (by k_asm) (by k_mem) (by k_asm) (by assumption) (by assumption) ?_; k_whole) | (refine' din_f (by k_asm) (by k_mem) (by k_asm) (by assumption) (by assumption) ?_; k_whole)))
  k_with "subscriptTail Name Name ref str" => (fail_if_success fail_if_success have q := hereP2); (k_here; k_dflt (refine' dget (by k_asm) (by k_mem) (by k_asm) (by assumption) ?_; k_whole))
  k_with "StrEnd" => (fail_if_success fail_if_success have q := hereP2); (k_here; exact StrEnd.mk' (by assumption) (by assumption) (by assumption))
  trivial
theorem spellA_spec {w : World} {A₀ : Around} {d u : Nat} {gd : Option (List Code)} {base h₀ : Heap} {outer : List Env} {env : Env} {L : Addr} {m : Str → Option Value} {mean : ExcName → Option Value} {mg mb : Str → Option Value} {s : Shared} {news : List (Addr × Obj)}
    {R : Result → Shared → Prop} {text : Str} {tt : Tok}
    (cx : Cx w A₀ base h₀ outer env L m mean mg mb s news d u) (hlen : text.length ≤ 1000) (hasc : (text.cps.all (· < 128)) = true)
    (hF : ∀ tt', Back s h₀ L m news (.str (spell psA text) tt') R) :
    codeAny (model prg w) (Ar d u gd env outer) (.call (.ref 321) ⟨[.str text tt, .bool true], []⟩) R s := by
  obtain ⟨B, F, X, N, T, hf, hke, hd, hu⟩ := cx
  have hrow : PySem.Challenge.rw_pe0292_01 = _ := rfl
  revert hrow X; k_fill; w_top on; intro X _
  refine' code_defC B F X N T rfl hf hke ?k6 ?k7 ?k8 (BindsTo.of_eq (spell_binds _ _)) ?kB ?kD ?_ ?c2 ?c3 ?c4
  case k6 => k_is
  case k7 => k_is
  case k8 => k_room
  case kB => exact rfl
  case kD => decide +kernel
  case c2 => exact rfl
  case c3 => exact rfl
  case c4 => exact rfl
  intro g' L' h' tk' cells' FG' F' N' Y' B' X' T' l1
  (try k_lt l1); k_cells Y'; (try simp only [List.cons_append, List.nil_append] at N')
  (try dsimp only); (try ((with_reducible show wpAny _ _ _ _ _ _); k_fold))
  k_steps
  rename (Obj.IsDictOf _ _ (strPairs _)) => hd1
  obtain ⟨kvs, hkv, hd1⟩ := kv_of (Kv := KVs) (ps := psA) (P := fun a => Obj.IsDictOf (strKind prg w) _ a) hd1 (.cons (k := 38) (by decide +kernel) _ _ (.cons (k := 60) (by decide +kernel) _ _ (.cons (k := 34) (by decide +kernel) _ _ (.cons (k := 9) (by decide +kernel) _ _ (.cons (k := 10) (by decide +kernel) _ _ (.cons (k := 13) (by decide +kernel) _ _ .nil))))))
  refine ⟨text, tt, _, rfl, rfl, by assumption, by assumption, hasc, Nat.le_trans hlen (by decide), ?_⟩
  rintro _ ⟨g'', rfl⟩
  (try dsimp only)
  refine str_rest (sp psA) ?_ ?_
  · intro c u I oI C oC D m₂ ys h tk E' hC hx F N off ne
    rcases hkv.at c with ⟨e1, e2⟩ | ⟨r, tr, e1, e2⟩
    · have e3 := sp_none e1
      k_steps
    · have e3 := (sp_some e1)
      k_steps
  · intro ys hys D h tk F N off
    k_steps
    refine KT.join_B 10 (News.isList (by assumption) (.head _)) hys (fun a _ => sp_len (by decide +kernel) a) (Nat.le_trans hlen (by decide)) (by decide) fun t' k' => ?_
    k_steps
    all_goals exact hF _ _ _ _ _ id (by assumption) (by first | assumption | exact nt1 (by assumption) | exact nt2 (by assumption) | exact nt3 (by assumption) | exact nt4 (by assumption))
end
section
namespace NP3
theorem hereP3 : True := trivial
end NP3
open NP3
set_option maxHeartbeats 2000000
section
open PySem.Calls PySem.Spec
variable {prog : Program} {w : World} {A : Around} {E : Value → Shared → Prop} {s : Shared} {env : Env} {h₀ : Heap} {target : Expr} {body : List Stmt} {Q : Flow → Shared → Prop}
structure ForEmpty (A : Around) (h₀ : Heap) (env : Env) (Q : Flow → Shared → Prop) (xv : Value) (s₁ : Shared) : Prop where
  is : ∃ l n news m', xv = .ref l ∧ A.handled = none ∧ Fr h₀ env.locals s₁.heap m' ∧ News h₀ env.locals s₁.heap news ∧ (l, listOf #[] n) ∈ news ∧
    ∀ h' tk, Fr h₀ env.locals h' m' → News h₀ env.locals h' news → Q .next { s₁ with heap := h', toks := tk }
theorem empty_turns {I : Addr} {fp wr : List Addr} {P : Nat → Value → Prop} {St : Nat → Heap → Prop} (W : Walks prog w A I fp wr 0 P St) : KTurns prog w A target I fp wr 0 (fun _ _ _ => False) (fun _ _ _ => False) St where
  sub := W.sub
  frame := W.frame
  item := fun i _ _ _ hi => absurd hi (Nat.not_lt_zero i)
  go := fun _ _ _ _ _ hm => hm.elim
  done := W.done
theorem for_empty {iter : Expr} {pos : Pos} {m : Str → Option Value} (F : Fr h₀ env.locals s.heap m)
    (h : wpAny (model prog w) A (eval iter env) (ForEmpty A h₀ env Q) E s)
    (hs : ∀ x, foldedSetIterable iter env x = pure x := by intro _; rfl)
    (hE : PassesOwn (model prog w) A env E := by passes_own) :
    wpAny (model prog w) A (exec (.For target iter body [] pos) env) Q E s := by
  refine For_turns F (wpAny_mono h (fun xv s₁ h₁ => ?_) fun _ _ e => e) hs hE
  obtain ⟨l, n, news, m', rfl, hh, F, N, hm, hq⟩ := h₁.is
  have hl : s₁.heap.IsList l #[] := ⟨_, (N _ hm).1, rfl, n, rfl⟩
  have hlt : l < s₁.heap.objs.size := by obtain ⟨_, e, _⟩ := hl; exact Heap.lt_size e
  refine wpAny_pyIter_list hl ?_
  have up : ∀ (ob : Obj) b o, s₁.heap.get? b = some o → (s₁.heap.push ob).get? b = some o := fun ob b o e => Heap.get?_push_of_some _ e
  have hL : env.locals ≠ s₁.heap.objs.size := Nat.ne_of_lt F.ns.lt
  refine ⟨s₁.heap.objs.size, _, _, _, _, _, _, m', news, fun _ m₁ news₁ => m₁ = m' ∧ news₁ = news, rfl,
    empty_turns (Walks.list hh s₁.heap.objs.size l (Nat.ne_of_lt hlt) #[]), ?_, ?_, ?_, ⟨⟨_, Heap.get?_push_size _ rfl, rfl, rfl⟩, hl.push _⟩, F.keeps (up _), N.grown (up _), ⟨rfl, rfl⟩, fun i v _ _ _ _ _ hi => absurd hi (Nat.not_lt_zero i), ?_⟩
  · intro hmem
    rcases List.mem_cons.mp hmem with e | hmem
    · exact hL e
    · exact (N _ hm).2.1 (List.mem_singleton.mp hmem).symm
  · intro b hb; rw [List.mem_singleton.mp hb]; exact next_is_new F
  · intro p hp hb; exact absurd (List.mem_singleton.mp hb) (Nat.ne_of_lt (Heap.lt_size (N p hp).1))
  · rintro h' tk m₁ news₁ F₁ N₁ _ ⟨rfl, rfl⟩
    exact hq h' tk F₁ N₁
end
theorem rowsP30 : True := by
  k_with "exec For Tuple Name cons nil" => (fail_if_success fail_if_success have q := hereP3); (k_here; k_dflt (refine for_empty (by k_asm) ?_))
  k_with "ForEmpty" => (fail_if_success fail_if_success have q := hereP3); (k_here; k_dflt (refine ⟨_, _, _, _, rfl, rfl, by assumption, by assumption, by k_mem, fun h'ₓ tkₓ F'ₓ N'ₓ => ?_⟩))
  trivial
end
section
set_option maxHeartbeats 2000000
section
open PySem.Calls PySem.Spec
variable {w : World} {A : Around} {E : Value → Shared → Prop} {s : Shared} {h₀ : Heap} {L : Addr} {m : Str → Option Value} {news : List (Addr × Obj)}
noncomputable def es44 (P : Params) : List (Str × Nat × Str × Nat) → List DictEntry := fun l => l.map fun x => ⟨PyData.keyHash P x.1, .str x.1 x.2.1, .str x.2.2.1 x.2.2.2⟩
noncomputable abbrev ns44 : List (Str × Nat × Str × Nat) := [(Str.ofString "http://www.w3.org/XML/1998/namespace", 329, Str.ofString "xml", 330), (Str.ofString "http://www.w3.org/1999/xhtml", 331, Str.ofString "html", 332), (Str.ofString "http://www.w3.org/1999/02/22-rdf-syntax-ns#", 333, Str.ofString "rdf", 334), (Str.ofString "http://schemas.xmlsoap.org/wsdl/", 335, Str.ofString "wsdl", 336), (Str.ofString "http://www.w3.org/2001/XMLSchema", 337, Str.ofString "xs", 338), (Str.ofString "http://www.w3.org/2001/XMLSchema-instance", 339, Str.ofString "xsi", 340), (Str.ofString "http://purl.org/dc/elements/1.1/", 341, Str.ofString "dc", 342)]
noncomputable def kvs44 : List (Str × Value) := ns44.map fun x => (x.1, .str x.2.2.1 x.2.2.2)
theorem ns_at (X : (K w.params).In s.heap) : ∃ n, s.heap.get? 44 = some ⟨.type "dict", none, .dict (es44 w.params ns44).toArray n, #[]⟩ := ⟨_, X 44 _ (by rfl)⟩
theorem es44_pairs : ∀ l : List (Str × Nat × Str × Nat), Pairs (strKind prg w) (es44 w.params l) (l.map fun x => (x.1, .str x.2.2.1 x.2.2.2))
  | [] => Pairs.nil
  | x :: r => Pairs.cons (strKind_is prg w x.1 x.2.1) rfl (es44_pairs r)
theorem es44_key : ∀ (l : List (Str × Nat × Str × Nat)) (e : DictEntry), e ∈ es44 w.params l → ∃ k u, e.key = .str k u ∧ e.hash = PyData.keyHash w.params k := fun l e he => by
  obtain ⟨x, _, rfl⟩ := List.mem_map.mp he
  exact ⟨x.1, x.2.1, rfl, rfl⟩
theorem ns_dict (X : (K w.params).In s.heap) : ∃ o, s.heap.get? 44 = some o ∧ o.IsDictOf (strKind prg w) kvs44 := by
  obtain ⟨n, e⟩ := ns_at X
  refine ⟨_, e, (es44 w.params ns44).toArray, n, ⟨rfl, rfl, rfl⟩, rfl, fun e he => ?_, es44_pairs ns44, by decide +kernel⟩
  · obtain ⟨k, u, hk, hh⟩ := es44_key ns44 e (List.mem_toArray.mp he)
    exact ⟨k, by rw [hk]; exact strKind_is prg w k u, hh.trans rfl⟩
theorem ns_method {pl : Sem Bool} {Q : Value × List Value → Shared → Prop} (X : (K w.params).In s.heap) (h : Q (.builtin "dict.items", [.ref 44]) s) : wpAny (model prg w) A (getMethod (.ref 44) (Str.ofString "items") pl) Q E s := by
  obtain ⟨n, e⟩ := ns_at X
  exact getMethod_builtin ⟨_, e, rfl⟩ PySem.F.plainAttrs_dict PySem.F.slot_dict_items PySem.F.type_dict_items (fun a q => by cases q; exact ⟨_, e, rfl⟩) h
theorem ns_view {Q : Value → Shared → Prop} (F : Fr h₀ L s.heap m) (N : News h₀ L s.heap news) (X : (K w.params).In s.heap)
    (h : ∀ (D : Addr) h', Fr h₀ L h' m → News h₀ L h' ((D, { cls := .type "dict_items", data := .fields #[.ref 44] }) :: news) → (∀ q ∈ news, q.1 < D) → Q (.ref D) { s with heap := h' }) :
    wpAny (model prg w) A (call (.builtin "dict.items") [.ref 44]) Q E s := by
  obtain ⟨o, e, ho⟩ := ns_dict X
  have hD : s.heap.DictOf (strKind prg w) 44 kvs44 := Heap.dictOf_iff.mpr ⟨o, e, ho⟩
  exact call_meetsIn PySem.F.slot_dict_items hD.typeIs PySem.F.entry_dict_items (PySem.F.args_dict_items_1 _) (meets_dict_items (strKind prg w) 44 (by decide)) ⟨⟨kvs44, hD⟩, h _ _ (F.push _) (News.push F N _) fun q hq => Heap.lt_size (N q hq).1⟩
theorem ns_list {Q : Value → Shared → Prop} {v : Addr} (hh : A.handled = none) (F : Fr h₀ L s.heap m) (N : News h₀ L s.heap news) (X : (K w.params).In s.heap) (hvw : (v, { cls := .type "dict_items", data := .fields #[.ref 44] }) ∈ news)
    (h : ∀ B its c h' tk, (∀ q ∈ news, q.1 < B) → Fr h₀ L h' m → News h₀ L h' ((B, listOf its c) :: news) → Q (.ref B) { s with heap := h', toks := tk }) :
    wpAny (model prg w) A (call (.type "list") [.ref v]) Q E s := by
  obtain ⟨o, e, ho⟩ := ns_dict X
  obtain ⟨ep, hat⟩ := KdkAt.of ho
  refine kdx_call (knd := strKind prg w) (kvs := kvs44) (ep := ep) hh ⟨_, (N _ hvw).1, rfl, rfl⟩ (hat.dictAt e) (by decide) fun h' tk acc c as hk hS hl hG hacc => ?_
  refine h s.heap.objs.size acc c h' tk (fun q hq => Heap.lt_size (N q hq).1) (F.keeps hk) fun q hq => ?_
  rcases List.mem_cons.mp hq with rfl | hq
  · exact ⟨hS, kdx_fresh F (Nat.le_refl _)⟩
  · exact ⟨hk _ _ (N q hq).1, (N q hq).2⟩
end
end
section
section
variable {news news' : List (Addr × Obj)} {R : Result → Shared → Prop}
theorem conv_y {self : Value} {text : Str} {tt : Tok} (cy : Cy w A₀ base h₀ outer env L m mean mg mb h news d u) (hsz : text.length ≤ 2 ^ 63 - 1)
    (hF : vBad text = false → BackY g os h₀ L m news (.str text tt) R) (hT : vBad text = true → BoomY g os base h₀ outer env L m news R) :
    codeAny (model prg w) (Ar d u gd env outer) (.call (.ref 213) ⟨[self, .str text tt], [(Str.ofString "name", .bool false)]⟩) R ⟨h, g, dr, tk, os⟩ := conv_spec cy.cx hsz hF hT
theorem convN_y {self : Value} {text : Str} {tt : Tok} (cy : Cy w A₀ base h₀ outer env L m mean mg mb h news d u) (hsz : text.length ≤ 2 ^ 63 - 1) (hnb : nBad text = false)
    (hF : BackY g os h₀ L m news (.str text tt) R) :
    codeAny (model prg w) (Ar d u gd env outer) (.call (.ref 213) ⟨[self, .str text tt], [(Str.ofString "name", .bool true)]⟩) R ⟨h, g, dr, tk, os⟩ := convN_spec cy.cx hsz hnb hF
theorem escc_y {text : Str} {tt : Tok} (cy : Cy w A₀ base h₀ outer env L m mean mg mb h news d u) (hlen : text.length ≤ 1000)
    (hF : ∀ tt', BackY g os h₀ L m news (.str (escC text) tt') R) :
    codeAny (model prg w) (Ar d u gd env outer) (.call (.ref 161) ⟨[.str text tt], []⟩) R ⟨h, g, dr, tk, os⟩ := escc_spec cy.cx hlen hF
theorem esca_y {text : Str} {tt : Tok} (cy : Cy w A₀ base h₀ outer env L m mean mg mb h news d u) (hlen : text.length ≤ 50)
    (hF : ∀ tt', BackY g os h₀ L m news (.str (escA text) tt') R) :
    codeAny (model prg w) (Ar d u gd env outer) (.call (.ref 168) ⟨[.str text tt], []⟩) R ⟨h, g, dr, tk, os⟩ := esca_spec cy.cx hlen hF
theorem spellC_y {text : Str} {tt : Tok} (cy : Cy w A₀ base h₀ outer env L m mean mg mb h news d u) (hlen : text.length ≤ 1000) (hasc : (text.cps.all (· < 128)) = true)
    (hF : ∀ tt', BackY g os h₀ L m news (.str (spell psC text) tt') R) :
    codeAny (model prg w) (Ar d u gd env outer) (.call (.ref 321) ⟨[.str text tt, .bool false], []⟩) R ⟨h, g, dr, tk, os⟩ := spellC_spec cy.cx hlen hasc hF
theorem spellA_y {text : Str} {tt : Tok} (cy : Cy w A₀ base h₀ outer env L m mean mg mb h news d u) (hlen : text.length ≤ 1000) (hasc : (text.cps.all (· < 128)) = true)
    (hF : ∀ tt', BackY g os h₀ L m news (.str (spell psA text) tt') R) :
    codeAny (model prg w) (Ar d u gd env outer) (.call (.ref 321) ⟨[.str text tt, .bool true], []⟩) R ⟨h, g, dr, tk, os⟩ := spellA_spec cy.cx hlen hasc hF
theorem lay_y {st ll : Addr} {o : Obj} {text : Str} {tt ft : Tok} {frm : Int} {items : Array Value} {n : Nat} {held depth seen : Value}
    (cy : Cy w A₀ base h₀ outer env L m mean mg mb h ((st, o) :: (ll, listOf items n) :: news) d u) (ho : o.IsDictOf (strKind prg w) (stK held depth (.int frm ft) seen (.ref ll)))
    (hne : st ≠ ll) (hnews : ∀ p ∈ news, p.1 ≠ ll) (hlen : items.size ≤ 1000)
    (hF : bad text = true → BackY g os h₀ L m ((st, o) :: (ll, listOf items n) :: news) (.bool false) R)
    (hT : bad text = false → ∀ q, (st < q ∧ ll < q ∧ AllLt q news) → BackY g os h₀ L m ((q, ({ cls := .type "tuple", data := .seq #[.int frm ft, .str text tt] } : Obj)) :: (st, o) :: (ll, listOf (items.push (.ref q)) (n + 1)) :: news) (.bool true) R) :
    codeAny (model prg w) (Ar d u gd env outer) (.call (.ref 328) ⟨[.ref st, .str text tt], []⟩) R ⟨h, g, dr, tk, os⟩ := lay_spec (news' := []) cy.cx ho hne hnews hlen hF hT
end
end
section
set_option maxHeartbeats 2000000
theorem filt_nil {P : Nat → Bool} (its : Array Value) (h : ∀ k, k < its.size → P k = true) : (List.filterMap (fun x : Value × Nat => if P x.2 = true then none else some x.1) its.toList.zipIdx).toArray = #[] := by
  have : List.filterMap (fun x : Value × Nat => if P x.2 = true then none else some x.1) its.toList.zipIdx = [] := by
    rw [List.filterMap_eq_nil_iff]
    rintro ⟨x, k⟩ hm
    have hk := List.snd_lt_of_mem_zipIdx hm
    simp only [Array.length_toList] at hk
    rw [if_pos (h k (by kln_le))]
  rw [this]
noncomputable def selB (n : Nat) (k : Nat) : Bool := if (1 : Int) > 0 then decide ((0 : Int) ≤ (k : Int)) && decide ((k : Int) < (n : Int)) && (((k : Int) - 0) % 1 == 0) else decide ((n : Int) < (k : Int)) && decide ((k : Int) ≤ 0) && ((0 - (k : Int)) % (-1) == 0)
theorem sel_all (n : Nat) (k : Nat) (h : k < n) : selB n k = true := by
  unfold selB
  rw [if_pos (by decide)]
  have h1 : ((k : Int) - 0) % 1 = 0 := Int.emod_one _
  rw [h1]
  simp; kln_le
section
open PySem.Calls PySem.Spec
variable {prog : Program} {w : World} {A : Around} {E : Value → Shared → Prop} {s : Shared} {h₀ : Heap} {L : Addr} {m : Str → Option Value} {news : List (Addr × Obj)}
theorem del_all {D sl : Addr} {its : Array Value} {n : Nat} {g : Obj → List (Addr × Obj)} {os : Obj} {Q : Unit → Shared → Prop} (F : Fr h₀ L s.heap m) (N : News h₀ L s.heap news) (U : UpdF D (listOf its n) news g)
    (hs : (sl, os) ∈ news) (hcs : os.cls = .type "slice") (hds : os.data = .fields #[.none, .none, .none])
    (h : ∀ h' n', Fr h₀ L h' m → News h₀ L h' (g (listOf #[] n')) → Q () { s with heap := h' }) (hsz : its.size ≤ 1000) : wpAny (model prog w) A (delItem (.ref D) (.ref sl)) Q E s := by
  obtain ⟨pre, post, rfl, hg, a, b⟩ := U.split
  have z := N (D, listOf its n) (List.mem_append.mpr (.inr (.head _)))
  have hos := (N _ hs).1
  have hT : s.TypeIs (.ref D) "list" := ⟨_, z.1, rfl⟩
  have hTs : s.TypeIs (.ref sl) "slice" := ⟨os, hos, hcs⟩
  refine wpAny_delItem_slot hT (by decide) PySem.F.slot_list_delitem ?_
  refine wpAny_call_entry PySem.F.slot_list_delitem hT PySem.F.entry_list_delitem ?_ (PySem.F.args_list_delitem_2 _ _)
  show wpAny _ _ (Builtin.List.listSubscript? (.ref sl) >>= _) _ _ s
  refine wpAny_bind ?_
  unfold Builtin.List.listSubscript?
  refine wpAny_bind (wpAny_specialOf hTs slice_no_index ?_)
  simp only [Option.isNone_none, if_true]
  refine wpAny_pure ?_
  show wpAny _ _ (typeOf (.ref sl) >>= _) _ _ s
  refine wpAny_bind (wpAny_typeOf hTs ?_)
  rw [if_neg (by decide)]
  rw [listSliceParts_eq]
  refine wpAny_bind (wpAny_bind (wpAny_field hos hds (x := .none) rfl (wpAny_bind (wpAny_listPart .none ?_))))
  rw [if_neg (by exact Bool.false_ne_true)]
  refine wpAny_bind (wpAny_field hos hds (x := .none) rfl (wpAny_bind (wpAny_listPart .none ?_)))
  refine wpAny_bind (wpAny_field hos hds (x := .none) rfl (wpAny_bind (wpAny_listPart .none (wpAny_pure ?_))))
  refine wpAny_bind (m := Builtin.List.listItems (.ref D)) ?_
  unfold Builtin.List.listItems
  refine wpAny_bind (wpAny_seqItems z.1 rfl (wpAny_pure ?_))
  refine wpAny_bind (wpAny_of_eq (sliceIndices_raw none none none its.size (by simp)) ?_)
  refine wpAny_bind (wpAny_rule ?_)
  have eb : sliceBounds none none none its.size = ((0 : Int), (its.size : Int), 1) := rfl
  rw [eb]
  have ef := filt_nil its (sel_all its.size)
  refine wpAny_bind (wpAny_updateSeq (f := fun xs => (List.filterMap (fun x : Value × Nat => if selB its.size x.2 = true then none else some x.1) xs.toList.zipIdx).toArray) z.1 rfl ?_ (Nat.le_trans hsz (by decide)) ?_)
  · refine wpAny_bind (wpAny_letGo (wpAny_pure ⟨_, rfl, ?_⟩))
    have e : Obj.mapSeq (fun xs => (List.filterMap (fun x : Value × Nat => if selB its.size x.2 = true then none else some x.1) xs.toList.zipIdx).toArray) (listOf its n) = listOf #[] (if (#[] : Array Value).size == its.size then n else n + 1) := by
      unfold Obj.mapSeq
      simp only [ef]
    refine h _ (if (#[] : Array Value).size == its.size then n else n + 1) (F.change (Heap.SameBut.update ..) z.2.1 z.2.2) ?_
    rw [hg]
    refine news_set N a b (Heap.SameBut.update ..) ?_
    rw [Heap.get?_update_self _ z.1 (by rw [e]; rfl), e]
  · rw [ef]; decide
theorem slice_all_K {M : Model} {A : Around} {E : Value → Shared → Prop} {s : Shared} {env : Env} {p : Pos} {Q : Value → Shared → Prop} (F : Fr h₀ L s.heap m) (N : News h₀ L s.heap news)
    (h : ∀ sl h', Fr h₀ L h' m → News h₀ L h' ((sl, ({ cls := .type "slice", data := .fields #[.none, .none, .none] } : Obj)) :: news) → (∀ q ∈ news, q.1 < sl) → Q (.ref sl) { s with heap := h' }) :
    wpAny M A (eval (.Slice none none none p) env) Q E s := by
  refine wpAny_Slice ?_
  rw [evalPart_none]
  refine wpAny_pure (wpAny_pure ?_)
  exact wpAny_pure (h _ _ (F.push _) (News.push F N _) fun q hq => Heap.lt_size (N q hq).1)
end
end
section
set_option maxHeartbeats 2000000
structure SetL (w : World) (o : Obj) (vs : List Value) : Prop where
  is : ∃ es ep t, o.ExactSet ∧ o.data = .set es ep t ∧ ElemsOf (strKind prg w) es.toList ∧ (es.toList.map (·.2)).Perm vs ∧ t.fits es.size = true ∧ 7 ≤ t.mask ∧ t.dummies = #[] ∧ (vs ≠ [] → t.plain = false)
theorem setL_fresh (w : World) (led : Bool) : SetL w { cls := .type "set", dict := none, data := .set #[] 0 (.fresh 0 0 led) } [] :=
  ⟨#[], 0, _, ⟨rfl, rfl, rfl⟩, rfl, fun e he => by simp at he, .rfl, by rfl, Nat.le_refl _, rfl, fun h => absurd rfl h⟩
theorem layNew_size (t : SetTable) (es : Array (Int × Value)) (h : Int) (x : Value) : (layNew t es h x).1.size = es.size + 1 := by
  have e := (layNew_perm t es h x).length_eq
  rw [Array.length_toList, Array.length_toList, Array.size_push] at e
  exact e
theorem layNew_mask {t : SetTable} {es : Array (Int × Value)} {h : Int} {x : Value} (hm : 7 ≤ t.mask) (hd : t.dummies = #[]) : 7 ≤ (layNew t es h x).2.1.mask ∧ (layNew t es h x).2.1.dummies = #[] := by
  have hsz := layNew_size t es h x
  unfold layNew at hsz ⊢
  split
  · rename_i slot wd e
    rw [e] at hsz
    dsimp only at hsz ⊢
    unfold SetTable.orStandIn
    split
    · refine ⟨hm, ?_⟩
      show (if SetTable.has t.dummies slot then _ else t.dummies) = #[]
      rw [hd]
      rfl
    · refine ⟨?_, rfl⟩
      show 7 ≤ 4 * _ + 4
      kln_le
  · refine ⟨?_, rfl⟩
    show 7 ≤ 4 * _ + 4
    kln_le
theorem not_full {t : SetTable} {n : Nat} (hf : t.fits n = true) (hm : 7 ≤ t.mask) (hd : t.dummies = #[]) (hn : n ≤ 4) : t.tooFull = false := by
  have h1 : t.place.size = n := by
    unfold SetTable.fits at hf
    simp only [Bool.and_eq_true, beq_iff_eq] at hf
    exact hf.1
  unfold SetTable.tooFull SetTable.fill
  rw [hd, h1]
  simp only [List.size_toArray, List.length_nil, Nat.add_zero, ge_iff_le, decide_eq_false_iff_not, Nat.not_le]
  kln_le
section
variable {w : World} {A : Around} {E : Value → Shared → Prop} {s : Shared}
theorem setL_addH {a : Addr} {o : Obj} {vs : List Value} {k : Str} {u : Tok} {Q : Bool → Shared → Prop} (ho : s.heap.get? a = some o) (H : SetL w o vs) (hl : vs.length ≤ 3) (hnew : ∀ v ∈ vs, (strKind prg w).is k v = false)
    (h : ∀ h' o', Heap.SameBut a s.heap h' → h'.get? a = some o' → SetL w o' (vs ++ [.str k u]) → Q true { s with heap := h' }) :
    wpAny (model prg w) A (setAddHashed a (.str k u) ((strKind prg w).hash k)) Q E s := by
  obtain ⟨es, ep, t, hex, hd, hel, hp, hf, hm, hdm, hpl⟩ := H
  have hkey := strKind_is prg w k u
  have hn : es.size ≤ 3 := by
    have e := hp.length_eq
    rw [List.length_map, Array.length_toList] at e
    kln_le
  have hb : es.size < scanBound := Nat.lt_of_le_of_lt hn (by decide)
  unfold setAddHashed setAddHashedIn
  refine wpAny_holding (wpAny_bind (wpAny_setState_of ho hd hf ?_))
  (try dsimp only)
  rw [byScan_of rfl hb hel]
  simp only [↓reduceIte]
  unfold setAddByScan
  refine wpAny_bind ?_
  refine wpAny_bind (wpAny_rule ?_)
  refine wpAny_bind (wpAny_setScan_of hkey ho hd hf hel ?_)
  have hr : List.findIdx? (fun e => (strKind prg w).is k e.2) es.toList = none := by
    rw [List.findIdx?_eq_none_iff]
    intro e he
    exact hnew e.2 (hp.mem_iff.mp (List.mem_map.mpr ⟨e, he, rfl⟩))
  rw [hr]
  (try dsimp only)
  have hgw : ∀ (b : Bool) {s₁ : Shared} {Q' : Unit → Shared → Prop}, Q' () s₁ → wpAny (model prg w) A (match b with | true => rule "set.scan.the-table-gave-way" | false => pure ()) Q' E s₁ :=
    fun b s₁ Q' hq => by cases b <;> first | exact wpAny_pure hq | exact wpAny_rule hq
  have hperm := layNew_perm t es ((strKind prg w).hash k) (.str k u)
  have hfits := layNew_fits t es ((strKind prg w).hash k) (.str k u)
  have hsz := layNew_size t es ((strKind prg w).hash k) (.str k u)
  have hmk := layNew_mask (t := t) (es := es) (h := (strKind prg w).hash k) (x := .str k u) hm hdm
  generalize hL : layNew t es ((strKind prg w).hash k) (.str k u) = L at hperm hfits hsz hmk ⊢
  obtain ⟨es1, t1, wasDummy, gave⟩ := L
  dsimp only at hperm hfits hsz hmk ⊢
  rw [Array.toList_push] at hperm
  have hel1 : ElemsOf (strKind prg w) es1.toList := (hel.push hkey rfl).perm hperm
  have hp1 : (es1.toList.map (·.2)).Perm (vs ++ [.str k u]) := (hperm.map _).trans (by rw [List.map_append]; exact hp.append_right _)
  refine wpAny_bind (hgw _ ?_)
  have fin : ∀ t2 : SetTable, t2.fits es1.size = true → 7 ≤ t2.mask → t2.dummies = #[] → t2.plain = false → wpAny (model prg w) A (do
      storeSet a es1 t2
      if (!wasDummy && t2.tooFull) = true then do
        let r := relayAll t2 es1 (SetTable.grown es1.size)
        (match r.2.2 with | true => rule "set.scan.the-table-gave-way" | false => pure ())
        storeSet a r.1 r.2.1
      return some true) (fun r s' => wpAny (model prg w) A (match r with | some added => pure added | none => setAddHashedIn a (.str k u) ((strKind prg w).hash k) 99999) Q E s') E s := by
    intro t2 f2 m2 d2 p2
    refine wpAny_bind (wpAny_storeSet_of ho hd ?_ (fits_of_scanBound (by rw [hsz]; exact Nat.lt_of_le_of_lt (Nat.succ_le_succ hn) (by decide))))
    rw [not_full f2 m2 d2 (by kln_le), Bool.and_false, if_neg Bool.false_ne_true]
    have hg : (s.heap.update a (Obj.putSet es1 t2)).get? a = some { o with data := .set es1 (ep + 1) t2 } := by
      have := Heap.get?_update_self (Obj.putSet es1 t2) ho (by rw [putSet_of es1 t2 hd]; rfl)
      rw [putSet_of es1 t2 hd] at this; exact this
    refine wpAny_pure (wpAny_pure (h _ _ (Heap.SameBut.update ..) hg ⟨es1, ep + 1, t2, hex, rfl, hel1, hp1, f2, m2, d2, fun _ => p2⟩))
  split
  · refine wpAny_bind ?_
    rw [hashByValue_scannable 8 (x := .str k u) rfl]
    refine wpAny_pure ?_
    exact fin _ (SetTable.fits_plain_off hfits) hmk.1 hmk.2 rfl
  · rename_i hp0
    refine wpAny_bind (wpAny_pure ?_)
    simp only [↓reduceIte]
    exact fin _ hfits hmk.1 hmk.2 (by cases hq : t1.plain with | false => rfl | true => exact absurd hq hp0)
theorem setL_add {a : Addr} {o : Obj} {vs : List Value} {k : Str} {u : Tok} {Q : Bool → Shared → Prop} (ho : s.heap.get? a = some o) (H : SetL w o vs) (hl : vs.length ≤ 3) (hnew : ∀ v ∈ vs, (strKind prg w).is k v = false)
    (h : ∀ h' o', Heap.SameBut a s.heap h' → h'.get? a = some o' → SetL w o' (vs ++ [.str k u]) → Q true { s with heap := h', toks := s.toks + 1 }) :
    wpAny (model prg w) A (setAdd a (.str k u)) Q E s := by
  unfold setAdd
  refine wpAny_holding (wpAny_bind ((strKind prg w).pyHash (strKind_is prg w k u) ?_))
  exact setL_addH (s := { s with toks := s.toks + 1 }) ho H hl hnew h
end
end
section
set_option maxHeartbeats 2000000
theorem slot_setit_next : Slot "set_iterator" "__next__" "set_iterator.__next__" :=
  .of (owner := "set_iterator") (n := "__next__") (by rw [typeLookup_type, builtinLookup_eq_fast]; kernel_rfl) (by decide +kernel) (by decide +kernel) (by decide +kernel)
    (by first | exact .inl (by decide +kernel) | exact .inr (by decide +kernel)) (by rw [isSubtype_type]; kernel_rfl)
theorem entry_setit_next : entryFor table "set_iterator.__next__" = some Builtin.«set_iterator.__next__» := entryFor_of_fast (by kernel_rfl)
theorem args_setit_next (a : Value) : argsOk "set_iterator.__next__" ⟨[a], []⟩ := by unfold argsOk; kernel_rfl
theorem slot_setit_iter : Slot "set_iterator" "__iter__" "set_iterator.__iter__" :=
  .of (owner := "set_iterator") (n := "__iter__") (by rw [typeLookup_type, builtinLookup_eq_fast]; kernel_rfl) (by decide +kernel) (by decide +kernel) (by decide +kernel)
    (by first | exact .inl (by decide +kernel) | exact .inr (by decide +kernel)) (by rw [isSubtype_type]; kernel_rfl)
theorem args_setit_iter (a : Value) : argsOk "set_iterator.__iter__" ⟨[a], []⟩ := by unfold argsOk; kernel_rfl
theorem entry_setit_iter : entryFor table "set_iterator.__iter__" = some Builtin.«dict_keyiterator.__iter__» :=
  entryFor_alias (id' := "dict_keyiterator.__iter__") (by kernel_rfl) rfl (by decide +kernel) (by kernel_rfl)
theorem entry_set_iterF : entryFor table "set.__iter__" = some Builtin.«frozenset.__iter__» :=
  entryFor_alias (id' := "frozenset.__iter__") (by kernel_rfl) rfl (by decide +kernel) (by kernel_rfl)
theorem set_len_of : typeLookup (.type "set") "__len__" = pure (some (.builtin "set.__len__")) := by rw [typeLookup_type, builtinLookup_eq_fast]; kernel_rfl
theorem sub_stop : isSubtype (.type "StopIteration") (.type "StopIteration") = pure true := by rw [isSubtype_type]; kernel_rfl
noncomputable def SetIt (h : Heap) (it a : Addr) (first : Value) (i n ep : Nat) : Prop :=
  ∃ o, h.get? it = some o ∧ o.cls = .type "set_iterator" ∧ o.data = .fields #[first, .int i 0, .ref a, .int n 0, .int ep 0]
noncomputable def SetMode (w : World) (h : Heap) (a : Addr) (es : Array (Int × Value)) (ep : Nat) (ord : List Value) (first : Value) : Prop :=
  (∃ T oT xs c, first = Value.ref T ∧ h.get? T = some oT ∧ oT.data = .seq xs c ∧ xs.size = ord.length ∧ ∀ (i : Nat) (x : Value), ord[i]? = some x → ∃ (p : Nat) (tk : Tok) (hh : Int), xs[i]? = some (Value.int (p : Int) tk) ∧ es[p]? = some (hh, x)) ∨
  (∃ z t, first = Value.int z t ∧ w.params.followText "set-order" = true ∧ (pickOrder (w.params.setOrder a ep) es).toList.map (·.2) = ord)
structure SetSt (w : World) (I a : Addr) (es : Array (Int × Value)) (ep : Nat) (t : SetTable) (ord : List Value) (fp : List Addr) (i : Nat) (h : Heap) : Prop where
  is : ∃ o first, h.get? a = some o ∧ o.data = .set es ep t ∧ SetIt h I a first i es.size ep ∧ SetMode w h a es ep ord first ∧ ∀ T, first = Value.ref T → T ∈ fp ∧ T ≠ I
section
variable {w : World} {A : Around} {E : Value → Shared → Prop} {s : Shared} {I a : Addr} {es : Array (Int × Value)} {ep : Nat} {t : SetTable} {ord : List Value} {fp : List Addr} {i : Nat}
theorem setWalk_text {o : Obj} {Q : Array (Int × Value) → Shared → Prop} (ho : s.heap.get? a = some o) (hd : o.data = .set es ep t) (hf : t.fits es.size = true) (ht : w.params.followText "set-order" = true) (h : Q (pickOrder (w.params.setOrder a ep) es) s) :
    wpAny (model prg w) A (setWalk a) Q E s := by
  unfold setWalk
  refine wpAny_bind (wpAny_setState_of ho hd hf ?_)
  (try dsimp only)
  unfold setsByText
  refine wpAny_bind (wpAny_bind (wpAny_askSetting (wpAny_pure ?_)))
  show wpAny _ _ (if w.params.followText "set-order" = true then _ else _) _ _ _
  rw [if_pos ht]
  exact wpAny_bind (wpAny_askSetting (wpAny_pure h))
theorem setIt_typeIs {first : Value} {n : Nat} (x : SetIt s.heap I a first i n ep) : s.TypeIs (.ref I) "set_iterator" := let ⟨o, ho, hc, _⟩ := x; ⟨o, ho, hc⟩
theorem setIt_upd1 {h : Heap} {first : Value} {n : Nat} (x : SetIt h I a first i n ep) : SetIt (h.update I (Obj.mapFields (·.setIfInBounds 1 (rawInt ((i : Int) + 1))))) I a first (i + 1) n ep := by
  obtain ⟨o, ho, hc, hd⟩ := x
  exact ⟨_, Heap.get?_update_self _ ho (Obj.isFreed_of_fields (Obj.data_mapFields hd _)), (Obj.cls_mapFields ..).trans hc, by rw [Obj.data_mapFields hd]; simp [rawInt]⟩
theorem setIt_upd0 {h : Heap} {first : Value} {n : Nat} (v : Value) (x : SetIt h I a first i n ep) : SetIt (h.update I (Obj.mapFields (·.setIfInBounds 0 v))) I a v i n ep := by
  obtain ⟨o, ho, hc, hd⟩ := x
  exact ⟨_, Heap.get?_update_self _ ho (Obj.isFreed_of_fields (Obj.data_mapFields hd _)), (Obj.cls_mapFields ..).trans hc, by rw [Obj.data_mapFields hd]; simp⟩
theorem setIt_next {v : Value} {Q : Option Value → Shared → Prop} (hf : t.fits es.size = true) (hI : a ≠ I) (st : SetSt w I a es ep t ord fp i s.heap) (hx : ord[i]? = some v)
    (hQ : ∀ h', SetSt w I a es ep t ord fp (i + 1) h' → (∀ b o, b ≠ I → s.heap.get? b = some o → h'.get? b = some o) → Q (some v) { s with heap := h' }) :
    wpAny (model prg w) A (pyNext (.ref I)) Q E s := by
  obtain ⟨o, first, ho, hd, hit, hmode, hT⟩ := st
  have ho' := hit
  obtain ⟨oi, hoi, hci, hdi⟩ := ho'
  unfold pyNext
  refine wpAny_bind (wpAny_attempt (wpAny_callSpecial?_slot (name := Str.ofString "__next__") (setIt_typeIs hit) slot_setit_next
    (wpAny_call_entry slot_setit_next (setIt_typeIs hit) entry_setit_next ?_ (args_setit_next _))))
  unfold Builtin.«set_iterator.__next__»
  refine wpAny_bind (wpAny_of_eq (a := (Value.ref I, [])) (by first | rfl | kernel_rfl!) ?_)
  refine wpAny_bind (wpAny_fieldsOf hoi hdi ?_)
  (try dsimp only)
  refine wpAny_bind (m := setEntries a) ?_
  unfold setEntries
  refine wpAny_bind (wpAny_setState_of ho hd hf (wpAny_pure ?_))
  rw [if_neg (by simp)]
  refine wpAny_bind (wpAny_pure ?_)
  rcases hmode with ⟨T, oT, xs, c, rfl, hoT, hdT, hsz, hall⟩ | ⟨z, tz, rfl, htx, hord⟩
  · obtain ⟨p, tk, hh, hxs, hes⟩ := hall i v hx
    (try dsimp only)
    unfold seqItems?
    refine wpAny_bind (wpAny_bind (wpAny_load hoT ?_))
    rw [hdT]
    (try dsimp only)
    refine wpAny_pure ?_
    (try dsimp only)
    rw [show ((i : Int).toNat) = i from rfl, hxs]
    (try dsimp only)
    unfold setNextDrawn
    refine wpAny_bind (wpAny_bind (wpAny_setState_of ho hd hf ?_))
    (try dsimp only)
    rw [if_neg (by simp)]
    refine wpAny_bind (wpAny_pure ?_)
    rw [show ((p : Int).toNat) = p from rfl, hes]
    (try dsimp only)
    refine wpAny_pure ?_
    refine wpAny_bind (wpAny_setField hoi hdi (by simp) ?_)
    have ne := fun b ob (hb : b ≠ I) (e : s.heap.get? b = some ob) => (Heap.get?_update_other s.heap (Obj.mapFields (·.setIfInBounds 1 (rawInt ((i : Int) + 1)))) (Ne.symm hb)).trans e
    refine wpAny_pure ⟨_, rfl, wpAny_pure (hQ _ ⟨o, _, ne a o hI ho, hd, setIt_upd1 hit, .inl ⟨T, oT, xs, c, rfl, ne T oT (hT T rfl).2 hoT, hdT, hsz, hall⟩, hT⟩ ne)⟩
  · (try dsimp only)
    unfold setNext
    refine wpAny_bind (wpAny_bind (wpAny_setState_of ho hd hf ?_))
    (try dsimp only)
    refine wpAny_bind (m := setsByText) ?_
    unfold setsByText
    refine wpAny_bind (wpAny_askSetting (wpAny_pure ?_))
    show wpAny _ _ (if w.params.followText "set-order" = true then _ else _) _ _ _
    rw [if_pos htx]
    rw [if_neg (by simp)]
    refine wpAny_bind (setWalk_text ho hd hf htx ?_)
    have hpk : ∃ hh, (pickOrder (w.params.setOrder a ep) es)[(i : Int).toNat]? = some (hh, v) := by
      rw [← hord, List.getElem?_map] at hx
      obtain ⟨e, he, rfl⟩ := Option.map_eq_some_iff.mp hx
      exact ⟨e.1, by rw [← Array.getElem?_toList]; exact he⟩
    obtain ⟨hh, hpk⟩ := hpk
    rw [hpk]
    refine wpAny_pure ?_
    dsimp only [Option.map_some]
    refine wpAny_bind (wpAny_setField hoi hdi (by simp) ?_)
    have hit0 := setIt_upd0 (rawInt ((z.toNat : Nat) : Int)) hit
    have hit0' := hit0
    obtain ⟨o2, ho2, hc2, hd2⟩ := hit0'
    refine wpAny_bind (wpAny_setField ho2 hd2 (by simp) ?_)
    have ne := fun b ob (hb : b ≠ I) (e : s.heap.get? b = some ob) => (Heap.get?_update_other (s.heap.update I (Obj.mapFields (·.setIfInBounds 0 (rawInt ((z.toNat : Nat) : Int))))) (Obj.mapFields (·.setIfInBounds 1 (rawInt ((i : Int) + 1)))) (Ne.symm hb)).trans ((Heap.get?_update_other s.heap (Obj.mapFields (·.setIfInBounds 0 (rawInt ((z.toNat : Nat) : Int)))) (Ne.symm hb)).trans e)
    refine wpAny_pure ⟨_, rfl, wpAny_pure (hQ _ ⟨o, _, ne a o hI ho, hd, setIt_upd1 hit0, .inr ⟨_, _, rfl, htx, hord⟩, fun T hT => nomatch hT⟩ ne)⟩
theorem setIt_end {Q : Option Value → Shared → Prop} (hh : A.handled = none) (hf : t.fits es.size = true) (st : SetSt w I a es ep t ord fp i s.heap) (hx : ord[i]? = none)
    (hQ : ∀ h', (∀ b o, b ≠ I → s.heap.get? b = some o → h'.get? b = some o) → Q none { s with heap := h' }) :
    wpAny (model prg w) A (pyNext (.ref I)) Q E s := by
  obtain ⟨o, first, ho, hd, hit, hmode, hT⟩ := st
  have ho' := hit
  obtain ⟨oi, hoi, hci, hdi⟩ := ho'
  unfold pyNext
  refine wpAny_bind (wpAny_attempt (wpAny_callSpecial?_slot (name := Str.ofString "__next__") (setIt_typeIs hit) slot_setit_next
    (wpAny_call_entry slot_setit_next (setIt_typeIs hit) entry_setit_next ?_ (args_setit_next _))))
  have stop : ∀ h1, (∀ b o, b ≠ I → s.heap.get? b = some o → h1.get? b = some o) → wpAny (model prg w) A.in1 (do raiseNew (← newExc (.type "StopIteration") []))
      (fun fin s' => ∃ v, fin = Fin.done (Flow.ret v) ∧ wpAny (model prg w) A (pure (some v)) Q E s')
      (fun e s' => wpAny (model prg w) A (do if (← isInstance e (Value.type "StopIteration")) = true then pure none else throw e) Q E s') { s with heap := h1 } := by
    intro h1 hk
    refine wpAny_bind ?_
    simp only [newExc, newTuple]
    refine wpAny_bind (wpAny_newObj_type ?_ (by size_fits))
    refine wpAny_bind (m := firstArgMember _ _) (wpAny_of_eq (a := Value.none) (by first | rfl | (simp only [firstArgMember]; rfl)) ?_)
    refine wpAny_newObj_type ?_ (by size_fits)
    simp only [raiseNew]
    refine wpAny_bind (wpAny_handled ?_)
    rw [show A.in1.handled = none from hh]
    refine wpAny_bind (wpAny_pure (wpAny_throw ?_))
    refine wpAny_bind (wpAny_isInstance (T := "StopIteration") (b := true) ⟨_, Heap.get?_push_size _ rfl, rfl⟩ sub_stop ?_)
    exact wpAny_pure (hQ _ fun b ob hb e => Heap.get?_push_of_some _ (Heap.get?_push_of_some _ (hk b ob hb e)))
  unfold Builtin.«set_iterator.__next__»
  refine wpAny_bind (wpAny_of_eq (a := (Value.ref I, [])) (by first | rfl | kernel_rfl!) ?_)
  refine wpAny_bind (wpAny_fieldsOf hoi hdi ?_)
  (try dsimp only)
  refine wpAny_bind (m := setEntries a) ?_
  unfold setEntries
  refine wpAny_bind (wpAny_setState_of ho hd hf (wpAny_pure ?_))
  rw [if_neg (by simp)]
  refine wpAny_bind (wpAny_pure ?_)
  have ne := fun (j : Nat) (v : Value) b ob (hb : b ≠ I) (e : s.heap.get? b = some ob) => (Heap.get?_update_other s.heap (Obj.mapFields (·.setIfInBounds j v)) (Ne.symm hb)).trans e
  rcases hmode with ⟨T, oT, xs, c, rfl, hoT, hdT, hsz, hall⟩ | ⟨z, tz, rfl, htx, hord⟩
  · (try dsimp only)
    unfold seqItems?
    refine wpAny_bind (wpAny_bind (wpAny_load hoT ?_))
    rw [hdT]
    (try dsimp only)
    refine wpAny_pure ?_
    (try dsimp only)
    have hxs : xs[(i : Int).toNat]? = none := by
      rw [show ((i : Int).toNat) = i from rfl]
      simp only [Array.getElem?_eq_none_iff, List.getElem?_eq_none_iff] at hx ⊢
      kln_le
    rw [hxs]
    (try dsimp only)
    refine wpAny_bind (wpAny_setField hoi hdi (by simp) ?_)
    have hit0 := setIt_upd0 (rawInt 0) hit
    obtain ⟨o2, ho2, hc2, hd2⟩ := hit0
    refine wpAny_bind (wpAny_setField ho2 hd2 (by simp) ?_)
    exact stop _ fun b ob hb e => (Heap.get?_update_other _ _ (Ne.symm hb)).trans (ne 0 _ b ob hb e)
  · (try dsimp only)
    unfold setNext
    refine wpAny_bind (wpAny_bind (wpAny_setState_of ho hd hf ?_))
    (try dsimp only)
    refine wpAny_bind (m := setsByText) ?_
    unfold setsByText
    refine wpAny_bind (wpAny_askSetting (wpAny_pure ?_))
    show wpAny _ _ (if w.params.followText "set-order" = true then _ else _) _ _ _
    rw [if_pos htx]
    rw [if_neg (by simp)]
    refine wpAny_bind (setWalk_text ho hd hf htx ?_)
    have hpk : (pickOrder (w.params.setOrder a ep) es)[(i : Int).toNat]? = none := by
      rw [← hord, List.getElem?_map] at hx
      rw [show ((i : Int).toNat) = i from rfl, ← Array.getElem?_toList]
      exact Option.map_eq_none_iff.mp hx
    rw [hpk]
    refine wpAny_pure ?_
    dsimp only [Option.map_none]
    refine wpAny_bind (wpAny_setField hoi hdi (by simp) ?_)
    exact stop _ (ne 2 _)
theorem SetSt.frame {h h' : Heap} (st : SetSt w I a es ep t ord fp i h) (ha : a ∈ fp) (hI : I ∈ fp) (hk : ∀ b ∈ fp, ∀ o, h.get? b = some o → h'.get? b = some o) : SetSt w I a es ep t ord fp i h' := by
  obtain ⟨o, first, ho, hd, ⟨oi, hoi, hci⟩, hmode, hT⟩ := st
  refine ⟨o, first, hk a ha o ho, hd, ⟨oi, hk I hI oi hoi, hci⟩, ?_, hT⟩
  rcases hmode with ⟨T, oT, xs, c, e, hoT, r⟩ | r
  · exact .inl ⟨T, oT, xs, c, e, hk T (hT T e).1 oT hoT, r⟩
  · exact .inr r
theorem setIt_self {Q : Value → Shared → Prop} (st : SetSt w I a es ep t ord fp i s.heap) (h : Q (.ref I) s) : wpAny (model prg w) A (pyIter (.ref I)) Q E s := by
  obtain ⟨o, first, ho, hd, hit, hmode, hT⟩ := st
  refine wpAny_pyIter_slot (setIt_typeIs hit) slot_setit_iter (wpAny_call_entry slot_setit_iter (setIt_typeIs hit) entry_setit_iter ?_ (args_setit_iter _))
  show wpAny _ _ (ret (.ref I)) _ _ s
  exact wpAny_pure ⟨_, rfl, "set_iterator", _, setIt_typeIs hit, slot_setit_next.lookup, h⟩
theorem Walks.setItems (hh : A.handled = none) (hf : t.fits es.size = true) (hI : a ≠ I) (ha : a ∈ fp) (hm : I ∈ fp) : Walks prg w A I fp [I] ord.length (fun i v => ord[i]? = some v) (SetSt w I a es ep t ord fp) where
  sub := fun b hb => by rw [List.mem_singleton.mp hb]; exact hm
  frame := fun i h h' st hk => st.frame ha hm hk
  item := fun i s Q E hi st hQ => setIt_next hf hI st (List.getElem?_eq_getElem hi) fun h' st' hk => hQ _ h' s.toks (List.getElem?_eq_getElem hi) st' fun b o hb e => hk b o (fun h => hb (by simp [h])) e
  done := fun s Q E st hQ => setIt_end hh hf st (by simp) fun h' hk => hQ h' s.toks fun b o hb e => hk b o (fun h => hb (by simp [h])) e
  self := fun i s Q E st hQ => setIt_self st hQ
end
end
section
set_option maxHeartbeats 2000000
theorem pick2 {α : Type} (f : Nat → Nat) (x y : α) : (pickOrder f #[x, y]).toList = [x, y] ∨ (pickOrder f #[x, y]).toList = [y, x] := by
  have h1 : f 1 % 1 = 0 := Nat.mod_one _
  have h2 := Nat.mod_two_eq_zero_or_one (f 0)
  unfold pickOrder
  show (pickOrder.go f 2 0 [x, y] #[]).toList = _ ∨ (pickOrder.go f 2 0 [x, y] #[]).toList = _
  rcases h2 with h2 | h2
  · left
    simp [pickOrder.go, h2, h1]
  · right
    simp [pickOrder.go, h2, h1]
theorem two_of {α : Type} : ∀ {l : List α}, l.length = 2 → ∃ a b, l = [a, b]
  | [a, b], _ => ⟨a, b, rfl⟩
section
variable {w : World} {A : Around} {E : Value → Shared → Prop} {s : Shared}
theorem choose_any {src : Source} {n : Nat} {Q : Nat → Shared → Prop} (hn : n ≠ 0) (h : ∀ k d', k < n → Q k { s with drawn := d' }) : wpAny (model prg w) A (choose src n) Q E s :=
  fun _ _ _ => ⟨hn, h _ _ (Nat.mod_lt _ (Nat.pos_of_ne_zero hn))⟩
theorem draw2 {α : Type} {x y : α} {Q : List α → Shared → Prop} (h : ∀ d' r, r = [x, y] ∨ r = [y, x] → Q r { s with drawn := d' }) : wpAny (model prg w) A (drawOrder 2 [x, y]) Q E s := by
  unfold drawOrder
  refine wpAny_bind (choose_any (by simp) fun k d' hk => ?_)
  have hk2 : k = 0 ∨ k = 1 := by simp at hk; kln_le
  rcases hk2 with rfl | rfl
  · show wpAny _ _ (drawOrder 1 [y] >>= fun r => pure (x :: r)) Q E _
    unfold drawOrder
    refine wpAny_bind (wpAny_bind (choose_any (by simp) fun k d'' hk => ?_))
    have hk0 : k = 0 := by simp at hk; kln_le
    subst hk0
    show wpAny _ _ (drawOrder 0 [] >>= fun r => pure (y :: r)) _ E _
    exact wpAny_bind (wpAny_pure (wpAny_pure (wpAny_pure (h _ _ (.inl rfl)))))
  · show wpAny _ _ (drawOrder 1 [x] >>= fun r => pure (y :: r)) Q E _
    unfold drawOrder
    refine wpAny_bind (wpAny_bind (choose_any (by simp) fun k d'' hk => ?_))
    have hk0 : k = 0 := by simp at hk; kln_le
    subst hk0
    show wpAny _ _ (drawOrder 0 [] >>= fun r => pure (x :: r)) _ E _
    exact wpAny_bind (wpAny_pure (wpAny_pure (wpAny_pure (h _ _ (.inr rfl)))))
theorem setL_iter {a : Addr} {o : Obj} {v1 v2 : Value} {Q : Value → Shared → Prop} (ho : s.heap.get? a = some o) (H : SetL w o [v1, v2])
    (h : ∀ (I : Addr) (h' : Heap) (d' : Drawn) (ord : List Value) (es : Array (Int × Value)) (ep : Nat) (t : SetTable) (fp : List Addr), ord = [v1, v2] ∨ ord = [v2, v1] → s.heap.objs.size ≤ I → t.fits es.size = true → a ∈ fp → I ∈ fp → (∀ b ∈ fp, b < s.heap.objs.size → b = a) → a ≠ I → (∀ b o, s.heap.get? b = some o → h'.get? b = some o) → (∀ b ∈ fp, b < h'.objs.size) → SetSt w I a es ep t ord fp 0 h' → Q (.ref I) { s with heap := h', drawn := d' }) :
    wpAny (model prg w) A (pyIter (.ref a)) Q E s := by
  obtain ⟨es, ep, t, hex, hd, hel, hp, hf, hm, hdm, hpl⟩ := H
  have hT : s.TypeIs (.ref a) "set" := ⟨o, ho, hex.1⟩
  have ha := Heap.lt_size ho
  obtain ⟨e0, e1, hes, hord⟩ : ∃ e0 e1 : Int × Value, es = #[e0, e1] ∧ ([e0.2, e1.2] = [v1, v2] ∨ [e0.2, e1.2] = [v2, v1]) := by
    have hl := hp.length_eq
    rw [List.length_map] at hl
    obtain ⟨l⟩ := es
    obtain ⟨e0, e1, rfl⟩ := two_of hl
    refine ⟨e0, e1, rfl, ?_⟩
    have hp' : [e0.2, e1.2].Perm [v1, v2] := hp
    rcases (List.cons_perm_iff_perm_erase.mp hp').1 with q
    by_cases h1 : e0.2 = v1
    · left
      rw [h1] at hp' ⊢
      rw [List.singleton_perm_singleton.mp ((List.perm_cons v1).mp hp')]
    · have q2 : e0.2 = v2 := by
        rcases List.mem_cons.mp q with q | q
        · exact absurd q h1
        · exact List.mem_singleton.mp q
      right
      rw [q2] at hp' ⊢
      have hp2 : [v2, e1.2].Perm [v2, v1] := hp'.trans (List.Perm.swap v2 v1 [])
      rw [List.singleton_perm_singleton.mp ((List.perm_cons v2).mp hp2)]
  subst hes
  have hplain : t.plain = false := hpl (by simp)
  refine wpAny_pyIter_slot hT F.slot_set_iter (wpAny_call_entry F.slot_set_iter hT entry_set_iterF ?_ (F.args_set_iter_1 _))
  unfold Builtin.«frozenset.__iter__»
  refine wpAny_bind (m := Builtin.Frozenset.slot0 _ _) (wpAny_of_eq (a := a) (by first | rfl | kernel_rfl!) ?_)
  refine wpAny_bind (m := Builtin.Frozenset.sizeOf a) ?_
  unfold Builtin.Frozenset.sizeOf setEntries
  refine wpAny_bind (wpAny_bind (wpAny_setState_of ho hd hf (wpAny_pure (wpAny_pure ?_))))
  refine wpAny_bind (m := setDrawn a) ?_
  unfold setDrawn
  refine wpAny_bind (wpAny_setState_of ho hd hf ?_)
  refine wpAny_bind (m := setsByText) ?_
  unfold setsByText
  refine wpAny_bind (wpAny_askSetting (wpAny_pure ?_))
  refine wpAny_pure ?_
  (try dsimp only)
  have fin : ∀ (first : Value) (h1 : Heap) (d1 : Drawn) (ord : List Value) (fp : List Addr), ord = [v1, v2] ∨ ord = [v2, v1] → (∀ b o, s.heap.get? b = some o → h1.get? b = some o) → s.heap.objs.size ≤ h1.objs.size → a ∈ fp → h1.objs.size ∈ fp → (∀ b ∈ fp, b < s.heap.objs.size → b = a) → (∀ b ∈ fp, b ≤ h1.objs.size) →
      (∀ h2, (∀ b o, h1.get? b = some o → h2.get? b = some o) → SetMode w h2 a #[e0, e1] ep ord first) → (∀ T, first = Value.ref T → T ∈ fp ∧ T ≠ h1.objs.size) →
      wpAny (model prg w) A.in1 (do
        let e ← setEpoch a
        let f ← newFields "set_iterator" [first, rawInt 0, .ref a, rawInt 2, rawInt e]
        ret f) (fun fin s' => ∃ v, fin = Fin.done (Flow.ret v) ∧ ∃ T' r, s'.TypeIs v T' ∧ typeLookup (Value.type T') (Str.ofString "__next__") = pure (some r) ∧ Q v s') E { s with heap := h1, drawn := d1 } := by
    intro first h1 d1 ord fp hor hk hle ha' hI' hfp hfp2 hmode hT'
    refine wpAny_bind (wpAny_setEpoch_of (hk _ _ ho) hd hf ?_)
    unfold newFields
    refine wpAny_bind (wpAny_newObj_type ?_)
    refine wpAny_pure ⟨_, rfl, "set_iterator", _, ⟨_, Heap.get?_push_size _ rfl, rfl⟩, slot_setit_next.lookup, ?_⟩
    have hka : ∀ b o, h1.get? b = some o → (h1.push { cls := .type "set_iterator", data := .fields [first, rawInt 0, .ref a, rawInt 2, rawInt ep].toArray }).get? b = some o := fun b o e => Heap.get?_push_of_some _ e
    refine h h1.objs.size _ d1 ord #[e0, e1] ep t fp hor hle hf ha' hI' hfp (Nat.ne_of_lt (Nat.lt_of_lt_of_le ha hle)) (fun b o e => hka _ _ (hk b o e)) (fun b hb => by rw [Heap.size_push]; exact Nat.lt_succ_of_le (hfp2 b hb)) ⟨o, first, hka _ _ (hk _ _ ho), hd, ⟨_, Heap.get?_push_size _ rfl, rfl, rfl⟩, hmode _ hka, hT'⟩
  split
  · rename_i hc
    refine wpAny_bind (m := drawOrder 2 [0, 1]) (draw2 fun d' r hr => ?_)
    have hz : (r.map fun (i : Nat) => rawInt i).length ≤ sizeLine := by
      rcases hr with rfl | rfl <;> decide
    refine wpAny_bind (wpAny_newTuple ?_ hz)
    have hmode : ∀ ord : List Value, ((r = [0, 1] ∧ ord = [e0.2, e1.2]) ∨ (r = [1, 0] ∧ ord = [e1.2, e0.2])) → ∀ h2 : Heap, (∀ b o, (s.heap.push (seqObj "tuple" (r.map fun (i : Nat) => rawInt i).toArray 0)).get? b = some o → h2.get? b = some o) →
        SetMode w h2 a #[e0, e1] ep ord (.ref s.heap.objs.size) := by
      intro ord hro h2 hk2
      refine .inl ⟨_, _, _, _, rfl, hk2 _ _ (Heap.get?_push_size _ rfl), rfl, ?_, ?_⟩
      · rcases hro with ⟨rfl, rfl⟩ | ⟨rfl, rfl⟩ <;> rfl
      · intro i x hx
        rcases hro with ⟨rfl, rfl⟩ | ⟨rfl, rfl⟩
        · rcases i with _ | _ | i
          · cases hx; exact ⟨0, 0, e0.1, rfl, rfl⟩
          · cases hx; exact ⟨1, 0, e1.1, rfl, rfl⟩
          · cases hx
        · rcases i with _ | _ | i
          · cases hx; exact ⟨1, 0, e1.1, rfl, rfl⟩
          · cases hx; exact ⟨0, 0, e0.1, rfl, rfl⟩
          · cases hx
    have hsz : (s.heap.push (seqObj "tuple" (r.map fun (i : Nat) => rawInt i).toArray 0)).objs.size = s.heap.objs.size + 1 := Heap.size_push ..
    have go : ∀ ord : List Value, ((r = [0, 1] ∧ ord = [e0.2, e1.2]) ∨ (r = [1, 0] ∧ ord = [e1.2, e0.2])) → (ord = [v1, v2] ∨ ord = [v2, v1]) → _ := fun ord hro hor =>
      fin (.ref s.heap.objs.size) (s.heap.push (seqObj "tuple" (r.map fun (i : Nat) => rawInt i).toArray 0)) d' ord [a, s.heap.objs.size + 1, s.heap.objs.size] hor (fun b o e => Heap.get?_push_of_some _ e) (by rw [hsz]; exact Nat.le_succ _) (.head _) (by rw [hsz]; exact .tail _ (.head _))
        (fun b hb hlt => by
          simp only [List.mem_cons, List.not_mem_nil, or_false] at hb
          rcases hb with rfl | rfl | rfl
          · rfl
          · exact absurd hlt (Nat.not_lt.mpr (Nat.le_succ _))
          · exact absurd hlt (Nat.lt_irrefl _))
        (fun b hb => by
          simp only [List.mem_cons, List.not_mem_nil, or_false] at hb
          rw [hsz]
          rcases hb with rfl | rfl | rfl
          · exact Nat.le_succ_of_le (Nat.le_of_lt ha)
          · exact Nat.le_refl _
          · exact Nat.le_succ _)
        (hmode ord hro) (fun T hT => by cases hT; exact ⟨.tail _ (.tail _ (.head _)), by rw [hsz]; exact Nat.ne_of_lt (Nat.lt_succ_self _)⟩)
    rcases hr with rfl | rfl
    · exact go [e0.2, e1.2] (.inl ⟨rfl, rfl⟩) hord
    · refine go [e1.2, e0.2] (.inr ⟨rfl, rfl⟩) ?_
      rcases hord with q | q
      · right; cases q; rfl
      · left; cases q; rfl
  · rename_i hc
    have htx : w.params.followText "set-order" = true := by
      have hc' : ¬ ((!w.params.followText "set-order" && (!t.plain && decide ((2 : Nat) > 1))) = true) := hc
      rw [hplain] at hc'
      simpa using hc'
    refine wpAny_bind (wpAny_pure ?_)
    have hpo := pick2 (w.params.setOrder a ep) e0 e1
    have hor : ((pickOrder (w.params.setOrder a ep) #[e0, e1]).toList.map (·.2)) = [v1, v2] ∨ ((pickOrder (w.params.setOrder a ep) #[e0, e1]).toList.map (·.2)) = [v2, v1] := by
      rcases hpo with q | q <;> rw [q]
      · exact hord
      · show [e1.2, e0.2] = _ ∨ [e1.2, e0.2] = _
        rcases hord with q | q
        · right; cases q; rfl
        · left; cases q; rfl
    refine fin (rawInt 0) s.heap s.drawn _ [a, s.heap.objs.size] hor (fun b o e => e) (Nat.le_refl _) (.head _) (.tail _ (.head _))
      (fun b hb hlt => by
        simp only [List.mem_cons, List.not_mem_nil, or_false] at hb
        rcases hb with rfl | rfl
        · rfl
        · exact absurd hlt (Nat.lt_irrefl _))
      (fun b hb => by
        simp only [List.mem_cons, List.not_mem_nil, or_false] at hb
        rcases hb with rfl | rfl
        · exact Nat.le_of_lt ha
        · exact Nat.le_refl _)
      (fun h2 _ => .inr ⟨0, 0, rfl, htx, rfl⟩) (fun T hT => nomatch hT)
end
end
section
set_option maxHeartbeats 2000000
section
variable {w : World} {A : Around} {E : Value → Shared → Prop} {s : Shared}
theorem set_hint {r : Addr} (hT : s.TypeIs (.ref r) "set") {Q : Bool → Shared → Prop} (h : Q false s) : wpAny (model prg w) A (Builtin.List.listLengthHint (.ref r)) Q E s := by
  unfold Builtin.List.listLengthHint
  refine wpAny_bind (wpAny_specialOf hT set_len_of ?_)
  generalize hid : ("set.__len__" : String) = id0
  wp_delta
  rw [show splitId id0 = some ("set", "__len__") from by subst hid; decide +kernel]
  subst hid
  refine wpAny_bind (wpAny_isInstance (T := "set") (b := true) hT (by rw [isSubtype_type]; kernel_rfl) ?_)
  refine wpAny_ite_split (fun hab => absurd hab (by decide)) (fun _ => ?_)
  refine wpAny_ite_split (fun _ => ?_) (fun hab => absurd (by decide +kernel) hab)
  refine wpAny_bind (wpAny_typeOf hT ?_)
  exact wpAny_pure h
theorem collect_set {a : Addr} {o : Obj} {v1 v2 : Value} {Q : List Value → Shared → Prop} (hh : A.handled = none) (ho : s.heap.get? a = some o) (H : SetL w o [v1, v2])
    (hQ : ∀ (h' : Heap) (tk : Nat) (d' : Drawn) (ord : List Value), ord = [v1, v2] ∨ ord = [v2, v1] → (∀ b o, s.heap.get? b = some o → h'.get? b = some o) → Q ord { s with heap := h', toks := tk, drawn := d' }) :
    wpAny (model prg w) A (collect (.ref a)) Q E s := by
  have ha := Heap.lt_size ho
  unfold collect
  refine wpAny_bind (wpAny_runValue (codeAny_builtin F.entry_proto_collect ?_))
  rw [Around.under_plainId F.plain_proto_collect _]
  show wpAny _ A.in1 (newList [] >>= fun l => again (.builtin "list.__iadd__" ⟨[l, .ref a], []⟩)) _ _ s
  refine wpAny_bind (wpAny_newObj_type ?_)
  refine wpAny_pure ⟨plainId_quiet F.plain_list_iadd _, codeAny_builtin F.entry_list_iadd ?_⟩
  rw [Around.under_plainId F.plain_list_iadd _]
  show wpAny _ A.in1 (Builtin.List.listExtendWith (.ref s.heap.objs.size) (.ref a) (.ref s.heap.objs.size)) _ _ _
  have ho1 : (s.heap.push { cls := .type "list", data := .seq ([] : List Value).toArray }).get? a = some o := Heap.get?_push_of_some _ ho
  have hcls : o.cls = .type "set" := let ⟨_, _, _, hex, _⟩ := H.is; hex.1
  unfold Builtin.List.listExtendWith
  refine wpAny_bind (wpAny_typeOf (T := "set") (v := .ref a) ⟨o, ho1, hcls⟩ ?_)
  have h1 : Builtin.List.listSameRef (.ref s.heap.objs.size) (.ref a) = false := by simp [Builtin.List.listSameRef, (Nat.ne_of_gt ha : s.heap.objs.size ≠ a)]
  have h2 : (Value.type "set" == Value.type "list") = false := by decide
  have h3 : (Value.type "set" == Value.type "tuple") = false := by decide
  simp only [h1, h2, h3, Bool.or_false, Bool.false_eq_true, if_false]
  have hS0 : (s.heap.push { cls := .type "list", data := .seq ([] : List Value).toArray }).get? s.heap.objs.size = some { cls := .type "list", data := .seq ([] : List Value).toArray } := Heap.get?_push_size _ rfl
  have hsz0 : (s.heap.push { cls := .type "list", data := .seq ([] : List Value).toArray }).objs.size = s.heap.objs.size + 1 := Heap.size_push ..
  refine wpAny_bind (setL_iter ho1 H fun I h' d' ord es ep t fp hor hle hf haf hIf hfp hI hk hlt hst => ?_)
  have hW := fun (A' : Around) (hh' : A'.handled = none) => (Walks.setItems (w := w) (A := A') (I := I) (a := a) (es := es) (ep := ep) (t := t) (ord := ord) (fp := fp) hh' hf hI haf hIf).toS
  have hlen : ord.length = 2 := by rcases hor with rfl | rfl <;> rfl
  refine wpAny_bind (wpAny_holding (set_hint ⟨o, hk _ _ ho1, hcls⟩ ?_))
  refine wpAny_ite_split (fun _ => ?_) (fun hno => absurd (by decide +kernel) hno)
  refine wpAny_bind (wpAny_rule ?_)
  have hS₁ := hk _ _ hS0
  have hSf : s.heap.objs.size ∉ fp := fun hm => Nat.lt_irrefl a (by
    have e := hfp _ hm (by show s.heap.objs.size < (s.heap.push _).objs.size; rw [hsz0]; exact Nat.lt_succ_self _)
    rw [← e]; rw [← e] at ha; exact absurd ha (Nat.lt_irrefl _))
  refine wpAny_bind ?_
  show wpAny _ A.in1 (updateSeq s.heap.objs.size (·.push .none) >>= fun _ => updateSeq s.heap.objs.size (·.pop)) _ _ _
  refine wpAny_bind (wpAny_updateSeq hS₁ rfl ?_)
  have hS₂ := Heap.get?_update_self (Obj.mapSeq (·.push Value.none)) hS₁ rfl
  refine wpAny_updateSeq hS₂ rfl ?_
  have hS₃ := Heap.get?_update_self (Obj.mapSeq (·.pop)) hS₂ rfl
  have oth : ∀ b o, b ≠ s.heap.objs.size → h'.get? b = some o → ((h'.update s.heap.objs.size (Obj.mapSeq (·.push Value.none))).update s.heap.objs.size (Obj.mapSeq (·.pop))).get? b = some o :=
    fun b o hb e => (Heap.get?_update_other _ _ (Ne.symm hb)).trans ((Heap.get?_update_other _ _ (Ne.symm hb)).trans e)
  have hst2 := hst.frame haf hIf fun b hb o e => oth b o (fun h => hSf (h ▸ hb)) e
  refine wpAny_pure ⟨plainId_quiet F.plain_extend_loop _, codeAny_extend_loopS (hW A.in1 hh) (by rw [hlen]; decide) _ hSf _ ord.length 0 _ _ _ rfl (Nat.zero_le _) hst2 hS₃ (ItemsOf.nil _) fun s' acc' c' hm hS' hacc => ?_⟩
  show wpAny _ A (load s.heap.objs.size >>= _) _ _ s'
  refine wpAny_bind (wpAny_load hS' ?_)
  have hacc2 : acc'.toList = ord := by
    apply List.ext_getElem?
    intro i
    by_cases hi : i < acc'.size
    · have e := hacc.2 i acc'[i] (by simp [hi])
      rw [e, Array.getElem?_toList]
      simp [hi]
    · have h0 := hacc.1
      rw [List.getElem?_eq_none (by rw [Array.length_toList]; kln_le), List.getElem?_eq_none (by kln_le)]
  obtain ⟨hp', g', dr', tk', os'⟩ := s'
  have e1 : g' = s.gens := hm.gens
  have e2 : dr' = d' := hm.drawn
  have e3 : os' = s.os := hm.os
  subst e1 e2 e3
  refine wpAny_pure ?_
  rw [hacc2]
  refine hQ hp' tk' _ ord hor fun b ob e => hm.heap b ob (fun hb => ?_) (oth b ob (Nat.ne_of_lt (Heap.lt_size e)) (hk b ob (Heap.get?_push_of_some _ e)))
  have hlt := Heap.lt_size e
  rcases List.mem_cons.mp hb with h | h
  · exact absurd hlt (h ▸ Nat.lt_irrefl _)
  · rw [List.mem_singleton.mp h] at hlt
    have : s.heap.objs.size + 1 ≤ I := by rw [← hsz0]; exact hle
    exact absurd hlt (Nat.not_lt.mpr (Nat.le_of_succ_le this))
end
end
section
set_option maxHeartbeats 2000000
section
open PySem.Calls PySem.Spec
variable {w : World} {A : Around} {E : Value → Shared → Prop} {s : Shared} {h₀ : Heap} {L : Addr} {m : Str → Option Value} {news : List (Addr × Obj)}
theorem sorted_setK {a : Addr} {o : Obj} {v1 v2 f : Value} {kw : List (Str × Value)} {Q : Value → Shared → Prop} (hh : A.handled = none) (F : Fr h₀ L s.heap m) (N : News h₀ L s.heap news) (hm : (a, o) ∈ news) (H : SetL w o [v1, v2])
    (ha1 : argsOk "sorted" ⟨[.ref a], kw⟩) (ha2 : ∀ x, argsOk "list.sort" ⟨[.ref x], kw⟩) (ht : ∀ x, Builtin.«list.sort» ⟨[.ref x], kw⟩ = ksk_tree x f false)
    (h : ∀ (ord : List Value) (D kS : Addr) (e1 : Nat) (h' : Heap) (tk : Nat) (d' : Drawn), ord = [v1, v2] ∨ ord = [v2, v1] → Fr h₀ L h' m → News h₀ L h' ((kS, seqObj "list" #[] 0) :: (D, seqObj "list" #[] e1) :: news) → D < kS → (∀ q ∈ news, q.1 < D) →
      KatKeys prg w A.in1.in1 h₀ L m kS f (fun ks e s' => wpAny (model prg w) A.in1.in1 (keyKind' (List.toArray ks)) (fun κ s'' => (kas_sort ord.length).kasWp (kas_ask prg w A.in1.in1 κ (katRev false ks)) (fun p s3 => KatFin h₀ L m kS D ks e e1 (katRev false (p.toList.map fun i => (katRev false ord).getD i Value.none)) (fun s4 => Q (.ref D) s4) s3) s'') (fun _ _ => False) s') ord [] 0 { s with heap := h', toks := tk, drawn := d' }) :
    wpAny (model prg w) A (call (.builtin "sorted") [.ref a] kw) Q E s := by
  refine call_function_entry_kw kind_sorted plain_sorted entry_sorted ha1 ?_
  unfold Builtin.«sorted»
  refine wpAny_bind (m := checkCount "sorted" 1 1 _) (wpAny_pure ?_)
  refine wpAny_bind (collect_set (show A.in1.handled = none from hh) (N _ hm).1 H fun h1 tk d' vs hor hk => ?_)
  have hlen : vs.length = 2 := by rcases hor with rfl | rfl <;> rfl
  refine wpAny_bind (wpAny_newList ?_ (by rw [hlen]; decide))
  have hLs : L < s.heap.objs.size := F.ns.lt
  obtain ⟨oL, hoL0⟩ : ∃ oL, s.heap.get? L = some oL := let ⟨o, _, _, e, _⟩ := F.ns; ⟨o, e⟩
  have hL : L < h1.objs.size := Heap.lt_size (hk _ _ hoL0)
  have hLe : s.heap.objs.size ≤ h1.objs.size ∨ True := .inr trivial
  have F1 : Fr h₀ L h1 m := F.kept hk
  have N1 : News h₀ L h1 news := N.grown hk
  have hoL : (h1.push (seqObj "list" vs.toArray 0)).get? h1.objs.size = some (seqObj "list" vs.toArray 0) := Heap.get?_push_size _ rfl
  have keep : ∀ b o, h1.get? b = some o → (h1.push (seqObj "list" vs.toArray 0)).get? b = some o := fun b o q => Heap.get?_push_of_some _ q
  refine wpAny_bind (wpAny_holding (wpAny_call_entry_kw slot_list_sort ⟨_, hoL, rfl⟩ entry_list_sort ?body (ha2 _)))
  case body =>
    have ht' := ht h1.objs.size
    show wpAny (model prg w) A.in1.in1 (Builtin.«list.sort» ⟨[.ref h1.objs.size], kw⟩) _ _ _
    rw [ht']
    refine kat_keyed (s := { s with heap := h1.push (seqObj "list" vs.toArray 0), toks := tk, drawn := d' }) (news := news)
      (F1.kept keep) (N1.grown keep) hoL (Nat.ne_of_gt hL) (Heap.get?_none_of_le (Nat.le_trans F1.above (Nat.le_of_lt hL)))
      (fun p hp => Nat.ne_of_lt (Heap.lt_size (N1 p hp).1)) (by rw [hlen]; decide) (by rw [hlen]; decide) fun kS e1 h' F' N' l0 l1 => ?_
    refine kat_keys_mono (h vs _ kS e1 h' tk d' hor F' N' l0 fun q hq => Heap.lt_size (N1 q hq).1) fun ks e s' hl' hd => ?_
    have hl2 : ks.length = vs.length := by simpa using hl'
    refine wpAny_mono hd (fun κ s'' hk => ?_) fun _ _ x => x
    rw [kat_ask_eq (vs := katRev false vs) (by rw [kat_len, kat_len, hl2])] at hk ⊢
    exact kas_wp_mono hk fun p s3 hk' => hk'.mono fun s4 hq => ⟨_, rfl, wpAny_pure ⟨_, rfl, hq⟩⟩
end
end
section
set_option maxHeartbeats 2000000
section
open AutoSeq1 (wpAny_loadPart')
theorem lt_loop1 (l b : Addr) (x y : Str) (t u : Tok) (n n2 : Nat) (hne : x ≠ y) :
    Meets (Builtin.«list.__eq__.loop» ⟨[.ref l, .ref b, rawInt 0, rawInt 0], []⟩)
      (fun _ R s => s.heap.get? l = some { cls := .type "list", dict := none, data := .seq #[.str x t] n, slots := #[] } ∧ s.heap.get? b = some { cls := .type "list", dict := none, data := .seq #[.str y u] n2, slots := #[] } ∧
        R (.ok (.ret (.bool (decide (x.cps.toList < y.cps.toList))))) s) := by
  intro prog w A R s h
  obtain ⟨hl, hb, h⟩ := h
  show wpAny _ _ (Builtin.List.listItems (.ref l) >>= _) _ _ _
  refine wpAny_bind (listItems_at hl rfl ?_)
  show wpAny _ _ (Builtin.List.listItems (.ref b) >>= _) _ _ _
  refine wpAny_bind (listItems_at hb rfl ?_)
  show wpAny _ _ (eqBool (.str x t) (.str y u) >>= _) _ _ _
  refine wpAny_bind (wpAny_eqBool_str ?_)
  rw [if_neg (by simpa using hne)]
  refine wpAny_bind (listItems_at hl rfl ?_)
  refine wpAny_bind (listItems_at hb rfl ?_)
  show wpAny _ _ (richCompare .Lt (.str x t) (.str y u) >>= _) _ _ _
  exact wpAny_bind (lt_str (wpAny_pure h))
theorem lt_meets (l b : Addr) (x y : Str) (t u : Tok) (n n2 : Nat) (hne : x ≠ y) :
    Meets (Builtin.«list.__lt__» ⟨[.ref l, .ref b], []⟩)
      (fun _ R s => s.heap.get? l = some { cls := .type "list", dict := none, data := .seq #[.str x t] n, slots := #[] } ∧ s.heap.get? b = some { cls := .type "list", dict := none, data := .seq #[.str y u] n2, slots := #[] } ∧
        R (.ok (.ret (.bool (decide (x.cps.toList < y.cps.toList))))) s) := by
  intro prog w A R s h
  obtain ⟨hl, hb, h⟩ := h
  show wpAny _ _ (isInstance (.ref b) (.type "list") >>= _) _ _ _
  refine wpAny_bind (wpAny_isInstance (T := "list") (b := true) ⟨_, hb, rfl⟩ (by rw [isSubtype_type]; kernel_rfl) ?_)
  refine wpAny_pure ?_
  exact ⟨plainId_quiet MeetsSeq3.plain_eq_loop _, codeAny_builtin MeetsSeq3.entry_eq_loop (by
    rw [Around.under_plainId MeetsSeq3.plain_eq_loop _]
    exact lt_loop1 l b x y t u n n2 hne prog w A R _ ⟨hl, hb, h⟩)⟩
end
section
open PySem.Calls PySem.Spec
variable {w : World} {A : Around} {E : Value → Shared → Prop} {s : Shared} {h₀ : Heap} {L : Addr} {m : Str → Option Value} {news : List (Addr × Obj)}
theorem keyLt_lists {l b : Addr} {x y : Str} {t u : Tok} {n n2 : Nat} {Q : Bool → Shared → Prop} (hu : A.units < cLine) (N : News h₀ L s.heap news) (h1 : (l, listOf #[.str x t] n) ∈ news) (h2 : (b, listOf #[.str y u] n2) ∈ news) (hne : x ≠ y)
    (h : Q (decide (x.cps.toList < y.cps.toList)) s) : wpAny (model prg w) A (keyLt' oneType' (.ref l) (.ref b)) Q E s := by
  rw [keyLt'_oneType, oneLt'_eq]
  simp only [if_true]
  have hl := (N _ h1).1
  have hb := (N _ h2).1
  refine wpAny_bind (wpAny_cRoomFor hu ?_)
  refine wpAny_bind (wpAny_callSpecialIfBound?_slot (name := Str.ofString "__lt__") ⟨_, hl, rfl⟩ F.slot_list_lt (call_meets F.slot_list_lt ⟨_, hl, rfl⟩ F.entry_list_lt (F.args_list_lt_2 _ _) (lt_meets l b x y t u n n2 hne) ⟨hl, hb, ?_⟩))
  exact wpAny_truthy_bool h
end
end
section
set_option maxHeartbeats 2000000
theorem entry_set_loop : entryFor table "set.update.loop" = some Builtin.«set.update.loop» := entryFor_of_fast (by kernel_rfl)
theorem plain_set_loop : plainId "set.update.loop" = true := by decide +kernel
section
open PySem.Calls PySem.Spec
variable {w : World} {A : Around} {E : Value → Shared → Prop} {s : Shared} {h₀ : Heap} {L : Addr} {m : Str → Option Value} {news : List (Addr × Obj)} {env : Env}
theorem starSet_eval {K' : Frag} {e1 e2 : Expr} {pos p2 : Pos} {Q : Value → Shared → Prop} (F : Fr h₀ L s.heap m) (N : News h₀ L s.heap news) (X : K'.In h₀) (hc : kdsCode K' env.code = true) (hp : kdsPlain e1 = true)
    (h : ∀ D h' (led : Bool), Fr h₀ L h' m → News h₀ L h' ((D, { cls := .type "set", dict := none, data := .set #[] 0 (.fresh 0 0 led) }) :: news) → (∀ p ∈ news, p.1 < D) → SetL w { cls := .type "set", dict := none, data := .set #[] 0 (.fresh 0 0 led) } [] →
      wpAny (model prg w) A (eval e1 env) (fun v s1 => wpAny (model prg w) A (setAdd D v) (fun _ s2 => wpAny (model prg w) A (eval e2 env) (fun d s3 => wpAny (model prg w) A (setDisplayStar D d) (fun _ s4 => Q (.ref D) s4) E s3) E s2) E s1) E { s with heap := h' }) :
    wpAny (model prg w) A (eval (.Set [e1, .Starred e2 p2] 0 pos) env) Q E s := by
  rw [arm_eval_Set]
  refine wpAny_bind (wpAny_standAt ?_)
  refine wpAny_bind (kds_main (X.keeps F.keep) hc fun b => ?_)
  have hs : starEach [e1, .Starred e2 p2] env = [(false, eval e1 env), (true, eval e2 env)] := by
    cases e1 <;> first | rfl | exact absurd hp (by simp [kdsPlain])
  rw [hs]
  unfold setDisplay
  have hr : displayRoad 0 [e1, .Starred e2 p2] = .oneByOne := rfl
  (try dsimp only)
  rw [hr, if_neg (by decide)]
  refine wpAny_bind (wpAny_newSet_of (knd := PySem.intKind prg w) fun led _ => ?_)
  have H := h _ _ led (F.push _) (News.push F N _ rfl) (fun p hp => Heap.lt_size (N p hp).1) (setL_fresh w led)
  refine wpAny_bind (wpAny_holding ?_)
  show wpAny _ _ (evalAll [eval e1 env >>= fun v => standAt pos >>= fun _ => pure v] >>= _) _ _ _
  refine wpAny_bind ?_
  show wpAny _ _ ((eval e1 env >>= fun v => standAt pos >>= fun _ => pure v) >>= fun v => holding [v] (evalAll []) >>= fun r => pure (v :: r)) _ _ _
  refine wpAny_bind (wpAny_bind (wpAny_mono H (fun v s1 H1 => ?_) fun _ _ x => x))
  refine wpAny_bind (wpAny_standAt (wpAny_pure ?_))
  refine wpAny_bind (wpAny_holding (wpAny_pure (wpAny_pure ?_)))
  refine wpAny_bind (wpAny_holding ?_)
  rw [List.forIn_cons]
  refine wpAny_bind (wpAny_bind (wpAny_bind (wpAny_mono H1 (fun _ s2 H2 => wpAny_pure ?_) fun _ _ x => x)))
  show wpAny _ _ (forIn ([] : List Value) PUnit.unit _) _ _ _
  rw [List.forIn_nil]
  refine wpAny_pure ?_
  rw [if_neg (by decide)]
  refine wpAny_pure ?_
  show wpAny _ _ (forIn [(true, eval e2 env >>= fun v => standAt pos >>= fun _ => pure v)] _ _ >>= _) _ _ _
  rw [List.forIn_cons]
  refine wpAny_bind (wpAny_bind ?_)
  refine wpAny_bind (wpAny_bind (wpAny_mono H2 (fun d s3 H3 => ?_) fun _ _ x => x))
  refine wpAny_bind (wpAny_standAt (wpAny_pure ?_))
  rw [if_pos rfl]
  refine wpAny_bind (wpAny_holding (wpAny_mono H3 (fun _ s4 H4 => ?_) fun _ _ x => x))
  refine wpAny_pure ?_
  show wpAny _ _ (forIn ([] : List (Bool × Sem Value)) PUnit.unit _) _ _ _
  rw [List.forIn_nil]
  exact wpAny_pure (wpAny_pure (wpAny_pure H4))
theorem key_str {k : Str} {v : Value} (h : (strKind prg w).is k v = true) : ∃ t, v = .str k t := Value.isStrOf_shape h
noncomputable abbrev oneD (w : World) (k : Str) (t : Tok) (v : Value) (en : Nat) : Obj := dictOf [ent w k t v] en
theorem oneD_at {h : Heap} {ad : Addr} {k : Str} {t : Tok} {v : Value} {en : Nat} (e : h.get? ad = some (oneD w k t v en)) : h.DictAt (strKind prg w) ad [(k, v)] en :=
  ⟨_, _, e, ⟨rfl, rfl, rfl⟩, rfl, fun e he => by
    have he' := List.mem_singleton.mp (List.mem_toArray.mp he)
    subst he'
    exact ⟨k, strKind_is prg w k t, rfl⟩, .cons (strKind_is prg w k t) rfl .nil, by simp⟩
theorem starD {D ad : Addr} {o : Obj} {vs : List Value} {k : Str} {t : Tok} {v : Value} {Q : Unit → Shared → Prop} {g : Obj → List (Addr × Obj)} (hh : A.handled = none) (F : Fr h₀ L s.heap m) (N : News h₀ L s.heap news) (U : UpdF D o news g) (H : SetL w o vs) (hl : vs.length ≤ 1) {en : Nat} (hm : (ad, oneD w k t v en) ∈ news) (hne : ad ≠ D) (lo : (ad == sysModules) = false)
    (hnew : ∀ v ∈ vs, (strKind prg w).is k v = false)
    (h : ∀ h' tk o' t', Fr h₀ L h' m → News h₀ L h' (g o') → SetL w o' (vs ++ [.str k t']) → Q () { s with heap := h', toks := tk }) :
    wpAny (model prg w) A (setDisplayStar D (.ref ad)) Q E s := by
  obtain ⟨pre, post, rfl, hg, a, b⟩ := U.split
  have nD := N (D, o) (List.mem_append_right _ (.head _))
  have nad := N _ hm
  have hT : s.TypeIs (.ref ad) "dict" := ⟨_, nad.1, rfl⟩
  unfold setDisplayStar
  (try dsimp only)
  refine wpAny_bind (wpAny_isInstance (T := "dict") (b := false) hT (by rw [isSubtype_type]; kernel_rfl) ?_)
  rw [if_neg Bool.false_ne_true]
  refine wpAny_bind (wpAny_isInstance (T := "dict") (b := false) hT (by rw [isSubtype_type]; kernel_rfl) ?_)
  refine wpAny_bind (wpAny_askSetting ?_)
  have fin : ∀ h' o' t', Heap.SameBut D s.heap h' → h'.get? D = some o' → SetL w o' (vs ++ [.str k t']) → Fr h₀ L h' m ∧ News h₀ L h' (g o') := fun h' o' t' hs ho' _ => ⟨F.change hs nD.2.1 nD.2.2, by rw [hg]; exact N.setIn a b hs ho'⟩
  show wpAny _ _ (match (if w.params.followText "set-display-star-reads-storage" = true then Value.none else Value.ref ad) with | .ref a => _ | _ => _) _ _ s
  cases hb : w.params.followText "set-display-star-reads-storage" with
  | false =>
    rw [if_neg Bool.false_ne_true]
    (try dsimp only)
    rw [if_neg Bool.false_ne_true]
    refine wpAny_bind (wpAny_typeOf (T := "dict") hT ?_)
    rw [if_pos (by decide)]
    refine wpAny_bind (wpAny_rule ?_)
    rw [if_neg (by rw [lo]; exact Bool.false_ne_true)]
    refine wpAny_bind (wpAny_dictEpoch nad.1 rfl ?_)
    refine wpAny_bind (wpAny_dictEntries nad.1 rfl ?_)
    have H0 := H
    obtain ⟨es, ep, ts, hex, hd, hel, hp, hf, hmk, hdm, hpl⟩ := H0
    have hn : es.size ≤ 1 := by
      have e := hp.length_eq
      rw [List.length_map, Array.length_toList] at e
      kln_le
    have hpz : ts.place.size = es.size := by
      unfold SetTable.fits at hf
      simp only [Bool.and_eq_true, beq_iff_eq] at hf
      exact hf.1
    have hroom : ts.roomFor 1 = none := by
      unfold SetTable.roomFor SetTable.fill
      rw [hdm, hpz, if_neg]
      simp only [List.size_toArray, List.length_nil, Nat.add_zero, ge_iff_le, Nat.not_le]
      kln_le
    refine wpAny_bind (m := setRoomFor D 1) ?_
    unfold setRoomFor
    refine wpAny_bind (wpAny_setState_of nD.1 hd hf ?_)
    (try dsimp only)
    rw [hroom]
    refine wpAny_pure ?_
    rw [Std.Legacy.Range.forIn_eq_forIn_range']
    have e0 : List.range' ([:#[ent w k t v].size] : Std.Legacy.Range).start ([:#[ent w k t v].size] : Std.Legacy.Range).size ([:#[ent w k t v].size] : Std.Legacy.Range).step = [0] := by simp [Std.Legacy.Range.size]
    rw [e0]
    rw [List.forIn_cons]
    refine wpAny_bind (wpAny_bind (wpAny_bind (wpAny_dictEntries nad.1 rfl ?_)))
    show wpAny _ _ (holding [.str k t] (setAddHashed D (.str k t) (PyData.keyHash w.params k) >>= fun _ => pure ()) >>= _) _ _ _
    refine wpAny_bind (wpAny_holding (wpAny_bind (setL_addH nD.1 H (Nat.le_trans hl (by decide)) hnew fun h' o' hs ho' H' => wpAny_pure ?_)))
    refine wpAny_bind (wpAny_dictEpoch (hs.2 ad hne ▸ nad.1) rfl ?_)
    rw [if_neg (by simp)]
    refine wpAny_pure ?_
    show wpAny _ _ (forIn ([] : List Nat) PUnit.unit _) _ _ _
    rw [List.forIn_nil]
    refine wpAny_pure (wpAny_pure ?_)
    obtain ⟨F', N'⟩ := fin h' o' t hs ho' H'
    exact h h' s.toks o' t F' N' H'
  | true =>
    rw [if_pos rfl]
    (try dsimp only)
    refine wpAny_bind (wpAny_pyIter_dict lo (oneD_at nad.1) ?_)
    have hDI : D ≠ s.heap.objs.size := Nat.ne_of_lt (Heap.lt_size nD.1)
    have hadI : ad ≠ s.heap.objs.size := Nat.ne_of_lt (Heap.lt_size nad.1)
    have hit : (s.heap.push { cls := .type "dict_keyiterator", data := .fields #[.ref ad, .int 0 0, .int (([(k, v)] : List (Str × Value)).length : Nat) 0, .int (en : Nat) 0] }).IsKeyIter s.heap.objs.size ad 0 ([(k, v)] : List (Str × Value)).length en := ⟨_, Heap.get?_push_size _ rfl, rfl, rfl⟩
    have hk1 : ∀ b o, s.heap.get? b = some o → (s.heap.push { cls := .type "dict_keyiterator", data := .fields #[.ref ad, .int 0 0, .int (([(k, v)] : List (Str × Value)).length : Nat) 0, .int (en : Nat) 0] }).get? b = some o := fun b o e => Heap.get?_push_of_some _ e
    generalize hG : (s.heap.push { cls := .type "dict_keyiterator", data := .fields #[.ref ad, .int 0 0, .int (([(k, v)] : List (Str × Value)).length : Nat) 0, .int (en : Nat) 0] }) = G at hit hk1
    refine wpAny_bind (wpAny_runValue (codeAny_builtin entry_set_loop ?_))
    rw [Around.under_plainId plain_set_loop _]
    show wpAny _ _ (pyNext (.ref s.heap.objs.size) >>= _) _ _ _
    refine wpAny_bind (wpAny_pyNext_dict_item (knd := strKind prg w) (kvs := [(k, v)]) (i := 0) (ep := en) (k := k) (v := v) hit (oneD_at (hk1 _ _ nad.1)) rfl fun key h2 hkey hit2 hs2 => ?_)
    obtain ⟨t', rfl⟩ := key_str hkey
    have hD2 : h2.get? D = some o := (hs2.2 D hDI).trans (hk1 _ _ nD.1)
    show wpAny _ _ (holding [.str k t'] (setAdd D (.str k t')) >>= _) _ _ _
    refine wpAny_bind (wpAny_holding (setL_add (s := { s with heap := h2 }) hD2 H (Nat.le_trans hl (by decide)) hnew fun h3 o' hs3 ho' H' => ?_))
    refine wpAny_pure ⟨plainId_quiet plain_set_loop _, codeAny_builtin entry_set_loop ?_⟩
    rw [Around.under_plainId plain_set_loop _]
    show wpAny _ _ (pyNext (.ref s.heap.objs.size) >>= _) _ _ _
    have had3 : h3.get? ad = some (oneD w k t v en) := (hs3.2 ad hne).trans ((hs2.2 ad hadI).trans (hk1 _ _ nad.1))
    have hit3 : h3.IsKeyIter s.heap.objs.size ad (0 + 1) ([(k, v)] : List (Str × Value)).length en := hit2.at fun o e => (hs3.2 _ hDI.symm).trans e
    refine wpAny_bind (wpAny_pyNext_dict_end (knd := strKind prg w) (kvs := [(k, v)]) (i := 0 + 1) (ep := en) hh hit3 (oneD_at had3) rfl fun h4 hs4 => ?_)
    refine wpAny_pure ?_
    refine wpAny_pure ?_
    have kp : ∀ b x, b ≠ D → s.heap.get? b = some x → h4.get? b = some x := fun b x hb e =>
      have hbI : b ≠ s.heap.objs.size := Nat.ne_of_lt (Heap.lt_size e)
      hs4 b x hbI ((hs3.2 b hb).trans ((hs2.2 b hbI).trans (hk1 _ _ e)))
    have kD : h4.get? D = some o' := hs4 D o' hDI ho'
    refine h h4 _ o' t' ⟨F.ns.at' fun x e => kp L x (Ne.symm nD.2.1) e, fun b x e => kp b x (fun z => by rw [z, nD.2.2] at e; cases e) (F.keep b x e), F.above⟩ ?_ H'
    rw [hg]
    intro p hp
    rcases List.mem_append.mp hp with hp | hp
    · have y := N p (List.mem_append_left _ hp)
      exact ⟨kp _ _ (a p hp) y.1, y.2⟩
    · rcases List.mem_cons.mp hp with rfl | hp
      · exact ⟨kD, nD.2⟩
      · have y := N p (List.mem_append_right _ (.tail _ hp))
        exact ⟨kp _ _ (b p hp) y.1, y.2⟩
end
end
section
namespace NW0
theorem hereW0 : True := trivial
end NW0
open NW0
noncomputable abbrev tabD (w : World) (l : Addr) (th : Tok) : Obj := dictOf [⟨PyData.keyHash w.params (Str.ofString "_headers"), .str (Str.ofString "_headers") th, .ref l⟩] 1
theorem rowsW00 : True := by
  k_with "k_enter" => (fail_if_success fail_if_success have q := hereW0); ((try dsimp only); first | (refine conv_y ⟨by k_asm, by k_asm, by k_asm, by k_asm, by k_asm, rfl, rfl, by k_units, by k_units⟩ ?_ ?_ ?_) | (refine convN_y ⟨by k_asm, by k_asm, by k_asm, by k_asm, by k_asm, rfl, rfl, by k_units, by k_units⟩ (by assumption) (by assumption) ?_))
  trivial
theorem addh_y {news : List (Addr × Obj)}
    {R : Result → Shared → Prop} {x dx l : Addr} {th tn tv : Tok} {its : Array Value} {n : Nat} {nm v : Str}
    (cx : Cy w A₀ base h₀ outer env L m mean mg mb h ((l, listOf its n) :: news) d u) (hd1 : d ≤ 750) (hu1 : u ≤ 390)
    (hx : (x, instObj 312 dx) ∈ news) (hdx : (dx, tabD w l th) ∈ news) (hl : ∀ p ∈ news, p.1 ≠ l) (hlen : its.size ≤ 1000)
    (hnm : nBad nm = false) (hnl : nm.length ≤ 2 ^ 63 - 1) (hvl : v.length ≤ 1000)
    (hF : vBad v = false → ∀ q tv', (l < q ∧ AllLt q news) → BackY g os h₀ L m ((q, ({ cls := .type "tuple", data := .seq #[.str nm tn, .str v tv'] } : Obj)) :: (l, listOf (its.push (.ref q)) (n + 1)) :: news) .none R)
    (hT : vBad v = true → BoomY g os base h₀ outer env L m ((l, listOf its n) :: news) R) :
    codeAny (model prg w) (Ar d u gd env outer) (.call (.ref 309) ⟨[.ref x, .str nm tn, .str v tv], []⟩) R ⟨h, g, dr, tk, os⟩ := by
  obtain ⟨B, F, X, N, T, hf, hke, hd, hu⟩ := cx
  have hrow : PySem.Challenge.rw_pe0292_01 = _ := rfl
  revert hrow X; k_fill; w_top on; intro X _
  refine' kp_more B F X N T rfl hf hke ?k6 ?k7 ?k8 ?kX ?kM ?kN ?kD ?kR ?kP ?kT ?kB ?_ ?c2 ?c3 ?c4 ?c5
  case k6 => k_is
  case k7 => k_is
  case k8 => k_room
  case kX => kp_lit
  case kM => exact rfl
  case kN => exact rfl
  case kD => kp_flats
  case kR => exact rfl
  case kP => exact rfl
  case kT => exact fun _ => rfl
  case kB => exact fun _ => locs rfl
  case c5 => decide
  case c2 => exact rfl
  case c3 => exact rfl
  case c4 => exact rfl
  intro D' o' g' L' h' tk' l1 lo' hs' fs' FG' F' N' B' X' T'
  (try k_lt l1); (try dsimp only); (try ((with_reducible show wpAny _ _ _ _ _ _); k_fold))
  k_steps
  all_goals first
    | exact hT (by assumption) _ _ _ _ _ _ _ _ (by assumption) (raised_sub (by assumption) fun p hp => .tail _ (.tail _ hp)) FG' (by assumption)
    | skip
  rw [show Txt.join (Str.ofString "; ") [v] = v from rfl] at *
  refine append_K (by k_asm) (nk1d3 (by assumption)) (by k_upd) ?_ (by size_fits)
  intro h' F' N'
  k_steps
  rename (_ ∧ _ ∧ _ ∧ _ ∧ AllLt _ news) => lq
  exact hF (by assumption) _ _ ⟨lq.2.2.2.1, lq.2.2.2.2⟩ _ _ _ _ (by intro hb; solve_by_elim) (by assumption) (by assumption)
end
section
namespace NW1
theorem hereW1 : True := trivial
end NW1
open NW1
set_option backward.match.sparseCases false in
noncomputable def lamOf : Stmt → Expr
  | .Assign _ (.Call _ (e :: _) _ _) _ => e
  | _ => .Tuple [] 0 ⟨0, 0, 0, 0⟩
set_option backward.match.sparseCases false in
noncomputable def lamPar : Expr → Arguments
  | .Lambda p _ _ _ => p
  | _ => ⟨[], [], none, [], [], none, []⟩
set_option backward.match.sparseCases false in
noncomputable def lamBody : Expr → Expr
  | .Lambda _ b _ _ => b
  | e => e
set_option backward.match.sparseCases false in
noncomputable def lamScope : Expr → Scope
  | .Lambda _ _ s _ => s
  | _ => ⟨.function, [], false, false, []⟩
noncomputable abbrev lam0 : Expr := lamOf (nth (fBody (stA 22)) 2)
noncomputable abbrev handO (c1 c2 : Addr) (pm ctv : Value) (c' : Addr) : Obj := kla_obj (Str.ofString "<lambda>") (Str.ofString "_law_run.<locals>.<lambda>") (lamPar lam0) (lamBody lam0) (lamScope lam0) [(Str.ofString "table", c2), (Str.ofString "cell", c1)] pm c' ctv
structure HandZ (w : World) (Z : List (Addr × Obj)) (f x l cl : Addr) : Prop where
  is : ∃ c1 c2 o1 o2 c' oc vs t th dx pm ctv, (f, handO c1 c2 pm ctv c') ∈ Z ∧ (c', oc) ∈ Z ∧ oc.data = .fields vs ∧ vs[1]? = some (.str (Str.ofString "_law_run.<locals>.<lambda>") t) ∧
    (c1, o1) ∈ Z ∧ o1.data = .cell (some (.ref cl)) ∧ (c2, o2) ∈ Z ∧ o2.data = .cell (some (.ref x)) ∧ (x, instObj 312 dx) ∈ Z ∧ (dx, tabD w l th) ∈ Z
theorem HandZ.mono {w : World} {Z Z' : List (Addr × Obj)} {f x l cl : Addr} (H : HandZ w Z f x l cl) (hs : ∀ p ∈ Z, p ∈ Z') : HandZ w Z' f x l cl := by
  obtain ⟨c1, c2, o1, o2, c', oc, vs, t, th, dx, pm, ctv, h1, h2, h3, h4, h5, h6, h7, h8, h9, h10⟩ := H.is
  exact ⟨c1, c2, o1, o2, c', oc, vs, t, th, dx, pm, ctv, hs _ h1, hs _ h2, h3, h4, hs _ h5, h6, hs _ h7, h8, hs _ h9, hs _ h10⟩
theorem rowsW10 : True := by
  k_with "eval Name" => (fail_if_success fail_if_success have q := hereW1); (k_here; k_dflt (refine' nameX_F (by k_asm) (by rfl) (by k_mem) (by k_asm) ?_ (by rfl) (by rfl); k_whole))
  k_with "k_enter" => (fail_if_success fail_if_success have q := hereW1); ((try dsimp only); (refine addh_y ⟨by k_asm, by k_asm, by k_asm, by k_asm, by k_asm, rfl, rfl, by k_units, by k_units⟩ (by k_units) (by k_units) (by k_mem) (by k_mem) (by k_all) (by assumption) (by assumption) (by assumption) (by assumption) ?_ ?_))
  trivial
theorem leave_onX {M : Model} {A : Around} {E : Value → Shared → Prop} {s' : Shared} {base g g₂ : Heap} {outer : List Env} {L a e t : Addr} {m : Str → Option Value} {name : Str} {scope : Scope} {cd : Value} {cl : List (Str × Addr)} {Q : Unit → Shared → Prop} {news : List (Addr × Obj)} {cls : Value} {vs : List Value}
    (K : Below A base outer g) (F : Fr g L g₂ m) (R : RaisedK base (envX name scope L a cd cl :: outer) e cls t vs news s'.heap) (hsm : g₂.UpToSlots s'.heap)
    (hQ : ∀ h', RaisedK base outer e cls t vs news h' → g.UpToSlots h' → Q () { s' with heap := h' }) :
    wpAny M (A.deeper (envX name scope L a cd cl)) (leaving (envX name scope L a cd cl) (.ref e)) Q E s' := by
  obtain ⟨⟨B, hB, hl, hfl, hnew⟩, htup⟩ := R
  exact wpAny_leaves_onW (Around.frames_deeper K.stack) rfl hfl fun h' x1 x2 => hQ h' ⟨⟨B, hB, hl, x1, hnew⟩, htup.of_slots x2⟩ ((Heap.UpToSlots.of_keeps F.keep).trans (hsm.trans x2))
theorem lam_binds (cl : List (Str × Addr)) (pm cdv ct v : Value) : bindArgs (kla_fn (Str.ofString "<lambda>") (Str.ofString "_law_run.<locals>.<lambda>") (lamPar lam0) (lamBody lam0) (lamScope lam0) cl pm cdv ct) ⟨[v], []⟩ = pure [(Str.ofString "piece", v)] := by kernel_rfl!
theorem write_y {news : List (Addr × Obj)}
    {R : Result → Shared → Prop} {f x l cl : Addr} {tn tv : Tok} {its : Array Value} {n n2 : Nat} {nm v : Str}
    (cx : Cy w A₀ base h₀ outer env L m mean mg mb h ((l, listOf its n) :: (cl, listOf #[.str nm tn] n2) :: news) d u) (hd1 : d ≤ 740) (hu1 : u ≤ 380)
    (hz : HandZ w news f x l cl) (hlc : cl ≠ l) (hl : ∀ p ∈ news, p.1 ≠ l) (hlen : its.size ≤ 1000)
    (hnm : nBad nm = false) (hnl : nm.length ≤ 2 ^ 63 - 1) (hvl : v.length ≤ 1000)
    (hF : vBad v = false → ∀ q tv', (l < q ∧ cl < q ∧ AllLt q news) → BackY g os h₀ L m ((q, ({ cls := .type "tuple", data := .seq #[.str nm tn, .str v tv'] } : Obj)) :: (l, listOf (its.push (.ref q)) (n + 1)) :: (cl, listOf #[.str nm tn] n2) :: news) .none R)
    (hT : vBad v = true → BoomY g os base h₀ outer env L m ((l, listOf its n) :: (cl, listOf #[.str nm tn] n2) :: news) R) :
    codeAny (model prg w) (Ar d u gd env outer) (.call (.ref f) ⟨[.str v tv], []⟩) R ⟨h, g, dr, tk, os⟩ := by
  obtain ⟨B, F, X, N, T, hf, hke, hd, hu⟩ := cx
  obtain ⟨c1, c2, o1, o2, c', oc, vs, t, th, dx, pm, ctv, h1, h2, h3, h4, h5, h6, h7, h8, h9, h10⟩ := hz.is
  have hrow : PySem.Challenge.rw_pe0292_01 = _ := rfl
  revert hrow X; k_fill; w_top on; intro X _
  refine' kla_code B F X N T rfl hf hke ?k6 ?k7 ?k8 ?k9 ?kB ?_ ?c2 ?c3 ?c4 ?c5
  case k6 => exact .tail _ (.tail _ h1)
  case k7 => exact codeRec_news N (.tail _ (.tail _ h2)) h3 h4
  case k8 => k_room
  case k9 => exact lam_binds _ _ _ _ _
  case kB => exact locs rfl
  case c2 => exact rfl
  case c3 => exact rfl
  case c4 => exact rfl
  case c5 => decide
  intro g' L' h' FG' F' N' B' X' T'
  (try dsimp only); (try ((with_reducible show wpAny _ _ _ _ _ _); k_fold))
  refine MethodCall_ ?_
  k_steps
  · rename (_ ∧ AllLt _ _) => lq
    exact hF (by assumption) _ _ ⟨lq.1, lq.2.1, lq.2.2⟩ _ _ _ _ (by assumption) (by assumption) (by assumption)
  · refine leave_onX B' (by assumption) (by assumption) (by assumption) fun h'' r1 r2 => ?_
    exact hT (by assumption) _ _ _ _ _ _ _ _ (by assumption) r1 FG' r2
end
section
set_option maxHeartbeats 2000000
section
open PySem.Calls PySem.Spec
variable {prog : Program} {w : World} {M : Model} {A : Around} {E : Value → Shared → Prop} {s : Shared} {h₀ : Heap} {L : Addr} {m : Str → Option Value} {news : List (Addr × Obj)}
noncomputable abbrev jnO : Obj := { cls := .type "builtin_function_or_method", data := .fields #[.builtin "str.join", .str (Str.ofString "") 437] }
theorem jn_at (X : (K w.params).In s.heap) : s.heap.get? 98 = some jnO := X 98 _ (by rfl)
theorem jn_check (D : Addr) : checkBoundCall "str.join" ⟨[.str (Str.ofString "") 437, .ref D], []⟩ = pure () := by first | kernel_rfl | rfl
theorem jn_quiet {as : Args} : (Code.builtin "str.join" as).quiet = true := Code.quiet_builtin _ (by decide +kernel)
theorem jn_fields {pos : Pos} {first : List Value} {args : List (Bool × Sem Value)} {Q : Value → Shared → Prop} (hplain : args.any (·.1) = false)
    (h : wpAny M A (evalArgs (.ref 98) true args []) (fun x s₁ => (K w.params).In s₁.heap ∧ wpAny M A (call (.ref 98) (first ++ x.pos) x.kw) Q E s₁) E s) : wpAny M A (callWith pos (.ref 98) first args []) Q E s := by
  unfold callWith
  refine wpAny_bind (wpAny_holding (wpAny_mono h (fun x s₁ h₁ => wpAny_bind (wpAny_standAt ?_)) fun _ _ x => x))
  obtain ⟨X, hcall⟩ := h₁
  have ho := jn_at X
  simp only [hplain, List.any_nil, Bool.or_false]
  refine wpAny_bind (m := keeperOf (.ref 98)) ?_
  unfold keeperOf
  refine wpAny_bind (wpAny_load ho ?_)
  simp only [jnO, show (Value.type "builtin_function_or_method" != Value.type "method") = true by decide, show (Value.type "builtin_function_or_method" == Value.type "builtin_function_or_method" || Value.type "builtin_function_or_method" == Value.type "method-wrapper") = true by decide, if_true]
  refine wpAny_pure ?_
  exact wpAny_bind (wpAny_mono hcall (fun r s₂ hr => wpAny_bind (wpAny_holding (wpAny_point (wpAny_pure hr)))) fun _ _ x => x)
theorem jn_callWith {pos : Pos} {first : List Value} {env : Env} {e : Expr} {rest : List Expr} {Q : Value → Shared → Prop} (_X : (K w.params).In h₀)
    (h : wpAny M A (spliced (backTo pos (starEach (e :: rest) env))) (fun vs s₁ => (K w.params).In s₁.heap ∧ wpAny M A (call (.ref 98) (first ++ vs)) Q E s₁) E s)
    (he : starEach (e :: rest) env = (false, eval e env) :: starEach rest env := by rfl) (hplain : (backTo pos (starEach rest env)).any (·.1) = false := by rfl) :
    wpAny M A (callWith pos (.ref 98) first (backTo pos (starEach (e :: rest) env)) []) Q E s := by
  rw [he] at h ⊢
  refine jn_fields (w := w) (by show (false || (backTo pos (starEach rest env)).any (·.1)) = false; rw [hplain]; rfl) ?_
  exact evalArgs_plain h
theorem jn_call {D : Addr} {items : Array Value} {ys : List Str} {Q : Value → Shared → Prop} (X : (K w.params).In s.heap) (hl : s.heap.IsList D items) (hi : StrsAre items.toList ys) (hok : (ys.map (·.length)).sum ≤ 16777216)
    (h : ∀ t' k, Q (.str (Txt.join (Str.ofString "") ys) t') { s with toks := k }) : wpAny (model prog w) A (call (.ref 98) [.ref D]) Q E s := by
  obtain ⟨l, hv, ht⟩ := strsAre_values hi
  have e : items = (strValues l).toArray := by rw [← hv]
  subst e
  subst ht
  have hok' : JoinOk (Str.ofString "") (l.map (·.1)) = true := joinOk_of (by have : (Str.ofString "").length = 0 := by decide
                                                                             rw [this, Nat.mul_zero]; exact hok)
  unfold JoinOk at hok'
  rw [Bool.not_eq_true'] at hok'
  have ho := jn_at X
  refine wpAny_call (codeAny_of_tree ?_)
  show wpAny _ A.in1 (callAny (.ref 98) ⟨[.ref D], []⟩) _ _ s
  simp only [callAny]
  refine wpAny_bind (wpAny_load ho ?_)
  simp only [jnO, show (Value.type "builtin_function_or_method" == Value.type "method" || Value.type "builtin_function_or_method" == Value.type "builtin_function_or_method" || Value.type "builtin_function_or_method" == Value.type "method-wrapper") = true by decide, if_true]
  refine KFB.if_so (by decide) ?_
  refine wpAny_bind (wpAny_of_eq (a := ()) (jn_check D) ?_)
  refine wpAny_bind (wpAny_pure (wpAny_pure ?_))
  refine ⟨jn_quiet, codeAny_builtin PySem.F.entry_str_join ?_⟩
  rw [Around.under_plainId PySem.F.slot_str_join.plain]
  exact meets_str_join_list (Str.ofString "") 437 D l hok' prog w A (wants Q E) s ⟨hl, post_join l ⟨joinFit_length hok', h⟩⟩
end
end
section
theorem Pick.inv {α : Type} {a : α} {l l' : List α} (p : Pick a l l') : ∀ x ∈ l, x ∈ a :: l' := by
  induction p with
  | here => exact fun x h => h
  | there p ih =>
    intro x h
    rcases List.mem_cons.mp h with rfl | h
    · exact .tail _ (.head _)
    · rcases List.mem_cons.mp (ih x h) with rfl | h
      · exact .head _
      · exact .tail _ (.tail _ h)
section
variable {led l1 l2 : List (Addr × Obj)}
    {R : Result → Shared → Prop} {f x l cl : Addr} {tn tv : Tok} {its : Array Value} {n n2 : Nat} {nm v : Str}
theorem write_at (cx : Cy w A₀ base h₀ outer env L m mean mg mb h led d u) (hd1 : d ≤ 740) (hu1 : u ≤ 380)
    {Z : List (Addr × Obj)} (hz : HandZ w Z f x l cl) (p1 : Pick (l, listOf its n) led l1) (p2 : Pick (cl, listOf #[.str nm tn] n2) l1 l2) (hsub : ∀ p ∈ Z, p ∈ l2) (hlc : cl ≠ l) (hl : ∀ p ∈ l2, p.1 ≠ l) (hlen : its.size ≤ 1000)
    (hnm : nBad nm = false) (hnl : nm.length ≤ 2 ^ 63 - 1) (hvl : v.length ≤ 1000)
    (hF : vBad v = false → ∀ q tv', (∀ p ∈ led, p.1 < q) → BackY g os h₀ L m ((q, tupO (.str nm tn) (.str v tv')) :: (l, listOf (its.push (.ref q)) (n + 1)) :: (cl, listOf #[.str nm tn] n2) :: l2) .none R)
    (hT : vBad v = true → BoomY g os base h₀ outer env L m ((l, listOf its n) :: (cl, listOf #[.str nm tn] n2) :: l2) R) :
    codeAny (model prg w) (Ar d u gd env outer) (.call (.ref f) ⟨[.str v tv], []⟩) R ⟨h, g, dr, tk, os⟩ :=
  write_y ⟨cx.B, cx.F, cx.X, news2 cx.N p1 p2, cx.T, cx.hf, cx.hke, cx.hd, cx.hu⟩ hd1 hu1 (hz.mono hsub) hlc hl hlen hnm hnl hvl (fun hv q tv' o => hF hv q tv' fun p hp => by
    rcases List.mem_cons.mp (p1.inv p hp) with rfl | hp
    · exact o.1
    · rcases List.mem_cons.mp (p2.inv p hp) with rfl | hp
      · exact o.2.1
      · exact allLt_mem o.2.2 p hp) hT
theorem hand_fn {h₀ h : Heap} {L : Addr} {Z : List (Addr × Obj)} (N : News h₀ L h Z) (H : HandZ w Z f x l cl) : FnAt f h := by
  obtain ⟨c1, c2, o1, o2, c', oc, vs, t, th, dx, pm, ctv, h1, _⟩ := H.is
  exact FnAt.of N h1
end
theorem news_sub {h₀ h : Heap} {L : Addr} {l l' : List (Addr × Obj)} (N : News h₀ L h l) (hs : ∀ p ∈ l', p ∈ l) : News h₀ L h l' := fun p hp => N p (hs p hp)
end
section
namespace NV3
theorem hereV3 : True := trivial
end NV3
open NV3
theorem rowsV30 : True := by
  k_with "delItem ref ref" => (fail_if_success fail_if_success have q := hereV3); (k_here; k_dflt (refine del_all (by k_asm) (by k_asm) (by k_updF) (by k_mem) rfl rfl ?_ (by assumption)); intro h'ₓ n'ₓ F'ₓ N'ₓ; (try dsimp only at N'ₓ); (try k_sweep))
  k_with "k_upd" => (fail_if_success fail_if_success have q := hereV3); first | exact Pick.here | (apply Pick.there; k_upd) | exact TailF.nil | (apply TailF.cons; k_upd) | (refine List.forall_mem_cons.mpr ⟨by k_mem, ?_⟩; k_upd) | (exact fun pₓ hpₓ => by k_mem) | (refine List.forall_mem_cons.mpr ⟨⟨_, by k_mem⟩, ?_⟩; k_upd) | (exact fun pₓ hpₓ => ⟨pₓ.2, by k_mem⟩)
  k_with "FnAt" => (fail_if_success fail_if_success have q := hereV3); (k_here; k_dflt (exact hand_fn (by k_asm) (HandZ.mono (by assumption) (fun pₓ hpₓ => by k_mem))))
  k_with "callWith ref" => (fail_if_success fail_if_success have q := hereV3); (k_here; (with_reducible show wpAny _ _ (callWith _ (Value.ref _) _ (backTo _ (starEach (_ :: _) _)) []) _ _ _); k_dflt (refine callWith_F (hand_fn (by k_asm) (HandZ.mono (by assumption) (fun pₓ hpₓ => by k_mem))) ?_; k_whole))
  k_with "callWith ref" => (fail_if_success fail_if_success have q := hereV3); (k_here; (with_reducible show wpAny _ _ (callWith _ (Value.ref _) _ (backTo _ (starEach (_ :: _) _)) []) _ _ _); k_dflt (refine jn_callWith (by k_asm) ?_; k_whole))
  k_with "call ref" => (fail_if_success fail_if_success have q := hereV3); (k_here; k_dflt (refine jn_call (by k_in) (News.isList (by k_asm) (by k_mem)) (by assumption) (by assumption) ?_); intro t'ₓ k'ₓ)
  k_with "eval Slice" => (fail_if_success fail_if_success have q := hereV3); (k_here; k_dflt (refine slice_all_K (by k_asm) (by k_asm) ?_); intro sl'ₓ h'ₓ F'ₓ N'ₓ l1ₓ; (try k_lt l1ₓ); (try k_sweep))
  k_with "call ref" => (fail_if_success fail_if_success have q := hereV3); (k_here; (try dsimp only); k_dflt (refine wpAny_call ?_; first | (refine escc_y ⟨by k_asm, by k_asm, by k_asm, by k_asm, by k_asm, rfl, rfl, by k_units, by k_units⟩ (by kln_le) ?_) | (refine write_at ⟨by k_asm, by k_asm, by k_asm, by k_asm, by k_asm, rfl, rfl, by k_units, by k_units⟩ (by k_units) (by k_units) (by assumption) (by k_upd) (by k_upd) (fun pₓ hpₓ => by k_mem) (by first | assumption | k_ne) (by k_all) (by assumption) (by assumption) (by assumption) (by first | assumption | kln_le) ?_ ?_; (intro hv'ₓ q'ₓ tv'ₓ l1ₓ h'ₓ g'ₓ d'ₓ tk'ₓ hb'ₓ F'ₓ N'ₓ; (try k_lt l1ₓ); rotate_left 1); (intro hv'ₓ h'ₓ g'ₓ d'ₓ tk'ₓ e'ₓ t'ₓ tu'ₓ gb'ₓ hb'ₓ R'ₓ F'ₓ U'ₓ; rotate_left 1))))
  trivial
theorem flush_y {news : List (Addr × Obj)}
    {R : Result → Shared → Prop} {x dx f dd ds dn dm dp xt l cl : Addr} {ts : Nat → Tok} {seen done : Bool} {its hds : Array Value} {n n2 n3 : Nat} {nm : Str} {tn : Tok} {txts : List Str}
    (cx : Cy w A₀ base h₀ outer env L m mean mg mb h ((dd, listOf its n) :: (l, listOf hds n2) :: (cl, listOf #[.str nm tn] n3) :: news) d u)
    (hd1 : d ≤ 730) (hu1 : u ≤ 370) (hx : (x, instObj 150 dx) ∈ news) (hdx : (dx, wrD w ts f dd ds dn dm dp seen done) ∈ news) (hz : HandZ w news f xt l cl) (h1 : dd ≠ l) (h2 : dd ≠ cl) (h3 : cl ≠ l) (hdd : ∀ p ∈ news, p.1 ≠ dd) (hl : ∀ p ∈ news, p.1 ≠ l) (hlen : its.size ≤ 1000) (hlen2 : hds.size ≤ 1000) (hnm : nBad nm = false) (hnl : nm.length ≤ 2 ^ 63 - 1) (hst : StrsAre its.toList txts) (hsum : (txts.map (·.length)).sum ≤ 16777216) (hj : (Txt.join (Str.ofString "") txts).length ≤ 1000) (hje : (escC (Txt.join (Str.ofString "") txts)).length ≤ 1000)
    (hF0 : (((Txt.join (Str.ofString "") txts).length : Int) = 0 ∨ seen = false) → ∀ n', BackY g os h₀ L m ((dd, listOf #[] n') :: (l, listOf hds n2) :: (cl, listOf #[.str nm tn] n3) :: news) .none R)
    (hF1 : ((Txt.join (Str.ofString "") txts).length : Int) ≠ 0 → seen = true → vBad (escC (Txt.join (Str.ofString "") txts)) = false → ∀ n' q tv', AllLt q ((dd, listOf its n) :: (l, listOf hds n2) :: (cl, listOf #[.str nm tn] n3) :: news) → BackY g os h₀ L m ((q, tupO (.str nm tn) (.str (escC (Txt.join (Str.ofString "") txts)) tv')) :: (dd, listOf #[] n') :: (l, listOf (hds.push (.ref q)) (n2 + 1)) :: (cl, listOf #[.str nm tn] n3) :: news) .none R)
    (hT1 : ((Txt.join (Str.ofString "") txts).length : Int) ≠ 0 → seen = true → vBad (escC (Txt.join (Str.ofString "") txts)) = true → ∀ n', BoomY g os base h₀ outer env L m ((dd, listOf #[] n') :: (l, listOf hds n2) :: (cl, listOf #[.str nm tn] n3) :: news) R) :
    codeAny (model prg w) (Ar d u gd env outer) (.call (.ref 106) ⟨[.ref x], []⟩) R ⟨h, g, dr, tk, os⟩ := by
  obtain ⟨B, F, X, N, T, hf, hke, hd, hu⟩ := cx
  have hrow : PySem.Challenge.rw_pe0292_01 = _ := rfl
  revert hrow X; k_fill; w_top on; intro X _
  refine' code_def B F X N T rfl hf hke ?k6 ?k7 ?k8 (?k9) ?kB ?_ ?c2 ?c3 ?c4 ?c5
  case k6 => k_is
  case k7 => k_is
  case k8 => k_room
  case k9 => exact binds_K (by k_in) rfl (by k_is) rfl rfl rfl
  case kB => exact locs rfl
  case c5 => decide
  case c2 => exact rfl
  case c3 => exact rfl
  case c4 => exact rfl
  intro g' L' h' FG' F' N' B' X' T'
  replace F' : Fr g' L' h' (fun y => List.lookup y ([(Str.ofString "self", .ref x), (Str.ofString "_join_text", .ref 98)] : List (Str × Value)).reverse) := F'
  (try dsimp only); (try ((with_reducible show wpAny _ _ _ _ _ _); k_fold))
  with_reducible refine gen_tok tokV ?_
  intro tk0 htk0
  k_steps
  · rename (_ ∧ _ ∧ _ ∧ _ ∧ AllLt _ news) => lq
    exact hF1 (by assumption) (by assumption) (by assumption) _ _ _ lq.2 _ _ _ _ (fun hb => by solve_by_elim) (by assumption) (news_sub (by assumption) (by k_upd))
  · exact hT1 (by assumption) (by assumption) (by assumption) _ _ _ _ _ _ _ _ _ (fun hb => by solve_by_elim) (raised_sub (by assumption) (by k_upd)) (by assumption) (by assumption)
  · exact hF0 (.inr (by assumption)) _ _ _ _ _ id (by assumption) (news_sub (by assumption) (by k_upd))
  · exact hF0 (.inl (by assumption)) _ _ _ _ _ id (by assumption) (news_sub (by assumption) (by k_upd))
end
section
set_option maxHeartbeats 2000000
structure Up (led Z Z' : List (Addr × Obj)) : Prop where
  sub : ∀ p ∈ Z, p ∈ Z'
  new : ∀ p ∈ Z', p ∈ Z ∨ ∀ r ∈ led, r.1 < p.1
theorem Up.refl (led Z : List (Addr × Obj)) : Up led Z Z := ⟨fun _ h => h, fun _ h => .inl h⟩
theorem Up.one {led Z : List (Addr × Obj)} {q : Addr} {o : Obj} (h : ∀ r ∈ led, r.1 < q) : Up led Z ((q, o) :: Z) := ⟨fun _ h => .tail _ h, fun p hp => by
  rcases List.mem_cons.mp hp with rfl | hp
  · exact .inr h
  · exact .inl hp⟩
theorem Up.mono {led led' Z Z' : List (Addr × Obj)} (U : Up led Z Z') (h : ∀ r ∈ led', ∃ o, (r.1, o) ∈ led) : Up led' Z Z' := ⟨U.sub, fun p hp => (U.new p hp).imp id fun a r hr => by
  obtain ⟨o, hq⟩ := h r hr
  exact a (r.1, o) hq⟩
theorem Up.trans {led led' Z Z' Z'' : List (Addr × Obj)} (U : Up led Z Z') (V : Up led' Z' Z'') (h : ∀ r ∈ led, ∃ o, (r.1, o) ∈ led') : Up led Z Z'' := ⟨fun p hp => V.sub p (U.sub p hp), fun p hp => by
  rcases (V.mono h).new p hp with hp | hp
  · exact U.new p hp
  · exact .inr hp⟩
theorem Up.mem {led Z Z' : List (Addr × Obj)} (U : Up led Z Z') {p : Addr × Obj} (hp : p ∈ Z) : p ∈ Z' := U.sub p hp
theorem Up.ne {led Z Z' : List (Addr × Obj)} {a : Addr} {o : Obj} (U : Up led Z Z') (h0 : ∀ p ∈ Z, p.1 ≠ a) (hm : (a, o) ∈ led) : ∀ p ∈ Z', p.1 ≠ a := fun p hp => by
  rcases U.new p hp with hp | hp
  · exact h0 p hp
  · exact Ne.symm (Nat.ne_of_lt (hp _ hm))
inductive Pushed (nm : Str) (hds : Array Value) (Z : List (Addr × Obj)) : List Str → Array Value → List (Addr × Obj) → Prop
  | nil : Pushed nm hds Z [] hds Z
  | snoc {vs hds' Z'} (v : Str) (q : Addr) (t t' : Tok) : Pushed nm hds Z vs hds' Z' → Pushed nm hds Z (vs ++ [v]) (hds'.push (.ref q)) ((q, tupO (.str nm t) (.str v t')) :: Z')
theorem Pushed.size {nm : Str} {hds hds' : Array Value} {Z Z' : List (Addr × Obj)} {vs : List Str} (P : Pushed nm hds Z vs hds' Z') : hds'.size = hds.size + vs.length := by
  induction P with
  | nil => rfl
  | snoc v q t t' P ih => rw [Array.size_push, ih, List.length_append]; rfl
theorem Pushed.trans {nm : Str} {a b c : Array Value} {Z Z' Z'' : List (Addr × Obj)} {vs ws : List Str} (P : Pushed nm a Z vs b Z') (P' : Pushed nm b Z' ws c Z'') : Pushed nm a Z (vs ++ ws) c Z'' := by
  induction P' with
  | nil => rw [List.append_nil]; exact P
  | snoc v q t t' _ ih => rw [← List.append_assoc]; exact .snoc v q t t' ih
noncomputable abbrev Outc := List Str × Bool
noncomputable def writeP (v : Str) : Outc := if vBad v then ([], false) else ([v], true)
noncomputable def seqP (a b : Outc) : Outc := if a.2 then (a.1 ++ b.1, b.2) else a
noncomputable def flushP (seen : Bool) (t : Str) : Outc := if t.length = 0 ∨ seen = false then ([], true) else writeP (escC t)
theorem writeP_len (v : Str) : (writeP v).1.length ≤ 1 := by unfold writeP; split <;> simp
theorem seqP_len {a b : Outc} : (seqP a b).1.length ≤ a.1.length + b.1.length := by unfold seqP; split <;> simp
theorem flushP_len (seen : Bool) (t : Str) : (flushP seen t).1.length ≤ 1 := by
  unfold flushP
  split
  · decide
  · exact writeP_len _
noncomputable abbrev DoneY (ok : Bool) (g : Array GenState) (os : OsState) (base h₀ : Heap) (outer : List Env) (env : Env) (L : Addr) (m : Str → Option Value) (news : List (Addr × Obj)) (v : Value) (R : Result → Shared → Prop) : Prop :=
  (ok = true → BackY g os h₀ L m news v R) ∧ (ok = false → BoomY g os base h₀ outer env L m news R)
inductive TailF (Z : List (Addr × Obj)) : List (Addr × Obj) → (List (Addr × Obj) → List (Addr × Obj)) → Prop
  | nil : TailF Z Z (fun Z' => Z')
  | cons {a l g} : TailF Z l g → TailF Z (a :: l) (fun Z' => a :: g Z')
theorem TailF.eq {Z l : List (Addr × Obj)} {g : List (Addr × Obj) → List (Addr × Obj)} (T : TailF Z l g) : l = g Z := by
  induction T with
  | nil => rfl
  | cons _ ih => exact congrArg (_ :: ·) ih
theorem TailF.one {Z l : List (Addr × Obj)} {g : List (Addr × Obj) → List (Addr × Obj)} (T : TailF Z l g) {q : Addr × Obj} : ∀ x ∈ g (q :: Z), x = q ∨ x ∈ l := by
  induction T with
  | nil => exact fun x hx => List.mem_cons.mp hx
  | cons _ ih =>
    intro x hx
    rcases List.mem_cons.mp hx with rfl | hx
    · exact .inr (.head _)
    · exact (ih x hx).imp id (.tail _)
theorem TailF.sub {Z l : List (Addr × Obj)} {g : List (Addr × Obj) → List (Addr × Obj)} (T : TailF Z l g) : ∀ x ∈ Z, x ∈ l := by
  induction T with
  | nil => exact fun x hx => hx
  | cons _ ih => exact fun x hx => .tail _ (ih x hx)
structure Ran (nm : Str) (led0 Z0 : List (Addr × Obj)) (hds0 : Array Value) (o : Outc) (hds : Array Value) (Z : List (Addr × Obj)) : Prop where
  up : Up led0 Z0 Z
  pushed : Pushed nm hds0 Z0 o.1 hds Z
theorem Ran.start (nm : Str) (led0 Z0 : List (Addr × Obj)) (hds0 : Array Value) : Ran nm led0 Z0 hds0 ([], true) hds0 Z0 := ⟨Up.refl _ _, .nil⟩
theorem Ran.then {nm : Str} {led0 led Z0 Z Z' : List (Addr × Obj)} {hds0 hds hds' : Array Value} {o o' : Outc} (r : Ran nm led0 Z0 hds0 o hds Z) (ok : o.2 = true) (U : Up led Z Z') (P : Pushed nm hds Z o'.1 hds' Z') (hk : ∀ r ∈ led0, ∃ o, (r.1, o) ∈ led) :
    Ran nm led0 Z0 hds0 (seqP o o') hds' Z' := ⟨r.up.trans U hk, by unfold seqP; rw [if_pos ok]; exact r.pushed.trans P⟩
theorem Ran.size {nm : Str} {led0 Z0 Z : List (Addr × Obj)} {hds0 hds : Array Value} {o : Outc} (r : Ran nm led0 Z0 hds0 o hds Z) : hds.size = hds0.size + o.1.length := r.pushed.size
theorem seqP_ok {a b : Outc} (h : a.2 = true) : (seqP a b).2 = b.2 := by unfold seqP; rw [if_pos h]
section
variable {led l1 l2 l3 Z : List (Addr × Obj)}
    {R : Result → Shared → Prop} {f x dx xt l cl dd ds dn dm dp : Addr} {tn tv : Tok} {its hds : Array Value} {n n2 n3 : Nat} {nm v : Str} {ts : Nat → Tok} {seen done : Bool} {txts : List Str} {gT : List (Addr × Obj) → List (Addr × Obj)}
theorem write_z (cx : Cy w A₀ base h₀ outer env L m mean mg mb h led d u) (hd1 : d ≤ 740) (hu1 : u ≤ 380)
    (hz : HandZ w Z f x l cl) (p1 : Pick (l, listOf its n) led l1) (p2 : Pick (cl, listOf #[.str nm tn] n2) l1 l2) (tl : TailF Z l2 gT) (hlc : cl ≠ l) (hl : ∀ p ∈ l2, p.1 ≠ l) (hlen : its.size ≤ 1000)
    (hnm : nBad nm = false) (hnl : nm.length ≤ 2 ^ 63 - 1) (hvl : v.length ≤ 1000)
    {led0 Z0 : List (Addr × Obj)} {hds0 : Array Value} {o : Outc} (r : Ran nm led0 Z0 hds0 o its Z) (ok : o.2 = true) (hk : ∀ r ∈ led0, ∃ o, (r.1, o) ∈ led)
    (hF : ∀ its' n' Z', Up led Z Z' → HandZ w Z' f x l cl → Ran nm led0 Z0 hds0 (seqP o (writeP v)) its' Z' → its'.size ≤ its.size + 1 → DoneY (seqP o (writeP v)).2 g os base h₀ outer env L m ((l, listOf its' n') :: (cl, listOf #[.str nm tn] n2) :: gT Z') .none R) :
    codeAny (model prg w) (Ar d u gd env outer) (.call (.ref f) ⟨[.str v tv], []⟩) R ⟨h, g, dr, tk, os⟩ := by
  have hF' : ∀ its' n' Z', Up led Z Z' → HandZ w Z' f x l cl → Pushed nm its Z (writeP v).1 its' Z' → its'.size ≤ its.size + 1 → DoneY (writeP v).2 g os base h₀ outer env L m ((l, listOf its' n') :: (cl, listOf #[.str nm tn] n2) :: gT Z') .none R :=
    fun its' n' Z' U H P s => by rw [← seqP_ok (b := writeP v) ok]; exact hF its' n' Z' U H (r.then ok U P hk) s
  refine write_at cx hd1 hu1 hz p1 p2 tl.sub hlc hl hlen hnm hnl hvl (fun hv q tv' ol => ?_) fun hv => ?_
  · have e : writeP v = ([v], true) := by unfold writeP; rw [if_neg (by rw [hv]; exact Bool.false_ne_true)]
    have P : Pushed nm its Z (writeP v).1 (its.push (.ref q)) ((q, tupO (.str nm tn) (.str v tv')) :: Z) := by rw [e]; exact .snoc (vs := []) v q tn tv' .nil
    have H := (hF' _ (n + 1) _ (Up.one ol) (hz.mono fun _ h => .tail _ h) P (by rw [Array.size_push]; exact Nat.le_refl _)).1 (by rw [e])
    intro h' g' d' tk' hb F' N'
    exact H h' g' d' tk' hb F' (news_sub N' fun p hp => by
      rcases List.mem_cons.mp hp with rfl | hp
      · exact .tail _ (.head _)
      · rcases List.mem_cons.mp hp with rfl | hp
        · exact .tail _ (.tail _ (.head _))
        · rcases tl.one p hp with rfl | hp
          · exact .head _
          · exact .tail _ (.tail _ (.tail _ hp)))
  · have e : writeP v = ([], false) := by unfold writeP; rw [if_pos hv]
    have H := (hF' its n Z (Up.refl _ _) hz (by rw [e]; exact .nil) (Nat.le_succ _)).2 (by rw [e])
    rw [← tl.eq] at H
    exact H
theorem flush_z (cx : Cy w A₀ base h₀ outer env L m mean mg mb h led d u) (hd1 : d ≤ 730) (hu1 : u ≤ 370)
    (hz : HandZ w Z f xt l cl)
    (p1 : Pick (dd, listOf its n) led l1) (p2 : Pick (l, listOf hds n2) l1 l2) (p3 : Pick (cl, listOf #[.str nm tn] n3) l2 l3) (tl : TailF Z l3 gT) (hx : (x, instObj 150 dx) ∈ l3) (hdx : (dx, wrD w ts f dd ds dn dm dp seen done) ∈ l3)
    (h1 : dd ≠ l) (h2 : dd ≠ cl) (h3 : cl ≠ l) (hdd : ∀ p ∈ l3, p.1 ≠ dd) (hl : ∀ p ∈ l3, p.1 ≠ l) (hlen : its.size ≤ 1000) (hlen2 : hds.size ≤ 1000) (hnm : nBad nm = false) (hnl : nm.length ≤ 2 ^ 63 - 1) (hst : StrsAre its.toList txts) (hsum : (txts.map (·.length)).sum ≤ 16777216)
    (hj : (Txt.join (Str.ofString "") txts).length ≤ 1000) (hje : (escC (Txt.join (Str.ofString "") txts)).length ≤ 1000)
    {led0 Z0 : List (Addr × Obj)} {hds0 : Array Value} {o : Outc} (r : Ran nm led0 Z0 hds0 o hds Z) (ok : o.2 = true) (hk : ∀ r ∈ led0, ∃ o, (r.1, o) ∈ led)
    (hF : ∀ n' hds' n2' Z', Up led Z Z' → HandZ w Z' f xt l cl → Ran nm led0 Z0 hds0 (seqP o (flushP seen (Txt.join (Str.ofString "") txts))) hds' Z' → hds'.size ≤ hds.size + 1 →
      DoneY (seqP o (flushP seen (Txt.join (Str.ofString "") txts))).2 g os base h₀ outer env L m ((dd, listOf #[] n') :: (l, listOf hds' n2') :: (cl, listOf #[.str nm tn] n3) :: gT Z') .none R) :
    codeAny (model prg w) (Ar d u gd env outer) (.call (.ref 106) ⟨[.ref x], []⟩) R ⟨h, g, dr, tk, os⟩ := by
  have hF' : ∀ n' hds' n2' Z', Up led Z Z' → HandZ w Z' f xt l cl → Pushed nm hds Z (flushP seen (Txt.join (Str.ofString "") txts)).1 hds' Z' → hds'.size ≤ hds.size + 1 →
      DoneY (flushP seen (Txt.join (Str.ofString "") txts)).2 g os base h₀ outer env L m ((dd, listOf #[] n') :: (l, listOf hds' n2') :: (cl, listOf #[.str nm tn] n3) :: gT Z') .none R :=
    fun n' hds' n2' Z' U H P s => by rw [← seqP_ok (b := flushP seen (Txt.join (Str.ofString "") txts)) ok]; exact hF n' hds' n2' Z' U H (r.then ok U P hk) s
  have H0 := fun n' => hF' n' hds n2 Z (Up.refl _ _) hz
  rw [← tl.eq] at H0
  refine flush_y (txts := txts) (xt := xt) ⟨cx.B, cx.F, cx.X, news3 cx.N p1 p2 p3, cx.T, cx.hf, cx.hke, cx.hd, cx.hu⟩ hd1 hu1 hx hdx (hz.mono tl.sub) h1 h2 h3 hdd hl hlen hlen2 hnm hnl hst hsum hj hje (fun hc n' => ?_) (fun hj0 hs hv n' q tv' ol => ?_) fun hj0 hs hv n' => ?_
  · have e : flushP seen (Txt.join (Str.ofString "") txts) = ([], true) := by unfold flushP; rw [if_pos (hc.imp (fun z => by kln_le) id)]
    exact (H0 n' (by rw [e]; exact .nil) (Nat.le_succ _)).1 (by rw [e])
  · have e : flushP seen (Txt.join (Str.ofString "") txts) = ([escC (Txt.join (Str.ofString "") txts)], true) := by
      unfold flushP writeP
      rw [if_neg (fun a => a.elim (fun a => hj0 (by kln_le)) (fun a => by rw [hs] at a; cases a)), if_neg (by rw [hv]; exact Bool.false_ne_true)]
    have P : Pushed nm hds Z (flushP seen (Txt.join (Str.ofString "") txts)).1 (hds.push (.ref q)) ((q, tupO (.str nm tn) (.str (escC (Txt.join (Str.ofString "") txts)) tv')) :: Z) := by rw [e]; exact .snoc (vs := []) _ q tn tv' .nil
    have H := (hF' n' _ (n2 + 1) _ (Up.one fun p hp => by
      rcases List.mem_cons.mp (p1.inv p hp) with rfl | hp
      · exact ol.1
      · rcases List.mem_cons.mp (p2.inv p hp) with rfl | hp
        · exact ol.2.1
        · rcases List.mem_cons.mp (p3.inv p hp) with rfl | hp
          · exact ol.2.2.1
          · exact allLt_mem ol.2.2.2 p hp) (hz.mono fun _ h => .tail _ h) P (by rw [Array.size_push]; exact Nat.le_refl _)).1 (by rw [e])
    intro h' g' d' tk' hb F' N'
    exact H h' g' d' tk' hb F' (news_sub N' fun p hp => by
      rcases List.mem_cons.mp hp with rfl | hp
      · exact .tail _ (.head _)
      · rcases List.mem_cons.mp hp with rfl | hp
        · exact .tail _ (.tail _ (.head _))
        · rcases List.mem_cons.mp hp with rfl | hp
          · exact .tail _ (.tail _ (.tail _ (.head _)))
          · rcases tl.one p hp with rfl | hp
            · exact .head _
            · exact .tail _ (.tail _ (.tail _ (.tail _ hp))))
  · have e : flushP seen (Txt.join (Str.ofString "") txts) = ([], false) := by
      unfold flushP writeP
      rw [if_neg (fun a => a.elim (fun a => hj0 (by kln_le)) (fun a => by rw [hs] at a; cases a)), if_pos hv]
    exact (H0 n' (by rw [e]; exact .nil) (Nat.le_succ _)).2 (by rw [e])
end
end
section
set_option maxHeartbeats 2000000
theorem nl_bad : vBad (Str.ofString "\n") = true := by decide +kernel
theorem writeP_nl : writeP (Str.ofString "\n") = ([], false) := by unfold writeP; rw [if_pos nl_bad]
section
variable {led l1 l2 Z : List (Addr × Obj)}
    {R : Result → Shared → Prop} {f x l cl : Addr} {tn tv : Tok} {its : Array Value} {n n2 : Nat} {nm : Str} {gT : List (Addr × Obj) → List (Addr × Obj)}
theorem write_nl (cx : Cy w A₀ base h₀ outer env L m mean mg mb h led d u) (hd1 : d ≤ 740) (hu1 : u ≤ 380)
    (hz : HandZ w Z f x l cl) (p1 : Pick (l, listOf its n) led l1) (p2 : Pick (cl, listOf #[.str nm tn] n2) l1 l2) (tl : TailF Z l2 gT) (hlc : cl ≠ l) (hl : ∀ p ∈ l2, p.1 ≠ l) (hlen : its.size ≤ 1000)
    (hnm : nBad nm = false) (hnl : nm.length ≤ 2 ^ 63 - 1)
    {led0 Z0 : List (Addr × Obj)} {hds0 : Array Value} {o : Outc} (r : Ran nm led0 Z0 hds0 o its Z) (ok : o.2 = true) (hk : ∀ r ∈ led0, ∃ o, (r.1, o) ∈ led)
    (hF : Ran nm led0 Z0 hds0 (seqP o (writeP (Str.ofString "\n"))) its Z → (seqP o (writeP (Str.ofString "\n"))).2 = false → BoomY g os base h₀ outer env L m led R) :
    codeAny (model prg w) (Ar d u gd env outer) (.call (.ref f) ⟨[.str (Str.ofString "\n") tv], []⟩) R ⟨h, g, dr, tk, os⟩ :=
  write_at cx hd1 hu1 hz p1 p2 tl.sub hlc hl hlen hnm hnl (by decide) (fun hv => by rw [nl_bad] at hv; cases hv) fun hv h' g' d' tk' e t tu gb hb R' F' U' => by
    have e0 : seqP o (writeP (Str.ofString "\n")) = (o.1, false) := by unfold seqP; rw [if_pos ok, writeP_nl, List.append_nil]
    exact hF (by rw [e0]; exact ⟨r.up, r.pushed⟩) (by rw [e0]) h' g' d' tk' e t tu gb hb (raised_sub R' fun p hp => by
      rcases List.mem_cons.mp (p1.inv p hp) with rfl | hp
      · exact .head _
      · exact .tail _ (p2.inv p hp)) F' U'
end
noncomputable abbrev cmS (text : Str) : Str := Str.empty ++ Str.ofString "<!--" ++ escC text ++ Str.ofString "-->"
noncomputable abbrev nlS : Str := Str.ofString "\n"
noncomputable abbrev okP : Outc := ([], true)
noncomputable def aheadP (seen done empt : Bool) (t : Str) : Outc := if done then writeP nlS else if seen && !empt then flushP seen t else okP
noncomputable def dataP (seen done : Bool) (its : Array Value) : Array Value := if done then its else if seen && !its.isEmpty then #[] else its
noncomputable def behindP (seen : Bool) : Outc := if seen then okP else writeP nlS
noncomputable def commentP (seen done empt : Bool) (t p : Str) : Outc := seqP (seqP (seqP okP (aheadP seen done empt t)) (writeP p)) (behindP seen)
theorem seqP_bad {a b : Outc} (h : a.2 = false) : seqP a b = a := by unfold seqP; rw [if_neg (by rw [h]; exact Bool.false_ne_true)]
theorem seqP_okP (a : Outc) : seqP a okP = a := by
  obtain ⟨x, b⟩ := a
  cases b with
  | true => show (x ++ [], true) = (x, true); rw [List.append_nil]
  | false => rfl
end
section
set_option maxHeartbeats 2000000
section
open PySem.Calls PySem.Spec
variable {M : Model} {A : Around} {R : GenEnd} {Y : Protocol} {n : Nat} {s₀ : Shared} {c : Code} {fs : List Frame} {s : Shared} {env : Env} {α β : Type}
  {H : Value → Sem Fin} {gd : Bool → Bool} {lv : List Value → List Value}
noncomputable abbrev NoE : Value → Shared → Prop := fun _ _ => False
theorem seg_wN {K : α → Sem Fin} {m : Sem α} (h : wpAny M (A.over c fs) m (fun a s' => Seg M A R Y n s₀ c (K a) fs s') NoE s) : Seg M A R Y n s₀ c (m.wrap K H gd lv) fs s :=
  seg_wrap (wpAny_mono h (fun _ _ x => x) fun _ _ x => x.elim)
theorem bind_wrapS {K : β → Sem Fin} (m : Sem α) (f : α → Sem β) : (m >>= f).wrap K H gd lv = m.wrap (fun a => (f a).wrap K H gd lv) H gd lv := by
  rw [Sem.bind_eq_wrap', Sem.wrap_wrap]; rfl
theorem seg_bN {K : β → Sem Fin} {m : Sem α} {f : α → Sem β} (h : wpAny M (A.over c fs) m (fun a s' => Seg M A R Y n s₀ c ((f a).wrap K H gd lv) fs s') NoE s) : Seg M A R Y n s₀ c ((m >>= f).wrap K H gd lv) fs s := by
  rw [bind_wrapS]; exact seg_wN h
theorem seg_If {K : Flow → Sem Fin} {t : Expr} {b o : List Stmt} {pos : Pos} (h : wpAny M (A.over c fs) (isTrue t env (eval t env)) (fun r s' => if r = true then Seg M A R Y n s₀ c ((execs b env).wrap K H gd lv) fs s' else Seg M A R Y n s₀ c ((execs o env).wrap K H gd lv) fs s') NoE s) :
    Seg M A R Y n s₀ c ((exec (.If t b o pos) env).wrap K H gd lv) fs s := by
  rw [exec_If]
  refine seg_bN (wpAny_standAt ?_)
  refine seg_bN (wpAny_mono h (fun r s' h' => ?_) fun _ _ x => x)
  cases r with
  | true => exact h'
  | false => exact h'
noncomputable def ownTail (env : Env) (K : Flow → Sem Fin) (H : Value → Sem Fin) (gd : Bool → Bool) (lv : List Value → List Value) : Result → Sem Fin := fun r =>
  ((match r with | .ok f => (.pure f : Sem Flow) | .error e => .raise e).onRaise fun (x : Value) => do
        if (← field x 1) == Value.none then unsupported "frame.own-activation:exception-without-traceback"
        setFlight x env.frame).wrap K H gd lv
theorem seg_For {K : Flow → Sem Fin} {target iter : Expr} {body : List Stmt} {pos : Pos} (hs : ∀ x, foldedSetIterable iter env x = pure x)
    (h : wpAny M (A.over c fs) (eval iter env) (fun xv s₁ => wpAny M (A.over c fs) (pyIter xv) (fun it s₂ => ∀ p, Seg M A R Y n s₀ (.forLoop target it body [] env) (M.den (.forLoop target it body [] env)) (.ret (ownTail env K H gd lv) none (gd false) (lv []) c p [] :: fs) s₂) NoE s₁) NoE s) :
    Seg M A R Y n s₀ c ((exec (.For target iter body [] pos) env).wrap K H gd lv) fs s := by
  rw [exec_For]
  refine seg_bN (wpAny_standAt ?_)
  refine seg_bN (wpAny_mono h (fun xv s₁ h₁ => ?_) fun _ _ x => x)
  refine seg_bN (wpAny_of_eq (hs xv) ?_)
  refine seg_bN (wpAny_standAt ?_)
  refine seg_bN (wpAny_holding (wpAny_mono h₁ (fun it s₂ h₂ => ?_) fun _ _ x => x))
  exact seg_call h₂
noncomputable def valTail (K : Value → Sem Fin) (H : Value → Sem Fin) (gd : Bool → Bool) (lv : List Value → List Value) : Result → Sem Fin := fun r =>
  (((match r with | .ok f => (.pure f : Sem Flow) | .error e => .raise e) >>= fun (f : Flow) => match f with | .ret v => pure v | _ => unsupported "internal:call-without-return-value") : Sem Value).wrap K H gd lv
theorem seg_runValue {K : Value → Sem Fin} {c' : Code} (h : ∀ p, Seg M A R Y n s₀ c' (M.den c') (.ret (valTail K H gd lv) none (gd false) (lv []) c p [] :: fs) s) : Seg M A R Y n s₀ c ((runValue c').wrap K H gd lv) fs s := seg_call h
theorem seg_YieldFrom {K : Flow → Sem Fin} {e : Expr} {ypos pos : Pos} (hi : interactive env = false) (hsw : swapsWith (.YieldFrom e ypos) none pos.line env = pure false)
    (h : wpAny M (A.over c fs) (eval e env) (fun v s₁ => s₁.TypeIs v "list" ∧ wpAny M (A.over c fs) (pyIter v) (fun it s₂ => ∀ p,
      Seg M A R Y n s₀ (.builtin "proto.yield_from" ⟨[it, .bool false, .none], []⟩) (M.den (.builtin "proto.yield_from" ⟨[it, .bool false, .none], []⟩)) (.ret (valTail (fun a => (dropValue (.YieldFrom e ypos) pos a).wrap K H gd lv) H gd lv) none (gd false) (lv []) c p [] :: fs) s₂) NoE s₁) NoE s) :
    Seg M A R Y n s₀ c ((exec (.Expr (.YieldFrom e ypos) pos) env).wrap K H gd lv) fs s := by
  rw [exec_Expr env _ pos hi hsw]
  refine seg_bN (wpAny_standAt ?_)
  rw [bind_wrapS, arm_eval_YieldFrom]
  refine seg_bN (wpAny_mono h (fun v s₁ h₁ => ?_) fun _ _ x => x)
  refine seg_bN (wpAny_standAt ?_)
  unfold yieldFrom
  refine seg_bN (wpAny_typeOf h₁.1 ?_)
  show Seg M A R Y n s₀ c ((holding [v] (pyIter v) >>= fun it => runValue (.builtin "proto.yield_from" ⟨[it, .bool false, .none], []⟩)).wrap _ H gd lv) fs s₁
  exact seg_bN (wpAny_holding (wpAny_mono h₁.2 (fun it s₂ h₂ => seg_runValue h₂) fun _ _ x => x))
end
section
open PySem.Calls PySem.Spec
variable {prog : Program} {w : World} {A : Around} {R : GenEnd} {Y : Protocol} {n : Nat} {s₀ : Shared} {fs : List Frame} {s : Shared} {env : Env}
theorem seg_turn {target : Expr} {it : Value} {body : List Stmt}
    (h : wpAny (model prog w) (A.over (.forLoop target it body [] env) fs) (pyNext it) (fun r s₁ => match r with
      | none => Seg (model prog w) A R Y n s₀ (.block [] env) ((model prog w).den (.block [] env)) fs s₁
      | some v => wpAny (model prog w) (A.over (.forLoop target it body [] env) fs) (letOwnedTupleGo target it v) (fun _ s₂ => wpAny (model prog w) (A.over (.forLoop target it body [] env) fs) (assign target env v) (fun _ s₃ =>
          Seg (model prog w) A R Y n s₀ (.forLoop target it body [] env) ((execs body env).wrap (fun f => match f with
            | .next | .cont => .pure (.again (.forLoop target it body [] env))
            | .brk => .pure (.done .next)
            | .ret v => .pure (.done (.ret v))) (fun e => (do noteFrame e env; theTreesLotGoes e : Sem Unit).wrap (fun _ => .raise e) .raise id id) id id) fs s₃) NoE s₂) NoE s₁) NoE s) :
    Seg (model prog w) A R Y n s₀ (.forLoop target it body [] env) ((model prog w).den (.forLoop target it body [] env)) fs s := by
  show Seg _ A R Y n s₀ _ ((forTurn target it body [] env).onRaise (fun x => do noteFrame x env; theTreesLotGoes x)) fs s
  rw [Sem.onRaise_eq_wrap]
  unfold forTurn
  refine seg_bN (wpAny_standAt ?_)
  rw [bind_wrapS, Sem.onRaise_eq_wrap, Sem.wrap_wrap]
  refine seg_wN (wpAny_mono h (fun r s₁ h₁ => ?_) fun _ _ x => x)
  cases r with
  | none => exact seg_again rfl h₁
  | some v =>
    refine seg_bN (wpAny_mono h₁ (fun _ s₂ h₂ => ?_) fun _ _ x => x)
    refine seg_bN (wpAny_mono h₂ (fun _ s₃ h₃ => ?_) fun _ _ x => x)
    rw [bind_wrapS]
    rw [Sem.wrap_congr (execs body env) _ _ (K' := fun f => match f with
            | .next | .cont => .pure (.again (.forLoop target it body [] env))
            | .brk => .pure (.done .next)
            | .ret v => .pure (.done (.ret v))) (H' := (fun e => (do noteFrame e env; theTreesLotGoes e : Sem Unit).wrap (fun _ => .raise e) .raise id id))
        (fun f => by cases f <;> rfl)
        (fun e => by first | exact Sem.bind_eq_wrap _ _ | (show (do noteFrame e env; theTreesLotGoes e : Sem Unit).bind (fun _ => .raise e) = _; rw [Sem.bind_eq_wrap]))]
    exact h₃
theorem seg_block (K : Result → Sem Fin) {hd : Option Value} {g : Bool} {l : List Value} {c₁ : Code} {p₁ : Pos} {kp : List Value} (h : Seg (model prog w) A R Y n s₀ c₁ (K (.ok .next)) fs s) :
    Seg (model prog w) A R Y n s₀ (.block [] env) ((model prog w).den (.block [] env)) (.ret K hd g l c₁ p₁ kp :: fs) s := seg_leaf (.ok .next) h
theorem entry_yf : entryFor table "proto.yield_from" = some Builtin.«proto.yield_from» := entryFor_of_tree (by kernel_rfl)
theorem den_builtin {id : String} {b : Builtin} (args : Args) (hb : entryFor table id = some b) : (model prog w).den (.builtin id args) = b args := by
  show (match entryFor table id with | some b => b args | none => unsupported ((withoutEnding? id "#data").getD id)) = _
  rw [hb]
end
end
section
set_option maxHeartbeats 2000000
section
open PySem.Calls PySem.Spec
variable {prog : Program} {w : World} {A : Around} {R : GenEnd} {Y : Protocol} {n : Nat} {s₀ : Shared} {fs : List Frame} {s : Shared} {env : Env}
noncomputable abbrev yfC (it : Value) : Code := .builtin "proto.yield_from" ⟨[it, .bool false, .none], []⟩
theorem close_listiter : typeLookup (.type "list_iterator") "close" = pure none := by rw [typeLookup_type, builtinLookup_eq_fast]; kernel_rfl
theorem seg_b0 {M : Model} {c : Code} {α : Type} {m : Sem α} {K : α → Sem PySem.Fin} (h : wpAny M (A.over c fs) m (fun a s' => Seg M A R Y n s₀ c (K a) fs s') NoE s) : Seg M A R Y n s₀ c (m >>= K) fs s :=
  seg_bind (wpAny_mono h (fun _ _ x => x) fun _ _ x => x.elim)
theorem listiter_next {A : Around} {E : Value → Shared → Prop} {I l : Addr} {i : Nat} {items : Array Value} {x : Value} {Q : Option Value → Shared → Prop} (hit : s.heap.IsListIter I l i) (hl : s.heap.IsList l items) (hx : items[i]? = some x)
    (hQ : ∀ h', h'.IsListIter I l (i + 1) → Heap.SameBut I s.heap h' → Q (some x) { s with heap := h' }) :
    wpAny (model prog w) A (callSpecial? (.ref I) (Str.ofString "__next__")) Q E s := by
  obtain ⟨o, ho, hc, hd⟩ := id hit
  obtain ⟨ol, hol, _, nl, hdl⟩ := hl
  refine wpAny_callSpecial?_slot (name := Str.ofString "__next__") hit.typeIs slot_listiter_next
    (wpAny_call_entry slot_listiter_next hit.typeIs entry_listiter_next ?_ (args_listiter_next _))
  show wpAny _ _ (field (.ref I) 0 >>= _) _ _ s
  refine wpAny_bind (wpAny_field ho hd (x := .ref l) rfl ?_)
  show wpAny _ _ (if (Value.ref l == Value.none) = true then _ else _) _ _ s
  rw [if_neg (show ¬ ((Value.ref l == Value.none) = true) from Bool.false_ne_true)]
  show wpAny _ _ (field (.ref I) 1 >>= _) _ _ s
  refine wpAny_bind (wpAny_field ho hd (x := .int i 0) rfl ?_)
  show wpAny _ _ (seqItems? (.ref l) >>= _) _ _ s
  refine wpAny_bind (wpAny_seqItems hol hdl ?_)
  simp only [Int.toNat_natCast, hx]
  refine wpAny_bind (wpAny_setField ho hd (by simp) (wpAny_pure ⟨x, rfl, hQ _ ?_ (Heap.SameBut.update ..)⟩))
  exact ⟨_, Heap.get?_update_self _ ho (Obj.isFreed_of_fields (Obj.data_mapFields hd _)), (Obj.cls_mapFields ..).trans hc, by
    rw [Obj.data_mapFields hd]; simp [rawInt]⟩
theorem slept {A : Around} {E : Value → Shared → Prop} {I l : Addr} {i : Nat} {b : Bool} {Q : Unit → Shared → Prop} (hit : s.heap.IsListIter I l i) (h : Q () s) : wpAny (model prog w) A (Builtin.Generator.sleptOver (.ref I) b) Q E s := by
  obtain ⟨o, ho, hc, hd⟩ := hit
  unfold Builtin.Generator.sleptOver
  refine wpAny_bind (wpAny_load ho ?_)
  rw [hc, if_pos (by decide)]
  exact wpAny_pure h
theorem yf_quiet (as : Args) : (Code.builtin "proto.yield_from" as).quiet = true := Code.quiet_builtin _ (by decide +kernel)
theorem seg_yf_item {I l : Addr} {i : Nat} {items : Array Value} {x : Value} (hit : s.heap.IsListIter I l i) (hl : s.heap.IsList l items) (hx : items[i]? = some x) (hfs : splitAtGen fs = none) (hfg : fs.any Frame.guarded = false)
    (h : ∀ h', h'.IsListIter I l (i + 1) → Heap.SameBut I s.heap h' → ∀ κ : Resume → Shared → Prop, (∀ s'' : Shared, s''.heap.IsListIter I l (i + 1) → Seg (model prog w) A R Y n s'' (yfC (.ref I)) ((model prog w).den (yfC (.ref I))) fs s'' → κ (.send .none) s'') → Y n s₀ x { s with heap := h' } κ) :
    Seg (model prog w) A R Y (n + 1) s₀ (yfC (.ref I)) ((model prog w).den (yfC (.ref I))) fs s := by
  rw [den_builtin _ entry_yf]
  unfold Builtin.«proto.yield_from»
  (try dsimp only)
  refine seg_b0 (wpAny_pure ?_)
  rw [if_neg Bool.false_ne_true, if_pos (by decide)]
  refine seg_b0 (wpAny_attempt (wpAny_holding (wpAny_bind (wpAny_rule (wpAny_bind (listiter_next hit hl hx fun h' hi' hs' => wpAny_pure ?_))))))
  (try dsimp only)
  refine seg_b0 (wpAny_typeOf (T := "list_iterator") hi'.typeIs ?_)
  (try dsimp only)
  refine seg_b0 (wpAny_of_eq (a := none) close_listiter ?_)
  refine seg_b0 (wpAny_pure ?_)
  refine seg_b0 (slept hi' ?_)
  show Seg _ A R Y (n + 1) s₀ _ (.yield x false [] _) fs _
  refine seg_yield hfs rfl hfg (h h' hi' hs' _ fun s'' hi'' hS => ?_)
  show Seg _ A R Y n s'' _ (Builtin.Generator.sleptOver (.ref I) false >>= _) fs s''
  refine seg_b0 (slept hi'' ?_)
  refine seg_b0 (wpAny_pure ?_)
  exact seg_again (yf_quiet _) hS
theorem listiter_stop {A : Around} {I l : Addr} {i : Nat} {items : Array Value} {E : Value → Shared → Prop} {Q : Option Value → Shared → Prop} (hh : A.handled = none) (hit : s.heap.IsListIter I l i) (hl : s.heap.IsList l items) (hx : items[i]? = none)
    (hE : ∀ h' e o, Heap.ExtBut I s.heap h' → h'.get? e = some o → o.cls = .type "StopIteration" → (∃ vs, o.data = .fields vs ∧ vs[5]? = some .none) → E (.ref e) { s with heap := h' }) :
    wpAny (model prog w) A (callSpecial? (.ref I) (Str.ofString "__next__")) Q E s := by
  obtain ⟨o, ho, hc, hd⟩ := id hit
  obtain ⟨ol, hol, _, nl, hdl⟩ := hl
  refine wpAny_callSpecial?_slot (name := Str.ofString "__next__") hit.typeIs slot_listiter_next
    (wpAny_call_entry slot_listiter_next hit.typeIs entry_listiter_next ?_ (args_listiter_next _))
  show wpAny _ _ (field (.ref I) 0 >>= _) _ _ s
  refine wpAny_bind (wpAny_field ho hd (x := .ref l) rfl ?_)
  show wpAny _ _ (if (Value.ref l == Value.none) = true then _ else _) _ _ s
  rw [if_neg (show ¬ ((Value.ref l == Value.none) = true) from Bool.false_ne_true)]
  show wpAny _ _ (field (.ref I) 1 >>= _) _ _ s
  refine wpAny_bind (wpAny_field ho hd (x := .int i 0) rfl ?_)
  show wpAny _ _ (seqItems? (.ref l) >>= _) _ _ s
  refine wpAny_bind (wpAny_seqItems hol hdl ?_)
  simp only [Int.toNat_natCast, hx]
  refine wpAny_bind (wpAny_rule (wpAny_bind (wpAny_setField ho hd (by simp) ?_)))
  show wpAny _ _ (newExc (.type "StopIteration") [] >>= _) _ _ _
  refine wpAny_bind ?_
  simp only [newExc, newTuple]
  refine wpAny_bind (wpAny_newObj_type ?_ (by size_fits))
  refine wpAny_bind (m := firstArgMember _ _) (wpAny_of_eq (a := Value.none) (by first | rfl | (simp only [firstArgMember]; rfl)) ?_)
  refine wpAny_newObj_type ?_ (by size_fits)
  simp only [raiseNew]
  refine wpAny_bind (wpAny_handled ?_)
  rw [show A.in1.handled = none from hh]
  refine wpAny_bind (wpAny_pure (wpAny_throw ?_))
  refine hE _ _ _ (((Heap.SameBut.update ..).extBut.push _).push _) (Heap.get?_push_size _ rfl) rfl ⟨_, rfl, ?_⟩
  rw [Array.getElem?_append_left (by show 5 < 6; decide)]; rfl
theorem stop_ends {A : Around} {E : Value → Shared → Prop} {e : Addr} {o : Obj} {Q : Bool → Shared → Prop} (ho : s.heap.get? e = some o) (hc : o.cls = .type "StopIteration") (h : Q true s) : wpAny (model prog w) A (Builtin.Generator.endsTheTurnAsAValue false (.ref e)) Q E s := by
  unfold Builtin.Generator.endsTheTurnAsAValue Builtin.Generator.isStopAndMetaclass
  refine wpAny_bind (wpAny_bind (wpAny_typeOf (T := "StopIteration") ⟨o, ho, hc⟩ ?_))
  (try dsimp only)
  refine wpAny_bind (wpAny_of_eq (a := true) isSubtype_stop ?_)
  refine wpAny_bind (wpAny_of_eq (a := .type "type") (by first | rfl | kernel_rfl) ?_)
  refine wpAny_pure ?_
  (try dsimp only)
  rw [if_neg Bool.false_ne_true]
  exact wpAny_pure h
theorem seg_yf_end {I l : Addr} {i : Nat} {items : Array Value} (hA : (A.over (yfC (.ref I)) fs).handled = none) (hit : s.heap.IsListIter I l i) (hl : s.heap.IsList l items) (hx : items[i]? = none)
    (h : ∀ h', Heap.ExtBut I s.heap h' → Seg (model prog w) A R Y n s₀ (yfC (.ref I)) (leafOf (.ok (.ret .none))) fs { s with heap := h' }) :
    Seg (model prog w) A R Y n s₀ (yfC (.ref I)) ((model prog w).den (yfC (.ref I))) fs s := by
  rw [den_builtin _ entry_yf]
  unfold Builtin.«proto.yield_from»
  (try dsimp only)
  refine seg_b0 (wpAny_pure ?_)
  rw [if_neg Bool.false_ne_true, if_pos (by decide)]
  refine seg_b0 (wpAny_attempt (wpAny_holding (wpAny_bind (wpAny_rule (wpAny_bind (listiter_stop hA hit hl hx fun h' e o hk ho hc hv => ?_))))))
  (try dsimp only)
  refine seg_b0 (stop_ends ho hc ?_)
  rw [if_pos rfl, if_neg Bool.false_ne_true]
  refine seg_b0 (wpAny_rule ?_)
  obtain ⟨vs, hd, h5⟩ := hv
  refine seg_b0 (wpAny_field ho hd h5 ?_)
  exact h h' hk
end
end
section
set_option maxHeartbeats 2000000
section
open PySem.Calls PySem.Spec
variable {w : World} {A : Around} {n : Nat} {s₀ : Shared} {fs : List Frame} {s : Shared}
noncomputable abbrev gEnv (L2 : Addr) : Env := envOf (Str.ofString "C14NWriterTarget._iter_namespaces") (fScope (sub (stA 7) 1)) L2 75 (.ref 74)
noncomputable abbrev nsN : Str := Str.ofString "namespaces"
noncomputable abbrev gB (p1 p2 p3 p4 p5 : Pos) : List Stmt := [.If (.Name nsN p1) [.Expr (.YieldFrom (.Name nsN p2) p3) p4] [] p5]
variable {p0 p1 p2 p3 p4 p5 : Pos}
structure Stk (h : Heap) (ds l0 : Addr) (its : Array Value) (x0 : Value) : Prop where
  dsL : h.IsList ds its
  l0L : h.IsList l0 #[x0]
  pos : 0 < its.size
  at0 : its[0]? = some (.ref l0)
  more : ∀ i, 0 < i → i < its.size → ∃ a, its[i]? = some (.ref a) ∧ h.IsList a #[]
theorem Stk.keeps {h h' : Heap} {ds l0 : Addr} {its : Array Value} {x0 : Value} (S : Stk h ds l0 its x0) (up : ∀ a its, h.IsList a its → h'.IsList a its) : Stk h' ds l0 its x0 := by
  exact ⟨up _ _ S.dsL, up _ _ S.l0L, S.pos, S.at0, fun i hi hl => let ⟨a, e, x⟩ := S.more i hi hl; ⟨a, e, up _ _ x⟩⟩
noncomputable def KeepB (bs : List Addr) (h h' : Heap) : Prop := ∀ b o, b ∉ bs → h.get? b = some o → h'.get? b = some o
theorem KeepB.trans {bs : List Addr} {a b c : Heap} (x : KeepB bs a b) (y : KeepB bs b c) : KeepB bs a c := fun q o hq e => y q o hq (x q o hq e)
noncomputable def gY (N0 L2 ds l0 : Addr) (its : Array Value) (x0 : Value) : Protocol := fun _ s₀ v s₁ κ => v = x0 ∧
  (∃ h tk, s₁ = { s₀ with heap := h, toks := tk } ∧ h.IsRevIter N0 ds (-1) ∧ h.IsListIter (N0 + 1) l0 1 ∧ (∃ m, h.Ns L2 m) ∧ KeepB [L2] s₀.heap h) ∧
  ∀ s'' : Shared, s''.heap.IsRevIter N0 ds (-1) → s''.heap.IsListIter (N0 + 1) l0 1 → (∃ m, s''.heap.Ns L2 m) → s''.heap.IsList l0 #[x0] → κ (.send .none) s''
noncomputable def gP (N0 L2 : Addr) : Nat → Shared → Shared → Prop := fun n s₀ s₁ => n = 0 ∧ ∃ h tk, s₁ = { s₀ with heap := h, toks := tk } ∧ KeepB [L2, N0, N0 + 1] s₀.heap h
noncomputable abbrev gR (N0 L2 : Addr) : GenEnd := fun n s₀ r s₁ => r = .ok (.ret .none) ∧ gP N0 L2 n s₀ s₁
noncomputable abbrev gLoop (p0 p1 p2 p3 p4 p5 : Pos) (N0 L2 : Addr) : Code := .forLoop (.Name nsN p0) (.ref N0) (gB p1 p2 p3 p4 p5) [] (gEnv L2)
theorem gen_tail {N0 L2 ds l0 : Addr} {its : Array Value} {x0 : Value} {T : Result → Sem PySem.Fin} {c₁ : Code} {p₁ : Pos} (hA : A.handled = none)
    (hit : s.heap.IsRevIter N0 ds (-1)) (hk : KeepB [L2, N0, N0 + 1] s₀.heap s.heap) (hs : ∃ tk, s = { s₀ with heap := s.heap, toks := tk })
    (hT : ∀ n s', Seg (model prg w) A (gR N0 L2) (gY N0 L2 ds l0 its x0) n s₀ c₁ (T (.ok .next)) [] s' ↔ Seg (model prg w) A (gR N0 L2) (gY N0 L2 ds l0 its x0) n s₀ c₁ (leafOf (.ok (.ret .none))) [] s') :
    Seg (model prg w) A (gR N0 L2) (gY N0 L2 ds l0 its x0) 0 s₀ (gLoop p0 p1 p2 p3 p4 p5 N0 L2) ((model prg w).den (gLoop p0 p1 p2 p3 p4 p5 N0 L2)) [.ret T none false [] c₁ p₁ []] s := by
  refine seg_turn (wpAny_pyNext_rev_end (by exact hA) hit fun h' hk' => ?_)
  refine seg_block T ?_
  rw [hT]
  obtain ⟨tk, e⟩ := hs
  refine seg_end _ ⟨rfl, rfl, h', tk, by rw [e], fun b o hb he => hk' b o (fun z => hb (by simp [z])) (hk b o hb he)⟩
theorem gk1 (L2 : Addr) : (gEnv L2).scope.kind = .function := by kernel_rfl!
theorem gk2 (L2 : Addr) : (gEnv L2).kindOf nsN = some .local := by kernel_rfl!
theorem gk3 (L2 : Addr) : ((gEnv L2).scope.kind == .class || ((gEnv L2).scope.kind == .module && (gEnv L2).locals != (gEnv L2).globals)) = false := by rw [gk1]; rfl
theorem gk4 (L2 : Addr) : interactive (gEnv L2) = false := by rfl
theorem gk5 (L2 : Addr) (p : Pos) (e : Expr) (q : Pos) : swapsWith (.YieldFrom e q) none p.line (gEnv L2) = pure false := rfl
theorem gen_name {A : Around} {Q : Value → Shared → Prop} {E : Value → Shared → Prop} {L2 : Addr} {m : Str → Option Value} {v : Value} {p : Pos} (hn : s.heap.Ns L2 m) (hv : m nsN = some v) (h : Q v s) : wpAny (model prg w) A (eval (.Name nsN p) (gEnv L2)) Q E s :=
  wpAny_Name (wpAny_loadName_local (env := gEnv L2) (gk1 L2) (gk2 L2) hn hv h)
theorem stk_up {h h2 : Heap} {L2 N0 ds a : Addr} {m : Str → Option Value} {i : Int} {its : Array Value} (hn : h.Ns L2 m) (hit : h.IsRevIter N0 ds i) (k : ∀ b o, b ≠ L2 → b ≠ N0 → h.get? b = some o → h2.get? b = some o) (hl : h.IsList a its) : h2.IsList a its := by
  obtain ⟨o, e, c, n, hd⟩ := hl
  refine ⟨o, k a o ?_ ?_ e, c, n, hd⟩
  · rintro rfl
    obtain ⟨o', es, ep, e', hd', _⟩ := hn
    rw [e] at e'; cases e'; rw [hd] at hd'; cases hd'
  · rintro rfl
    obtain ⟨o', e', hc', _⟩ := hit
    rw [e] at e'; cases e'; rw [c] at hc'; exact absurd hc' (by decide)
theorem gen_loop {N0 L2 ds l0 : Addr} {its : Array Value} {x0 : Value} {T : Result → Sem PySem.Fin} {c₁ : Code} {q₁ : Pos} (hA : A.handled = none) (hsz : its.size ≤ 1000)
    (hT : ∀ s₀' n s', Seg (model prg w) A (gR N0 L2) (gY N0 L2 ds l0 its x0) n s₀' c₁ (T (.ok .next)) [] s' ↔ Seg (model prg w) A (gR N0 L2) (gY N0 L2 ds l0 its x0) n s₀' c₁ (leafOf (.ok (.ret .none))) [] s')
    (hL : L2 < N0) (hN0 : s₀.heap.objs.size = N0) :
    ∀ (j : Nat) (s : Shared) (h : Heap) (tk : Tok) (m : Str → Option Value), s = { s₀ with heap := h, toks := tk } → j < its.size → h.IsRevIter N0 ds (j : Int) → h.Ns L2 m → KeepB [L2] s₀.heap h → h.objs.size = N0 + 1 → Stk h ds l0 its x0 →
      Seg (model prg w) A (gR N0 L2) (gY N0 L2 ds l0 its x0) 1 s₀ (gLoop p0 p1 p2 p3 p4 p5 N0 L2) ((model prg w).den (gLoop p0 p1 p2 p3 p4 p5 N0 L2)) [.ret T none false [] c₁ q₁ []] s := by
  intro j
  induction j with
  | zero =>
    intro s h tk m hs hj hit hn hk hz S
    subst hs
    refine seg_turn (wpAny_pyNext_rev_item (i := 0) hit S.dsL S.at0 fun h1 hit1 hs1 => ?_)
    refine wpAny_of_eq (a := ()) rfl ?_
    have hn1 : h1.Ns L2 m := hn.sameBut hs1 (Nat.ne_of_lt hL)
    refine wpAny_assign_Name (wpAny_storeName_local (env := gEnv L2) (gk2 L2) hn1 (fun h2 hn2 hs2 => ?_) (gk3 L2))
    have hz2 : h2.objs.size = N0 + 1 := hs2.1.trans (hs1.1.trans hz)
    have k12 : ∀ b o, b ≠ L2 → b ≠ N0 → h.get? b = some o → h2.get? b = some o := fun b o hb hb2 e => (hs2.2 b hb).trans ((hs1.2 b hb2).trans e)
    have S2 := S.keeps (fun a its hl => stk_up hn hit k12 hl)
    have hit2 : h2.IsRevIter N0 ds (-1) := hit1.at fun o e => (hs2.2 N0 (Nat.ne_of_gt hL)).trans e
    refine seg_execs_cons (seg_If ?_)
    refine isTrue_plain (gen_name hn2 (if_pos rfl) ?_)
    refine wpAny_truthy_list S2.l0L (by show (1 : Int) < 2 ^ 63; decide) ?_
    rw [if_pos (by rfl)]
    refine seg_execs_cons (seg_YieldFrom (gk4 L2) (gk5 L2 _ _ _) (gen_name hn2 (if_pos rfl) ⟨S2.l0L.typeIs, wpAny_pyIter_list S2.l0L fun p => ?_⟩))
    (try dsimp only)
    rw [hz2]
    have up3 : ∀ ob b o, h2.get? b = some o → (h2.push ob).get? b = some o := fun ob b o e => Heap.get?_push_of_some _ e
    refine seg_yf_item (I := N0 + 1) (l := l0) (i := 0) (items := #[x0]) ?_ ?_ rfl (by rfl) (by rfl) fun h4 hi4 hs4 κ hκ => ?_
    · exact ⟨_, by rw [← hz2]; exact Heap.get?_push_size _ rfl, rfl, rfl⟩
    · exact S2.l0L.at fun o e => up3 _ _ _ e
    · have k4 : ∀ b o, b ≠ L2 → b ≠ N0 → b ≠ N0 + 1 → h.get? b = some o → h4.get? b = some o := fun b o h1 h2' h3 e => (hs4.2 b h3).trans (up3 _ _ _ (k12 b o h1 h2' e))
      have lt0 : ∀ b o, s₀.heap.get? b = some o → b ≠ L2 → b < N0 := fun b o e _ => hN0 ▸ Heap.lt_size e
      refine ⟨rfl, ⟨h4, _, rfl, ?_, hi4, ?_, ?_⟩, fun s'' r1 r2 r3 r4 => ?_⟩
      · exact hit2.at fun o e => (hs4.2 N0 (Nat.ne_of_lt (Nat.lt_succ_self _))).trans (up3 _ _ _ e)
      · exact ⟨_, Heap.Ns.at' hn2 fun o e => (hs4.2 L2 (Nat.ne_of_lt (Nat.lt_succ_of_lt hL))).trans (up3 _ _ _ e)⟩
      · exact fun b o hb e => k4 b o (fun z => hb (by simp [z])) (Nat.ne_of_lt (lt0 b o e (fun z => hb (by simp [z])))) (Nat.ne_of_lt (Nat.lt_succ_of_lt (lt0 b o e (fun z => hb (by simp [z]))))) (hk b o hb e)
      · refine hκ s'' r2 (seg_yf_end (by exact hA) r2 r4 rfl fun h5 hk5 => ?_)
        refine seg_leaf (.ok (.ret .none)) ?_
        show Seg _ A _ _ 0 s'' _ (.pure (.again (gLoop p0 p1 p2 p3 p4 p5 N0 L2))) _ _
        refine seg_again rfl (gen_tail hA ?_ ?_ ⟨_, rfl⟩ fun n s' => hT s'' n s')
        · exact r1.at fun o e => hk5 N0 o (Nat.ne_of_lt (Nat.lt_succ_self _)) e
        · exact fun b o hb e => hk5 b o (fun z => hb (by simp [z])) e
  | succ j ih =>
    intro s h tk m hs hj hit hn hk hz S
    subst hs
    obtain ⟨a, ha, hae⟩ := S.more (j + 1) (Nat.succ_pos _) hj
    refine seg_turn (wpAny_pyNext_rev_item (i := j + 1) hit S.dsL ha fun h1 hit1 hs1 => ?_)
    refine wpAny_of_eq (a := ()) rfl ?_
    have hn1 : h1.Ns L2 m := hn.sameBut hs1 (Nat.ne_of_lt hL)
    refine wpAny_assign_Name (wpAny_storeName_local (env := gEnv L2) (gk2 L2) hn1 (fun h2 hn2 hs2 => ?_) (gk3 L2))
    have hz2 : h2.objs.size = N0 + 1 := hs2.1.trans (hs1.1.trans hz)
    have k12 : ∀ b o, b ≠ L2 → b ≠ N0 → h.get? b = some o → h2.get? b = some o := fun b o hb hb2 e => (hs2.2 b hb).trans ((hs1.2 b hb2).trans e)
    have S2 := S.keeps (fun a its hl => stk_up hn hit k12 hl)
    have hit2 : h2.IsRevIter N0 ds (j : Int) := by
      have e : ((j + 1 : Nat) : Int) - 1 = (j : Int) := by kln_le
      rw [e] at hit1
      exact hit1.at fun o e => (hs2.2 N0 (Nat.ne_of_gt hL)).trans e
    have hae2 : h2.IsList a #[] := stk_up hn hit k12 hae
    refine seg_execs_cons (seg_If ?_)
    refine isTrue_plain (gen_name hn2 (if_pos rfl) ?_)
    refine wpAny_truthy_list hae2 (by show (0 : Int) < 2 ^ 63; decide) ?_
    rw [if_neg (by decide)]
    show Seg _ A _ _ 1 s₀ _ (.pure (.again (gLoop p0 p1 p2 p3 p4 p5 N0 L2))) _ _
    refine seg_again rfl (ih _ h2 _ _ rfl (Nat.lt_of_succ_lt hj) hit2 hn2 (fun b o hb e => ?_) hz2 S2)
    exact k12 b o (fun z => hb (by simp [z])) (Nat.ne_of_lt (hN0 ▸ Heap.lt_size e)) (hk b o hb e)
end
end
section
set_option maxHeartbeats 2000000
section
open PySem.Calls PySem.Spec
variable {w : World} {A : Around} {s : Shared} {N0 L2 ds l0 : Addr} {its : Array Value} {x0 : Value}
noncomputable abbrev gCode (L2 : Addr) : Code := .func (fBody (sub (stA 7) 1)) (gEnv L2)
theorem gk6 (L2 : Addr) : (gEnv L2).kindOf (Str.ofString "_reversed") = some .local := by kernel_rfl!
theorem gk7 (L2 : Addr) : (gEnv L2).kindOf (Str.ofString "ns_stack") = some .local := by kernel_rfl!
theorem gen_start {m : Str → Option Value} (hA : A.handled = none) (hsz : its.size ≤ 1000) (hL : L2 < N0) (hN0 : s.heap.objs.size = N0) (hn : s.heap.Ns L2 m)
    (h1 : m (Str.ofString "_reversed") = some (.type "reversed")) (h2 : m (Str.ofString "ns_stack") = some (.ref ds)) (S : Stk s.heap ds l0 its x0) :
    Seg (model prg w) A (gR N0 L2) (gY N0 L2 ds l0 its x0) 1 s (gCode L2) ((model prg w).den (gCode L2)) [] s := by
  refine seg_func ?_
  refine seg_execs_cons (seg_For (fun _ => rfl) ?_)
  refine Call_ ?_
  refine wpAny_Name (wpAny_loadName_local (env := gEnv L2) (gk1 L2) (gk6 L2) hn h1 ?_)
  refine Pv.callWith_type1 ?_
  refine spliced_more ?_
  refine wpAny_Name (wpAny_loadName_local (env := gEnv L2) (gk1 L2) (gk7 L2) hn h2 ?_)
  refine args_nil ?_
  refine call_reversed_list S.dsL ?_
  have e0 : (s.heap.push (revObj ds ((its.size : Int) - 1))).get? s.heap.objs.size = some (revObj ds ((its.size : Int) - 1)) := Heap.get?_push_size _ rfl
  refine wpAny_pyIter_revIter (l := ds) (i := (its.size : Int) - 1) ⟨_, e0, rfl, rfl⟩ fun p => ?_
  have hp := S.pos
  rw [hN0] at e0 ⊢
  have ej : ((its.size - 1 : Nat) : Int) = (its.size : Int) - 1 := by kln_le
  refine gen_loop hA hsz (fun _ _ _ => Iff.rfl) hL hN0 (its.size - 1) _ _ _ m rfl (by kln_le) ?_ (hn.push _) (fun b o _ e => Heap.get?_push_of_some _ e) (by rw [Heap.size_push, hN0]) (S.keeps fun a its x => x.push _)
  rw [ej]
  exact ⟨_, e0, rfl, rfl⟩
end
end
section
set_option maxHeartbeats 2000000
section
open PySem.Calls PySem.Spec
variable {w : World} {A : Around} {E : Value → Shared → Prop} {s : Shared} {G L2 ds l0 N0 : Addr} {g : Nat} {its : Array Value} {x0 : Value}
noncomputable abbrev goesG (A : Around) (N0 L2 ds l0 : Addr) (its : Array Value) (x0 : Value) (gs : GenState) (s : Shared) : Prop := gs.Goes (model prg w) A.in1 (gR N0 L2) (gY N0 L2 ds l0 its x0) 0 (.send .none) s
theorem genOnly_set (a : Array GenState) (g : Nat) (x y : GenState) : GenOnly g a ((a.setIfInBounds g x).setIfInBounds g y) := by
  refine ⟨by simp, fun k hk => ?_⟩
  rw [Array.getElem?_setIfInBounds_ne (Ne.symm hk), Array.getElem?_setIfInBounds_ne (Ne.symm hk)]
theorem gen_set_at (a : Array GenState) (g : Nat) (x y z : GenState) (h : a[g]? = some z) : ((a.setIfInBounds g x).setIfInBounds g y)[g]? = some y := by
  obtain ⟨hl, _⟩ := Array.getElem?_eq_some_iff.mp h
  rw [Array.getElem?_setIfInBounds_self_of_lt (by simpa using hl)]
theorem gen_first {m : Str → Option Value} {Q : Option Value → Shared → Prop} (hA : A.handled = none) (hl : s.heap.NoLimit) (hroom : A.depth < recursionLimit) (hsz : its.size ≤ 1000) (hG : s.heap.IsGen G g) (hg : s.gens[g]? = some (.fresh (gCode L2)))
    (hn : s.heap.Ns L2 m) (h1 : m (Str.ofString "_reversed") = some (.type "reversed")) (h2 : m (Str.ofString "ns_stack") = some (.ref ds)) (S : Stk s.heap ds l0 its x0)
    (hQ : ∀ h' tk gs' g', KeepB [L2] s.heap h' → h'.IsRevIter s.heap.objs.size ds (-1) → h'.IsListIter (s.heap.objs.size + 1) l0 1 → (∃ m, h'.Ns L2 m) →
      (∀ s'' : Shared, s''.heap.IsRevIter s.heap.objs.size ds (-1) → s''.heap.IsListIter (s.heap.objs.size + 1) l0 1 → (∃ m, s''.heap.Ns L2 m) → s''.heap.IsList l0 #[x0] → goesG (w := w) A s.heap.objs.size L2 ds l0 its x0 gs' s'') →
      GenOnly g s.gens g' → g'[g]? = some gs' → Q (some x0) ⟨h', g', s.drawn, tk, s.os⟩) :
    wpAny (model prg w) A (pyNext (.ref G)) Q E s := by
  refine wpAny_pyNext_gen (n := 1) (P := gP s.heap.objs.size L2) (Y := gY s.heap.objs.size L2 ds l0 its x0) hA hl hroom hG hg ⟨rfl, gen_start (s := s.setGen g .running) hA hsz hn.lt rfl hn h1 h2 S⟩ (fun v s₁ gs' hy => ?_) fun s₁ hp => absurd hp.1 (by decide)
  obtain ⟨rfl, ⟨h', tk, rfl, r1, r2, r3, r4⟩, hk⟩ := hy
  exact hQ h' tk gs' _ r4 r1 r2 r3 hk (genOnly_set _ _ _ _) (gen_set_at _ _ _ _ _ hg)
theorem gen_second {gs : GenState} {Q : Option Value → Shared → Prop} (hA : A.handled = none) (hl : s.heap.NoLimit) (hroom : A.depth < recursionLimit) (hG : s.heap.IsGen G g) (hg : s.gens[g]? = some gs)
    (r1 : s.heap.IsRevIter N0 ds (-1)) (r2 : s.heap.IsListIter (N0 + 1) l0 1) (r3 : ∃ m, s.heap.Ns L2 m) (r4 : s.heap.IsList l0 #[x0])
    (go : ∀ s'' : Shared, s''.heap.IsRevIter N0 ds (-1) → s''.heap.IsListIter (N0 + 1) l0 1 → (∃ m, s''.heap.Ns L2 m) → s''.heap.IsList l0 #[x0] → goesG (w := w) A N0 L2 ds l0 its x0 gs s'')
    (hQ : ∀ h' tk g', KeepB [L2, N0, N0 + 1] s.heap h' → GenOnly g s.gens g' → g'[g]? = some .finished → Q none ⟨h', g', s.drawn, tk, s.os⟩) :
    wpAny (model prg w) A (pyNext (.ref G)) Q E s := by
  refine wpAny_pyNext_gen (n := 0) (P := gP N0 L2) (Y := gY N0 L2 ds l0 its x0) hA hl hroom hG hg (go (s.setGen g .running) r1 r2 r3 r4) (fun v s₁ gs' hy => ?_) fun s₁ hp h' hk' => ?_
  · obtain ⟨rfl, ⟨h', tk, rfl, q1, q2, q3, q4⟩, hk⟩ := hy
    refine (hk { s with heap := h' } q1 q2 q3 ?_).elim
    obtain ⟨o, e, c, n, hd⟩ := r4
    refine ⟨o, q4 l0 o (fun hm => ?_) e, c, n, hd⟩
    simp only [List.mem_cons, List.not_mem_nil, or_false] at hm
    subst hm
    obtain ⟨m, o', es, ep, e', hd', _⟩ := r3
    rw [e] at e'; cases e'; rw [hd] at hd'; cases hd'
  · obtain ⟨_, h, tk, rfl, hk⟩ := hp
    exact hQ h' tk _ (fun b o hb e => hk' b o (hk b o hb e)) (genOnly_set _ _ _ _) (gen_set_at _ _ _ _ _ hg)
theorem allBare_after {a b : Array GenState} {g : Nat} {c : Code} (h : AllBare a) (hg : g = a.size) (ho : GenOnly g (a.push (.fresh c)) b) (hb : b[g]? = some .finished) : AllBare b := fun y hy => by
  obtain ⟨k, hk, rfl⟩ := Array.mem_iff_getElem.mp hy
  by_cases e : k = g
  · subst e
    rw [Array.getElem?_eq_getElem hk] at hb
    rw [Option.some.inj hb]; rfl
  · have q := ho.2 k e
    have hs := ho.1
    rw [Array.size_push] at hs
    have hka : k < a.size := by kln_le
    rw [Array.getElem?_push_lt hka, Array.getElem?_eq_getElem hk] at q
    rw [Option.some.inj q]
    exact h _ (Array.getElem_mem hka)
end
end
section
set_option maxHeartbeats 2000000
section
open PySem.Calls PySem.Spec
noncomputable abbrev genO (g : Nat) (nm qn : Value) : Obj := { cls := .type "generator", data := .fields #[.int g 0, nm, qn] }
noncomputable abbrev gMap (x ds : Addr) : Str → Option Value := fun y => List.lookup y ([(Str.ofString "self", .ref x), (Str.ofString "ns_stack", .ref ds), (Str.ofString "_reversed", .type "reversed")] : List (Str × Value)).reverse
noncomputable abbrev gFn : FuncData := fnOf (Str.ofString "_iter_namespaces") (Str.ofString "C14NWriterTarget._iter_namespaces") (fPar (sub (stA 7) 1)) (fBody (sub (stA 7) 1)) (fScope (sub (stA 7) 1)) (.ref 68) .none .none (.str (Str.ofString "cpy313.xml.etree.ElementTree") 289) none (.ref 74) .none
theorem iter_binds {w : World} {s : Shared} (x ds : Addr) (X : (K w.params).In s.heap) : BindsTo s gFn ⟨[.ref x, .ref ds], []⟩ [(Str.ofString "self", .ref x), (Str.ofString "ns_stack", .ref ds), (Str.ofString "_reversed", .type "reversed")] :=
  binds_K X rfl (by rfl) rfl rfl rfl
theorem iter_y {news : List (Addr × Obj)}
    {R : Result → Shared → Prop} {x ds : Addr}
    (cx : Cy w A₀ base h₀ outer env L m mean mg mb h news d u)
    (hF : ∀ G L2 oL nm qn h' tk', Fr h₀ L h' m → News h₀ L h' ((G, genO g.size nm qn) :: (L2, oL) :: news) → (∀ p ∈ news, p.1 < L2) → L2 < G → LCg.NsObj oL (gMap x ds) →
      R (.ok (.ret (.ref G))) ⟨h', g.push (.fresh (gCode L2)), dr, tk', os⟩) :
    codeAny (model prg w) (Ar d u gd env outer) (.call (.ref 75) ⟨[.ref x, .ref ds], []⟩) R ⟨h, g, dr, tk, os⟩ := by
  obtain ⟨B, F, X, N, T, hf, hke, hd, hu⟩ := cx
  have Xh : (K w.params).In h := X.keeps F.keep
  refine codeAny_call_generator (fd := gFn) (body := fBody (sub (stA 7) 1)) (by k_room) (Xh 75 _ (by rfl)) rfl (by rfl) (by rfl) rfl (codeRec_of Xh (by kernel_rfl)) ?_
  refine iter_binds x ds Xh _ _ _ _ ?_
  refine wpAny_newFunctionEnv (by decide +kernel) (locs (by rfl)) (fun h₁ hns hsb => ?_) (by kernel_rfl)
  dsimp only at hns hsb ⊢
  have up1 : ∀ b o, h.get? b = some o → h₁.get? b = some o := fun b o e => hsb.extBut b o (Nat.ne_of_lt (Heap.lt_size e)) (Heap.get?_push_of_some _ e)
  refine ⟨(T.nolimit.keeps F.keep).keeps up1, ?_⟩
  obtain ⟨oL, hoL, hnL⟩ := LCg.ns_obj hns
  have up : ∀ ob b o, h.get? b = some o → (h₁.push ob).get? b = some o := fun ob b o e => Heap.get?_push_of_some _ (up1 b o e)
  have hlt : h.objs.size < h₁.objs.size := Heap.lt_size hoL
  have f1 := kdx_fresh F (Nat.le_refl h.objs.size)
  have f2 := kdx_fresh F (Nat.le_of_lt hlt)
  have H := hF h₁.objs.size h.objs.size oL (.str (Str.ofString "_iter_namespaces") (tk + 3)) (.str (Str.ofString "C14NWriterTarget._iter_namespaces") (tk + 3 + 1)) (h₁.push (genO g.size (.str (Str.ofString "_iter_namespaces") (tk + 3)) (.str (Str.ofString "C14NWriterTarget._iter_namespaces") (tk + 3 + 1)))) (tk + 3 + 1 + 1) (F.keeps (up _)) ?_ (fun p hp => Heap.lt_size (N p hp).1) hlt hnL
  · exact H
  intro p hp
  rcases List.mem_cons.mp hp with rfl | hp
  · exact ⟨Heap.get?_push_size _ rfl, f2⟩
  · rcases List.mem_cons.mp hp with rfl | hp
    · exact ⟨Heap.get?_push_of_some _ hoL, f1⟩
    · exact ⟨up _ _ _ (N p hp).1, (N p hp).2⟩
end
end
section
set_option maxHeartbeats 2000000
section
open PySem.Calls PySem.Spec
variable {w : World} {A : Around} {E : Value → Shared → Prop} {s : Shared} {h₀ : Heap} {env : Env} {target : Expr} {body : List Stmt} {Q : Flow → Shared → Prop}
theorem IsGen_of {h : Heap} {G : Addr} {g : Nat} {nm qn : Value} (e : h.get? G = some (genO g nm qn)) : h.IsGen G g := ⟨_, nm, qn, e, rfl, rfl, rfl⟩
theorem go_gen {A : Around} {Q : Unit → Shared → Prop} {G : Addr} {g : Nat} {nm qn v : Value} (e : s.heap.get? G = some (genO g nm qn)) (h : Q () s) : wpAny (model prg w) A (letOwnedTupleGo target (.ref G) v) Q E s := by
  cases target <;> first
    | exact wpAny_pure h
    | (cases v <;> first
        | exact wpAny_pure h
        | (refine wpAny_bind (wpAny_load e ?_)
           exact wpAny_pure h))
inductive GenStep (h₀ : Heap) (L L2 N0 l0 t0 : Addr) (n' : Nat) (need : List (Addr × Obj)) (ga : Array GenState) (Q : Flow → Shared → Prop) (s₁ : Shared) (f : Flow) (s₄ : Shared) : Prop
  | mk (_ : f = .next) (h₄ tk₄ m₄ news₄) (_ : s₄ = { s₁ with heap := h₄, toks := tk₄ }) (_ : Fr h₀ L h₄ m₄) (_ : News h₀ L h₄ (need ++ news₄)) (_ : (l0, listOf #[.ref t0] n') ∈ news₄) (_ : ∀ p ∈ news₄, p.1 ≠ L2) (_ : ∀ p ∈ news₄, p.1 ≠ N0) (_ : ∀ p ∈ news₄, p.1 ≠ N0 + 1)
    (_ : ∀ h₅ tk₅ g₅, (AllBare ga → AllBare g₅) → Fr h₀ L h₅ m₄ → News h₀ L h₅ news₄ → Q .next ⟨h₅, g₅, s₁.drawn, tk₅, s₁.os⟩) : GenStep h₀ L L2 N0 l0 t0 n' need ga Q s₁ f s₄
noncomputable abbrev genNeed (L2 N0 G : Addr) (oL' oI oJ : Obj) (gn : Nat) (nm qn : Value) : List (Addr × Obj) := [(L2, oL'), (N0, oI), (N0 + 1, oJ), (G, genO gn nm qn)]
inductive GenSrc (w : World) (A : Around) (E : Value → Shared → Prop) (h₀ : Heap) (env : Env) (target : Expr) (body : List Stmt) (Q : Flow → Shared → Prop) (xv : Value) (s₁ : Shared) : Prop
  | mk (G) (L2) (oL) (nm) (qn) (x) (ds) (l0) (t0) (its) (n) (n') (ga) (m') (news) (_ : xv = .ref G)
    (_ : A.handled = none)
    (_ : A.depth < recursionLimit)
    (_ : h₀.NoLimit)
    (_ : s₁.gens = ga.push (.fresh (gCode L2)))
    (_ : Fr h₀ env.locals s₁.heap m')
    (_ : News h₀ env.locals s₁.heap ((G, genO ga.size nm qn) :: (L2, oL) :: news))
    (_ : LCg.NsObj oL (gMap x ds))
    (_ : (ds, listOf its n) ∈ news)
    (_ : (l0, listOf #[.ref t0] n') ∈ news)
    (_ : 0 < its.size)
    (_ : its.size ≤ 1000)
    (_ : its[0]? = some (.ref l0))
    (_ : (∀ i, 0 < i → i < its.size → ∃ a k, its[i]? = some (.ref a) ∧ (a, listOf #[] k) ∈ news))
    (_ : L2 ≠ G)
    (_ : (∀ p ∈ news, p.1 ≠ L2))
    (_ : ∀ N0 oL' oI oJ h₁ tk₁ g₁, (∀ p ∈ (G, genO ga.size nm qn) :: news, p.1 < N0) → Fr h₀ env.locals h₁ m' → News h₀ env.locals h₁ (genNeed L2 N0 G oL' oI oJ ga.size nm qn ++ news) →
      wpAny (model prg w) A (assign target env (.ref t0)) (fun _ s₃ => wpAny (model prg w) A (execs body env)
        (GenStep h₀ env.locals L2 N0 l0 t0 n' (genNeed L2 N0 G oL' oI oJ ga.size nm qn) ga Q ⟨h₁, g₁, s₁.drawn, tk₁, s₁.os⟩) E s₃) E ⟨h₁, g₁, s₁.drawn, tk₁, s₁.os⟩) : GenSrc w A E h₀ env target body Q xv s₁
inductive GenI (w : World) (A : Around) (Q : Flow → Shared → Prop) (G L2 ds l0 t0 : Addr) (its : Array Value) (ga : Array GenState) (gens : Array GenState) (drawn : Drawn) (os : OsState) (s₁ : Shared) : Nat → Shared → Prop
  | a {k s'} (_ : k = 1) (_ : s' = s₁) : GenI w A Q G L2 ds l0 t0 its ga gens drawn os s₁ k s'
  | b {k s'} (_ : k = 0) (N0 : Addr) (gs : GenState) (h₄ : Heap) (tk₄ : Tok) (g₁ : Array GenState) (_ : s' = ⟨h₄, g₁, drawn, tk₄, os⟩) (_ : h₄.NoLimit) (_ : h₄.IsGen G ga.size) (_ : g₁[ga.size]? = some gs) (_ : GenOnly ga.size gens g₁)
      (_ : h₄.IsRevIter N0 ds (-1)) (_ : h₄.IsListIter (N0 + 1) l0 1) (_ : ∃ m, h₄.Ns L2 m) (_ : h₄.IsList l0 #[.ref t0])
      (_ : ∀ s'' : Shared, s''.heap.IsRevIter N0 ds (-1) → s''.heap.IsListIter (N0 + 1) l0 1 → (∃ m, s''.heap.Ns L2 m) → s''.heap.IsList l0 #[.ref t0] → goesG (w := w) A N0 L2 ds l0 its (.ref t0) gs s'')
      (_ : ∀ h₅ tk₅ g₅, (AllBare ga → AllBare g₅) → KeepB [L2, N0, N0 + 1] h₄ h₅ → Q .next ⟨h₅, g₅, drawn, tk₅, os⟩) : GenI w A Q G L2 ds l0 t0 its ga gens drawn os s₁ k s'
theorem For_gen {iter : Expr} {pos : Pos} {m : Str → Option Value} (_F : Fr h₀ env.locals s.heap m)
    (h : wpAny (model prg w) A (eval iter env) (GenSrc w A E h₀ env target body Q) E s)
    (hs : ∀ x, foldedSetIterable iter env x = pure x := by intro _; rfl)
    (hE : PassesOwn (model prg w) A env E := by passes_own) :
    wpAny (model prg w) A (exec (.For target iter body [] pos) env) Q E s := by
  refine wpAny_For (wpAny_mono h (fun xv s₁ h₁ => ?_) fun _ _ e => e) hs
  obtain ⟨G, L2, oL, nm, qn, x, ds, l0, t0, its, n, n', ga, m', news, rfl, hA, hroom, hlim, hgens, F, N, hoL, hds, hl0, hpos, hsz, hat0, hmore, hLG, hL2n, step⟩ := h₁
  have eG := (N _ (.head _)).1
  have hG := IsGen_of eG
  have eL := N _ (.tail _ (.head _))
  have Nn : News h₀ env.locals s₁.heap news := fun p hp => N p (.tail _ (.tail _ hp))
  have isl : ∀ {a its n}, (a, listOf its n) ∈ news → s₁.heap.IsList a its := fun hm => ⟨_, (Nn _ hm).1, rfl, _, rfl⟩
  have S : Stk s₁.heap ds l0 its (.ref t0) := ⟨isl hds, isl hl0, hpos, hat0, fun i h1 h2 => let ⟨a, k, e, hm⟩ := hmore i h1 h2; ⟨a, e, isl hm⟩⟩
  have hg0 : s₁.gens[ga.size]? = some (.fresh (gCode L2)) := by rw [hgens]; simp
  refine wpAny_pyIter_gen hG ?_
  refine codeAny_forLoop_any (R := fun r s' => match r with | .ok f => Q f s' | .error e => cameBackBy (model prg w) A env E e s')
    (GenI w A Q G L2 ds l0 t0 its ga s₁.gens s₁.drawn s₁.os s₁) ?_ 1 (.a rfl rfl)
  rintro k s' (⟨rfl, rfl⟩ | ⟨rfl, N0, gs, h₄, tk₄, g₁, rfl, q0, q1, q2, q3, q4, q5, q6, q7, go, fin⟩)
  · refine gen_first hA (hlim.keeps F.keep) hroom hsz hG hg0 (hoL.ns eL.1) rfl rfl S fun h' tk gs' g' kp r1 r2 r3 go ho hgs => ?_
    have keep : ∀ b o, b ≠ L2 → s'.heap.get? b = some o → h'.get? b = some o := fun b o hb e => kp b o (by simpa using hb) e
    refine go_gen (keep _ _ (Ne.symm hLG) eG) ?_
    obtain ⟨mL, hnL⟩ := r3
    obtain ⟨oL', hoL', hnL'⟩ := LCg.ns_obj hnL
    obtain ⟨oI, hoI, hI⟩ := id r1
    obtain ⟨oJ, hoJ, hJ⟩ := id r2
    have F' : Fr h₀ env.locals h' m' := ⟨F.ns.at' fun o e => keep _ o (Ne.symm eL.2.1) e, fun b o e => keep b o (fun z => by rw [z, eL.2.2] at e; cases e) (F.keep b o e), F.above⟩
    have N' : News h₀ env.locals h' (genNeed L2 s'.heap.objs.size G oL' oI oJ ga.size nm qn ++ news) := by
      intro p hp
      rcases List.mem_append.mp hp with hp | hp
      · simp only [List.mem_cons, List.not_mem_nil, or_false] at hp
        rcases hp with rfl | rfl | rfl | rfl
        · exact ⟨hoL', eL.2⟩
        · exact ⟨hoI, kdx_fresh F (Nat.le_refl _)⟩
        · exact ⟨hoJ, kdx_fresh F (Nat.le_succ _)⟩
        · exact ⟨keep _ _ (Ne.symm hLG) eG, (N _ (.head _)).2⟩
      · exact ⟨keep _ _ (hL2n _ hp) (Nn _ hp).1, (Nn _ hp).2⟩
    refine wpAny_mono (step s'.heap.objs.size oL' oI oJ h' tk g' (fun p hp => ?_) F' N') (fun _ s₃ h₃ => wpAny_mono (wpAny_passesOwn hE h₃) (fun f s₄ h₄ => ?_) fun _ _ e => e) hE
    · rcases List.mem_cons.mp hp with rfl | hp
      · exact Heap.lt_size eG
      · exact Heap.lt_size (Nn _ hp).1
    · obtain ⟨rfl, h4, tk4, m4, news4, rfl, F4, N4, d0, d1, d2, d3, cont⟩ := h₄
      have at4 : ∀ p ∈ genNeed L2 s'.heap.objs.size G oL' oI oJ ga.size nm qn, h4.get? p.1 = some p.2 := fun p hp => (N4 p (List.mem_append_left _ hp)).1
      have ne4 : ∀ p ∈ genNeed L2 s'.heap.objs.size G oL' oI oJ ga.size nm qn, p.1 ≠ env.locals ∧ h₀.get? p.1 = none := fun p hp => (N4 p (List.mem_append_left _ hp)).2
      have m1 : (L2, oL') ∈ genNeed L2 s'.heap.objs.size G oL' oI oJ ga.size nm qn := .head _
      have m2 : (s'.heap.objs.size, oI) ∈ genNeed L2 s'.heap.objs.size G oL' oI oJ ga.size nm qn := .tail _ (.head _)
      have m3 : (s'.heap.objs.size + 1, oJ) ∈ genNeed L2 s'.heap.objs.size G oL' oI oJ ga.size nm qn := .tail _ (.tail _ (.head _))
      have m4' : (G, genO ga.size nm qn) ∈ genNeed L2 s'.heap.objs.size G oL' oI oJ ga.size nm qn := .tail _ (.tail _ (.tail _ (.head _)))
      refine ⟨0, by decide, .b rfl s'.heap.objs.size gs' h4 tk4 g' rfl (hlim.keeps F4.keep) (IsGen_of (at4 _ m4')) hgs ho ⟨oI, at4 _ m2, hI⟩ ⟨oJ, at4 _ m3, hJ⟩ ⟨mL, hnL'.ns (at4 _ m1)⟩ ⟨_, (N4 _ (List.mem_append_right _ d0)).1, rfl, _, rfl⟩ go fun h5 tk5 g5 hb5 k5 => ?_⟩
      have n3 : ∀ b, b ≠ L2 → b ≠ s'.heap.objs.size → b ≠ s'.heap.objs.size + 1 → b ∉ [L2, s'.heap.objs.size, s'.heap.objs.size + 1] := fun b a1 a2 a3 hm => by
        simp only [List.mem_cons, List.not_mem_nil, or_false] at hm
        rcases hm with z | z | z
        · exact a1 z
        · exact a2 z
        · exact a3 z
      refine cont h5 tk5 g5 hb5 ⟨F4.ns.at' fun o e => k5 _ o (n3 _ (Ne.symm (ne4 _ m1).1) (Ne.symm (ne4 _ m2).1) (Ne.symm (ne4 _ m3).1)) e, fun b o e => k5 b o (n3 b (fun z => ?_) (fun z => ?_) fun z => ?_) (F4.keep b o e), F4.above⟩ fun p hp => ⟨k5 _ _ (n3 _ (d1 p hp) (d2 p hp) (d3 p hp)) (N4 p (List.mem_append_right _ hp)).1, (N4 p (List.mem_append_right _ hp)).2⟩
      · rw [z, (ne4 _ m1).2] at e; cases e
      · rw [z, (ne4 _ m2).2] at e; cases e
      · rw [z, (ne4 _ m3).2] at e; cases e
  · refine gen_second (s := ⟨h₄, g₁, s₁.drawn, tk₄, s₁.os⟩) hA q0 hroom q1 q2 q4 q5 q6 q7 go fun h' tk g' kp ho hf => wpAny_execs_nil (fin h' tk g' (fun hb => ?_) kp)
    refine allBare_after (c := gCode L2) hb rfl ?_ hf
    rw [← hgens]
    exact ⟨ho.1.trans q3.1, fun k hk => (ho.2 k hk).trans (q3.2 k hk)⟩
end
end
section
namespace NU1
theorem hereU1 : True := trivial
end NU1
open NU1
set_option backward.match.sparseCases false in
noncomputable def kwVal : Expr → Expr
  | .Call _ _ (k :: _) _ => k.value
  | e => e
set_option backward.match.sparseCases false in
noncomputable def dcIter : Stmt → Expr
  | .Assign _ (.DictComp _ _ (g :: _) _ _) _ => g.iter
  | _ => .Tuple [] 0 ⟨0, 0, 0, 0⟩
noncomputable abbrev lamK : Expr := kwVal (dcIter (nth (fBody (sub (stA 7) 8)) 6))
noncomputable abbrev keyQ : Str := Str.ofString "C14NWriterTarget._start.<locals>.<lambda>"
noncomputable abbrev keyO (pm ctv : Value) (c' : Addr) : Obj := kla_obj (Str.ofString "<lambda>") keyQ (lamPar lamK) (lamBody lamK) (lamScope lamK) [] pm c' ctv
theorem key_binds (cl : List (Str × Addr)) (pm cdv ct v : Value) : bindArgs (kla_fn (Str.ofString "<lambda>") keyQ (lamPar lamK) (lamBody lamK) (lamScope lamK) cl pm cdv ct) ⟨[v], []⟩ = pure [(Str.ofString "n", v)] := by kernel_rfl!
section
open PySem.Calls PySem.Spec Builtin Builtin.Str
variable {w : World} {A : Around} {E : Value → Shared → Prop} {s : Shared} {h₀ : Heap} {L : Addr} {m : Str → Option Value} {news : List (Addr × Obj)}
theorem split_same {x y : Str} {t u v : Tok} {Q : Value → Shared → Prop} (Fx : Fr h₀ L s.heap m) (N : News h₀ L s.heap news) (h1 : (decide (x.length < y.length) || decide (strKind x < strKind y)) = false) (hy : (y.length == 0) = false) (hf : (occurrences x y 0 x.length (limitOf x 1)).isEmpty = true)
    (h : ∀ D h', Fr h₀ L h' m → News h₀ L h' ((D, listOf #[.str x t] 0) :: news) → (∀ p ∈ news, p.1 < D) → Q (.ref D) { s with heap := h' }) :
    wpAny (model prg w) A (call (.builtin "str.split") [.str x t, .str y u, .int 1 v]) Q E s :=
  call_meets F.slot_str_split (typeIs_str _ _ _) F.entry_str_split (F.args_str_split_3 _ _ _) (meets_str_split_max_not_found x y 1 t u v (by decide) h1 hy hf) (h _ _ (Fx.push _) (News.push Fx N _ rfl) fun p hp => Heap.lt_size (N p hp).1)
end
theorem rowsU10 : True := by
  k_with "call builtin:str.split" => (fail_if_success fail_if_success have q := hereU1); (k_here; (try dsimp only [List.nil_append, List.cons_append]); k_dflt (refine split_same (by k_asm) (by k_asm) (by decide +kernel) (by decide +kernel) (by decide +kernel) ?_); intro D'ₓ h'ₓ F'ₓ N'ₓ l1ₓ)
  trivial
theorem key_k {news : List (Addr × Obj)}
    {R : Result → Shared → Prop} {f c' : Addr} {oc : Obj} {vs : Array Value} {t tq : Tok} {pm ctv : Value}
    (cx : Cy w A₀ base h₀ outer env L m mean mg mb h news d u) (hd1 : d ≤ 750) (hf1 : (f, keyO pm ctv c') ∈ news) (hc1 : (c', oc) ∈ news) (hc2 : oc.data = .fields vs) (hc3 : vs[1]? = some (.str keyQ t))
    (hF : ∀ D, (∀ p ∈ news, p.1 < D) → BackY g os h₀ L m ((D, listOf #[.str (Str.ofString "k") tq] 0) :: news) (.ref D) R) :
    codeAny (model prg w) (Ar d u gd env outer) (.call (.ref f) ⟨[.str (Str.ofString "k") tq], []⟩) R ⟨h, g, dr, tk, os⟩ := by
  obtain ⟨B, F, X, N, T, hf, hke, hd, hu⟩ := cx
  have hrow : PySem.Challenge.rw_pe0292_01 = _ := rfl
  revert hrow X; k_fill; w_top on; intro X _
  refine' kla_code B F X N T rfl hf hke ?k6 ?k7 ?k8 ?k9 ?kB ?_ ?c2 ?c3 ?c4 ?c5
  case k6 => exact hf1
  case k7 => exact codeRec_news N hc1 hc2 hc3
  case k8 => k_room
  case k9 => exact key_binds _ _ _ _ _
  case kB => exact locs rfl
  case c2 => exact rfl
  case c3 => exact rfl
  case c4 => exact rfl
  case c5 => decide
  intro g' L' h' FG' F' N' B' X' T'
  replace F' : Fr g' L' h' (fun y => List.lookup y ([(Str.ofString "n", .str (Str.ofString "k") tq)] : List (Str × Value)).reverse) := F'
  (try dsimp only); (try ((with_reducible show wpAny _ _ _ _ _ _); k_fold))
  with_reducible refine gen_tok tokV ?_
  intro tk0 htk0
  refine MethodCall_ ?_
  k_steps
  exact hF _ (by assumption) _ _ _ _ (fun hb => hb) (by k_asm) (by k_asm)
theorem key_x {news : List (Addr × Obj)}
    {R : Result → Shared → Prop} {f c' : Addr} {oc : Obj} {vs : Array Value} {t tq : Tok} {pm ctv : Value}
    (cx : Cy w A₀ base h₀ outer env L m mean mg mb h news d u) (hd1 : d ≤ 750) (hf1 : (f, keyO pm ctv c') ∈ news) (hc1 : (c', oc) ∈ news) (hc2 : oc.data = .fields vs) (hc3 : vs[1]? = some (.str keyQ t))
    (hF : ∀ D, (∀ p ∈ news, p.1 < D) → BackY g os h₀ L m ((D, listOf #[.str (Str.ofString "x") tq] 0) :: news) (.ref D) R) :
    codeAny (model prg w) (Ar d u gd env outer) (.call (.ref f) ⟨[.str (Str.ofString "x") tq], []⟩) R ⟨h, g, dr, tk, os⟩ := by
  obtain ⟨B, F, X, N, T, hf, hke, hd, hu⟩ := cx
  have hrow : PySem.Challenge.rw_pe0292_01 = _ := rfl
  revert hrow X; k_fill; w_top on; intro X _
  refine' kla_code B F X N T rfl hf hke ?k6 ?k7 ?k8 ?k9 ?kB ?_ ?c2 ?c3 ?c4 ?c5
  case k6 => exact hf1
  case k7 => exact codeRec_news N hc1 hc2 hc3
  case k8 => k_room
  case k9 => exact key_binds _ _ _ _ _
  case kB => exact locs rfl
  case c2 => exact rfl
  case c3 => exact rfl
  case c4 => exact rfl
  case c5 => decide
  intro g' L' h' FG' F' N' B' X' T'
  replace F' : Fr g' L' h' (fun y => List.lookup y ([(Str.ofString "n", .str (Str.ofString "x") tq)] : List (Str × Value)).reverse) := F'
  (try dsimp only); (try ((with_reducible show wpAny _ _ _ _ _ _); k_fold))
  with_reducible refine gen_tok tokV ?_
  intro tk0 htk0
  refine MethodCall_ ?_
  k_steps
  exact hF _ (by assumption) _ _ _ _ (fun hb => hb) (by k_asm) (by k_asm)
end
section
namespace NU2
theorem hereU2 : True := trivial
end NU2
open NU2
section
open PySem.Calls PySem.Spec
variable {w : World} {A : Around} {E : Value → Shared → Prop} {s : Shared} {h₀ : Heap} {L : Addr} {m : Str → Option Value} {news : List (Addr × Obj)}
theorem lt_kx {l b : Addr} {t u : Tok} {n n2 : Nat} {Q : Bool → Shared → Prop} (hu : A.units < cLine) (N : News h₀ L s.heap news) (h1 : (l, listOf #[.str (Str.ofString "k") t] n) ∈ news) (h2 : (b, listOf #[.str (Str.ofString "x") u] n2) ∈ news)
    (h : Q true s) : wpAny (model prg w) A (keyLt' oneType' (.ref l) (.ref b)) Q E s := keyLt_lists hu N h1 h2 (by decide) (by
  have e : decide ((Str.ofString "k").cps.toList < (Str.ofString "x").cps.toList) = true := by decide +kernel
  rw [e]; exact h)
theorem lt_xk {l b : Addr} {t u : Tok} {n n2 : Nat} {Q : Bool → Shared → Prop} (hu : A.units < cLine) (N : News h₀ L s.heap news) (h1 : (l, listOf #[.str (Str.ofString "x") t] n) ∈ news) (h2 : (b, listOf #[.str (Str.ofString "k") u] n2) ∈ news)
    (h : Q false s) : wpAny (model prg w) A (keyLt' oneType' (.ref l) (.ref b)) Q E s := keyLt_lists hu N h1 h2 (by decide) (by
  have e : decide ((Str.ofString "x").cps.toList < (Str.ofString "k").cps.toList) = false := by decide +kernel
  rw [e]; exact h)
theorem kind_2 {l b : Addr} {x y : Array Value} {n n2 : Nat} {Q : SortKind → Shared → Prop} (N : News h₀ L s.heap news) (h1 : (l, listOf x n) ∈ news) (h2 : (b, listOf y n2) ∈ news)
    (h : Q oneType' s) : wpAny (model prg w) A (keyKind' [Value.ref l, Value.ref b].toArray) Q E s :=
  kas_kind (T := .type "list") (Nat.le_refl 2) (fun v hv => by
    rcases List.mem_cons.mp hv with rfl | hv
    · exact (Looks.ld (N _ h1).1).andThen .now
    · rw [List.mem_singleton.mp hv]
      exact (Looks.ld (N _ h2).1).andThen .now) (by decide) (by decide) h
end
theorem rowsU20 : True := by
  k_with "keyKind'" => (fail_if_success fail_if_success have q := hereU2); (k_here; k_dflt (refine kind_2 (by k_asm) (by k_mem) (by k_mem) ?_))
  k_with "keyLt'" => (fail_if_success fail_if_success have q := hereU2); (k_here; k_dflt (first | (refine lt_kx (by k_units) (by k_asm) (by k_mem) (by k_mem) ?_) | (refine lt_xk (by k_units) (by k_asm) (by k_mem) (by k_mem) ?_)))
  k_with "call ref" => (fail_if_success fail_if_success have q := hereU2); (k_here; (try dsimp only [List.nil_append, List.cons_append]); k_dflt (refine wpAny_call ?_; first | (refine key_k ⟨by k_asm, by k_asm, by k_asm, by k_asm, by k_asm, by first | rfl | assumption, by first | rfl | assumption, by k_units, by k_units⟩ (by k_units) (by k_mem) (by k_mem) (by with_reducible assumption) (by with_reducible assumption) ?_) | (refine key_x ⟨by k_asm, by k_asm, by k_asm, by k_asm, by k_asm, by first | rfl | assumption, by first | rfl | assumption, by k_units, by k_units⟩ (by k_units) (by k_mem) (by k_mem) (by with_reducible assumption) (by with_reducible assumption) ?_)); intro D'ₓ l1ₓ h'ₓ g'ₓ dr'ₓ tk'ₓ hb'ₓ F'ₓ N'ₓ; (try k_lt l1ₓ))
  trivial
theorem sort_kx {news : List (Addr × Obj)}
    {Q : Value → Shared → Prop} {E : Value → Shared → Prop} {f c' a : Addr} {oc o : Obj} {vs : Array Value} {t t1 t2 : Tok} {pm ctv : Value}
    (cx : Cy w A₀ base h₀ outer env L m mean mg mb h news d u) (hd1 : d ≤ 740) (hu1 : u ≤ 380) (hf1 : (f, keyO pm ctv c') ∈ news) (hc1 : (c', oc) ∈ news) (hc2 : oc.data = .fields vs) (hc3 : vs[1]? = some (.str keyQ t))
    (hm : (a, o) ∈ news) (H : SetL w o [.str (Str.ofString "x") t1, .str (Str.ofString "k") t2])
    (hF : ∀ D e1, (∀ p ∈ news, p.1 < D) → ∀ h' g' dr' tk', (AllBare g → AllBare g') → Fr h₀ L h' m → News h₀ L h' ((D, listOf #[.str (Str.ofString "k") t2, .str (Str.ofString "x") t1] e1) :: news) → Q (.ref D) ⟨h', g', dr', tk', os⟩) :
    wpAny (model prg w) (Ar d u gd env outer) (call (.builtin "sorted") [.ref a] [(Str.ofString "key", .ref f)]) Q E ⟨h, g, dr, tk, os⟩ := by
  obtain ⟨B, F, X, N, T, hf, hke, hd, hu⟩ := cx
  have hrow : PySem.Challenge.rw_pe0292_01 = _ := rfl
  revert hrow X; k_fill; w_top on; intro X _
  refine sorted_setK rfl F N hm H (ksk_s1 _ _) (fun x => ksk_l1 _ _) (fun x => ksk_t1 _ _) ?_
  intro ord D kS e1 h' tk' d' hor F' N' l0 l1
  have l2 : AllLt D news := allLt_of l1
  have l3 : AllLt kS news := allLt_of fun q hq => Nat.lt_trans (l1 q hq) l0
  replace l0 : @LT.lt Nat _ D kS := l0
  rcases hor with rfl | rfl
  · k_steps
    exact hF D _ l1 _ _ _ _ (fun hb => by solve_by_elim) (by k_asm) (news_sub (by k_asm) (fun p hp => .tail _ (.tail _ (.tail _ hp))))
  · k_steps
    exact hF D _ l1 _ _ _ _ (fun hb => by solve_by_elim) (by k_asm) (news_sub (by k_asm) (fun p hp => .tail _ (.tail _ (.tail _ hp))))
end
section
section
open PySem.Calls PySem.Spec LCg
variable {w : World} {A : Around} {E : Value → Shared → Prop} {s : Shared} {h₀ : Heap} {L : Addr} {m : Str → Option Value} {news : List (Addr × Obj)} {env : Env}
structure ItAt (o : Obj) (ax : Addr) (i : Nat) : Prop where
  c : o.cls = .type "list_iterator"
  d : o.data = .fields #[.ref ax, .int i 0]
theorem next_K {I ax : Addr} {o : Obj} {i n : Nat} {its : Array Value} {x : Value} {g : Obj → List (Addr × Obj)} {Q : Option Value → Shared → Prop} (F : Fr h₀ L s.heap m) (N : News h₀ L s.heap news) (U : UpdF I o news g) (H : ItAt o ax i) (hl : (ax, listOf its n) ∈ news) (hx : its[i]? = some x)
    (h : ∀ h' o', Fr h₀ L h' m → News h₀ L h' (g o') → ItAt o' ax (i + 1) → Q (some x) { s with heap := h' }) : wpAny (model prg w) A (pyNext (.ref I)) Q E s := by
  obtain ⟨pre, post, rfl, hg, a, b⟩ := U.split
  have nI := N (I, o) (List.mem_append_right _ (.head _))
  refine wpAny_pyNext_list_item ⟨o, nI.1, H.c, H.d⟩ (News.isList N hl) hx fun h' hit hs => ?_
  obtain ⟨o', ho', hc, hd⟩ := hit
  exact h h' o' (F.change hs nI.2.1 nI.2.2) (by rw [hg]; exact N.setIn a b hs ho') ⟨hc, hd⟩
theorem next_end {I ax : Addr} {o : Obj} {i n : Nat} {its : Array Value} {Q : Option Value → Shared → Prop} (hh : A.handled = none) (F : Fr h₀ L s.heap m) (N : News h₀ L s.heap ((I, o) :: news)) (off : ∀ p ∈ news, p.1 ≠ I) (H : ItAt o ax i) (hl : (ax, listOf its n) ∈ news) (hx : its[i]? = none)
    (h : ∀ h', Fr h₀ L h' m → News h₀ L h' news → Q none { s with heap := h' }) : wpAny (model prg w) A (pyNext (.ref I)) Q E s := by
  have nI := N (I, o) (.head _)
  refine wpAny_pyNext_list_end hh ⟨o, nI.1, H.c, H.d⟩ (News.isList N (.tail _ hl)) hx fun h' hs => h h' ?_ fun p hp => ⟨hs _ _ (off p hp) (N p (.tail _ hp)).1, (N p (.tail _ hp)).2⟩
  exact ⟨F.ns.at' fun o e => hs L o (Ne.symm nI.2.1) e, fun b o e => hs b o (fun q => by rw [q, nI.2.2] at e; cases e) (F.keep b o e), F.above⟩
theorem dset_K {D : Addr} {o : Obj} {k : Str} {t : Tok} {v : Value} {kvs : List (Str × Value)} {g : Obj → List (Addr × Obj)} {Q : Unit → Shared → Prop} (F : Fr h₀ L s.heap m) (N : News h₀ L s.heap news) (U : UpdF D o news g) (hd : o.IsDictOf (strKind prg w) kvs) (hz : kvs.length ≤ 60)
    (h : ∀ h' o', Fr h₀ L h' m → News h₀ L h' (g o') → o'.IsDictOf (strKind prg w) (stored kvs k v) → Q () { s with heap := h', toks := s.toks + 1 }) : wpAny (model prg w) A (dictSet D (.str k t) v) Q E s := by
  obtain ⟨pre, post, rfl, hg, a, b⟩ := U.split
  have nD := N (D, o) (List.mem_append_right _ (.head _))
  refine wpAny_dictSet_pairs (hsz := Nat.le_trans hz (by decide)) (strKind_is prg w k t) (Heap.dictOf_iff.mpr ⟨o, nD.1, hd⟩) fun h' hd' hs' => ?_
  obtain ⟨o', e1, e2⟩ := Heap.dictOf_iff.mp hd'
  exact h h' o' (F.change hs' nD.2.1 nD.2.2) (by rw [hg]; exact N.setIn a b hs' e1) e2
noncomputable def DT (w : World) (A : Around) (R : Result → Shared → Prop) (E' : Value → Shared → Prop) (it : Value) (D : Addr) (target kx vx : Expr) (env : Env) : Nat → Shared → Prop
  | 0, _ => False
  | k + 1, s => wpAny (model prg w) A (pyNext it) (fun r s₁ => match r with
     | none => R (.ok .next) s₁
     | some v => wpAny (model prg w) A (assign target env v) (fun _ s₂ => wpAny (model prg w) A (eval kx env) (fun kv s₃ => wpAny (model prg w) A (eval vx env) (fun vv s₄ => wpAny (model prg w) A (dictSet D kv vv) (fun _ s₅ => DT w A R E' it D target kx vx env k s₅) E' s₄) E' s₃) E' s₂) E' s₁) E' s
theorem DT.loop {R : Result → Shared → Prop} {it : Value} {D : Addr} {target kx vx iter : Expr} {scope : Scope} {pos : Pos} {n : Nat} (ht : ∀ v, letOwnedTupleGo target it v = pure ()) (h : DT w A R (notedBy (model prg w) A env fun e s' => R (.error e) s') it D target kx vx env n s) :
    codeAny (model prg w) A (.compLoop (.DictComp kx vx [⟨target, iter, [], 0⟩] scope pos) 0 it (.ref D) env) R s := by
  refine codeAny_compLoop_testsD (DT w A R (notedBy (model prg w) A env fun e s' => R (.error e) s') it D target kx vx env) (fun k s hI => ?_) n h ht
  cases k with
  | zero => exact hI.elim
  | succ k =>
    refine wpAny_mono hI (fun r s₁ h₁ => ?_) fun _ _ e => e
    cases r with
    | none => exact h₁
    | some v =>
      refine wpAny_mono h₁ (fun _ s₂ h₂ => wpAny_tests_nil ?_) fun _ _ e => e
      simp only [if_true]
      exact wpAny_mono h₂ (fun kv s₃ h₃ => wpAny_mono h₃ (fun vv s₄ h₄ => wpAny_mono h₄ (fun _ s₅ h₅ => ⟨k, Nat.lt_succ_self _, h₅⟩) fun _ _ e => e) fun _ _ e => e) fun _ _ e => e
inductive DcT2 (h₀ : Heap) (L : Addr) (m : Str → Option Value) (w : World) (y : Str) (ax I C D : Addr) (a1 a2 : Value) (n : Nat) (oC oD oI : Obj) (k : Str) (vv : Value) (Q : Flow → Shared → Prop) (kv vv' : Value) (s : Shared) : Prop
  | mk (k') (t) (news) (_ : kv = .str k' t)
    (_ : k' ≠ k)
    (_ : Fr h₀ L s.heap m)
    (_ : News h₀ L s.heap ((C, oC) :: (D, oD) :: (I, oI) :: news))
    (_ : Off3 I C D news)
    (_ : (ax, listOf #[a1, a2] n) ∈ news)
    (_ : ∀ oD' h tk, oD'.IsDictOf (strKind prg w) [(k, vv), (k', vv')] → Fr h₀ L h (fun z => if z = y then some (.ref D) else m z) → News h₀ L h ((D, oD') :: news) → Q .next { s with heap := h, toks := tk }) : DcT2 h₀ L m w y ax I C D a1 a2 n oC oD oI k vv Q kv vv' s
inductive DcT1 (h₀ : Heap) (L : Addr) (m : Str → Option Value) (w : World) (A : Around) (x y : Str) (kx vx : Expr) (cenv : Env) (E' : Value → Shared → Prop) (ax I C D : Addr) (a1 a2 : Value) (n : Nat) (oC oD oI : Obj) (Q : Flow → Shared → Prop) (kv vv : Value) (s : Shared) : Prop
  | mk (k) (t) (news) (_ : kv = .str k t)
    (_ : Fr h₀ L s.heap m)
    (_ : News h₀ L s.heap ((C, oC) :: (D, oD) :: (I, oI) :: news))
    (_ : Off3 I C D news)
    (_ : (ax, listOf #[a1, a2] n) ∈ news)
    (_ : ∀ oC oD oI h tk m₂, NsObj oC m₂ → m₂ x = some a2 → oD.IsDictOf (strKind prg w) [(k, vv)] → ItAt oI ax 2 → Fr h₀ L h m → News h₀ L h ((C, oC) :: (D, oD) :: (I, oI) :: news) →
      wpAny (model prg w) A (eval kx cenv) (fun kv s₃ => wpAny (model prg w) A (eval vx cenv) (fun vv' s₄ => DcT2 h₀ L m w y ax I C D a1 a2 n oC oD oI k vv Q kv vv' s₄) E' s₃) E' { s with heap := h, toks := tk }) : DcT1 h₀ L m w A x y kx vx cenv E' ax I C D a1 a2 n oC oD oI Q kv vv s
inductive DcSrc (h₀ : Heap) (L : Addr) (m : Str → Option Value) (w : World) (A : Around) (x y : Str) (kx vx : Expr) (scope : Scope) (cl : List (Str × Addr)) (env : Env) (Q : Flow → Shared → Prop) (xv : Value) (s : Shared) : Prop
  | mk (ax) (a1) (a2) (n) (news) (_ : xv = .ref ax)
    (_ : A.handled = none)
    (_ : h₀.NoLimit)
    (_ : Fr h₀ L s.heap m)
    (_ : News h₀ L s.heap news)
    (_ : (ax, listOf #[a1, a2] n) ∈ news)
    (_ : ∀ I C D oC oD oI h tk m₂ E', AllLt I news → @LT.lt Nat _ I D → @LT.lt Nat _ D C → (D == sysModules) = false → NsObj oC m₂ → m₂ x = some a1 → oD.IsDictOf (strKind prg w) [] → ItAt oI ax 1 → Fr h₀ L h m → News h₀ L h ((C, oC) :: (D, oD) :: (I, oI) :: news) →
      wpAny (model prg w) A (eval kx (compEnvC scope cl C env)) (fun kv s₃ => wpAny (model prg w) A (eval vx (compEnvC scope cl C env)) (fun vv s₄ => DcT1 h₀ L m w A x y kx vx (compEnvC scope cl C env) E' ax I C D a1 a2 n oC oD oI Q kv vv s₄) E' s₃) E' { s with heap := h, toks := tk }) : DcSrc h₀ L m w A x y kx vx scope cl env Q xv s
theorem off_c {I C D : Addr} {l : List (Addr × Obj)} (h : Off3 I C D l) : (∀ p ∈ l, p.1 ≠ I) ∧ (∀ p ∈ l, p.1 ≠ C) ∧ (∀ p ∈ l, p.1 ≠ D) := ⟨fun p hp => (h.mem p hp).1, fun p hp => (h.mem p hp).2.1, fun p hp => (h.mem p hp).2.2⟩
theorem storeC {C : Addr} {oC : Obj} {m₂ : Str → Option Value} {x : Str} {px : Pos} {v : Value} {scope : Scope} {cl : List (Str × Addr)} {Q : Unit → Shared → Prop} (hkind : scope.kind = .function) (hx : scope.names.lookup x = some .local) (F : Fr h₀ L s.heap m) (N : News h₀ L s.heap ((C, oC) :: news)) (off : ∀ p ∈ news, p.1 ≠ C) (hC : NsObj oC m₂)
    (h : ∀ h' oC' tk, Fr h₀ L h' m → News h₀ L h' ((C, oC') :: news) → NsObj oC' (fun y => if y = x then some v else m₂ y) → Q () { s with heap := h', toks := tk }) : wpAny (model prg w) A (assign (.Name x px) (compEnvC scope cl C env) v) Q E s := by
  have nC := N (C, oC) (.head _)
  refine wpAny_assign_Name (wpAny_storeName_local (lookup_relabel_local hx) (hC.ns nC.1) (fun h₃ hn₃ hs₃ => ?_) (by simp [compEnvC, relabel, hkind]))
  obtain ⟨oC', e1, e2⟩ := ns_obj hn₃
  exact h h₃ oC' _ (F.change hs₃ nC.2.1 nC.2.2) (fun p hp => by
    rcases List.mem_cons.mp hp with rfl | hp
    · exact ⟨e1, nC.2⟩
    · exact ⟨hs₃.extBut _ _ (off p hp) (N p (.tail _ hp)).1, (N p (.tail _ hp)).2⟩) e2
end
end
section
section
open PySem.Calls PySem.Spec LCg
variable {w : World} {A : Around} {E : Value → Shared → Prop} {s : Shared} {h₀ : Heap} {L : Addr} {m : Str → Option Value} {news : List (Addr × Obj)} {env : Env}
theorem DT.succ {R : Result → Shared → Prop} {E' : Value → Shared → Prop} {it : Value} {D : Addr} {target kx vx : Expr} {k : Nat} (h : wpAny (model prg w) A (pyNext it) (fun r s₁ => match r with
     | none => R (.ok .next) s₁
     | some v => wpAny (model prg w) A (assign target env v) (fun _ s₂ => wpAny (model prg w) A (eval kx env) (fun kv s₃ => wpAny (model prg w) A (eval vx env) (fun vv s₄ => wpAny (model prg w) A (dictSet D kv vv) (fun _ s₅ => DT w A R E' it D target kx vx env k s₅) E' s₄) E' s₃) E' s₂) E' s₁) E' s) : DT w A R E' it D target kx vx env (k + 1) s := h
theorem dcomp2 {kx vx iter : Expr} {x y : Str} {px py : Pos} {scope : Scope} {cl : List (Str × Addr)} {pos spos : Pos} {Q : Flow → Shared → Prop}
    (hsw : swapsWith (.DictComp kx vx [⟨.Name x px, iter, [], 0⟩] scope pos) (some (.Name y py)) spos.line env = pure true) (hL : env.locals = L)
    (hclos : closureFor scope env = pure cl) (hcell : ∀ z ∈ scope.names, z.2 ≠ .cell) (hkind : scope.kind = .function)
    (hnames : ∀ z ∈ scope.names, z.2 = .local → scope.names.lookup z.1 = some .local) (hx : scope.names.lookup x = some .local)
    (hy : env.kindOf y = some .local) (hp : (env.scope.kind == .class || (env.scope.kind == .module && env.locals != env.globals)) = false)
    (hs : ∀ x, foldedSetIterable iter env x = pure x)
    (h : wpAny (model prg w) A (eval iter env) (DcSrc h₀ L m w A x y kx vx scope cl env Q) E s) :
    wpAny (model prg w) A (exec (.Assign [.Name y py] (.DictComp kx vx [⟨.Name x px, iter, [], 0⟩] scope pos) spos) env) Q E s := by
  subst hL
  rw [exec_Assign_Name_used _ _ _ _ hsw]
  refine wpAny_bind (wpAny_standAt (wpAny_bind ?_))
  show wpAny _ A (do let _ ← comprehension (.DictComp kx vx [⟨.Name x px, iter, [], 0⟩] scope pos) scope env _ newDict false (eval iter env) (some (assign (.Name y py) env))) _ _ s
  refine wpAny_bind (wpAny_mono (wpAny_comprehension_free (use := some (assign (.Name y py) env)) (Q := fun _ s' => Q .next s') rfl hs hclos hkind hnames
    (wpAny_mono h (fun xv s₁ h₁ => ?_) fun _ _ e => e)) (fun _ s' hq => wpAny_pure (wpAny_pure hq)) fun _ _ e => e)
  obtain ⟨ax, a1, a2, n, nz, rfl, hh, hnl, F, N, hax, go⟩ := h₁
  refine wpAny_pyIter_list (News.isList N hax) ?_
  have hLs : env.locals < s₁.heap.objs.size := F.ns.lt
  refine wpAny_newObj_type (wpAny_newFunctionEnv hcell (by intro y hy; simp at hy) (fun h₁ hns₁ hsb₁ => ?_) hkind)
  dsimp only at hns₁ hsb₁ ⊢
  have hlt : AllLt s₁.heap.objs.size nz := allLt_of fun p hp => Heap.lt_size (N p hp).1
  have F1 := F.push ({ cls := .type "list_iterator", data := .fields #[.ref ax, .int 0 0] } : Obj)
  have N1 := News.push F N ({ cls := .type "list_iterator", data := .fields #[.ref ax, .int 0 0] } : Obj) rfl
  have hlo := F1.notModules (modules_low hnl)
  have hID : @LT.lt Nat _ s₁.heap.objs.size (s₁.heap.push ({ cls := .type "list_iterator", data := .fields #[.ref ax, .int 0 0] } : Obj)).objs.size := by rw [Heap.size_push]; exact Nat.lt_succ_self _
  generalize hG1 : s₁.heap.push ({ cls := .type "list_iterator", data := .fields #[.ref ax, .int 0 0] } : Obj) = H1 at *
  have F2 := F1.push ({ cls := .type "dict", dict := none, data := .dict #[] } : Obj)
  have N2 := News.push F1 N1 ({ cls := .type "dict", dict := none, data := .dict #[] } : Obj) rfl
  have hDC : @LT.lt Nat _ H1.objs.size (H1.push ({ cls := .type "dict", dict := none, data := .dict #[] } : Obj)).objs.size := by rw [Heap.size_push]; exact Nat.lt_succ_self _
  obtain ⟨oD0, eD0, hD0⟩ := Heap.dictOf_iff.mp (Heap.DictOf.new (knd := strKind prg w) H1)
  rw [Heap.get?_push_size _ rfl] at eD0
  have eD1 := Option.some.inj eD0
  subst eD1
  generalize hG2 : H1.push ({ cls := .type "dict", dict := none, data := .dict #[] } : Obj) = H2 at *
  have F3 : Fr h₀ env.locals h₁ m := F2.filled hsb₁
  have hCL : H2.objs.size ≠ env.locals := Nat.ne_of_gt F2.ns.lt
  have hC0 : h₀.get? H2.objs.size = none := Heap.get?_none_of_le (Nat.le_trans F.above (Nat.le_of_lt F2.ns.lt))
  have offC : ∀ p ∈ (H1.objs.size, ({ cls := .type "dict", dict := none, data := .dict #[] } : Obj)) :: (s₁.heap.objs.size, ({ cls := .type "list_iterator", data := .fields #[.ref ax, .int 0 0] } : Obj)) :: nz, p.1 ≠ H2.objs.size := fun p hp => Nat.ne_of_lt (Heap.lt_size (N2 p hp).1)
  obtain ⟨oC, eC, hC⟩ := ns_obj hns₁
  have N3 : News h₀ env.locals h₁ ((H2.objs.size, oC) :: (H1.objs.size, ({ cls := .type "dict", dict := none, data := .dict #[] } : Obj)) :: (s₁.heap.objs.size, ({ cls := .type "list_iterator", data := .fields #[.ref ax, .int 0 0] } : Obj)) :: nz) := fun p hp => by
    rcases List.mem_cons.mp hp with rfl | hp
    · exact ⟨eC, hCL, hC0⟩
    · exact ⟨hsb₁.extBut _ _ (offC p hp) (Heap.get?_push_of_some _ (N2 p hp).1), (N2 p hp).2⟩
  have hit0 : ItAt ({ cls := .type "list_iterator", data := .fields #[.ref ax, .int 0 0] } : Obj) ax 0 := ⟨rfl, rfl⟩
  have loop : codeAny (model prg w) A (.compLoop (.DictComp kx vx [⟨.Name x px, iter, [], 0⟩] scope pos) 0 (.ref s₁.heap.objs.size) (.ref H1.objs.size) (compEnvC scope cl H2.objs.size env))
      (compPost (model prg w) A E (some (assign (.Name y py) env)) (fun _ s' => Q .next s') (.ref H1.objs.size) H2.objs.size) { s₁ with heap := h₁, toks := s₁.toks + ([] : List (Str × Value)).length } := by
    generalize ({ cls := .type "list_iterator", data := .fields #[.ref ax, .int 0 0] } : Obj) = oI at *
    generalize ({ cls := .type "dict", dict := none, data := .dict #[] } : Obj) = oD at *
    generalize s₁.heap.objs.size = I at *
    generalize H1.objs.size = D at *
    generalize H2.objs.size = C at *
    refine DT.loop (n := 3) (by intro _; rfl) (DT.succ ?_)
    have nI : ∀ p ∈ nz, p.1 ≠ I := allLt_ne hlt
    have nD : ∀ p ∈ nz, p.1 ≠ D := fun p hp => Nat.ne_of_lt (Nat.lt_trans (allLt_mem hlt p hp) hID)
    have nC : ∀ p ∈ nz, p.1 ≠ C := fun p hp => Nat.ne_of_lt (Nat.lt_trans (Nat.lt_trans (allLt_mem hlt p hp) hID) hDC)
    have dID : I ≠ D := Nat.ne_of_lt hID
    have dDC : D ≠ C := Nat.ne_of_lt hDC
    have dIC : I ≠ C := Nat.ne_of_lt (Nat.lt_trans hID hDC)
    refine next_K F3 N3 (UpdF.tail (Ne.symm dIC) (UpdF.tail (Ne.symm dID) (UpdF.head nI))) hit0 (.tail _ (.tail _ (.tail _ hax))) rfl fun h4 oI4 F4 N4 hit4 => ?_
    have off4 : ∀ p ∈ (D, oD) :: (I, oI4) :: nz, p.1 ≠ C := List.forall_mem_cons.mpr ⟨dDC, List.forall_mem_cons.mpr ⟨dIC, nC⟩⟩
    refine storeC hkind hx F4 N4 off4 hC fun h5 oC5 tk5 F5 N5 hC5 => ?_
    refine wpAny_mono (go I C D oC5 oD oI4 h5 tk5 _ _ hlt hID hDC hlo hC5 (by simp) hD0 hit4 F5 N5) (fun kv s6 h6 => wpAny_mono h6 (fun vv s7 h7 => ?_) fun _ _ e => e) fun _ _ e => e
    obtain ⟨k, t, nz7, rfl, F7, N7, off7, hax7, go7⟩ := h7
    obtain ⟨mI, mC, mD⟩ := off_c off7
    refine dset_K F7 N7 (UpdF.tail (Ne.symm dDC) (UpdF.head (List.forall_mem_cons.mpr ⟨dID, mD⟩))) hD0 (by decide) fun h8 oD8 F8 N8 hD8 => DT.succ ?_
    refine next_K F8 N8 (UpdF.tail (Ne.symm dIC) (UpdF.tail (Ne.symm dID) (UpdF.head mI))) hit4 (.tail _ (.tail _ (.tail _ hax7))) rfl fun h9 oI9 F9 N9 hit9 => ?_
    have off9 : ∀ p ∈ (D, oD8) :: (I, oI9) :: nz7, p.1 ≠ C := List.forall_mem_cons.mpr ⟨dDC, List.forall_mem_cons.mpr ⟨dIC, mC⟩⟩
    refine storeC hkind hx F9 N9 off9 hC5 fun h10 oC10 tk10 F10 N10 hC10 => ?_
    refine wpAny_mono (go7 oC10 oD8 oI9 h10 tk10 _ hC10 (by simp) hD8 hit9 F10 N10) (fun kv s11 h11 => wpAny_mono h11 (fun vv' s12 h12 => ?_) fun _ _ e => e) fun _ _ e => e
    obtain ⟨k', t', nz12, rfl, hkk, F12, N12, off12, hax12, go12⟩ := h12
    obtain ⟨lI, lC, lD⟩ := off_c off12
    refine dset_K F12 N12 (UpdF.tail (Ne.symm dDC) (UpdF.head (List.forall_mem_cons.mpr ⟨dID, lD⟩))) hD8 (Nat.le_of_ble_eq_true rfl) fun h13 oD13 F13 N13 hD13 => DT.succ ?_
    have N14 : News h₀ env.locals h13 ((I, oI9) :: (C, oC10) :: (D, oD13) :: nz12) := fun p hp => by
      rcases List.mem_cons.mp hp with rfl | hp
      · exact N13 _ (.tail _ (.tail _ (.head _)))
      · rcases List.mem_cons.mp hp with rfl | hp
        · exact N13 _ (.head _)
        · rcases List.mem_cons.mp hp with rfl | hp
          · exact N13 _ (.tail _ (.head _))
          · exact N13 _ (.tail _ (.tail _ (.tail _ hp)))
    refine next_end hh F13 N14 (List.forall_mem_cons.mpr ⟨Ne.symm dIC, List.forall_mem_cons.mpr ⟨Ne.symm dID, lI⟩⟩) hit9 (.tail _ (.tail _ hax12)) rfl fun h15 F15 N15 => ?_
    show wpAny (model prg w) A (assign (.Name y py) env (.ref D)) _ E _
    refine wpAny_assign_Name (wpAny_storeName_local hy F15.ns (fun h16 hn16 hs16 => ?_) hp)
    have F16 := F15.set hn16 hs16
    have N16 := N15.set hs16
    refine ⟨_, hC10.ns (N16 _ (.head _)).1, fun h17 hs17 => ?_⟩
    have nC16 := N16 _ (.head _)
    refine go12 oD13 h17 _ ?_ (F16.change hs17 nC16.2.1 nC16.2.2) fun p hp => ?_
    · have e : stored (stored [] k vv) k' vv' = [(k, vv), (k', vv')] := by simp [stored, Ne.symm hkk]
      exact e ▸ hD13
    · refine ⟨hs17.extBut _ _ ?_ (N16 p (.tail _ hp)).1, (N16 p (.tail _ hp)).2⟩
      rcases List.mem_cons.mp hp with rfl | hp
      · exact dDC
      · exact lC p hp
  refine codeAny_compStart_dict loop (wpAny_pyIter_listiter (l := ax) (i := 0) ⟨_, (N3 _ (.tail _ (.tail _ (.head _)))).1, rfl, rfl⟩ loop)
end
end
section
namespace NV1
theorem hereV1 : True := trivial
end NV1
open NV1
theorem rowsV10 : True := by
  k_with "getMethod ref" => (fail_if_success fail_if_success have q := hereV1); (k_here; k_dflt (refine ns_method (by k_in) ?_))
  k_with "call builtin:dict.items" => (fail_if_success fail_if_success have q := hereV1); (k_here; (try dsimp only [List.cons_append, List.nil_append]); k_dflt (refine ns_view (by k_asm) (by k_asm) (by k_in) ?_); intro D'ₓ h'ₓ F'ₓ N'ₓ l1ₓ; (try k_lt l1ₓ); (try k_sweep))
  k_with "call type:list" => (fail_if_success fail_if_success have q := hereV1); (k_here; k_dflt (refine ns_list rfl (by k_asm) (by k_asm) (by k_in) (by k_mem) ?_); intro B'ₓ its'ₓ c'ₓ h'ₓ tk'ₓ l1ₓ F'ₓ N'ₓ; (try k_lt l1ₓ); (try k_sweep))
  trivial
inductive WrAt (w : World) : List (Str × Value) → List DictEntry → Nat → Prop
  | nil : WrAt w [] [] 0
  | snoc {l es n} (k : Str) (v : Value) (t : Tok) : WrAt w l es n → WrAt w ((k, v) :: l) (es ++ [ent w k t v]) (n + 1)
noncomputable def lookW (name : Str) : List (Str × Value) → Option Value
  | [] => none
  | (k, v) :: r => match lookW name r with
    | some x => some x
    | none => if k == name then some v else none
noncomputable def mkE (w : World) (ts : Nat → Tok) : List (Str × Value) → List DictEntry
  | [] => []
  | (k, v) :: r => mkE w ts r ++ [ent w k (ts r.length) v]
theorem WrAt.ref {w : World} {l es n} (H : WrAt w l es n) : es.any (·.refKey) = false := by
  induction H with
  | nil => rfl
  | snoc k v t _ ih => rw [List.any_append, ih]; rfl
theorem isStr_ent {w : World} {k name : Str} {t : Tok} {v : Value} : (ent w k t v).key.isStr name = (k == name) := rfl
theorem WrAt.any {w : World} {name : Str} {l es n} (H : WrAt w l es n) (h : l.any (fun e => e.1 == name) = false) : es.any (·.key.isStr name) = false := by
  induction H with
  | nil => rfl
  | snoc k v t _ ih =>
    rw [List.any_cons, Bool.or_eq_false_iff] at h
    rw [List.any_append, ih h.2, List.any_cons, isStr_ent, h.1]; rfl
theorem putL_new {name : Str} {hsh : Int} {key v : Value} : ∀ {es : List DictEntry}, es.any (·.key.isStr name) = false → putL name hsh key v es = es ++ [⟨hsh, key, v⟩]
  | [], _ => rfl
  | e :: r, h => by
    rw [List.any_cons, Bool.or_eq_false_iff] at h
    rw [putL, h.1, putL_new h.2]; rfl
theorem WrAt.find {w : World} {name : Str} {l es n} (H : WrAt w l es n) : (es.find? (·.key.isStr name)).map (·.val) = lookW name l := by
  induction H with
  | nil => rfl
  | snoc k v t _ ih =>
    rw [List.find?_append, lookW, ← ih]
    rename_i l0 es0 n0 H0
    cases h : List.find? (fun (x : DictEntry) => x.key.isStr name) es0 with
    | some e => rfl
    | none =>
      rw [List.find?_cons, isStr_ent]
      cases k == name <;> rfl
theorem WrAt.getL {w : World} {name : Str} {l es n} (H : WrAt w l es n) : getL name es = some (lookW name l) := by
  rw [← H.find]
  unfold PySem.W.getL
  cases List.find? (fun (x : DictEntry) => x.key.isStr name) es with
  | some e => rfl
  | none => show (if _ then _ else _) = _; rw [H.ref]; rfl
theorem mkE_congr {w : World} {ts ts' : Nat → Tok} : ∀ {l : List (Str × Value)}, (∀ i, i < l.length → ts i = ts' i) → mkE w ts l = mkE w ts' l
  | [], _ => rfl
  | (k, v) :: r, h => by rw [mkE, mkE, mkE_congr (l := r) fun i hi => h i (Nat.lt_succ_of_lt hi), h r.length (Nat.lt_succ_self _)]
theorem mkE_len {w : World} {ts : Nat → Tok} : ∀ {l : List (Str × Value)}, (mkE w ts l).length = l.length
  | [] => rfl
  | (k, v) :: r => by rw [mkE, List.length_append, mkE_len (l := r)]; rfl
theorem WrAt.ex {w : World} {l es n} (H : WrAt w l es n) : ∃ ts : Nat → Tok, es = mkE w ts l ∧ n = l.length := by
  induction H with
  | nil => exact ⟨fun _ => 0, rfl, rfl⟩
  | @snoc l es n k v t _ ih =>
    obtain ⟨ts, rfl, rfl⟩ := ih
    refine ⟨fun i => if i = l.length then t else ts i, ?_, rfl⟩
    rw [mkE, if_pos rfl, mkE_congr (ts := fun i => if i = l.length then t else ts i) (ts' := ts) fun i hi => if_neg (Nat.ne_of_lt hi)]
theorem upd_of {d : Addr} {o o' : Obj} {post : List (Addr × Obj)} (b : ∀ p ∈ post, p.1 ≠ d) : ∀ {pre : List (Addr × Obj)}, (∀ p ∈ pre, p.1 ≠ d) → Upd d o o' (pre ++ (d, o) :: post) (pre ++ (d, o') :: post)
  | [], _ => .head b
  | p :: pre, a => .tail (a p (.head _)) (upd_of b fun q hq => a q (.tail _ hq))
section
variable {w : World} {A : Around} {E : Value → Shared → Prop} {s : Shared} {K : Frag} {x C dx L : Addr} {h₀ : Heap} {m : Str → Option Value} {news : List (Addr × Obj)} {es : List DictEntry} {n : Nat} {name : Str} {v : Value} {l : List (Str × Value)} {g : Obj → List (Addr × Obj)}
theorem setY {Q : Unit → Shared → Prop} (F : Fr h₀ L s.heap m) (X₀ : K.In h₀) (N : News h₀ L s.heap news) (hx : (x, instObj C dx) ∈ news) (U : UpdF dx (dictOf es n) news g) (H : WrAt w l es n)
    (hs : findIn K (.ref C) "__setattr__" = some (some (.builtin "object.__setattr__"))) (hp : plainOver K C = true) (ht : takerIn K C name = some none) (hh : hasDictIn K C = true) (hnew : l.any (fun e => e.1 == name) = false) (hz : Nat.ble l.length 900 = true)
    (h : ∀ h' es' n', Fr h₀ L h' m → News h₀ L h' (g (dictOf es' n')) → WrAt w ((name, v) :: l) es' n' → Q () { s with heap := h', toks := s.toks + 2 }) :
    wpAny (model prg w) A (setAttr (.ref x) name v) Q E s := by
  obtain ⟨pre, post, rfl, hg, a, b⟩ := U.split
  have hm : (dx, dictOf es n) ∈ pre ++ (dx, dictOf es n) :: post := List.mem_append_right _ (.head _)
  have hl : es.length = l.length := by
    obtain ⟨ts, rfl, -⟩ := H.ex
    exact mkE_len
  refine set_dict F X₀ N (InstAt.of_news N hx hm) rfl hs hp ht hh (by rw [H.getL]; rfl) (es' := es ++ [ent w name (s.toks + 1) v]) (n' := n + 1) ?_ (upd_of b a) ?_ fun h' F' N' => h h' (es ++ [ent w name (s.toks + 1) v]) (n + 1) F' (by rw [hg]; exact N') (.snoc name v (s.toks + 1) H)
  · rw [putL_new (H.any hnew), putN, H.any hnew]; rfl
  · rw [List.length_append, hl]; exact Nat.le_trans (Nat.succ_le_succ (Nat.le_of_ble_eq_true hz)) (by decide)
theorem getY {expr : Bool} {Q : Value → Shared → Prop} {attr : Option Value} (F : Fr h₀ L s.heap m) (X₀ : K.In h₀) (N : News h₀ L s.heap news) (hx : (x, instObj C dx) ∈ news) (hd : (dx, dictOf es n) ∈ news) (H : WrAt w l es n)
    (hg : plainGet K C name = true) (hh : hasDictIn K C = true) (ha : findIn K (.ref C) name = some attr) (hn : noGet K attr = true) (_hm : (name, v) ∈ l) (hl : lookW name l = some v) (hv : handedIn v = true) (h : Q v { s with toks := s.toks + 1 }) :
    wpAny (model prg w) A (getAttr (.ref x) name expr) Q E s :=
  get_own F X₀ (InstAt.of_news N hx hd) hg hh ha hn (by rw [H.getL, hl]) hv h
end
theorem wr_gen {w : World} {k0 k1 k2 k3 k4 k5 k6 k7 k8 k9 k10 k11 k12 k13 k14 k15 k16 : Str} {v0 v1 v2 v3 v4 v5 v6 v7 v8 v9 v10 v11 v12 v13 v14 v15 v16 : Value} {es : List DictEntry} {n : Nat} (H : WrAt w [(k16, v16), (k15, v15), (k14, v14), (k13, v13), (k12, v12), (k11, v11), (k10, v10), (k9, v9), (k8, v8), (k7, v7), (k6, v6), (k5, v5), (k4, v4), (k3, v3), (k2, v2), (k1, v1), (k0, v0)] es n) : ∃ ts : Nat → Tok, dictOf es n = dictOf [ent w k0 (ts 0) v0, ent w k1 (ts 1) v1, ent w k2 (ts 2) v2, ent w k3 (ts 3) v3, ent w k4 (ts 4) v4, ent w k5 (ts 5) v5, ent w k6 (ts 6) v6, ent w k7 (ts 7) v7, ent w k8 (ts 8) v8, ent w k9 (ts 9) v9, ent w k10 (ts 10) v10, ent w k11 (ts 11) v11, ent w k12 (ts 12) v12, ent w k13 (ts 13) v13, ent w k14 (ts 14) v14, ent w k15 (ts 15) v15, ent w k16 (ts 16) v16] 17 := by
  obtain ⟨ts, h1, h2⟩ := H.ex
  rw [h1, h2]
  exact ⟨ts, by kernel_rfl!⟩
theorem wr_fin {w : World} {f dd ds dn dm dp : Addr} {t17 : Tok} {es : List DictEntry} {n : Nat} (H : WrAt w [(Str.ofString "_ignored_depth", .int 0 t17), (Str.ofString "_root_done", .bool false), (Str.ofString "_root_seen", .bool false), (Str.ofString "_pending_start", .none), (Str.ofString "_preserve_space", .ref dp), (Str.ofString "_prefix_map", .ref dm), (Str.ofString "_ns_stack", .ref dn), (Str.ofString "_declared_ns_stack", .ref ds), (Str.ofString "_find_qname_aware_attrs", .none), (Str.ofString "_qname_aware_tags", .none), (Str.ofString "_rewrite_prefixes", .bool false), (Str.ofString "_exclude_tags", .none), (Str.ofString "_exclude_attrs", .none), (Str.ofString "_strip_text", .bool false), (Str.ofString "_with_comments", .bool true), (Str.ofString "_data", .ref dd), (Str.ofString "_write", .ref f)] es n) : ∃ ts, dictOf es n = wrD w ts f dd ds dn dm dp false false := by
  obtain ⟨ts, h⟩ := wr_gen H
  exact ⟨fun i => if i = 17 then t17 else ts i, h⟩
theorem rowsV11 : True := by
  k_with "setAttr ref" => (fail_if_success fail_if_success have q := hereV1); (k_here; k_dflt (refine setY (by k_asm) (by k_asm) (by k_asm) (by kat_tups) (by k_updF) (by with_reducible assumption) (by k_is) (by k_is) (by k_is) (by k_is) (by kernel_rfl!) (by rfl) ?_); intro h'ₓ es'ₓ n'ₓ F'ₓ N'ₓ H'ₓ; (try dsimp only at N'ₓ); (try k_sweep))
  k_with "getAttr ref" => (fail_if_success fail_if_success have q := hereV1); (k_here; k_dflt (refine getY (by k_asm) (by k_asm) (by k_asm) (by kat_tups) (by kat_tups) (by with_reducible assumption) (by k_is) (by k_is) (by k_is) (by k_is) (by with_reducible (repeat (first | exact List.mem_cons_self | refine List.mem_cons_of_mem _ ?_))) (by kernel_rfl!) (by k_handed) ?_))
  trivial
theorem init_y {news : List (Addr × Obj)}
    {R : Result → Shared → Prop} {x dx f : Addr}
    (cx : Cy w A₀ base h₀ outer env L m mean mg mb h ((x, instObj 150 dx) :: (dx, dictOf [] 0) :: news) d u) (hne : @LT.lt Nat _ dx x) (hdx : ∀ p ∈ news, p.1 < dx)
    (hF : ∀ ts dd ds l0 t0 tx tx' dn dnI c dm dp, @LT.lt Nat _ x dd → @LT.lt Nat _ dd t0 → @LT.lt Nat _ t0 l0 → @LT.lt Nat _ l0 ds → @LT.lt Nat _ ds dn → @LT.lt Nat _ dn dp → dnI.size = 2 →
      BackY g os h₀ L m ((dx, wrD w ts f dd ds dn dm dp false false) :: (x, instObj 150 dx) :: (dd, listOf #[] 0) :: (ds, listOf #[.ref l0] 0) :: (l0, listOf #[.ref t0] 0) :: (t0, tupO (.str xmlS tx) (.str (Str.ofString "xml") tx')) :: (dn, listOf dnI c) :: (dp, listOf #[.bool false] 0) :: news) .none R) :
    codeAny (model prg w) (Ar d u gd env outer) (.call (.ref 67) ⟨[.ref x, .ref f], [(Str.ofString "with_comments", .bool true)]⟩) R ⟨h, g, dr, tk, os⟩ := by
  obtain ⟨B, F, X, N, T, hf, hke, hd, hu⟩ := cx
  have hw0 : WrAt w [] [] 0 := .nil
  have hrow : PySem.Challenge.rw_pe0292_01 = _ := rfl
  revert hrow X; k_fill; w_top on; intro X _
  refine' code_def B F X N T rfl hf hke ?k6 ?k7 ?k8 ?k9 ?kB ?_ ?c2 ?c3 ?c4 ?c5
  case k6 => k_is
  case k7 => k_is
  case k8 => k_room
  case k9 => (refine' kp_binds ?kx ?ke; (case kx => k_in); (case ke => exact fun _ => rfl))
  case kB => exact locs rfl
  case c2 => exact rfl
  case c3 => exact rfl
  case c4 => exact rfl
  case c5 => decide
  intro g' L' h' FG' F' N' B' X' T'
  replace F' : Fr g' L' h' (fun y => List.lookup y ([(Str.ofString "self", .ref x), (Str.ofString "write", .ref f), (Str.ofString "with_comments", .bool true), (Str.ofString "strip_text", .bool false), (Str.ofString "rewrite_prefixes", .bool false), (Str.ofString "qname_aware_tags", .none), (Str.ofString "qname_aware_attrs", .none), (Str.ofString "exclude_attrs", .none), (Str.ofString "exclude_tags", .none)] : List (Str × Value)).reverse) := F'
  (try dsimp only); (try ((with_reducible show wpAny _ _ _ _ _ _); k_fold))
  with_reducible refine gen_tok tokV ?_
  intro tk0 htk0
  k_steps
  obtain ⟨ts, hw⟩ := wr_fin (w := w) (f := f) (by with_reducible assumption)
  refine hF ts _ _ _ _ _ _ _ _ _ _ _ ?_ ?_ ?_ ?_ ?_ ?_ ?_ _ _ _ _ (fun hb => hb) (by k_asm) (news_sub (by k_asm) (List.forall_mem_cons.mpr ⟨(by rw [← hw]; kat_tups), List.forall_mem_cons.mpr ⟨by kat_tups, List.forall_mem_cons.mpr ⟨by kat_tups, List.forall_mem_cons.mpr ⟨by kat_tups, List.forall_mem_cons.mpr ⟨by kat_tups, List.forall_mem_cons.mpr ⟨by kat_tups, List.forall_mem_cons.mpr ⟨by kat_tups, List.forall_mem_cons.mpr ⟨by kat_tups, fun p hp => by kat_tups⟩⟩⟩⟩⟩⟩⟩⟩))
  all_goals first | kln_le | rfl
end
theorem rowsSixJ120 : True := by
  k_with "k_upd" => first | exact Pick.here | (apply Pick.there; k_upd) | exact TailF.nil | (apply TailF.cons; k_upd) | (refine sub_cons ?_ ?_; k_mem; k_upd) | (exact fun pₓ hpₓ => by k_mem) | (refine hk_g ?_; refine hk_cons (by k_mem) ?_; k_upd) | (exact hk_sub (fun pₓ hpₓ => by k_mem))
  k_with "FnAt" => (k_here; k_dflt (exact hand_fn (by k_asm) (HandZ.mono (by assumption) (fun pₓ hpₓ => by k_mem))))
  k_with "callWith ref" => (k_here; (with_reducible show wpAny _ _ (callWith _ (Value.ref _) _ (backTo _ (starEach (_ :: _) _)) []) _ _ _); k_dflt (refine callWith_F (hand_fn (by k_asm) (HandZ.mono (by assumption) (fun pₓ hpₓ => by k_mem))) ?_; k_whole))
  trivial
section
namespace NV4
theorem hereV4 : True := trivial
end NV4
open NV4
inductive JQ (w : World) (g : Array GenState) (os : OsState) (h₀ : Heap) (L : Addr) (m : Str → Option Value) (led0 Z0 : List (Addr × Obj)) (hds0 : Array Value) (f xt dd l cl : Addr) (nm : Str) (tn : Tok) (n3 : Nat) (gT : List (Addr × Obj) → List (Addr × Obj)) (o : Outc) (dat : Array Value) (fl : Flow) (s : Shared) : Prop
  | mk (n' : Nat) (hds' : Array Value) (n2' : Nat) (Z' : List (Addr × Obj)) (h' : Heap) (g' : Array GenState) (dr' : Drawn) (tk' : Tok) (_ : fl = .next) (_ : s = ⟨h', g', dr', tk', os⟩) (_ : HandZ w Z' f xt l cl) (_ : Ran nm led0 Z0 hds0 o hds' Z') (_ : hds'.size ≤ hds0.size + 1) (_ : o.2 = true) (_ : AllBare g → AllBare g') (_ : Fr h₀ L h' m)
      (_ : News h₀ L h' ((dd, listOf dat n') :: (l, listOf hds' n2') :: (cl, listOf #[.str nm tn] n3) :: gT Z')) : JQ w g os h₀ L m led0 Z0 hds0 f xt dd l cl nm tn n3 gT o dat fl s
section
variable {w : World} {A : Around} {E : Value → Shared → Prop} {g g0 : Array GenState} {os : OsState} {h₀ h : Heap} {L : Addr} {m : Str → Option Value} {led0 Z0 Z T : List (Addr × Obj)} {hds0 hds its dat : Array Value} {f xt dd l cl : Addr} {nm : Str} {tn : Tok} {n n2 n3 : Nat} {gT : List (Addr × Obj) → List (Addr × Obj)} {o o0 : Outc} {dr : Drawn} {tk : Tok}
theorem fl_isJ {c : Sem Flow} {s : Shared} (h : wpAny (model prg w) A c (JQ w g os h₀ L m led0 Z0 hds0 f xt dd l cl nm tn n3 gT o dat) E s) : wpAny (model prg w) A c (JQ w g os h₀ L m led0 Z0 hds0 f xt dd l cl nm tn n3 gT o dat) E s := h
theorem fl_join {c : Sem Flow} {Q : Flow → Shared → Prop} (_r : Ran nm led0 Z0 hds0 o0 hds0 Z0) (_H : HandZ w Z0 f xt l cl) (_F : Fr h₀ L h m) (_N : News h₀ L h ((dd, listOf its n) :: (l, listOf hds0 n2) :: (cl, listOf #[.str nm tn] n3) :: T))
    (hq : ∀ n' hds' n2' Z' h' g' dr' tk', Up led0 Z0 Z' → HandZ w Z' f xt l cl → Ran nm led0 Z0 hds0 o hds' Z' → hds'.size ≤ hds0.size + 1 → o.2 = true → (AllBare g → AllBare g') → Fr h₀ L h' m → News h₀ L h' ((dd, listOf dat n') :: (l, listOf hds' n2') :: (cl, listOf #[.str nm tn] n3) :: gT Z') → Q .next ⟨h', g', dr', tk', os⟩)
    (hc : wpAny (model prg w) A c (JQ w g os h₀ L m led0 Z0 hds0 f xt dd l cl nm tn n3 gT o dat) E ⟨h, g, dr, tk, os⟩) : wpAny (model prg w) A c Q E ⟨h, g, dr, tk, os⟩ :=
  wpAny_mono hc (fun _ _ j => by
    obtain ⟨n', hds', n2', Z', h', g', dr', tk', rfl, rfl, H, P, z, k, b, F, N⟩ := j
    exact hq n' hds' n2' Z' h' g' dr' tk' P.up H P z k b F N) fun _ _ e => e
theorem fl_in {o1 : Outc} (H : HandZ w Z f xt l cl) (F : Fr h₀ L h m) (N : News h₀ L h ((dd, listOf its n) :: (l, listOf hds n2) :: (cl, listOf #[.str nm tn] n3) :: gT Z)) (b : AllBare g → AllBare g0) (P : Ran nm led0 Z0 hds0 o1 hds Z) (k : o1.2 = true) (z : hds.size ≤ hds0.size + 1) (e : o = o1) (e2 : its = dat) :
    JQ w g os h₀ L m led0 Z0 hds0 f xt dd l cl nm tn n3 gT o dat .next ⟨h, g0, dr, tk, os⟩ :=
  ⟨n, hds, n2, Z, h, g0, dr, tk, rfl, rfl, H, e ▸ P, z, e ▸ k, b, F, e2 ▸ N⟩
end
theorem cm_seen {done em : Bool} {t p : Str} : seqP (seqP okP (aheadP true done em t)) (writeP p) = commentP true done em t p := (seqP_okP _).symm
theorem cm_bad {seen done em : Bool} {t p : Str} (h : (seqP (seqP okP (aheadP seen done em t)) (writeP p)).2 = false) : seqP (seqP okP (aheadP seen done em t)) (writeP p) = commentP seen done em t p := (seqP_bad h).symm
theorem cm_nl {done em : Bool} {t p : Str} : seqP (seqP (seqP okP (aheadP false done em t)) (writeP p)) (writeP nlS) = commentP false done em t p := rfl
theorem cm_ah {seen done em : Bool} {t p : Str} {a : Outc} (h : (seqP okP a).2 = false) (e : aheadP seen done em t = a) : seqP okP a = commentP seen done em t p := by
  unfold commentP; rw [e, seqP_bad (a := seqP okP a) h, seqP_bad h]
theorem comment_binds (a0 a1 : Value) : bindArgs (fnOf (Str.ofString "comment") (Str.ofString "C14NWriterTarget.comment") (fPar (sub (stA 7) 10)) (fBody (sub (stA 7) 10)) (fScope (sub (stA 7) 10)) .none .none .none (.str (Str.ofString "cpy313.xml.etree.ElementTree") 289) none (.ref 139) .none) ⟨[a0, a1], []⟩ = pure [(Str.ofString "self", a0), (Str.ofString "text", a1)] := by kernel_rfl!
theorem rowsV40 : True := by
  k_with "call ref" => (fail_if_success fail_if_success have q := hereV4); (k_here; (try dsimp only [List.nil_append, List.cons_append]); k_dflt (refine wpAny_call ?_; first | (refine escc_y ⟨by k_asm, by k_asm, by k_asm, by k_asm, by k_asm, rfl, rfl, by k_units, by k_units⟩ (by kln_le) ?_) | ((with_reducible show codeAny _ _ (Code.call _ ⟨[Value.str (Str.ofString "\n") _], _⟩) _ _); refine write_nl ⟨by k_asm, by k_asm, by k_asm, by k_asm, by k_asm, rfl, rfl, by k_units, by k_units⟩ (by k_units) (by k_units) (by k_asm) (by k_upd) (by k_upd) (by k_upd) (by k_ne) (by k_all) (by kln_le) (by k_asm) (by k_asm) (by k_asm) (by first | with_reducible assumption | assumption | rfl) (by k_upd) (fun P'ₓ ok'ₓ => ?_)) | (refine write_z ⟨by k_asm, by k_asm, by k_asm, by k_asm, by k_asm, rfl, rfl, by k_units, by k_units⟩ (by k_units) (by k_units) (by k_asm) (by k_upd) (by k_upd) (by k_upd) (by k_ne) (by k_all) (by kln_le) (by k_asm) (by k_asm) (by first | with_reducible assumption | assumption | decide) (by k_asm) (by first | with_reducible assumption | assumption | rfl) (by k_upd) (fun hds'ₓ n'ₓ Z'ₓ U'ₓ H'ₓ P'ₓ s'ₓ => ⟨fun ok'ₓ => ?_, fun ok'ₓ => ?_⟩)) | (refine flush_z ⟨by k_asm, by k_asm, by k_asm, by k_asm, by k_asm, rfl, rfl, by k_units, by k_units⟩ (by k_units) (by k_units) (by k_asm) (by k_upd) (by k_upd) (by k_upd) (by k_upd) (by k_mem) (by k_mem) (by k_ne) (by k_ne) (by k_ne) (by k_all) (by k_all) (by kln_le) (by kln_le) (by k_asm) (by k_asm) (by k_asm) (by k_asm) (by k_asm) (by k_asm) (by k_asm) (by first | with_reducible assumption | assumption | rfl) (by k_upd) (fun n'ₓ hds'ₓ n2'ₓ Z'ₓ U'ₓ H'ₓ P'ₓ s'ₓ => ⟨fun ok'ₓ => ?_, fun ok'ₓ => ?_⟩))))
  k_with "exec If" => (fail_if_success fail_if_success have q := hereV4); (k_here; (fail_if_success (with_reducible refine fl_isJ ?_)); (with_reducible show wpAny _ _ (exec (Stmt.If (Expr.Attribute _ (Str.ofString "_root_done") _) _ _ _) _) _ _ _); k_dflt (refine fl_join (gT := fun Zₓ => Zₓ) (o := seqP okP (aheadP seen done its.isEmpty (Txt.join (Str.ofString "") txts))) (dat := dataP seen done its) r0 hz (by k_asm) (by k_asm) (fun n'ₓ hds'ₓ n2'ₓ Z'ₓ h'ₓ g'ₓ dr'ₓ tk'ₓ U'ₓ H'ₓ P'ₓ s'ₓ ok'ₓ hb'ₓ F'ₓ N'ₓ => ?_) ?_))
  k_with "JQ" => (fail_if_success fail_if_success have q := hereV4); (k_here; k_dflt (refine fl_in (by k_asm) (by k_asm) (news_sub (by k_asm) (by k_upd)) (fun hbₓ => by solve_by_elim) (by k_asm) (by first | with_reducible assumption | assumption | rfl) (by first | with_reducible assumption | exact Nat.le_succ _) ?_ ?_); (focus (first | (simp only [aheadP, *, if_true, if_false, Bool.false_eq_true, okP, Bool.true_and, Bool.false_and, Bool.not_true, Bool.not_false]; done) | (simp only [aheadP, *, if_true, if_false, Bool.false_eq_true, okP, Bool.true_and, Bool.false_and, Bool.not_true, Bool.not_false]; rfl))); (simp only [dataP, *, if_true, if_false, Bool.false_eq_true, Bool.true_and, Bool.false_and, Bool.not_true, Bool.not_false]))
  trivial
theorem comment_y {news : List (Addr × Obj)}
    {R : Result → Shared → Prop} {x dx f dd ds dn dm dp xt l cl : Addr} {ts : Nat → Tok} {seen done : Bool} {its hds : Array Value} {n n2 n3 : Nat} {nm : Str} {tn : Tok} {txts : List Str} {text : Str} {tt : Tok}
    (cx : Cy w A₀ base h₀ outer env L m mean mg mb h ((dd, listOf its n) :: (l, listOf hds n2) :: (cl, listOf #[.str nm tn] n3) :: news) d u)
    (hd1 : d ≤ 720) (hu1 : u ≤ 360) (hx : (x, instObj 150 dx) ∈ news) (hdx : (dx, wrD w ts f dd ds dn dm dp seen done) ∈ news) (hz : HandZ w news f xt l cl) (h1 : dd ≠ l) (h2 : dd ≠ cl) (h3 : cl ≠ l) (hdd : ∀ p ∈ news, p.1 ≠ dd) (hl : ∀ p ∈ news, p.1 ≠ l) (hlen : its.size ≤ 1000) (hlen2 : hds.size ≤ 990) (hnm : nBad nm = false) (hnl : nm.length ≤ 2 ^ 63 - 1) (hst : StrsAre its.toList txts) (hsum : (txts.map (·.length)).sum ≤ 16777216) (hj : (Txt.join (Str.ofString "") txts).length ≤ 1000) (hje : (escC (Txt.join (Str.ofString "") txts)).length ≤ 1000) (htl : text.length ≤ 1000) (hte0 : (escC text).length ≤ 900) (hte : (cmS text).length ≤ 1000)
    (hF : ∀ (o : Outc), o = commentP seen done its.isEmpty (Txt.join (Str.ofString "") txts) (cmS text) → ∀ its' n' hds' n2' Z', its' = dataP seen done its → HandZ w Z' f xt l cl → Ran nm ((dd, listOf its n) :: (l, listOf hds n2) :: (cl, listOf #[.str nm tn] n3) :: news) news hds o hds' Z' → DoneY o.2 g os base h₀ outer env L m ((dd, listOf its' n') :: (l, listOf hds' n2') :: (cl, listOf #[.str nm tn] n3) :: Z') .none R) :
    codeAny (model prg w) (Ar d u gd env outer) (.call (.ref 140) ⟨[.ref x, .str text tt], []⟩) R ⟨h, g, dr, tk, os⟩ := by
  have r0 := Ran.start nm ((dd, listOf its n) :: (l, listOf hds n2) :: (cl, listOf #[.str nm tn] n3) :: news) news hds
  obtain ⟨B, F, X, N, T, hf, hke, hd, hu⟩ := cx
  have hrow : PySem.Challenge.rw_pe0292_01 = _ := rfl
  revert hrow X; k_fill; w_top on; intro X _
  refine' code_def B F X N T rfl hf hke ?k6 ?k7 ?k8 (BindsTo.of_eq (comment_binds _ _)) ?kB ?_ ?c2 ?c3 ?c4 ?c5
  case k6 => k_is
  case k7 => k_is
  case k8 => k_room
  case kB => exact locs rfl
  case c5 => decide
  case c2 => exact rfl
  case c3 => exact rfl
  case c4 => exact rfl
  intro g' L' h' FG' F' N' B' X' T'
  replace F' : Fr g' L' h' (fun y => List.lookup y ([(Str.ofString "self", .ref x), (Str.ofString "text", .str text tt)] : List (Str × Value)).reverse) := F'
  (try dsimp only); (try ((with_reducible show wpAny _ _ _ _ _ _); k_fold))
  with_reducible refine gen_tok tokV ?_
  intro tk0 htk0
  k_steps
  all_goals subst_vars
  all_goals first
    | (refine (hF _ ?_ _ _ _ _ _ ?_ (by k_asm) (by k_asm)).1 (by k_asm) _ _ _ _ (fun hb => by solve_by_elim) (by k_asm) (news_sub (by k_asm) (by k_upd))
       · clear hF; exact cm_seen
       · exact rfl)
    | (refine (hF _ ?_ _ _ _ _ _ ?_ (by k_asm) (by k_asm)).2 (by k_asm) _ _ _ _ _ _ _ _ (fun hb => by solve_by_elim) (raised_sub (by k_asm) (by k_upd)) (by k_asm) (by k_asm)
       · clear hF; first | exact cm_bad (by k_asm) | exact cm_nl | (refine cm_ah (by k_asm) ?_; simp only [aheadP, *, if_true, if_false, Bool.false_eq_true, Bool.true_and, Bool.false_and, Bool.not_true, Bool.not_false])
       · clear hF; first | exact rfl | simp only [dataP, *, if_true, if_false, Bool.false_eq_true, Bool.true_and, Bool.false_and, Bool.not_true, Bool.not_false])
end
section
namespace NV5
theorem hereV5 : True := trivial
end NV5
open NV5
theorem pi_binds (a0 a1 a2 : Value) : bindArgs (fnOf (Str.ofString "pi") (Str.ofString "C14NWriterTarget.pi") (fPar (sub (stA 7) 11)) (fBody (sub (stA 7) 11)) (fScope (sub (stA 7) 11)) .none .none .none (.str (Str.ofString "cpy313.xml.etree.ElementTree") 289) none (.ref 146) .none) ⟨[a0, a1, a2], []⟩ = pure [(Str.ofString "self", a0), (Str.ofString "target", a1), (Str.ofString "data", a2)] := by kernel_rfl!
noncomputable abbrev piS (text : Str) : Str := Str.empty ++ Str.ofString "<?" ++ Str.ofString "i" ++ Str.ofString " " ++ escC text ++ Str.ofString "?>"
noncomputable abbrev piS0 : Str := Str.empty ++ Str.ofString "<?" ++ Str.ofString "i" ++ Str.ofString "?>"
theorem rowsV50 : True := by
  k_with "call ref" => (fail_if_success fail_if_success have q := hereV5); (k_here; (try dsimp only [List.nil_append, List.cons_append]); k_dflt (refine wpAny_call ?_; first | (refine escc_y ⟨by k_asm, by k_asm, by k_asm, by k_asm, by k_asm, rfl, rfl, by k_units, by k_units⟩ (by kln_le) ?_) | ((with_reducible show codeAny _ _ (Code.call _ ⟨[Value.str (Str.ofString "\n") _], _⟩) _ _); refine write_nl ⟨by k_asm, by k_asm, by k_asm, by k_asm, by k_asm, rfl, rfl, by k_units, by k_units⟩ (by k_units) (by k_units) (by k_asm) (by k_upd) (by k_upd) (by k_upd) (by k_ne) (by k_all) (by kln_le) (by k_asm) (by k_asm) (by k_asm) (by first | with_reducible assumption | assumption | rfl) (by k_upd) (fun P'ₓ ok'ₓ => ?_)) | (refine write_z ⟨by k_asm, by k_asm, by k_asm, by k_asm, by k_asm, rfl, rfl, by k_units, by k_units⟩ (by k_units) (by k_units) (by k_asm) (by k_upd) (by k_upd) (by k_upd) (by k_ne) (by k_all) (by kln_le) (by k_asm) (by k_asm) (by first | with_reducible assumption | assumption | decide) (by k_asm) (by first | with_reducible assumption | assumption | rfl) (by k_upd) (fun hds'ₓ n'ₓ Z'ₓ U'ₓ H'ₓ P'ₓ s'ₓ => ⟨fun ok'ₓ => ?_, fun ok'ₓ => ?_⟩)) | (refine flush_z ⟨by k_asm, by k_asm, by k_asm, by k_asm, by k_asm, rfl, rfl, by k_units, by k_units⟩ (by k_units) (by k_units) (by k_asm) (by k_upd) (by k_upd) (by k_upd) (by k_upd) (by k_mem) (by k_mem) (by k_ne) (by k_ne) (by k_ne) (by k_all) (by k_all) (by kln_le) (by kln_le) (by k_asm) (by k_asm) (by k_asm) (by k_asm) (by k_asm) (by k_asm) (by k_asm) (by first | with_reducible assumption | assumption | rfl) (by k_upd) (fun n'ₓ hds'ₓ n2'ₓ Z'ₓ U'ₓ H'ₓ P'ₓ s'ₓ => ⟨fun ok'ₓ => ?_, fun ok'ₓ => ?_⟩))))
  k_with "exec If" => (fail_if_success fail_if_success have q := hereV5); (k_here; (fail_if_success (with_reducible refine fl_isJ ?_)); (with_reducible show wpAny _ _ (exec (Stmt.If (Expr.Attribute _ (Str.ofString "_root_done") _) _ _ _) _) _ _ _); k_dflt (refine fl_join (gT := fun Zₓ => Zₓ) (o := seqP okP (aheadP seen done its.isEmpty (Txt.join (Str.ofString "") txts))) (dat := dataP seen done its) r0 hz (by k_asm) (by k_asm) (fun n'ₓ hds'ₓ n2'ₓ Z'ₓ h'ₓ g'ₓ dr'ₓ tk'ₓ U'ₓ H'ₓ P'ₓ s'ₓ ok'ₓ hb'ₓ F'ₓ N'ₓ => ?_) ?_))
  k_with "JQ" => (fail_if_success fail_if_success have q := hereV5); (k_here; k_dflt (refine fl_in (by k_asm) (by k_asm) (news_sub (by k_asm) (by k_upd)) (fun hbₓ => by solve_by_elim) (by k_asm) (by first | with_reducible assumption | assumption | rfl) (by first | with_reducible assumption | exact Nat.le_succ _) ?_ ?_); (focus (first | (simp only [aheadP, *, if_true, if_false, Bool.false_eq_true, okP, Bool.true_and, Bool.false_and, Bool.not_true, Bool.not_false]; done) | (simp only [aheadP, *, if_true, if_false, Bool.false_eq_true, okP, Bool.true_and, Bool.false_and, Bool.not_true, Bool.not_false]; rfl))); (simp only [dataP, *, if_true, if_false, Bool.false_eq_true, Bool.true_and, Bool.false_and, Bool.not_true, Bool.not_false]))
  trivial
theorem pi_y {news : List (Addr × Obj)}
    {R : Result → Shared → Prop} {x dx f dd ds dn dm dp xt l cl : Addr} {ts : Nat → Tok} {seen done : Bool} {its hds : Array Value} {n n2 n3 : Nat} {nm : Str} {tn : Tok} {txts : List Str} {text : Str} {tt t2 : Tok}
    (cx : Cy w A₀ base h₀ outer env L m mean mg mb h ((dd, listOf its n) :: (l, listOf hds n2) :: (cl, listOf #[.str nm tn] n3) :: news) d u)
    (hd1 : d ≤ 720) (hu1 : u ≤ 360) (hx : (x, instObj 150 dx) ∈ news) (hdx : (dx, wrD w ts f dd ds dn dm dp seen done) ∈ news) (hz : HandZ w news f xt l cl) (h1 : dd ≠ l) (h2 : dd ≠ cl) (h3 : cl ≠ l) (hdd : ∀ p ∈ news, p.1 ≠ dd) (hl : ∀ p ∈ news, p.1 ≠ l) (hlen : its.size ≤ 1000) (hlen2 : hds.size ≤ 990) (hnm : nBad nm = false) (hnl : nm.length ≤ 2 ^ 63 - 1) (hst : StrsAre its.toList txts) (hsum : (txts.map (·.length)).sum ≤ 16777216) (hj : (Txt.join (Str.ofString "") txts).length ≤ 1000) (hje : (escC (Txt.join (Str.ofString "") txts)).length ≤ 1000) (htl : text.length ≤ 1000) (hte0 : (escC text).length ≤ 900) (hte : (piS text).length ≤ 1000) (hte2 : piS0.length ≤ 1000)
    (hF : ∀ (o : Outc), o = commentP seen done its.isEmpty (Txt.join (Str.ofString "") txts) (if text.length = 0 then piS0 else piS text) → ∀ its' n' hds' n2' Z', its' = dataP seen done its → HandZ w Z' f xt l cl → Ran nm ((dd, listOf its n) :: (l, listOf hds n2) :: (cl, listOf #[.str nm tn] n3) :: news) news hds o hds' Z' → DoneY o.2 g os base h₀ outer env L m ((dd, listOf its' n') :: (l, listOf hds' n2') :: (cl, listOf #[.str nm tn] n3) :: Z') .none R) :
    codeAny (model prg w) (Ar d u gd env outer) (.call (.ref 147) ⟨[.ref x, .str (Str.ofString "i") t2, .str text tt], []⟩) R ⟨h, g, dr, tk, os⟩ := by
  have r0 := Ran.start nm ((dd, listOf its n) :: (l, listOf hds n2) :: (cl, listOf #[.str nm tn] n3) :: news) news hds
  obtain ⟨B, F, X, N, T, hf, hke, hd, hu⟩ := cx
  have hrow : PySem.Challenge.rw_pe0292_01 = _ := rfl
  revert hrow X; k_fill; w_top on; intro X _
  refine' code_def B F X N T rfl hf hke ?k6 ?k7 ?k8 (BindsTo.of_eq (pi_binds _ _ _)) ?kB ?_ ?c2 ?c3 ?c4 ?c5
  case k6 => k_is
  case k7 => k_is
  case k8 => k_room
  case kB => exact locs rfl
  case c5 => decide
  case c2 => exact rfl
  case c3 => exact rfl
  case c4 => exact rfl
  intro g' L' h' FG' F' N' B' X' T'
  replace F' : Fr g' L' h' (fun y => List.lookup y ([(Str.ofString "self", .ref x), (Str.ofString "target", .str (Str.ofString "i") t2), (Str.ofString "data", .str text tt)] : List (Str × Value)).reverse) := F'
  (try dsimp only); (try ((with_reducible show wpAny _ _ _ _ _ _); k_fold))
  with_reducible refine gen_tok tokV ?_
  intro tk0 htk0
  k_steps
  all_goals subst_vars
  all_goals first
    | (refine (hF _ ?_ _ _ _ _ _ ?_ (by k_asm) (by k_asm)).1 (by k_asm) _ _ _ _ (fun hb => by solve_by_elim) (by k_asm) (news_sub (by k_asm) (by k_upd))
       · clear hF; first | rw [if_pos (by kln_le)] | rw [if_neg (by kln_le)] | skip
         exact cm_seen
       · exact rfl)
    | (refine (hF _ ?_ _ _ _ _ _ ?_ (by k_asm) (by k_asm)).2 (by k_asm) _ _ _ _ _ _ _ _ (fun hb => by solve_by_elim) (raised_sub (by k_asm) (by k_upd)) (by k_asm) (by k_asm)
       · clear hF; first | rw [if_pos (by kln_le)] | rw [if_neg (by kln_le)] | skip
         first | exact cm_bad (by k_asm) | exact cm_nl | (refine cm_ah (by k_asm) ?_; simp only [aheadP, *, if_true, if_false, Bool.false_eq_true, Bool.true_and, Bool.false_and, Bool.not_true, Bool.not_false])
       · clear hF; first | exact rfl | simp only [dataP, *, if_true, if_false, Bool.false_eq_true, Bool.true_and, Bool.false_and, Bool.not_true, Bool.not_false])
end
section
namespace NV7
theorem hereV7 : True := trivial
end NV7
open NV7
structure StkZ (Z : List (Addr × Obj)) (ds : Addr) (its : Array Value) (n : Nat) (l0 t0 : Addr) : Prop where
  is : ∃ n' tx tx', (ds, listOf its n) ∈ Z ∧ (l0, listOf #[.ref t0] n') ∈ Z ∧ (t0, tupO (.str xmlS tx) (.str (Str.ofString "xml") tx')) ∈ Z
  pos : 0 < its.size
  sz : its.size ≤ 1000
  at0 : its[0]? = some (.ref l0)
  more : ∀ i, 0 < i → i < its.size → ∃ a k, its[i]? = some (.ref a) ∧ (a, listOf #[] k) ∈ Z
noncomputable abbrev tup3 (a b c : Value) : Obj := { cls := .type "tuple", data := .seq #[a, b, c] }
theorem rowsV70 : True := by
  k_with "call ref" => (fail_if_success fail_if_success have q := hereV7); (k_here; (try dsimp only [List.nil_append, List.cons_append]); k_dflt (refine wpAny_call ?_; refine iter_y ⟨by k_asm, by k_asm, by k_asm, by k_asm, by k_asm, rfl, rfl, by k_units, by k_units⟩ ?_); intro G'ₓ L2'ₓ oL'ₓ nm'ₓ qn'ₓ h'ₓ tk'ₓ F'ₓ N'ₓ l1ₓ l2ₓ hns'ₓ; (try k_lt l1ₓ); (try k_lt2 l2ₓ))
  k_with "exec For Tuple Call cons nil" => (fail_if_success fail_if_success have q := hereV7); (k_here; k_dflt (refine For_gen (by k_asm) ?_))
  k_with "GenSrc" => (fail_if_success fail_if_success have q := hereV7); (k_here; (with_reducible rename StkZ _ _ _ _ _ _ => hSzₓ); k_dflt (refine ⟨_, _, _, _, _, _, _, _, _, _, _, _, _, _, _, rfl, rfl, by k_room, Top.nolimit (by k_asm), rfl, by k_asm, by k_asm, by k_asm, by k_mem, by k_mem, hSzₓ.pos, hSzₓ.sz, hSzₓ.at0, (fun iₓ h1ₓ h2ₓ => let ⟨a, k, e, hm⟩ := hSzₓ.more iₓ h1ₓ h2ₓ; ⟨a, k, e, by k_mem⟩), by k_ne, by k_all, ?_⟩); intro N0'ₓ oL2'ₓ oI'ₓ oJ'ₓ h'ₓ tk'ₓ gₓ₁' l1 F' N'; (try k_lt l1); (try dsimp only [genNeed, List.cons_append, List.nil_append] at N'))
  k_with "call builtin:set.add" => (fail_if_success fail_if_success have q := hereV7); (k_here; (try dsimp only [List.nil_append, List.cons_append]); k_dflt (refine' kse_add (knd := PySem.strKind _ _) (by k_asm) (by k_asm) (by k_updF) (by k_asm) (by kse_small) (strKind_is _ _ _ _) rfl ?_); intro h'ₓ o'ₓ F'ₓ N'ₓ hs'ₓ; (try dsimp only at N'ₓ))
  trivial
theorem allLt_ne1 {q : Addr} {Z : List (Addr × Obj)} (h : AllLt q Z) : ∀ p ∈ Z, p.1 ≠ q + 1 := fun p hp e => by
  have h1 : @LT.lt Nat _ p.1 q := allLt_mem h p hp
  have h2 : @Eq Nat p.1 (q + 1) := e
  kln_le
theorem rowsV71 : True := by
  k_with "k_all" => (fail_if_success fail_if_success have q := hereV7); first | exact allLt_ne1 (by with_reducible assumption) | exact allLt_ne1 (And.right (by with_reducible assumption)) | exact allLt_ne1 (And.right (And.right (by with_reducible assumption))) | exact allLt_ne1 (And.right (And.right (And.right (by with_reducible assumption)))) | exact allLt_ne1 (And.right (And.right (And.right (And.right (by with_reducible assumption)))))
  trivial
theorem gs_of {h₀ h₄ : Heap} {L L2 N0 l0 t0 G : Addr} {n' gn : Nat} {oL' oI oJ : Obj} {nm qn : Value} {ga g₁ : Array GenState} {Q : Flow → Shared → Prop} {h₁ : Heap} {dr : Drawn} {tk tk₄ : Tok} {os : OsState} {m₄ : Str → Option Value} {news₄ : List (Addr × Obj)}
    (F : Fr h₀ L h₄ m₄) (N : News h₀ L h₄ ((L2, oL') :: (N0, oI) :: (N0 + 1, oJ) :: (G, genO gn nm qn) :: news₄)) (c0 : (l0, listOf #[.ref t0] n') ∈ news₄) (c1 : ∀ p ∈ news₄, p.1 ≠ L2) (c2 : ∀ p ∈ news₄, p.1 ≠ N0) (c3 : ∀ p ∈ news₄, p.1 ≠ N0 + 1)
    (c4 : ∀ h₅ tk₅ g₅, (AllBare ga → AllBare g₅) → Fr h₀ L h₅ m₄ → News h₀ L h₅ news₄ → Q .next ⟨h₅, g₅, dr, tk₅, os⟩) :
    GenStep h₀ L L2 N0 l0 t0 n' (genNeed L2 N0 G oL' oI oJ gn nm qn) ga Q ⟨h₁, g₁, dr, tk, os⟩ .next ⟨h₄, g₁, dr, tk₄, os⟩ :=
  ⟨rfl, _, _, _, _, rfl, F, N, c0, c1, c2, c3, c4⟩
theorem rowsV72 : True := by
  k_with "GenStep" => (fail_if_success fail_if_success have q := hereV7); (k_here; k_dflt (refine' gs_of (by k_asm) (by k_asm) (by k_mem) (by k_all) (by k_all) (by k_all) ?_); intro h5'ₓ tk5'ₓ g5'ₓ hb5'ₓ F'ₓ N'ₓ)
  k_with "getMethod ref" => (fail_if_success fail_if_success have q := hereV7); (k_here; (with_reducible show wpAny _ _ (getMethod (Value.ref _) (Str.ofString "add") _) _ _ _); kse_here; k_dflt (refine' kse_method (knd := PySem.strKind _ _) (by k_asm) (by k_updF) (by k_asm) (by kse_small) ?_))
  trivial
theorem qname_x {news : List (Addr × Obj)}
    {R : Result → Shared → Prop} {x dx f dd ds dn dm dp l0 t0 : Addr} {ts : Nat → Tok} {seen done : Bool} {dsI : Array Value} {n : Nat} {tq : Tok}
    (cx : Cy w A₀ base h₀ outer env L m mean mg mb h (news) d u)
    (hd1 : d ≤ 690) (hu1 : u ≤ 330) (hx : (x, instObj 150 dx) ∈ news) (hdx : (dx, wrD w ts f dd ds dn dm dp seen done) ∈ news) (hS : StkZ news ds dsI n l0 t0)
    (hF : ∀ q t1 t2 t3, AllLt q news → BackY g os h₀ L m ((q, tup3 (.str (Str.ofString "x") t1) (.str (Str.ofString "x") t2) (.str (Str.ofString "") t3)) :: news) (.ref q) R) :
    codeAny (model prg w) (Ar d u gd env outer) (.call (.ref 90) ⟨[.ref x, .str (Str.ofString "x") tq], []⟩) R ⟨h, g, dr, tk, os⟩ := by
  obtain ⟨n', tx, tx', s1, s2, s3⟩ := hS.is
  obtain ⟨B, F, X, N, T, hf, hke, hd, hu⟩ := cx
  have hrow : PySem.Challenge.rw_pe0292_01 = _ := rfl
  revert hrow X; k_fill; w_top on; intro X _
  refine' code_def B F X N T rfl hf hke ?k6 ?k7 ?k8 (?k9) ?kB ?_ ?c2 ?c3 ?c4 ?c5
  case k6 => k_is
  case k7 => k_is
  case k8 => k_room
  case k9 => exact binds_K (by k_in) rfl (by k_is) rfl rfl rfl
  case kB => exact locs rfl
  case c5 => decide
  case c2 => exact rfl
  case c3 => exact rfl
  case c4 => exact rfl
  intro g' L' h' FG' F' N' B' X' T'
  replace F' : Fr g' L' h' (fun y => List.lookup y ([(Str.ofString "self", .ref x), (Str.ofString "qname", .str (Str.ofString "x") tq), (Str.ofString "uri", .none)] : List (Str × Value)).reverse) := F'
  (try dsimp only); (try ((with_reducible show wpAny _ _ _ _ _ _); k_fold))
  with_reducible refine gen_tok tokV ?_
  intro tk0 htk0
  k_steps
  all_goals refine hF _ _ _ _ (by first | with_reducible assumption | exact And.right (by with_reducible assumption) | exact And.right (And.right (by with_reducible assumption)) | exact And.right (And.right (And.right (by with_reducible assumption)))) _ _ _ _ (fun hb => by solve_by_elim) (by k_asm) (news_sub (by k_asm) (by k_upd))
theorem qname_k {news : List (Addr × Obj)}
    {R : Result → Shared → Prop} {x dx f dd ds dn dm dp l0 t0 : Addr} {ts : Nat → Tok} {seen done : Bool} {dsI : Array Value} {n : Nat} {tq : Tok}
    (cx : Cy w A₀ base h₀ outer env L m mean mg mb h (news) d u)
    (hd1 : d ≤ 690) (hu1 : u ≤ 330) (hx : (x, instObj 150 dx) ∈ news) (hdx : (dx, wrD w ts f dd ds dn dm dp seen done) ∈ news) (hS : StkZ news ds dsI n l0 t0)
    (hF : ∀ q t1 t2 t3, AllLt q news → BackY g os h₀ L m ((q, tup3 (.str (Str.ofString "k") t1) (.str (Str.ofString "k") t2) (.str (Str.ofString "") t3)) :: news) (.ref q) R) :
    codeAny (model prg w) (Ar d u gd env outer) (.call (.ref 90) ⟨[.ref x, .str (Str.ofString "k") tq], []⟩) R ⟨h, g, dr, tk, os⟩ := by
  obtain ⟨n', tx, tx', s1, s2, s3⟩ := hS.is
  obtain ⟨B, F, X, N, T, hf, hke, hd, hu⟩ := cx
  have hrow : PySem.Challenge.rw_pe0292_01 = _ := rfl
  revert hrow X; k_fill; w_top on; intro X _
  refine' code_def B F X N T rfl hf hke ?k6 ?k7 ?k8 (?k9) ?kB ?_ ?c2 ?c3 ?c4 ?c5
  case k6 => k_is
  case k7 => k_is
  case k8 => k_room
  case k9 => exact binds_K (by k_in) rfl (by k_is) rfl rfl rfl
  case kB => exact locs rfl
  case c5 => decide
  case c2 => exact rfl
  case c3 => exact rfl
  case c4 => exact rfl
  intro g' L' h' FG' F' N' B' X' T'
  replace F' : Fr g' L' h' (fun y => List.lookup y ([(Str.ofString "self", .ref x), (Str.ofString "qname", .str (Str.ofString "k") tq), (Str.ofString "uri", .none)] : List (Str × Value)).reverse) := F'
  (try dsimp only); (try ((with_reducible show wpAny _ _ _ _ _ _); k_fold))
  with_reducible refine gen_tok tokV ?_
  intro tk0 htk0
  k_steps
  all_goals refine hF _ _ _ _ (by first | with_reducible assumption | exact And.right (by with_reducible assumption) | exact And.right (And.right (by with_reducible assumption)) | exact And.right (And.right (And.right (by with_reducible assumption)))) _ _ _ _ (fun hb => by solve_by_elim) (by k_asm) (news_sub (by k_asm) (by k_upd))
end
section
namespace NV8
theorem hereV8 : True := trivial
end NV8
open NV8
theorem rowsV80 : True := by
  k_with "call ref" => (fail_if_success fail_if_success have q := hereV8); (k_here; (try dsimp only [List.nil_append, List.cons_append]); k_dflt (refine wpAny_call ?_; first | (refine escc_y ⟨by k_asm, by k_asm, by k_asm, by k_asm, by k_asm, rfl, rfl, by k_units, by k_units⟩ (by kln_le) ?_) | ((with_reducible show codeAny _ _ (Code.call _ ⟨[Value.str (Str.ofString "\n") _], _⟩) _ _); refine write_nl ⟨by k_asm, by k_asm, by k_asm, by k_asm, by k_asm, rfl, rfl, by k_units, by k_units⟩ (by k_units) (by k_units) (by k_asm) (by k_upd) (by k_upd) (by k_upd) (by k_ne) (by k_all) (by kln_le) (by k_asm) (by k_asm) (by k_asm) (by first | with_reducible assumption | assumption | rfl) (by k_upd) (fun P'ₓ ok'ₓ => ?_)) | (refine write_z ⟨by k_asm, by k_asm, by k_asm, by k_asm, by k_asm, rfl, rfl, by k_units, by k_units⟩ (by k_units) (by k_units) (by k_asm) (by k_upd) (by k_upd) (by k_upd) (by k_ne) (by k_all) (by kln_le) (by k_asm) (by k_asm) (by first | with_reducible assumption | assumption | decide) (by k_asm) (by first | with_reducible assumption | assumption | rfl) (by k_upd) (fun hds'ₓ n'ₓ Z'ₓ U'ₓ H'ₓ P'ₓ s'ₓ => ⟨fun ok'ₓ => ?_, fun ok'ₓ => ?_⟩)) | (refine flush_z ⟨by k_asm, by k_asm, by k_asm, by k_asm, by k_asm, rfl, rfl, by k_units, by k_units⟩ (by k_units) (by k_units) (by k_asm) (by k_upd) (by k_upd) (by k_upd) (by k_upd) (by k_mem) (by k_mem) (by k_ne) (by k_ne) (by k_ne) (by k_all) (by k_all) (by kln_le) (by kln_le) (by k_asm) (by k_asm) (by k_asm) (by k_asm) (by k_asm) (by k_asm) (by k_asm) (by first | with_reducible assumption | assumption | rfl) (by k_upd) (fun n'ₓ hds'ₓ n2'ₓ Z'ₓ U'ₓ H'ₓ P'ₓ s'ₓ => ⟨fun ok'ₓ => ?_, fun ok'ₓ => ?_⟩))))
  trivial
noncomputable def DisjL : List Addr → List (Addr × Obj) → Prop
  | [], _ => True
  | a :: r, Z => (∀ b ∈ r, a ≠ b) ∧ (∀ p ∈ Z, p.1 ≠ a) ∧ DisjL r Z
theorem DisjL.nz {Z : List (Addr × Obj)} : ∀ {ts : List Addr}, DisjL ts Z → ∀ (i : Nat) {a : Addr}, ts[i]? = some a → ∀ p ∈ Z, p.1 ≠ a := by
  intro ts
  induction ts with
  | nil => intro _ i a h; cases h
  | cons b r ih =>
    intro D i a h
    cases i with
    | zero => cases h; exact D.2.1
    | succ i => exact ih D.2.2 i h
theorem DisjL.ne {Z : List (Addr × Obj)} : ∀ {ts : List Addr}, DisjL ts Z → ∀ (i j : Nat) {a c : Addr}, ts[i]? = some a → ts[j]? = some c → Nat.blt i j = true → a ≠ c := by
  intro ts
  induction ts with
  | nil => intro _ i j a c h; cases h
  | cons b r ih =>
    intro D i j a c h k l
    cases i with
    | zero =>
      cases j with
      | zero => exact absurd l (by decide)
      | succ j => cases h; exact D.1 _ (List.mem_of_getElem? (show r[j]? = some c from k))
    | succ i =>
      cases j with
      | zero => cases (show false = true from l)
      | succ j => exact ih D.2.2 i j h k (show Nat.blt i j = true from l)
theorem DisjL.up {led Z Z' : List (Addr × Obj)} (U : Up led Z Z') : ∀ {ts : List Addr}, DisjL ts Z → (∀ t ∈ ts, ∃ o, (t, o) ∈ led) → DisjL ts Z' := by
  intro ts
  induction ts with
  | nil => intro _ _; trivial
  | cons a r ih => intro D h; exact ⟨D.1, U.ne D.2.1 (h a (.head _)).choose_spec, ih D.2.2 fun t ht => h t (.tail _ ht)⟩
theorem DisjL.sel {ts : List Addr} {Z : List (Addr × Obj)} (D : DisjL ts Z) : ∀ (js : List Nat) {us : List Addr}, us.map some = js.map (fun j => ts[j]?) → js.Nodup → DisjL us Z
  | [], [], _, _ => trivial
  | [], _ :: _, h, _ => by cases h
  | _ :: _, [], h, _ => by cases h
  | j :: js, t :: us, h, hd => by
    have h1 := List.cons.inj h
    have h2 := List.nodup_cons.mp hd
    refine ⟨fun b hb => ?_, D.nz j h1.1.symm, DisjL.sel D js h1.2 h2.2⟩
    have h3 : some b ∈ js.map (fun j => ts[j]?) := h1.2 ▸ List.mem_map.mpr ⟨b, hb, rfl⟩
    obtain ⟨k, hk, e⟩ := List.mem_map.mp h3
    have hjk : j ≠ k := fun q => h2.1 (q ▸ hk)
    rcases Nat.lt_or_gt_of_ne hjk with q | q
    · exact D.ne j k h1.1.symm e (Nat.ble_eq_true_of_le q)
    · exact Ne.symm (D.ne k j e h1.1.symm (Nat.ble_eq_true_of_le q))
structure StkB (Z : List (Addr × Obj)) (its : Array Value) (l0 t0 : Addr) : Prop where
  is : ∃ n' tx tx', (l0, listOf #[.ref t0] n') ∈ Z ∧ (t0, tupO (.str xmlS tx) (.str (Str.ofString "xml") tx')) ∈ Z
  pos : 0 < its.size
  sz : its.size ≤ 1000
  at0 : its[0]? = some (.ref l0)
  more : ∀ i, 0 < i → i < its.size → ∃ a k, its[i]? = some (.ref a) ∧ (a, listOf #[] k) ∈ Z
theorem StkB.at {Z Z' : List (Addr × Obj)} {its : Array Value} {l0 t0 ds : Addr} {n : Nat} (H : StkB Z its l0 t0) (h1 : (ds, listOf its n) ∈ Z') (h2 : ∀ p ∈ Z, p ∈ Z') : StkZ Z' ds its n l0 t0 :=
  ⟨let ⟨n', tx, tx', a, b⟩ := H.is; ⟨n', tx, tx', h1, h2 _ a, h2 _ b⟩, H.pos, H.sz, H.at0, fun i a b => let ⟨c, k, e, m⟩ := H.more i a b; ⟨c, k, e, h2 _ m⟩⟩
theorem last_pushY (l : List Value) (y : Value) : kl_last (l ++ [y]) = some (l, y) := by
  induction l with
  | nil => rfl
  | cons a r ih => rw [List.cons_append, kl_last, ih]
theorem pop_Y {w : World} {A : Around} {E : Value → Shared → Prop} {s : Shared} {h₀ : Heap} {L D : Addr} {m : Str → Option Value} {news news' : List (Addr × Obj)} {p : Array Value} {y : Value} {n : Nat} {Q : Value → Shared → Prop} (F : Fr h₀ L s.heap m) (N : News h₀ L s.heap news)
    (U : Upd D (listOf (p.push y) n) (listOf p (n + 1)) news news') (hz : p.size ≤ 1000) (h : ∀ h', Fr h₀ L h' m → News h₀ L h' news' → Q y { s with heap := h' }) : wpAny (model prg w) A (call (.builtin "list.pop") [.ref D]) Q E s :=
  kl_pop (p := p.toList) F N (by rw [Array.toList_push]; exact last_pushY _ _) (by rw [Array.toArray_toList]; exact U) (by rw [Array.toList_push, List.length_append]; show p.size + 1 ≤ _; exact Nat.le_trans (Nat.succ_le_succ hz) (by decide)) h
theorem len_Y {w : World} {A : Around} {E : Value → Shared → Prop} {s : Shared} {h₀ : Heap} {L D : Addr} {news : List (Addr × Obj)} {its : Array Value} {c : Nat} {Q : Value → Shared → Prop} (N : News h₀ L s.heap news) (hm : (D, listOf its c) ∈ news) (hf : its.size ≤ 1000) (h : Q (.int (its.size : Nat) (s.toks + 1)) { s with toks := s.toks + 1 + 1 }) :
    wpAny (model prg w) A (call (.builtin "len") [.ref D]) Q E s := KM.len_K N hm rfl (Nat.lt_of_le_of_lt hf (by decide)) h
theorem rowsV81 : True := by
  k_with "call builtin:len" => (fail_if_success fail_if_success have q := hereV8); (k_here; (try dsimp only [List.nil_append, List.cons_append]); k_dflt (refine' len_Y (by k_asm) (by k_mem) (by k_asm) ?_))
  trivial
theorem isEmpty_of {its : Array Value} (h : its.isEmpty = true) : its = #[] := Array.isEmpty_iff.mp h
noncomputable abbrev endS : Str := Str.empty ++ Str.ofString "</" ++ Str.ofString "x" ++ Str.ofString ">"
noncomputable def endP (seen empt : Bool) (t : Str) : Outc := seqP (seqP okP (if empt then okP else flushP seen t)) (writeP endS)
theorem endS_ok : vBad endS = false := by decide +kernel
section
variable {w : World} {A : Around} {E : Value → Shared → Prop} {s : Shared} {K : Frag} {x C dx L f dd ds dn dm dp : Addr} {h₀ : Heap} {m : Str → Option Value} {news news' : List (Addr × Obj)} {ts : Nat → Tok} {seen done b : Bool}
theorem rowsV82 : True := by
  k_with "getMethod ref" => (fail_if_success fail_if_success have q := hereV8); (k_here; (with_reducible show wpAny _ _ (getMethod (Value.ref _) (PySem.Str.ofString "pop") _) _ _ _); k_dflt (refine' kl_method (by k_asm) (by k_mem) PySem.F.slot_list_pop PySem.F.type_list_pop ?_))
  k_with "call builtin:list.pop" => (fail_if_success fail_if_success have q := hereV8); (k_here; (try dsimp only [List.nil_append, List.cons_append]); k_dflt (refine' pop_Y (by k_asm) (by k_asm) (by k_upd) (by k_asm) ?_); intro h'ₓ F'ₓ N'ₓ; (try dsimp only at N'ₓ))
  k_with "k_all" => (fail_if_success fail_if_success have q := hereV8); first | exact allLt_ne (And.right (by with_reducible assumption)) | exact allLt_ne1 (And.right (by with_reducible assumption)) | exact allLt_ne (And.right (And.right (by with_reducible assumption)))
  k_with "call ref" => (fail_if_success fail_if_success have q := hereV8); (k_here; (try dsimp only [List.nil_append, List.cons_append]); k_dflt (refine wpAny_call ?_; (refine qname_x ⟨by k_asm, by k_asm, by k_asm, by k_asm, by k_asm, rfl, rfl, by k_units, by k_units⟩ (by k_units) (by k_units) (by k_mem) (by k_mem) (StkB.at (by with_reducible assumption) (by k_mem) (fun pₓ hpₓ => by k_mem)) (fun qₓ t1ₓ t2ₓ t3ₓ l1ₓ => ?_))); (try simp only [AllLt, and_true] at l1ₓ); intro h'ₓ g'ₓ d'ₓ tk'ₓ hb'ₓ F'ₓ N'ₓ)
  trivial
theorem set_rd {Q : Unit → Shared → Prop} (F : Fr h₀ L s.heap m) (X₀ : K.In h₀) (N : News h₀ L s.heap news) (hx : (x, instObj C dx) ∈ news) (U : Upd dx (wrD w ts f dd ds dn dm dp seen done) (wrD w ts f dd ds dn dm dp seen b) news news')
    (hs : findIn K (.ref C) "__setattr__" = some (some (.builtin "object.__setattr__"))) (hp : plainOver K C = true) (ht : takerIn K C "_root_done" = some none) (hh : hasDictIn K C = true)
    (h : ∀ h', Fr h₀ L h' m → News h₀ L h' news' → Q () { s with heap := h', toks := s.toks + 2 }) : wpAny (model prg w) A (setAttr (.ref x) (Str.ofString "_root_done") (.bool b)) Q E s := by
  have hm : (dx, wrD w ts f dd ds dn dm dp seen done) ∈ news := by
    obtain ⟨pre, post, rfl, -, -, -⟩ := U.split
    exact List.mem_append_right _ (.head _)
  exact set_dict F X₀ N (InstAt.of_news N hx hm) rfl hs hp ht hh (by kernel_rfl!) (by kernel_rfl!) U (Nat.le_of_ble_eq_true rfl) h
theorem set_rs {Q : Unit → Shared → Prop} (F : Fr h₀ L s.heap m) (X₀ : K.In h₀) (N : News h₀ L s.heap news) (hx : (x, instObj C dx) ∈ news) (U : Upd dx (wrD w ts f dd ds dn dm dp seen done) (wrD w ts f dd ds dn dm dp b done) news news')
    (hs : findIn K (.ref C) "__setattr__" = some (some (.builtin "object.__setattr__"))) (hp : plainOver K C = true) (ht : takerIn K C "_root_seen" = some none) (hh : hasDictIn K C = true)
    (h : ∀ h', Fr h₀ L h' m → News h₀ L h' news' → Q () { s with heap := h', toks := s.toks + 2 }) : wpAny (model prg w) A (setAttr (.ref x) (Str.ofString "_root_seen") (.bool b)) Q E s := by
  have hm : (dx, wrD w ts f dd ds dn dm dp seen done) ∈ news := by
    obtain ⟨pre, post, rfl, -, -, -⟩ := U.split
    exact List.mem_append_right _ (.head _)
  exact set_dict F X₀ N (InstAt.of_news N hx hm) rfl hs hp ht hh (by kernel_rfl!) (by kernel_rfl!) U (Nat.le_of_ble_eq_true rfl) h
end
theorem rowsV83 : True := by
  k_with "setAttr ref" => (fail_if_success fail_if_success have q := hereV8); (k_here; (with_reducible show wpAny _ _ (setAttr (Value.ref _) (Str.ofString "_root_done") _) _ _ _); k_dflt (refine set_rd (by k_asm) (by k_asm) (by k_asm) (by kat_tups) (by k_upd) (by k_is) (by k_is) (by k_is) (by k_is) ?_); intro h'ₓ F'ₓ N'ₓ; (try k_sweep))
  trivial
theorem end_binds (a0 a1 : Value) : bindArgs (fnOf (Str.ofString "end") (Str.ofString "C14NWriterTarget.end") (fPar (sub (stA 7) 9)) (fBody (sub (stA 7) 9)) (fScope (sub (stA 7) 9)) .none .none .none (.str (Str.ofString "cpy313.xml.etree.ElementTree") 289) none (.ref 132) .none) ⟨[a0, a1], []⟩ = pure [(Str.ofString "self", a0), (Str.ofString "tag", a1)] := by kernel_rfl!
theorem rowsV84 : True := by
  k_with "exec If" => (fail_if_success fail_if_success have q := hereV8); (k_here; (fail_if_success (with_reducible refine fl_isJ ?_)); (with_reducible show wpAny _ _ (exec (Stmt.If (Expr.Attribute _ (Str.ofString "_data") _) _ _ _) _) _ _ _); k_dflt (refine fl_join (gT := fun Zₓ => (dx, wrD w ts f dd ds dn dm dp seen done) :: (dp, listOf (dpI.push vp) n4) :: (ds, listOf (dsI.push vs) n5) :: (dn, listOf (dnI.push vn) n6) :: Zₓ) (o := seqP okP (if its.isEmpty then okP else flushP seen (Txt.join (Str.ofString "") txts))) (dat := #[]) r0 hz (by k_asm) (by k_asm) (fun n'ₓ hds'ₓ n2'ₓ Z'ₓ h'ₓ g'ₓ dr'ₓ tk'ₓ U'ₓ H'ₓ P'ₓ s'ₓ ok'ₓ hb'ₓ F'ₓ N'ₓ => ?_) ?_))
  k_with "JQ" => (fail_if_success fail_if_success have q := hereV8); (k_here; k_dflt (refine fl_in (by k_asm) (by k_asm) (news_sub (by k_asm) (by k_upd)) (fun hbₓ => by solve_by_elim) (by k_asm) (by first | with_reducible assumption | assumption | rfl) (by first | with_reducible assumption | exact Nat.le_succ _) ?_ ?_); (focus (first | (simp only [*, if_true, if_false, Bool.false_eq_true, okP]; done) | (simp only [*, if_true, if_false, Bool.false_eq_true, okP]; rfl))); (first | rfl | exact isEmpty_of (by assumption)))
  trivial
theorem end_y {news : List (Addr × Obj)}
    {R : Result → Shared → Prop} {x dx f dd ds dn dm dp xt l cl l0 t0 : Addr} {ts : Nat → Tok} {seen done : Bool} {its hds dsI dnI dpI : Array Value} {n n2 n3 n4 n5 n6 : Nat} {nm : Str} {tn t1 : Tok} {txts : List Str} {vs vn vp : Value}
    (cx : Cy w A₀ base h₀ outer env L m mean mg mb h ((dd, listOf its n) :: (l, listOf hds n2) :: (cl, listOf #[.str nm tn] n3) :: (dx, wrD w ts f dd ds dn dm dp seen done) :: (dp, listOf (dpI.push vp) n4) :: (ds, listOf (dsI.push vs) n5) :: (dn, listOf (dnI.push vn) n6) :: news) d u)
    (hd1 : d ≤ 680) (hu1 : u ≤ 320) (hx : (x, instObj 150 dx) ∈ news) (hz : HandZ w news f xt l cl) (hB : StkB news (dsI.push vs) l0 t0) (hD : DisjL [dd, l, cl, dx, dp, ds, dn] news) (hlen : its.size ≤ 1000) (hlen2 : hds.size ≤ 990) (hln : dnI.size ≤ 1000) (hlp : dpI.size ≤ 1000) (hls : dsI.size ≤ 1000)
    (hnm : nBad nm = false) (hnl : nm.length ≤ 2 ^ 63 - 1) (hst : StrsAre its.toList txts) (hsum : (txts.map (·.length)).sum ≤ 16777216) (hj : (Txt.join (Str.ofString "") txts).length ≤ 1000) (hje : (escC (Txt.join (Str.ofString "") txts)).length ≤ 1000)
    (hF : ∀ (o : Outc), o = endP seen its.isEmpty (Txt.join (Str.ofString "") txts) → ∀ its' n' hds' n2' Z' n4' n5' n6', its'.isEmpty = true → HandZ w Z' f xt l cl → Ran nm ((dd, listOf its n) :: (l, listOf hds n2) :: (cl, listOf #[.str nm tn] n3) :: (dx, wrD w ts f dd ds dn dm dp seen done) :: (dp, listOf (dpI.push vp) n4) :: (ds, listOf (dsI.push vs) n5) :: (dn, listOf (dnI.push vn) n6) :: news) news hds o hds' Z' →
      (o.2 = true → BackY g os h₀ L m ((dd, listOf its' n') :: (l, listOf hds' n2') :: (cl, listOf #[.str nm tn] n3) :: (dx, wrD w ts f dd ds dn dm dp seen ((dpI.size : Int) == 1)) :: (dp, listOf dpI n4') :: (ds, listOf dsI n5') :: (dn, listOf dnI n6') :: Z') .none R) ∧
      (o.2 = false → BoomY g os base h₀ outer env L m ((dd, listOf its' n') :: (l, listOf hds' n2') :: (cl, listOf #[.str nm tn] n3) :: (dx, wrD w ts f dd ds dn dm dp seen done) :: (dp, listOf (dpI.push vp) n4) :: (ds, listOf (dsI.push vs) n5) :: (dn, listOf (dnI.push vn) n6) :: Z') R)) :
    codeAny (model prg w) (Ar d u gd env outer) (.call (.ref 133) ⟨[.ref x, .str (Str.ofString "x") t1], []⟩) R ⟨h, g, dr, tk, os⟩ := by
  have r0 := Ran.start nm ((dd, listOf its n) :: (l, listOf hds n2) :: (cl, listOf #[.str nm tn] n3) :: (dx, wrD w ts f dd ds dn dm dp seen done) :: (dp, listOf (dpI.push vp) n4) :: (ds, listOf (dsI.push vs) n5) :: (dn, listOf (dnI.push vn) n6) :: news) news hds
  have hes : endS.length ≤ 1000 := by decide
  have q1 : dd ≠ l := hD.ne 0 1 rfl rfl rfl
  have q2 : dd ≠ cl := hD.ne 0 2 rfl rfl rfl
  have q3 : dd ≠ dx := hD.ne 0 3 rfl rfl rfl
  have q4 : dd ≠ dp := hD.ne 0 4 rfl rfl rfl
  have q5 : dd ≠ ds := hD.ne 0 5 rfl rfl rfl
  have q6 : dd ≠ dn := hD.ne 0 6 rfl rfl rfl
  have q7 : l ≠ cl := hD.ne 1 2 rfl rfl rfl
  have q8 : l ≠ dx := hD.ne 1 3 rfl rfl rfl
  have q9 : l ≠ dp := hD.ne 1 4 rfl rfl rfl
  have q10 : l ≠ ds := hD.ne 1 5 rfl rfl rfl
  have q11 : l ≠ dn := hD.ne 1 6 rfl rfl rfl
  have q12 : cl ≠ dx := hD.ne 2 3 rfl rfl rfl
  have q13 : cl ≠ dp := hD.ne 2 4 rfl rfl rfl
  have q14 : cl ≠ ds := hD.ne 2 5 rfl rfl rfl
  have q15 : cl ≠ dn := hD.ne 2 6 rfl rfl rfl
  have q16 : dx ≠ dp := hD.ne 3 4 rfl rfl rfl
  have q17 : dx ≠ ds := hD.ne 3 5 rfl rfl rfl
  have q18 : dx ≠ dn := hD.ne 3 6 rfl rfl rfl
  have q19 : dp ≠ ds := hD.ne 4 5 rfl rfl rfl
  have q20 : dp ≠ dn := hD.ne 4 6 rfl rfl rfl
  have q21 : ds ≠ dn := hD.ne 5 6 rfl rfl rfl
  have z1 : ∀ p ∈ news, p.1 ≠ dd := hD.nz 0 rfl
  have z2 : ∀ p ∈ news, p.1 ≠ l := hD.nz 1 rfl
  have z3 : ∀ p ∈ news, p.1 ≠ cl := hD.nz 2 rfl
  have z4 : ∀ p ∈ news, p.1 ≠ dx := hD.nz 3 rfl
  have z5 : ∀ p ∈ news, p.1 ≠ dp := hD.nz 4 rfl
  have z6 : ∀ p ∈ news, p.1 ≠ ds := hD.nz 5 rfl
  have z7 : ∀ p ∈ news, p.1 ≠ dn := hD.nz 6 rfl
  obtain ⟨B, F, X, N, T, hf, hke, hd, hu⟩ := cx
  have hrow : PySem.Challenge.rw_pe0292_01 = _ := rfl
  revert hrow X; k_fill; w_top on; intro X _
  refine' code_def B F X N T rfl hf hke ?k6 ?k7 ?k8 (BindsTo.of_eq (end_binds _ _)) ?kB ?_ ?c2 ?c3 ?c4 ?c5
  case k6 => k_is
  case k7 => k_is
  case k8 => k_room
  case kB => exact locs rfl
  case c5 => decide
  case c2 => exact rfl
  case c3 => exact rfl
  case c4 => exact rfl
  intro g' L' h' FG' F' N' B' X' T'
  replace F' : Fr g' L' h' (fun y => List.lookup y ([(Str.ofString "self", .ref x), (Str.ofString "tag", .str (Str.ofString "x") t1)] : List (Str × Value)).reverse) := F'
  (try dsimp only); (try ((with_reducible show wpAny _ _ _ _ _ _); k_fold))
  with_reducible refine gen_tok tokV ?_
  intro tk0 htk0
  k_steps
  all_goals first
    | (refine (hF _ ?_ _ _ _ _ _ _ _ _ ?_ (by k_asm) (by k_asm)).1 (by k_asm) _ _ _ _ (fun hb => by solve_by_elim) (by k_asm) (news_sub (by k_asm) (by k_upd))
       · clear hF; first | rfl | (unfold endP; simp only [*, seqP_okP, seqP_bad, if_true, if_false, Bool.false_eq_true, okP])
       · clear hF; first | k_asm | rfl)
    | (refine (hF _ ?_ _ _ _ _ _ 0 0 0 ?_ (by k_asm) (by k_asm)).2 (by k_asm) _ _ _ _ _ _ _ _ (fun hb => by solve_by_elim) (raised_sub (by k_asm) (by k_upd)) (by k_asm) (by k_asm)
       · clear hF; first | rfl | (unfold endP; simp only [*, seqP_okP, seqP_bad, if_true, if_false, Bool.false_eq_true, okP])
       · clear hF; first | k_asm | rfl)
end
section
theorem pw_cons {a b : Nat} {l : List Nat} (h : a < b) (P : (b :: l).Pairwise (· < ·)) : (a :: b :: l).Pairwise (· < ·) :=
  List.pairwise_cons.mpr ⟨fun c hc => by
    rcases List.mem_cons.mp hc with rfl | hc
    · exact h
    · exact Nat.lt_trans h ((List.pairwise_cons.mp P).1 c hc), P⟩
theorem pw_one {a : Nat} : [a].Pairwise (· < ·) := List.pairwise_singleton _ _
theorem pw_lt {as : List Nat} (P : as.Pairwise (· < ·)) {i j a b : Nat} (hi : as[i]? = some a) (hj : as[j]? = some b) (h : i < j) : a < b := by
  obtain ⟨h1, rfl⟩ := List.getElem?_eq_some_iff.mp hi
  obtain ⟨h2, rfl⟩ := List.getElem?_eq_some_iff.mp hj
  exact List.pairwise_iff_getElem.mp P i j h1 h2 h
theorem pw_ne {as : List Nat} (P : as.Pairwise (· < ·)) (i j : Nat) {a b : Nat} (hi : as[i]? = some a) (hj : as[j]? = some b) (h : (i == j) = false) : a ≠ b := by
  have hij : i ≠ j := by simpa using h
  rcases Nat.lt_or_gt_of_ne hij with q | q
  · exact Nat.ne_of_lt (pw_lt P hi hj q)
  · exact Nat.ne_of_gt (pw_lt P hj hi q)
theorem pw_nm {as : List Nat} (P : as.Pairwise (· < ·)) (i : Nat) (js : List Nat) {a : Nat} {ts : List Nat} (hi : as[i]? = some a) (ht : ts.map some = js.map (fun j => as[j]?)) (h : js.all (fun j => !(i == j)) = true) : a ∉ ts := by
  intro hm
  have h1 : some a ∈ js.map (fun j => as[j]?) := ht ▸ List.mem_map.mpr ⟨a, hm, rfl⟩
  obtain ⟨j, hj, e⟩ := List.mem_map.mp h1
  have h2 := List.all_eq_true.mp h j hj
  exact pw_ne P i j hi e (by simpa using h2) rfl
theorem pw_nd {as : List Nat} (P : as.Pairwise (· < ·)) : ∀ (js : List Nat) {ts : List Nat}, ts.map some = js.map (fun j => as[j]?) → js.Nodup → ts.Nodup
  | [], [], _, _ => List.nodup_nil
  | [], _ :: _, h, _ => by cases h
  | _ :: _, [], h, _ => by cases h
  | j :: js, t :: ts, h, hd => by
    have h1 := List.cons.inj h
    have h2 := List.nodup_cons.mp hd
    refine List.nodup_cons.mpr ⟨pw_nm P j js h1.1.symm h1.2 (List.all_eq_true.mpr fun k hk => ?_), pw_nd P js h1.2 h2.2⟩
    have : j ≠ k := fun e => h2.1 (e ▸ hk)
    simpa using this
theorem disj_of : ∀ {ts : List Addr} {Z : List (Addr × Obj)}, ts.Nodup → (∀ p ∈ Z, p.1 ∉ ts) → DisjL ts Z
  | [], _, _, _ => trivial
  | a :: r, Z, hn, hz => ⟨fun q hq e => (List.nodup_cons.mp hn).1 (e ▸ hq), fun p hp e => hz p hp (e ▸ .head _), disj_of (List.nodup_cons.mp hn).2 fun p hp hm => hz p hp (.tail _ hm)⟩
theorem disj_pw {as : List Nat} (P : as.Pairwise (· < ·)) (js : List Nat) {ts : List Addr} {Z : List (Addr × Obj)} (ht : ts.map some = js.map (fun j => as[j]?)) (hd : js.Nodup) (hz : ∀ p ∈ Z, p.1 ∉ ts) : DisjL ts Z := disj_of (pw_nd P js ht hd) hz
theorem nm_ins {a c : Nat} : ∀ {l r : List Nat}, a ∉ l ++ r → a ≠ c → a ∉ l ++ c :: r
  | [], _, h, n, hm => by
    rcases List.mem_cons.mp hm with e | hm
    · exact n e
    · exact h hm
  | x :: l, r, h, n, hm => by
    rcases List.mem_cons.mp hm with e | hm
    · exact h (e ▸ .head _)
    · exact nm_ins (l := l) (fun q => h (.tail _ q)) n hm
theorem low_nm {a L : Nat} {ts : List Nat} (h : a < L) (ht : ∀ t ∈ ts, L < t) : a ∉ ts := fun hm => absurd (Nat.lt_trans h (ht a hm)) (Nat.lt_irrefl _)
end
section
namespace NU5
theorem hereU5 : True := trivial
end NU5
open NU5
noncomputable abbrev scS : Scope := fScope (sub (stA 7) 8)
noncomputable abbrev envS (L : Addr) : Env := envOfC (Str.ofString "C14NWriterTarget._start") scS L 126 (.ref 125)
theorem pq_look (L : Addr) : (cellsFrom (L + 1) scS.names []).lookup (Str.ofString "parse_qname") = some (L + 1 + 1) := by kernel_rfl!
theorem pq_kind (L : Addr) : (envS L).kindOf (Str.ofString "parse_qname") = some .cell := by kernel_rfl!
theorem fn_kind (L : Addr) : (envS L).scope.kind = .function := by kernel_rfl!
noncomputable abbrev stP : Stmt := nth (fBody (sub (stA 7) 8)) 6
set_option backward.match.sparseCases false in
noncomputable def dcOf : Stmt → Expr
  | .Assign _ e _ => e
  | _ => .Tuple [] 0 ⟨0, 0, 0, 0⟩
set_option backward.match.sparseCases false in
noncomputable def dcVal : Expr → Expr
  | .DictComp _ v _ _ _ => v
  | e => e
set_option backward.match.sparseCases false in
noncomputable def dcKey : Expr → Expr
  | .DictComp k _ _ _ _ => k
  | e => e
set_option backward.match.sparseCases false in
noncomputable def dcScope : Expr → Scope
  | .DictComp _ _ _ s _ => s
  | _ => ⟨.function, [], false, false, []⟩
noncomputable abbrev pcl (L : Addr) : List (Str × Addr) := [(Str.ofString "parse_qname", L + 1 + 1)]
theorem pq_clos (L : Addr) : closureFor (dcScope (dcOf stP)) (envS L) = pure (pcl L) := by kernel_rfl!
theorem pq_ckind (L C : Addr) : (compEnvC (dcScope (dcOf stP)) (pcl L) C (envS L)).kindOf (Str.ofString "parse_qname") = some .cell := by kernel_rfl!
theorem pq_sw (L : Addr) : ∃ kx vx px iter scope pos py spos, stP = .Assign [.Name (Str.ofString "parsed_qnames") py] (.DictComp kx vx [⟨.Name (Str.ofString "n") px, iter, [], 0⟩] scope pos) spos ∧
   swapsWith (.DictComp kx vx [⟨.Name (Str.ofString "n") px, iter, [], 0⟩] scope pos) (some (.Name (Str.ofString "parsed_qnames") py)) spos.line (envS L) = pure true ∧ (∀ x, foldedSetIterable iter (envS L) x = pure x) ∧ scope = dcScope (dcOf stP) ∧ iter = dcIter stP ∧ kx = dcKey (dcOf stP) ∧ vx = dcVal (dcOf stP) :=
  ⟨_, _, _, _, _, _, _, _, rfl, by kernel_rfl!, fun _ => by kernel_rfl!, rfl, rfl, rfl, rfl⟩
theorem pq_kx : ∃ p, dcKey (dcOf stP) = .Name (Str.ofString "n") p := ⟨_, rfl⟩
theorem pq_vx : ∃ p1 p2 p3, dcVal (dcOf stP) = .Call (.Name (Str.ofString "parse_qname") p1) [.Name (Str.ofString "n") p2] [] p3 := ⟨_, _, _, rfl⟩
section
open PySem.Calls PySem.Spec LCg
variable {w : World} {A : Around} {E : Value → Shared → Prop} {h₀ : Heap} {L : Addr} {m : Str → Option Value} {news : List (Addr × Obj)} {env : Env}
inductive PqSrc (w : World) (h₀ : Heap) (L : Addr) (m : Str → Option Value) (g : Array GenState) (os : OsState) (Q : Flow → Shared → Prop) (xv : Value) (s : Shared) : Prop
  | mk (ax : Addr) (t1 t2 : Tok) (n : Nat) (news : List (Addr × Obj)) (q x dx f dd ds dn dm dp l0 t0 : Addr) (ts : Nat → Tok) (seen done : Bool) (oc : Obj) (dsI : Array Value) (n1 : Nat) (h : Heap) (dr : Drawn) (tk : Tok) (g2 : Array GenState) (_ : xv = .ref ax)
    (_ : s = ⟨h, g2, dr, tk, os⟩)
    (_ : (AllBare g → AllBare g2))
    (_ : h₀.NoLimit)
    (_ : Fr h₀ L h m)
    (_ : News h₀ L h news)
    (_ : (ax, listOf #[.str (Str.ofString "k") t2, .str (Str.ofString "x") t1] n) ∈ news)
    (_ : (L + 1 + 1, oc) ∈ news)
    (_ : oc.data = .cell (some (.ref q)))
    (_ : (q, methodObj (.ref 90) (.ref x)) ∈ news)
    (_ : (x, instObj 150 dx) ∈ news)
    (_ : (dx, wrD w ts f dd ds dn dm dp seen done) ∈ news)
    (_ : StkZ news ds dsI n1 l0 t0)
    (_ : ∀ (D : Addr) (oD : Obj) (q1 q2 : Addr) (u1 u2 u3 u4 u5 u6 : Tok), AllLt D news → @LT.lt Nat _ D q1 → @LT.lt Nat _ q1 q2 → (D == sysModules) = false → oD.IsDictOf (strKind prg w) [(Str.ofString "k", .ref q1), (Str.ofString "x", .ref q2)] →
      ∀ h' g' dr' tk', (AllBare g → AllBare g') → Fr h₀ L h' (fun z => if z = Str.ofString "parsed_qnames" then some (.ref D) else m z) →
        News h₀ L h' ((D, oD) :: (q2, tup3 (.str (Str.ofString "x") u4) (.str (Str.ofString "x") u5) (.str (Str.ofString "") u6)) :: (q1, tup3 (.str (Str.ofString "k") u1) (.str (Str.ofString "k") u2) (.str (Str.ofString "") u3)) :: news) → Q .next ⟨h', g', dr', tk', os⟩) : PqSrc w h₀ L m g os Q xv s
end
theorem rowsU50 : True := by
  k_with "eval Name" => (fail_if_success fail_if_success have q := hereU5); (k_here; (with_reducible show wpAny _ _ (eval (Expr.Name (Str.ofString "parse_qname") _) (compEnvC _ _ _ _)) _ _ _); k_dflt (refine lcf_cell (by k_asm) rfl (by k_mem) (by with_reducible assumption) ?_ rfl (pq_ckind _ _)))
  trivial
theorem StkZ.mono {Z Z' : List (Addr × Obj)} {ds l0 t0 : Addr} {its : Array Value} {n : Nat} (S : StkZ Z ds its n l0 t0) (h : ∀ p ∈ Z, p ∈ Z') : StkZ Z' ds its n l0 t0 :=
  ⟨let ⟨a, b, c, e1, e2, e3⟩ := S.is; ⟨a, b, c, h _ e1, h _ e2, h _ e3⟩, S.pos, S.sz, S.at0, fun i h1 h2 => let ⟨a, k, e, hm⟩ := S.more i h1 h2; ⟨a, k, e, h _ hm⟩⟩
theorem rot4 {h₀ h : Heap} {L : Addr} {a b c q : Addr × Obj} {l : List (Addr × Obj)} (N : News h₀ L h (q :: a :: b :: c :: l)) : News h₀ L h (a :: b :: c :: q :: l) := fun p hp => N p (by
  rcases List.mem_cons.mp hp with rfl | hp
  · exact .tail _ (.head _)
  · rcases List.mem_cons.mp hp with rfl | hp
    · exact .tail _ (.tail _ (.head _))
    · rcases List.mem_cons.mp hp with rfl | hp
      · exact .tail _ (.tail _ (.tail _ (.head _)))
      · rcases List.mem_cons.mp hp with rfl | hp
        · exact .head _
        · exact .tail _ (.tail _ (.tail _ (.tail _ hp))))
theorem off_q {I C D q : Addr} {oI oC oD oq : Obj} {l : List (Addr × Obj)} (h : AllLt q ((C, oC) :: (D, oD) :: (I, oI) :: l)) (o : LCg.Off3 I C D l) : LCg.Off3 I C D ((q, oq) :: l) :=
  ⟨⟨Ne.symm (Nat.ne_of_lt h.2.2.1), Ne.symm (Nat.ne_of_lt h.1), Ne.symm (Nat.ne_of_lt h.2.1)⟩, o⟩
section
open LCg
theorem pq_assign {w : World} {A₀ : Around} {d u : Nat} {gd : Option (List Code)} {base h₀ : Heap} {outer : List Env} {L : Addr} {m : Str → Option Value} {mean : ExcName → Option Value} {mg mb : Str → Option Value} {g : Array GenState} {os : OsState} {s : Shared} {Q : Flow → Shared → Prop} {E : Value → Shared → Prop}
    (B : Below A₀ base outer h₀) (X : (K w.params).In h₀) (T : Top topProg LS mean mg mb h₀) (hd1 : d ≤ 685) (hu1 : u ≤ 325)
    (h : wpAny (model prg w) (Ar d u gd (envS L) outer) (eval (dcIter stP) (envS L)) (PqSrc w h₀ L m g os Q) E s) :
    wpAny (model prg w) (Ar d u gd (envS L) outer) (exec stP (envS L)) Q E s := by
  obtain ⟨kx, vx, px, iter, scope, pos, py, spos, e, sw, fs, rfl, rfl, rfl, rfl⟩ := pq_sw L
  rw [e]
  refine dcomp2 (h₀ := h₀) (L := L) (m := m) sw rfl (pq_clos L) (by decide +kernel) rfl (by decide +kernel) rfl rfl rfl fs (wpAny_mono h (fun xv s₁ hq => ?_) fun _ _ y => y)
  obtain ⟨ax, t1, t2, n, news, q, x, dx, f, dd, ds, dn, dm, dp, l0, t0, ts, seen, done, oc, dsI, n1, h1, dr, tk, g2, rfl, rfl, hb2, hnl, F, N, hax, hcm, hcd, hq, hx, hdx, hS, go⟩ := hq
  refine ⟨ax, _, _, n, news, rfl, rfl, hnl, F, N, hax, ?_⟩
  intro I C D oC oD oI h2 tk2 m₂ E' hlt hID hDC hlo hC hn hD hI F2 N2
  obtain ⟨p0, e0⟩ := pq_kx
  obtain ⟨p1, p2, p3, e1⟩ := pq_vx
  rw [e0, e1]
  have hrow : PySem.Challenge.rw_pe0292_01 = _ := rfl
  revert hrow X; k_fill; w_top on; intro X _
  with_reducible refine gen_tok tokV ?_
  intro tk0 htk0
  refine LCgL.ld_own (by k_asm) (.head _) (by with_reducible assumption) (by with_reducible assumption) ?_
  repeat ((fail_if_success (with_reducible show wpAny _ _ (call (Value.ref _) _ _) _ _ _)); (try dsimp only); walk1)
  refine call_meth (by k_asm) (by k_mem) ?_
  refine qname_k ⟨by k_asm, by k_asm, by k_asm, by k_asm, by k_asm, rfl, rfl, by kln_le, by kln_le⟩ (by kln_le) (by kln_le) (by k_mem) (by k_mem) (hS.mono (fun p hp => .tail _ (.tail _ (.tail _ hp)))) ?_
  intro q1 u1 u2 u3 lq h5 g5 dr5 tk5 hb5 F5 N5
  refine ⟨Str.ofString "k", t2, (q1, tup3 (.str (Str.ofString "k") u1) (.str (Str.ofString "k") u2) (.str (Str.ofString "") u3)) :: news, rfl, F5, rot4 N5, off_q lq (.of fun p hp => ⟨allLt_ne hlt p hp, Nat.ne_of_lt (Nat.lt_trans (Nat.lt_trans (allLt_mem hlt p hp) hID) hDC), Nat.ne_of_lt (Nat.lt_trans (allLt_mem hlt p hp) hID)⟩), .tail _ hax, ?_⟩
  intro oC6 oD6 oI6 h6 tk6 m6 hC6 hn6 hD6 hI6 F6 N6
  refine LCgL.ld_own (by k_asm) (.head _) (by with_reducible assumption) (by with_reducible assumption) ?_
  repeat ((fail_if_success (with_reducible show wpAny _ _ (call (Value.ref _) _ _) _ _ _)); (try dsimp only); walk1)
  refine call_meth (by k_asm) (by k_mem) ?_
  refine qname_x ⟨by k_asm, by k_asm, by k_asm, by k_asm, by k_asm, rfl, rfl, by kln_le, by kln_le⟩ (by kln_le) (by kln_le) (by k_mem) (by k_mem) (hS.mono (fun p hp => .tail _ (.tail _ (.tail _ (.tail _ hp))))) ?_
  intro q2 u4 u5 u6 lq2 h7 g7 dr7 tk7 hb7 F7 N7
  refine ⟨Str.ofString "x", t1, (q2, tup3 (.str (Str.ofString "x") u4) (.str (Str.ofString "x") u5) (.str (Str.ofString "") u6)) :: (q1, tup3 (.str (Str.ofString "k") u1) (.str (Str.ofString "k") u2) (.str (Str.ofString "") u3)) :: news, rfl, by decide, F7, rot4 N7, off_q lq2 (off_q lq (.of fun p hp => ⟨allLt_ne hlt p hp, Nat.ne_of_lt (Nat.lt_trans (Nat.lt_trans (allLt_mem hlt p hp) hID) hDC), Nat.ne_of_lt (Nat.lt_trans (allLt_mem hlt p hp) hID)⟩)), .tail _ (.tail _ hax), ?_⟩
  intro oD8 h8 tk8 hD8 F8 N8
  exact go D oD8 q1 q2 _ _ _ _ _ _ (allLt_of fun p hp => Nat.lt_trans (allLt_mem hlt p hp) hID) lq.2.1 lq2.2.2.2.1 hlo hD8 _ _ _ _ (fun hb => hb7 (hb5 (hb2 hb))) F8 N8
end
end
section
set_option backward.match.sparseCases false in
noncomputable def lamPos : Expr → Pos
  | .Lambda _ _ _ p => p
  | _ => ⟨0, 0, 0, 0⟩
noncomputable def KeyTab (ps : Array Value) (Z : List (Addr × Obj)) : Prop :=
  ps = #[] ∨ ∃ c' oc vs t, ps = #[rawInt (lamPos lamK).line, rawInt (lamPos lamK).col, .ref c'] ∧ (c', oc) ∈ Z ∧ oc.data = .fields vs ∧ vs[1]? = some (.str keyQ t)
theorem KeyTab.mono {ps : Array Value} {Z Z' : List (Addr × Obj)} (h : KeyTab ps Z) (hs : ∀ p ∈ Z, p ∈ Z') : KeyTab ps Z' := by
  rcases h with rfl | ⟨c', oc, vs, t, e, hm, r⟩
  · exact .inl rfl
  · exact .inr ⟨c', oc, vs, t, e, hs _ hm, r⟩
theorem lamK_dflt (L : Addr) : defaultsOf (lamPar lamK) (envS L) = ([], []) := by kernel_rfl!
theorem lamK_clos (L : Addr) : closureFor (lamScope lamK) (envS L) = pure [] := by kernel_rfl!
section
open PySem.Calls PySem.Spec
variable {w : World} {A : Around} {E : Value → Shared → Prop} {s : Shared} {h₀ : Heap} {L : Addr} {m mg mb : Str → Option Value} {mean : ExcName → Option Value} {led l1 Z : List (Addr × Obj)} {gT : List (Addr × Obj) → List (Addr × Obj)}
theorem store_pq {v : Value} {news : List (Addr × Obj)} {g : Obj → List (Addr × Obj)} {o : Obj} {v₀ : Option Value} {Q : Unit → Shared → Prop} (F : Fr h₀ L s.heap m) (N : News h₀ L s.heap news) (U : UpdF (L + 1 + 1) o news g) (hd : o.data = .cell v₀)
    (h : ∀ h' o', Fr h₀ L h' m → News h₀ L h' (g o') → o'.data = .cell (some v) → Q () { s with heap := h' }) : wpAny (model prg w) A (storeName (envS L) (Str.ofString "parse_qname") v) Q E s :=
  storeX_C (cn := Str.ofString "C14NWriterTarget._start") (cs := scS) (a := 126) (ccd := .ref 125) F N (pq_look L) U hd h (fn_kind L) (pq_kind L)
theorem TailF.size {g : List (Addr × Obj) → List (Addr × Obj)} {l : List (Addr × Obj)} (T : TailF Z l g) {Z' : List (Addr × Obj)} (P : Addr × Obj → Prop) (h1 : ∀ p ∈ l, P p) (h2 : ∀ p ∈ Z', P p) : ∀ p ∈ g Z', P p := by
  induction T with
  | nil => exact h2
  | cons _ ih =>
    intro p hp
    rcases List.mem_cons.mp hp with rfl | hp
    · exact h1 _ (.head _)
    · exact ih (fun q hq => h1 q (.tail _ hq)) p hp
theorem lam_key {params : Arguments} {body : Expr} {scope : Scope} {pos : Pos} {ps : Array Value} {Q : Value → Shared → Prop} (e : lamK = .Lambda params body scope pos) (F : Fr h₀ L s.heap m) (N : News h₀ L s.heap led) (T : Top topProg LS mean mg mb h₀) (C : CodeHd h₀ 125 123)
    (H : KeyTab ps Z) (p1 : Pick (123, tabObj ps) led l1) (tl : TailF Z l1 gT) (hn : ∀ p ∈ l1, p.1 ≠ 123)
    (h : ∀ f c' oc vs t pm ctv ps' Z' h' tk, Up led Z Z' → (c', oc) ∈ Z' → oc.data = .fields vs → vs[1]? = some (.str keyQ t) → KeyTab ps' Z' → Fr h₀ L h' m → News h₀ L h' ((f, keyO pm ctv c') :: (123, tabObj ps') :: gT Z') → (∀ p ∈ (123, tabObj ps') :: gT Z', p.1 < f) → Q (.ref f) { s with heap := h', toks := tk }) :
    wpAny (model prg w) A (eval (.Lambda params body scope pos) (envS L)) Q E s := by
  have e1 : params = lamPar lamK := by rw [e]; rfl
  have e2 : body = lamBody lamK := by rw [e]; rfl
  have e3 : scope = lamScope lamK := by rw [e]; rfl
  have e4 : pos = lamPos lamK := by rw [e]; rfl
  have N1 : News h₀ L s.heap ((123, tabObj ps) :: l1) := fun p hp => N p (p1.sub p hp)
  clear e
  subst e1 e2 e3 e4
  refine kla_eval (lamK_dflt L) ?_
  have hlt : ∀ p ∈ led, p.1 < s.heap.objs.size := fun p hp => Heap.lt_size (N p hp).1
  rcases H with rfl | ⟨c', oc, vs, t, rfl, hm, hd, hv⟩
  · refine kla_nest (cn := Str.ofString "C14NWriterTarget._start") (cs := scS) (a := 126) (ccd := .ref 125) F N1 T C rfl (UpdF.head hn) trivial rfl (lamK_clos L) fun f c' oc vs t ctv h' tk F' N' hd hv hlc hcf => ?_
    have lc : ∀ r ∈ led, r.1 < c' := fun r hr => by
      have : ∀ x ∈ led, x ∈ (123, tabObj #[]) :: l1 := fun x hx => p1.inv x hx
      exact hlc r (this r hr)
    have hU : Up led Z ((c', oc) :: Z) := Up.one lc
    refine h f c' oc vs t ((mg "__name__").getD .none) ctv _ ((c', oc) :: Z) h' tk hU (.head _) hd hv (.inr ⟨c', oc, vs, t, rfl, .head _, hd, hv⟩) F' (fun p hp => ?_) (fun p hp => ?_)
    · rcases List.mem_cons.mp hp with rfl | hp
      · exact N' _ (.head _)
      · rcases List.mem_cons.mp hp with rfl | hp
        · exact N' _ (.tail _ (.tail _ (.head _)))
        · rcases tl.one p hp with rfl | hp
          · exact N' _ (.tail _ (.head _))
          · exact N' _ (.tail _ (.tail _ (.tail _ hp)))
    · rcases List.mem_cons.mp hp with rfl | hp
      · exact Nat.lt_trans (hlc (123, tabObj #[]) (.head _)) hcf
      · rcases tl.one p hp with rfl | hp
        · exact hcf
        · exact Nat.lt_trans (hlc p (.tail _ hp)) hcf
  · refine kla_hit (c' := c') (cn := Str.ofString "C14NWriterTarget._start") (cs := scS) (a := 126) (ccd := .ref 125) F N1 T C rfl (.head _) trivial (by simp [codeAmong, rawInt]) (lamK_clos L) fun f ctv h' tk F' N' hlf => ?_
    have eq : l1 = gT Z := tl.eq
    refine h f c' oc vs t ((mg "__name__").getD .none) ctv _ Z h' tk (Up.refl _ _) hm hd hv (.inr ⟨c', oc, vs, t, rfl, hm, hd, hv⟩) F' (by rw [← eq]; exact N') (by rw [← eq]; exact hlf)
theorem pq_assignL {kx vx iter : Expr} {px py : Pos} {scope : Scope} {pos spos : Pos} {x y : Str} {A₀ : Around} {d u : Nat} {gd : Option (List Code)} {base : Heap} {outer : List Env} {g : Array GenState} {h1 : Heap} {dr : Drawn} {tk : Tok} {os : OsState} {Q : Flow → Shared → Prop}
    (e : stP = .Assign [.Name y py] (.DictComp kx vx [⟨.Name x px, iter, [], 0⟩] scope pos) spos)
    (_F : Fr h₀ L h1 m) (B : Below A₀ base outer h₀) (X : (K w.params).In h₀) (T : Top topProg LS mean mg mb h₀) (hd1 : d ≤ 685) (hu1 : u ≤ 325)
    (h : wpAny (model prg w) (Ar d u gd (envS L) outer) (eval iter (envS L)) (PqSrc w h₀ L m g os Q) E ⟨h1, g, dr, tk, os⟩) :
    wpAny (model prg w) (Ar d u gd (envS L) outer) (exec (.Assign [.Name y py] (.DictComp kx vx [⟨.Name x px, iter, [], 0⟩] scope pos) spos) (envS L)) Q E ⟨h1, g, dr, tk, os⟩ := by
  have e1 : dcIter stP = iter := by rw [e]; rfl
  rw [← e]
  exact pq_assign B X T hd1 hu1 (by rw [e1]; exact h)
end
end
section
section
open PySem.Calls PySem.Spec
variable {w : World} {A : Around} {E : Value → Shared → Prop} {s : Shared} {h₀ : Heap} {m : Str → Option Value} {news : List (Addr × Obj)} {env : Env}
noncomputable def OneEnd (h₀ : Heap) (L : Addr) (ax I : Addr) (a1 : Value) (n : Nat) (oI : Obj) (Q : Flow → Shared → Prop) (f : Flow) (s : Shared) : Prop :=
  f = .next ∧ ∃ news m, Fr h₀ L s.heap m ∧ News h₀ L s.heap ((I, oI) :: news) ∧ (∀ p ∈ news, p.1 ≠ I) ∧ (ax, listOf #[a1] n) ∈ news ∧ ∀ h', Fr h₀ L h' m → News h₀ L h' news → Q .next { s with heap := h' }
inductive OneSrc (w : World) (A : Around) (E : Value → Shared → Prop) (h₀ : Heap) (env : Env) (target : Expr) (body : List Stmt) (Q : Flow → Shared → Prop) (xv : Value) (s : Shared) : Prop
  | mk (ax) (a1) (n) (news) (m) (_ : xv = .ref ax)
    (_ : A.handled = none)
    (_ : Fr h₀ env.locals s.heap m)
    (_ : News h₀ env.locals s.heap news)
    (_ : (ax, listOf #[a1] n) ∈ news)
    (_ : ∀ I oI h, (∀ p ∈ news, p.1 < I) → ItAt oI ax 1 → Fr h₀ env.locals h m → News h₀ env.locals h ((I, oI) :: news) →
      wpAny (model prg w) A (assign target env a1) (fun _ s₂ => wpAny (model prg w) A (execs body env) (OneEnd h₀ env.locals ax I a1 n oI Q) E s₂) E { s with heap := h }) : OneSrc w A E h₀ env target body Q xv s
theorem For_one1 {iter target : Expr} {body : List Stmt} {pos : Pos} {Q : Flow → Shared → Prop} (_F : Fr h₀ env.locals s.heap m)
    (h : wpAny (model prg w) A (eval iter env) (OneSrc w A E h₀ env target body Q) E s)
    (hs : ∀ x, foldedSetIterable iter env x = pure x := by intro _; rfl)
    (hE : PassesOwn (model prg w) A env E := by passes_own) :
    wpAny (model prg w) A (exec (.For target iter body [] pos) env) Q E s := by
  refine wpAny_For (wpAny_mono h (fun xv s₁ h₁ => ?_) fun _ _ e => e) hs
  obtain ⟨ax, a1, n, nz, m2, rfl, hh, F, N, hax, go⟩ := h₁
  refine wpAny_pyIter_list (News.isList N hax) ?_
  have F1 := F.push ({ cls := .type "list_iterator", data := .fields #[.ref ax, .int 0 0] } : Obj)
  have N1 := News.push F N ({ cls := .type "list_iterator", data := .fields #[.ref ax, .int 0 0] } : Obj) rfl
  have hlt : ∀ p ∈ nz, p.1 < s₁.heap.objs.size := fun p hp => Heap.lt_size (N p hp).1
  have nI : ∀ p ∈ nz, p.1 ≠ s₁.heap.objs.size := fun p hp => Nat.ne_of_lt (hlt p hp)
  refine codeAny_forLoop_any (R := fun r s' => match r with | .ok f => Q f s' | .error e => cameBackBy (model prg w) A env E e s')
    (fun k s' => (k = 1 ∧ s' = { s₁ with heap := s₁.heap.push ({ cls := .type "list_iterator", data := .fields #[.ref ax, .int 0 0] } : Obj) }) ∨ (k = 0 ∧ ∃ oI, ItAt oI ax 1 ∧ OneEnd h₀ env.locals ax s₁.heap.objs.size a1 n oI Q .next s')) ?_ 1 (.inl ⟨rfl, rfl⟩)
  rintro k s' (⟨rfl, rfl⟩ | ⟨rfl, oI, hI, -, nz', m', F', N', off, hax', fin⟩)
  · refine next_K F1 N1 (UpdF.head nI) ⟨rfl, rfl⟩ (.tail _ hax) rfl fun h4 oI4 F4 N4 hit4 => ?_
    refine letGo_listiter (I := s₁.heap.objs.size) (t := ax) (i := 1) ⟨oI4, (N4 _ (.head _)).1, hit4.c, hit4.d⟩ ?_
    refine wpAny_mono (go _ oI4 h4 hlt hit4 F4 N4) (fun _ s₃ h₃ => wpAny_mono (wpAny_passesOwn hE h₃) (fun f s₄ h₄ => ?_) fun _ _ e => e) hE
    have h4' := h₄
    obtain ⟨rfl, -⟩ := h4'
    exact ⟨0, by decide, .inr ⟨rfl, oI4, hit4, h₄⟩⟩
  · exact next_end hh F' N' off hI hax' rfl fun h' F2 N2 => wpAny_execs_nil (fin h' F2 N2)
end
end
section
theorem oneD_is {w : World} {k : Str} {t : Tok} {v : Value} {en : Nat} : (oneD w k t v en).IsDictOf (strKind prg w) [(k, v)] := by
  have e : ((default : Heap).push (oneD w k t v en)).get? (default : Heap).objs.size = some (oneD w k t v en) := Heap.get?_push_size _ rfl
  obtain ⟨o, ho, hd⟩ := Heap.dictOf_iff.mp (oneD_at e).dictOf
  rw [e] at ho
  exact (Option.some.inj ho) ▸ hd
section
open PySem.Calls PySem.Spec
variable {w : World} {A : Around} {E : Value → Shared → Prop} {s : Shared} {h₀ : Heap} {L : Addr} {m : Str → Option Value} {news : List (Addr × Obj)}
theorem sort1 {a : Addr} {y : Value} {n : Nat} {Q : Value → Shared → Prop} (F : Fr h₀ L s.heap m) (N : News h₀ L s.heap ((a, listOf #[y] n) :: news)) (off : ∀ p ∈ news, p.1 ≠ a)
    (h : ∀ h' c, Fr h₀ L h' m → News h₀ L h' ((a, listOf #[y] c) :: news) → Q .none { s with heap := h' }) : wpAny (model prg w) A (call (.builtin "list.sort") [.ref a]) Q E s := by
  have nz := N _ (.head _)
  have haL := nz.2.1
  have ha0 := nz.2.2
  have ho := nz.1
  have N0 : News h₀ L s.heap news := fun p hp => N p (.tail _ hp)
  refine wpAny_call_entry slot_list_sort ⟨_, ho, rfl⟩ entry_list_sort ?_ (args_list_sort _)
  have s1 := Heap.SameBut.update s.heap a (Obj.mapSeq fun _ => (#[] : Array Value))
  obtain ⟨e1, ho1⟩ : ∃ e1, (s.heap.update a (Obj.mapSeq fun _ => (#[] : Array Value))).get? a = some (seqObj "list" #[] e1) := ⟨_, get?_update_seq ho fun _ => #[]⟩
  have F3 : Fr h₀ L (((s.heap.update a (Obj.mapSeq fun _ => (#[] : Array Value))).push (seqObj "tuple" #[y].toList.toArray 0)).push (seqObj "list" #[] 0)) m := ((kas_fr F s1 haL ha0).push _).push _
  have N2 : News h₀ L (((s.heap.update a (Obj.mapSeq fun _ => (#[] : Array Value))).push (seqObj "tuple" #[y].toList.toArray 0)).push (seqObj "list" #[] 0)) news :=
    (kas_news N0 s1 off).grown fun b x e => Heap.get?_push_of_some _ (Heap.get?_push_of_some _ e)
  have ho3 : (((s.heap.update a (Obj.mapSeq fun _ => (#[] : Array Value))).push (seqObj "tuple" #[y].toList.toArray 0)).push (seqObj "list" #[] 0)).get? a = some (seqObj "list" #[] e1) := Heap.get?_push_of_some _ (Heap.get?_push_of_some _ ho1)
  rw [list_sort_plain]
  refine wpAny_bind (listItems_at ho rfl ?_)
  refine wpAny_bind (listUpdate_at ho rfl ?_ (show 1 ≤ sizeLine by decide) (Nat.zero_le _))
  refine wpAny_bind (seqEpoch_at ho1 rfl ?_)
  refine wpAny_bind (wpAny_newTuple ?_ (by show 1 ≤ _; decide))
  refine wpAny_bind (wpAny_newList ?_ (Nat.zero_le _))
  refine wpAny_holding ?_
  show wpAny (model prg w) _ _ _ _ { s with heap := ((s.heap.update a (Obj.mapSeq fun _ => (#[] : Array Value))).push (seqObj "tuple" #[y].toList.toArray 0)).push (seqObj "list" #[] 0) }
  (try dsimp only)
  have h2 : #[y].size < 2 := by show 1 < 2; decide
  rw [if_pos h2, if_pos h2]
  refine wpAny_bind (wpAny_pure ?_)
  refine wpAny_bind (wpAny_pure ?_)
  (try dsimp only)
  have s2 := Heap.SameBut.update (((s.heap.update a (Obj.mapSeq fun _ => (#[] : Array Value))).push (seqObj "tuple" #[y].toList.toArray 0)).push (seqObj "list" #[] 0)) a (Obj.mapSeq fun _ => #[y])
  obtain ⟨c2, hc2⟩ : ∃ c2, ((((s.heap.update a (Obj.mapSeq fun _ => (#[] : Array Value))).push (seqObj "tuple" #[y].toList.toArray 0)).push (seqObj "list" #[] 0)).update a (Obj.mapSeq fun _ => #[y])).get? a = some (seqObj "list" #[y] c2) := ⟨_, get?_update_seq ho3 fun _ => #[y]⟩
  have hout : (arrOf (SortSt.mk' general' (#[y].zip #[y]) #[] 7 none)).map (·.2) = #[y] := by
    show (#[y].zip #[y]).map (·.2) = #[y]
    apply Array.toList_inj.mp
    simp
  rw [hout]
  refine wpAny_bind (seqEpoch_at ho3 rfl ?_)
  refine wpAny_bind (listUpdate_at ho3 rfl ?_ (Nat.zero_le _) (show 1 ≤ sizeLine + 1 by decide))
  simp only [bne_self_eq_false, Bool.false_eq_true, if_false]
  refine wpAny_pure ⟨_, rfl, h _ c2 (kas_fr F3 s2 haL ha0) fun p hp => ?_⟩
  rcases List.mem_cons.mp hp with rfl | hp
  · exact ⟨hc2, haL, ha0⟩
  · exact kas_news N2 s2 off p hp
theorem items1 {ad : Addr} {k : Str} {t : Tok} {v : Value} {Q : Value → Shared → Prop} (F : Fr h₀ L s.heap m) (N : News h₀ L s.heap news) {en : Nat} (hm : (ad, oneD w k t v en) ∈ news) (lo : (ad == sysModules) = false)
    (h : ∀ (D : Addr) h', Fr h₀ L h' m → News h₀ L h' ((D, ({ cls := .type "dict_items", data := .fields #[.ref ad] } : Obj)) :: news) → (∀ q ∈ news, q.1 < D) → Q (.ref D) { s with heap := h' }) :
    wpAny (model prg w) A (call (.builtin "dict.items") [.ref ad]) Q E s := kdx_view (knd := strKind prg w) (kvs := [(k, v)]) F N hm oneD_is lo h
theorem items_m {ad : Addr} {k : Str} {t : Tok} {v : Value} {pl : Sem Bool} {Q : Value × List Value → Shared → Prop} (N : News h₀ L s.heap news) {en : Nat} (hm : (ad, oneD w k t v en) ∈ news) (h : Q (.builtin "dict.items", [.ref ad]) s) :
    wpAny (model prg w) A (getMethod (.ref ad) (Str.ofString "items") pl) Q E s := kdl_method (knd := strKind prg w) PySem.F.slot_dict_items PySem.F.type_dict_items N hm oneD_is h
theorem sorted1 {v ad : Addr} {k : Str} {t : Tok} {x : Value} {Q : Value → Shared → Prop} (hh : A.handled = none) (F : Fr h₀ L s.heap m) (N : News h₀ L s.heap news) (hv : (v, ({ cls := .type "dict_items", data := .fields #[.ref ad] } : Obj)) ∈ news) {en : Nat} (hm : (ad, oneD w k t x en) ∈ news)
    (h : ∀ a B t' c h' tk, (∀ q ∈ news, q.1 < a) → @LT.lt Nat _ a B → Fr h₀ L h' m → News h₀ L h' ((B, listOf #[.ref a] c) :: (a, ({ cls := .type "tuple", data := .seq #[.str k t', x] } : Obj)) :: news) → Q (.ref B) { s with heap := h', toks := tk }) :
    wpAny (model prg w) A (call (.builtin "sorted") [.ref v]) Q E s := by
  refine kdx_sortedN (knd := strKind prg w) (enc := PyData.str) (kvs := [(k, x)]) (ps := [((fun t => Value.str k t), x)]) hh F N hv hm oneD_is (Nat.le_of_ble_eq_true rfl) (fun _ _ h => Value.isStrOf_shape h) rfl fun lo l0 => ?_
  refine KdxOpen.cons fun a t' b1 b2 b3 => KdxOpen.nil fun B h' tk l9 F' N' => ?_
  have hB : @LT.lt Nat _ a B := l9 (a, _) (.head _)
  refine sort1 (n := 0) F' N' (fun p hp => Nat.ne_of_lt (l9 p hp)) fun h'' c F2 N2 => ?_
  exact h a B t' c h'' tk b2 hB F2 N2
theorem get_none {ad : Addr} {k x : Str} {t u : Tok} {v : Value} {Q : Value → Shared → Prop} (N : News h₀ L s.heap news) {en : Nat} (hm : (ad, oneD w k t v en) ∈ news) (lo : (ad == sysModules) = false) (hne : k ≠ x) (h : Q .none { s with toks := s.toks + 1 }) :
    wpAny (model prg w) A (call (.builtin "dict.get") [.ref ad, .str x u]) Q E s := by
  have hD : s.heap.DictOf (strKind prg w) ad [(k, v)] := (oneD_at (N _ hm).1).dictOf
  refine call_meetsIn PySem.F.slot_dict_get hD.typeIs PySem.F.entry_dict_get (PySem.F.args_dict_get_2 _ _) (meets_dict_get (strKind prg w) ad (k := x) (strKind_is prg w x u) lo) ⟨_, hD.mapOf, ?_⟩
  have e : valueAt [(k, v)] x = none := by unfold valueAt; rw [List.find?_cons_of_neg (by simpa using hne)]; rfl
  show Q ((valueAt [(k, v)] x).getD .none) _
  rw [e]; exact h
theorem get_m {ad : Addr} {k : Str} {t : Tok} {v : Value} {pl : Sem Bool} {Q : Value × List Value → Shared → Prop} (N : News h₀ L s.heap news) {en : Nat} (hm : (ad, oneD w k t v en) ∈ news) (h : Q (.builtin "dict.get", [.ref ad]) s) :
    wpAny (model prg w) A (getMethod (.ref ad) (Str.ofString "get") pl) Q E s := kdl_method (knd := strKind prg w) PySem.F.slot_dict_get PySem.F.type_dict_get N hm oneD_is h
theorem item_last {value slice : Expr} {l : Addr} {p : Array Value} {y : Value} {n : Nat} {k : Int} {u : Tok} {Q : Value → Shared → Prop} (N : News h₀ L s.heap news) (hm : (l, listOf (p.push y) n) ∈ news) (hk : k = -1) (hz : p.size ≤ 1000) (h : Q y s)
    (hs : subscripted slice false (.ref l) (.int k u) = operate [.ref l, .int k u] (getItem (.ref l) (.int k u)) := by with_unfolding_all rfl) : wpAny (model prg w) A (subscriptTail value slice (.ref l) (.int k u)) Q E s := by
  subst hk
  have hl := News.isList N hm
  have e : (-1 + ((p.push y).size : Int)).toNat = p.size := by rw [Array.size_push]; kln_le
  refine tail_any hl.typeIs slot_list_getitem.lookup (wpAny_getItem_list_neg hl (by decide) (by rw [Array.size_push]; kln_le) (by decide) ?_ h) hs
  rw [e, Array.getElem?_push_size]
end
end
section
namespace NU9
theorem hereU9 : True := trivial
end NU9
open NU9
noncomputable abbrev attrS (v : Str) : Str := Str.empty ++ Str.ofString " " ++ Str.ofString "k" ++ Str.ofString "=\"" ++ escA v ++ Str.ofString "\""
set_option backward.match.sparseCases false in
noncomputable def ifBody : Stmt → List Stmt
  | .If _ b _ _ => b
  | _ => []
set_option backward.match.sparseCases false in
noncomputable def exprOf : Stmt → Expr
  | .Expr e _ => e
  | _ => .Tuple [] 0 ⟨0, 0, 0, 0⟩
set_option backward.match.sparseCases false in
noncomputable def arg0 : Expr → Expr
  | .Call _ (e :: _) _ _ => e
  | e => e
noncomputable abbrev lcE : Expr := arg0 (arg0 (exprOf (nth (ifBody (nth (fBody (sub (stA 7) 8)) 13)) 0)))
set_option backward.match.sparseCases false in
noncomputable def lcScope : Expr → Scope
  | .ListComp _ _ s _ => s
  | _ => ⟨.function, [], false, false, []⟩
set_option backward.match.sparseCases false in
noncomputable def lcElt : Expr → Expr
  | .ListComp e _ _ _ => e
  | e => e
theorem lc_clos (L : Addr) : closureFor (lcScope lcE) (envS L) = pure [] := by kernel_rfl!
theorem lc_form (L : Addr) : ∃ px px₂ tk tp pi scope pos elt, lcE = .ListComp elt [⟨.Tuple [.Name (Str.ofString "k") px, .Name (Str.ofString "v") px₂] tk tp, .Name (Str.ofString "attr_list") pi, [], 0⟩] scope pos ∧ (∀ x, foldedSetIterable (.Name (Str.ofString "attr_list") pi) (envS L) x = pure x) ∧ scope = lcScope lcE ∧ elt = lcElt lcE :=
  ⟨_, _, _, _, _, _, _, _, rfl, fun _ => by kernel_rfl!, rfl, rfl⟩
theorem al_kind (L : Addr) : (envS L).kindOf (Str.ofString "attr_list") = some .local := by kernel_rfl!
theorem lc_elt : ∃ a b c d e f g h i j k l p, lcElt lcE = .JoinedStr [.Constant (.str (Str.ofString " ")) a b, .FormattedValue (.Name (Str.ofString "k") c) (-1) none d, .Constant (.str (Str.ofString "=\"")) e f, .FormattedValue (.Call (.Name (Str.ofString "_escape_attrib_c14n") g) [.Name (Str.ofString "v") h] [] i) (-1) none j, .Constant (.str (Str.ofString "\"")) k l] p := ⟨_, _, _, _, _, _, _, _, _, _, _, _, _, rfl⟩
theorem rowsU90 : True := by
  k_with "call ref" => (fail_if_success fail_if_success have q := hereU9); (k_here; (try dsimp only [List.nil_append, List.cons_append]); k_dflt (refine wpAny_call ?_; refine esca_keep ⟨by k_asm, by k_asm, by k_asm, by k_asm, by k_asm, rfl, rfl, by kln_le, by kln_le⟩ (by with_reducible assumption) ?_); intro tt'ₓ h'ₓ tk'ₓ F'ₓ N'ₓ)
  trivial
theorem off1_mem {D : Addr} : ∀ {l : List (Addr × Obj)}, LCg.Off1 D l → ∀ p ∈ l, p.1 ≠ D
  | [], _, _, h => nomatch h
  | _ :: _, x, p, h => by
    rcases List.mem_cons.mp h with rfl | h
    · exact x.1
    · exact off1_mem x.2 p h
theorem join_one (x : Str) : Txt.join (Str.ofString "") [x] = x := by first | rfl | (simp [Txt.join]; done) | (apply Str.ext'; simp [Txt.join, Str.cps_append])
section
open PySem.Calls PySem.Spec
theorem join1 {w : World} {A : Around} {E : Value → Shared → Prop} {s : Shared} {h₀ : Heap} {L D : Addr} {news : List (Addr × Obj)} {x : Str} {t tj : Tok} {Q : Value → Shared → Prop} (N : News h₀ L s.heap news) (hm : (D, LCg.lst [.str x t]) ∈ news) (hx : x.length ≤ 1000)
    (h : ∀ t' k, Q (.str x t') { s with toks := k }) : wpAny (model prg w) A (call (.builtin "str.join") [.str (Str.ofString "") tj, .ref D]) Q E s := by
  have hok' : JoinOk (Str.ofString "") ([(x, t)].map (·.1)) = true := joinOk_of (by
    have : (Str.ofString "").length = 0 := by decide
    rw [this, Nat.mul_zero]
    show ([x].map (·.length)).sum + 0 ≤ _
    simp
    kln_le)
  unfold JoinOk at hok'
  rw [Bool.not_eq_true'] at hok'
  have hl : s.heap.IsList D (strValues [(x, t)]).toArray := ⟨_, (N _ hm).1, rfl, _, rfl⟩
  have h' : ∀ t' k, Q (.str (Txt.join (Str.ofString "") ([(x, t)].map (·.1))) t') { s with toks := k } := fun t' k => by
    show Q (.str (Txt.join (Str.ofString "") [x]) t') _
    rw [join_one]; exact h t' k
  exact call_meets PySem.F.slot_str_join (typeIs_str _ _ _) PySem.F.entry_str_join (PySem.F.args_str_join_2 _ _) (meets_str_join_list (Str.ofString "") tj D [(x, t)] hok') ⟨hl, post_join [(x, t)] ⟨joinFit_length hok', h'⟩⟩
end
section
open PySem.Calls PySem.Spec LCg
theorem attr_comp {w : World} {A₀ : Around} {d u : Nat} {gd : Option (List Code)} {base h₀ : Heap} {outer : List Env} {L : Addr} {m : Str → Option Value} {mean : ExcName → Option Value} {mg mb : Str → Option Value} {s : Shared} {news : List (Addr × Obj)} {Q : Value → Shared → Prop} {E : Value → Shared → Prop} {al tp : Addr} {n : Nat} {t1 t2 : Tok} {val : Str} {E1 : Expr}
    (el : lcE = E1) (B : Below A₀ base outer h₀) (X : (K w.params).In h₀) (T : Top topProg LS mean mg mb h₀) (hd1 : d ≤ 685) (hu1 : u ≤ 325)
    (F : Fr h₀ L s.heap m) (N : News h₀ L s.heap news) (hm : m (Str.ofString "attr_list") = some (.ref al)) {its : Array Value} (hal : (al, listOf its n) ∈ news) (hits : its = #[.ref tp]) (htp : (tp, ({ cls := .type "tuple", data := .seq #[.str (Str.ofString "k") t1, .str val t2] } : Obj)) ∈ news) (hvl : val.length ≤ 50) (hal2 : (attrS val).length ≤ 1000)
    (hQ : ∀ D h tk t, Fr h₀ L h m → News h₀ L h ((D, lst [.str (attrS val) t]) :: news) → (∀ p ∈ news, p.1 ≠ D) → Q (.ref D) { s with heap := h, toks := tk }) :
    wpAny (model prg w) (Ar d u gd (envS L) outer) (eval E1 (envS L)) Q E s := by
  subst el
  subst hits
  obtain ⟨px, px₂, tk, tpp, pi, scope, pos, elt, e, fs, rfl, rfl⟩ := lc_form L
  rw [e]
  refine LCp.ListComp_P F (lc_clos L) (by decide +kernel) rfl (by decide +kernel) rfl rfl (by decide) ?_ fs
  refine nameX_L (cn := Str.ofString "C14NWriterTarget._start") (cs := scS) (a := 126) (ccd := .ref 125) F hm ?_ (fn_kind L) (al_kind L)
  refine LCp.SrcLP.ledger rfl F N hal (show 1 ≤ sizeLine by decide) fun g => ?_
  show LCp.CompRestP _ _ _ _ _ _ _ _ _ _ _ _ _ _ _ _ (0 + 1) _ _ _
  refine LCp.CompRestP.succ fun v hv => ?_
  have ev : v = .ref tp := (Option.some.inj (show some (Value.ref tp) = some v from hv)).symm
  subst ev
  refine ⟨tp, _, _, _, _, rfl, htp, rfl, rfl, ?_⟩
  intro I oI C oC D m₂ h tk E' hC hx hy F' N' off ne
  obtain ⟨a1, a2, a3, a4, a5, a6, a7, a8, a9, a10, a11, a12, a13, ee⟩ := lc_elt
  rw [ee]
  have hrow : PySem.Challenge.rw_pe0292_01 = _ := rfl
  revert hrow X; k_fill; w_top on; intro X _
  k_steps
  (try dsimp +zetaDelta only)
  have hs0 : 1000 ≤ sizeLine := by decide
  have hla : ∀ a b : Str, (a ++ b).length = a.length + b.length := fun a b => by simp [Str.length, Str.cps_append]
  have h3 : (attrS val).length ≤ sizeLine := Nat.le_trans hal2 hs0
  have h2 : (Str.empty ++ Str.ofString " " ++ Str.ofString "k" ++ Str.ofString "=\"" ++ escA val).length ≤ sizeLine := by rw [hla] at h3; exact Nat.le_trans (Nat.le_add_right _ _) h3
  have h1 : (escA val).length ≤ sizeLine := by rw [hla] at h2; exact Nat.le_trans (Nat.le_add_left _ _) h2
  refine formatField_str (hsz := h1) ?_
  intro t5 k5
  (try dsimp only)
  refine ⟨h2, ?_⟩
  k_steps
  refine CompEnd.intro (by k_asm) (by k_asm) news (fun p hp => hp) off (.inr ⟨_, hal, rfl, _, rfl⟩) ?_
  exact LCp.CompRestP.zero fun D' h6 tk6 F6 N6 o6 => hQ D' h6 tk6 _ F6 N6 (off1_mem o6)
end
end
section
namespace NV9
theorem hereV9 : True := trivial
end NV9
open NV9
theorem rowsV90 : True := by
  k_with "call ref" => (fail_if_success fail_if_success have q := hereV9); (k_here; (try dsimp only [List.nil_append, List.cons_append]); k_dflt (refine wpAny_call ?_; first | (refine escc_y ⟨by k_asm, by k_asm, by k_asm, by k_asm, by k_asm, rfl, rfl, by k_units, by k_units⟩ (by kln_le) ?_) | ((with_reducible show codeAny _ _ (Code.call _ ⟨[Value.str (Str.ofString "\n") _], _⟩) _ _); refine write_nl ⟨by k_asm, by k_asm, by k_asm, by k_asm, by k_asm, rfl, rfl, by k_units, by k_units⟩ (by k_units) (by k_units) (by k_asm) (by k_upd) (by k_upd) (by k_upd) (by k_ne) (by k_all) (by kln_le) (by k_asm) (by k_asm) (by k_asm) (by first | with_reducible assumption | assumption | rfl) (by k_upd) (fun P'ₓ ok'ₓ => ?_)) | (refine write_z ⟨by k_asm, by k_asm, by k_asm, by k_asm, by k_asm, rfl, rfl, by k_units, by k_units⟩ (by k_units) (by k_units) (by k_asm) (by k_upd) (by k_upd) (by k_upd) (by k_ne) (by k_all) (by kln_le) (by k_asm) (by k_asm) (by first | with_reducible assumption | assumption | decide) (by k_asm) (by first | with_reducible assumption | assumption | rfl) (by k_upd) (fun hds'ₓ n'ₓ Z'ₓ U'ₓ H'ₓ P'ₓ s'ₓ => ⟨fun ok'ₓ => ?_, fun ok'ₓ => ?_⟩)) | (refine flush_z ⟨by k_asm, by k_asm, by k_asm, by k_asm, by k_asm, rfl, rfl, by k_units, by k_units⟩ (by k_units) (by k_units) (by k_asm) (by k_upd) (by k_upd) (by k_upd) (by k_upd) (by k_mem) (by k_mem) (by k_ne) (by k_ne) (by k_ne) (by k_all) (by k_all) (by kln_le) (by kln_le) (by k_asm) (by k_asm) (by k_asm) (by k_asm) (by k_asm) (by k_asm) (by k_asm) (by first | with_reducible assumption | assumption | rfl) (by k_upd) (fun n'ₓ hds'ₓ n2'ₓ Z'ₓ U'ₓ H'ₓ P'ₓ s'ₓ => ⟨fun ok'ₓ => ?_, fun ok'ₓ => ?_⟩))))
  trivial
noncomputable abbrev stT : List Stmt := List.drop 7 (fBody (sub (stA 7) 8))
noncomputable abbrev mTail (D dr0 qs nl ad : Addr) (t1 : Tok) : Str → Option Value := fun y => if y = Str.ofString "parsed_qnames" then some (.ref D) else if y = Str.ofString "qattrs" then some .none else if y = Str.ofString "resolved_names" then some (.ref dr0) else if y = Str.ofString "qnames" then some (.ref qs) else if y = Str.ofString "qname_text" then some .none else if y = Str.ofString "new_namespaces" then some (.ref nl) else if y = Str.ofString "attrs" then some (.ref ad) else if y = Str.ofString "tag" then some (.str (Str.ofString "x") t1) else none
theorem truth_list {w : World} {A : Around} {E : Value → Shared → Prop} {s : Shared} {h₀ : Heap} {L r : Addr} {news : List (Addr × Obj)} {its : Array Value} {n : Nat} {Q : Bool → Shared → Prop} (b : Bool) (N : News h₀ L s.heap news) (hm : (r, listOf its n) ∈ news) (hb : (!its.isEmpty) = b) (hz : its.size ≤ 1000) (h : Q b { s with toks := s.toks + 1 + 1 }) : wpAny (model prg w) A (truthy (.ref r)) Q E s :=
  wpAny_truthy_list (News.isList N hm) (by kln_le) (hb ▸ h)
theorem truth_oneD {w : World} {A : Around} {E : Value → Shared → Prop} {s : Shared} {h₀ : Heap} {L r : Addr} {news : List (Addr × Obj)} {k : Str} {t : Tok} {v : Value} {Q : Bool → Shared → Prop} (N : News h₀ L s.heap news) {en : Nat} (hm : (r, oneD w k t v en) ∈ news) (hlo : (r == sysModules) = false) (h : Q true { s with toks := s.toks + 1 + 1 }) : wpAny (model prg w) A (truthy (.ref r)) Q E s :=
  wpAny_truthy_dict (knd := strKind prg w) (kvs := [(k, v)]) hlo (oneD_at (N _ hm).1).dictOf (by show (1 : Int) < 2 ^ 63; decide) h
theorem rowsV91 : True := by
  k_with "truthy ref" => (fail_if_success fail_if_success have q := hereV9); (k_here; k_dflt (first | (refine truth_list true (by k_asm) (by kat_tups) (by exact rfl) (by first | exact Nat.zero_le _ | exact Nat.le_of_ble_eq_true rfl) ?_) | (refine truth_list false (by k_asm) (by kat_tups) (by exact rfl) (by first | exact Nat.zero_le _ | exact Nat.le_of_ble_eq_true rfl) ?_) | (refine truth_oneD (by k_asm) (by kat_tups) (by with_reducible assumption) ?_)))
  k_with "exec For Tuple Call cons nil" => (fail_if_success fail_if_success have q := hereV9); (k_here; k_dflt (refine For_one1 (by k_asm) (hE := by with_reducible assumption) ?_))
  k_with "getMethod ref" => (fail_if_success fail_if_success have q := hereV9); (k_here; (with_reducible show wpAny _ _ (getMethod (Value.ref _) (Str.ofString "items") _) _ _ _); k_dflt (refine items_m (by k_asm) (by kat_tups) ?_))
  k_with "call builtin:dict.items" => (fail_if_success fail_if_success have q := hereV9); (k_here; k_dflt (refine items1 (by k_asm) (by k_asm) (by kat_tups) (by with_reducible assumption) ?_); intro D'ₓ h'ₓ F'ₓ N'ₓ l1ₓ; (try k_lt l1ₓ))
  k_with "call builtin:sorted" => (fail_if_success fail_if_success have q := hereV9); (k_here; (try dsimp only [List.nil_append, List.cons_append]); k_dflt (refine sorted1 rfl (by k_asm) (by k_asm) (by kat_tups) (by kat_tups) ?_); intro a'ₓ B'ₓ t'ₓ c'ₓ h'ₓ tk'ₓ l1ₓ l2ₓ F'ₓ N'ₓ; (try k_lt l1ₓ))
  k_with "OneSrc" => (fail_if_success fail_if_success have q := hereV9); (k_here; k_dflt (refine ⟨_, _, _, _, _, rfl, rfl, by k_asm, by k_asm, by kat_tups, ?_⟩); intro I'ₓ oI'ₓ h'ₓ l1ₓ hI'ₓ F'ₓ N'ₓ; (try k_lt l1ₓ))
  k_with "subscriptTail Name Name ref str" => (fail_if_success fail_if_success have q := hereV9); (k_here; k_dflt (refine dget (by k_asm) (by kat_tups) (by with_reducible assumption) (by exact rfl) ?_; k_whole))
  k_with "assign Tuple" => (fail_if_success fail_if_success have q := hereV9); (k_here; k_dflt (refine unpackN_ (by k_asm) (by k_asm) (News.isTup (by k_asm) (by kat_tups)) (by exact rfl) (by exact rfl) (by exact rfl) ?_); intro h'ₓ F'ₓ N'ₓ; (try k_sweep))
  k_with "getMethod ref" => (fail_if_success fail_if_success have q := hereV9); (k_here; (with_reducible show wpAny _ _ (getMethod (Value.ref _) (Str.ofString "append") _) _ _ _); k_dflt (refine kl_method (by k_asm) (by kat_tups) PySem.F.slot_list_append PySem.F.type_list_append ?_))
  trivial
theorem oneEnd_of {h₀ : Heap} {L ax I : Addr} {a1 : Value} {n : Nat} {oI : Obj} {Q : Flow → Shared → Prop} {s : Shared} {cur rest : List (Addr × Obj)} {m : Str → Option Value} (F : Fr h₀ L s.heap m) (N : News h₀ L s.heap cur) (p : Pick (I, oI) cur rest) (off : ∀ p ∈ rest, p.1 ≠ I) (hm : (ax, listOf #[a1] n) ∈ rest)
    (h : ∀ h', Fr h₀ L h' m → News h₀ L h' rest → Q .next { s with heap := h' }) : OneEnd h₀ L ax I a1 n oI Q .next s := ⟨rfl, rest, m, F, news1 N p, off, hm, h⟩
theorem rowsV92 : True := by
  k_with "OneEnd" => (fail_if_success fail_if_success have q := hereV9); (k_here; k_dflt (refine oneEnd_of (by k_asm) (by k_asm) (by k_upd) (by k_all) (by kat_tups) ?_); intro h'ₓ F'ₓ N'ₓ)
  k_with "getMethod ref" => (fail_if_success fail_if_success have q := hereV9); (k_here; (with_reducible show wpAny _ _ (getMethod (Value.ref _) (Str.ofString "get") _) _ _ _); k_dflt (refine get_m (by k_asm) (by kat_tups) ?_))
  k_with "call builtin:dict.get" => (fail_if_success fail_if_success have q := hereV9); (k_here; (try dsimp only [List.nil_append, List.cons_append]); k_dflt (refine get_none (by k_asm) (by kat_tups) (by with_reducible assumption) (by decide +kernel) ?_))
  trivial
theorem self_look (L : Addr) : (cellsFrom (L + 1) scS.names []).lookup (Str.ofString "self") = some (L + 1) := by kernel_rfl!
theorem self_kind (L : Addr) : (envS L).kindOf (Str.ofString "self") = some .cell := by kernel_rfl!
theorem name_self {w : World} {A : Around} {E : Value → Shared → Prop} {s : Shared} {h₀ : Heap} {L : Addr} {news : List (Addr × Obj)} {o : Obj} {v : Value} {pos : Pos} {Q : Value → Shared → Prop} (N : News h₀ L s.heap news) (hm : (L + 1, o) ∈ news) (hd : o.data = .cell (some v)) (h : Q v s) :
    wpAny (model prg w) A (eval (.Name (Str.ofString "self") pos) (envS L)) Q E s :=
  nameX_C (cn := Str.ofString "C14NWriterTarget._start") (cs := scS) (a := 126) (ccd := .ref 125) N (self_look L) hm hd h (fn_kind L) (self_kind L)
section
variable {led l1 l2 Z : List (Addr × Obj)}
    {R : Result → Shared → Prop} {f x l cl : Addr} {tn tv : Tok} {its : Array Value} {n n2 : Nat} {nm v : Str} {gT : List (Addr × Obj) → List (Addr × Obj)}
theorem rowsV93 : True := by
  k_with "eval Name" => (fail_if_success fail_if_success have q := hereV9); (k_here; (with_reducible show wpAny _ _ (eval (Expr.Name (Str.ofString "self") _) _) _ _ _); k_dflt (refine name_self (by k_asm) (by kat_tups) (by with_reducible assumption) ?_))
  k_with "subscriptTail" => (fail_if_success fail_if_success have q := hereV9); (k_here; (with_reducible show wpAny _ _ (subscriptTail _ (Expr.UnaryOp _ _ _) _ _) _ _ _); k_dflt (refine item_last (by k_asm) (by kat_tups) (by exact rfl) (by with_reducible assumption) ?_))
  k_with "subscriptTail Attribute Name UnaryOp ref int" => (fail_if_success fail_if_success have q := hereV9); (k_here; k_dflt (refine item_last (by k_asm) (by kat_tups) (by exact rfl) (by with_reducible assumption) ?_))
  k_with "subscriptTail Subscript Name Name Constant ref int" => (fail_if_success fail_if_success have q := hereV9); (k_here; k_dflt (refine item_tupleT (News.isTup (by k_asm) (by kat_tups)) (by decide) (by decide) (by exact rfl) (by exact rfl) ?_; k_whole))
  trivial
theorem write_ok (cx : Cy w A₀ base h₀ outer env L m mean mg mb h led d u) (hd1 : d ≤ 740) (hu1 : u ≤ 380)
    (hz : HandZ w Z f x l cl) (p1 : Pick (l, listOf its n) led l1) (p2 : Pick (cl, listOf #[.str nm tn] n2) l1 l2) (tl : TailF Z l2 gT) (hlc : cl ≠ l) (hl : ∀ p ∈ l2, p.1 ≠ l) (hlen : its.size ≤ 1000)
    (hnm : nBad nm = false) (hnl : nm.length ≤ 2 ^ 63 - 1) (hvl : v.length ≤ 1000) (hv : vBad v = false)
    {led0 Z0 : List (Addr × Obj)} {hds0 : Array Value} {vs : List Str} (r : Ran nm led0 Z0 hds0 (vs, true) its Z) (hk : ∀ r ∈ led0, ∃ o, (r.1, o) ∈ led)
    (hF : ∀ its' n' Z', Up led Z Z' → HandZ w Z' f x l cl → Ran nm led0 Z0 hds0 (vs ++ [v], true) its' Z' → its'.size ≤ its.size + 1 → BackY g os h₀ L m ((l, listOf its' n') :: (cl, listOf #[.str nm tn] n2) :: gT Z') .none R) :
    codeAny (model prg w) (Ar d u gd env outer) (.call (.ref f) ⟨[.str v tv], []⟩) R ⟨h, g, dr, tk, os⟩ := by
  have e : seqP (vs, true) (writeP v) = (vs ++ [v], true) := by unfold seqP writeP; rw [if_pos rfl, if_neg (by rw [hv]; exact Bool.false_ne_true)]
  refine write_z cx hd1 hu1 hz p1 p2 tl hlc hl hlen hnm hnl hvl r rfl hk fun its' n' Z' U H P' s => ?_
  rw [e] at P' ⊢
  exact ⟨fun _ => hF its' n' Z' U H P' s, fun q => nomatch q⟩
end
theorem ltx_len : (Str.ofString "<" ++ Str.ofString "x").length ≤ 1000 := by decide
theorem ltx_ok : vBad (Str.ofString "<" ++ Str.ofString "x") = false := by decide +kernel
theorem gt_len : (Str.ofString ">").length ≤ 1000 := by decide
theorem gt_ok : vBad (Str.ofString ">") = false := by decide +kernel
theorem rowsV94 : True := by
  k_with "call ref" => (fail_if_success fail_if_success have q := hereV9); (k_here; (try dsimp only [List.nil_append, List.cons_append]); k_dflt (refine wpAny_call ?_; refine write_ok ⟨by k_asm, by k_asm, by k_asm, by k_asm, by k_asm, rfl, rfl, by kln_le, by kln_le⟩ (by kln_le) (by kln_le) (by k_asm) (by k_upd) (by k_upd) (by k_upd) (by k_ne) (by k_all) (by kln_le) (by with_reducible assumption) (by with_reducible assumption) (by first | exact ltx_len | exact gt_len | with_reducible assumption) (by first | exact ltx_ok | exact gt_ok | with_reducible assumption) (by with_reducible assumption) (by kas_types) (fun hds'ₓ n'ₓ Z'ₓ U'ₓ H'ₓ P'ₓ s'ₓ => ?_)); intro h'ₓ g'ₓ dr'ₓ tk'ₓ hb'ₓ F'ₓ N'ₓ)
  k_with "eval ListComp" => (fail_if_success fail_if_success have q := hereV9); (k_here; k_dflt (refine attr_comp (by kernel_rfl!) (by k_asm) (by k_asm) (by k_asm) (by kln_le) (by kln_le) (by k_asm) (by k_asm) (by exact rfl) (by kat_tups) (by exact rfl) (by kat_tups) (by with_reducible assumption) (by with_reducible assumption) ?_); intro D'ₓ h'ₓ tk'ₓ t'ₓ F'ₓ N'ₓ off'ₓ; simp only [List.forall_mem_cons] at off'ₓ; obtain ⟨o1', o2', o3', o4', o5', o6', o7', o8', o9', o10', o11', o12'⟩ := off'ₓ)
  k_with "call builtin:str.join" => (fail_if_success fail_if_success have q := hereV9); (k_here; (try dsimp only [List.nil_append, List.cons_append]); k_dflt (refine join1 (by k_asm) (by kat_tups) (by with_reducible assumption) ?_); intro t'ₓ k'ₓ)
  k_with "setAttr ref" => (fail_if_success fail_if_success have q := hereV9); (k_here; (with_reducible show wpAny _ _ (setAttr (Value.ref _) (Str.ofString "_root_seen") _) _ _ _); k_dflt (refine set_rs (by k_asm) (by k_asm) (by k_asm) (by kat_tups) (by k_upd) (by k_is) (by k_is) (by k_is) (by k_is) ?_); intro h'ₓ F'ₓ N'ₓ; (try k_sweep))
  trivial
theorem start_tail {w : World} {A₀ : Around} {d u : Nat} {gd : Option (List Code)} {base h₀ : Heap} {outer : List Env} {L : Addr} {mean : ExcName → Option Value} {mg mb : Str → Option Value} {h : Heap} {g : Array GenState} {dr : Drawn} {tk : Tok} {os : OsState} {Z : List (Addr × Obj)} {Q : Flow → Shared → Prop} {E : Value → Shared → Prop}
    {stmts : List Stmt} {D dr0 qs nl ad q1 q2 x dx f dd ds dn dm dp xt l cl : Addr} {ts : Nat → Tok} {seen done : Bool} {hds nsI pI : Array Value} {n n2 n3 n4 n5 : Nat} {nm val : Str} {tn t1 tv tk2 : Tok} {u1 u2 u3 u4 u5 u6 : Tok} {ps : Array Value} {vp : Value} {oD o2 oe1 oe2 : Obj} {e1 e2 : Addr}
    (es : stT = stmts) (B : Below A₀ base outer h₀) (X : (K w.params).In h₀) (T : Top topProg LS mean mg mb h₀) (hd : d ≤ 685) (hu : u ≤ 325) (hE : PassesOwn (model prg w) (Ar d u gd (envS L) outer) (envS L) E)
    (F : Fr h₀ L h (mTail D dr0 qs nl ad t1)) (N : News h₀ L h ((123, tabObj ps) :: (dx, wrD w ts f dd ds dn dm dp seen done) :: (dp, listOf (pI.push vp) n) :: (dn, listOf nsI n4) :: (l, listOf hds n2) :: (cl, listOf #[.str nm tn] n3) :: (e1, oe1) :: (e2, oe2) :: Z))
    (hoD : oD.IsDictOf (strKind prg w) [(Str.ofString "k", .ref q1), (Str.ofString "x", .ref q2)]) (hlo : (D == sysModules) = false) (hDm : (D, oD) ∈ Z)
    (hq1 : (q1, tup3 (.str (Str.ofString "k") u1) (.str (Str.ofString "k") u2) (.str (Str.ofString "") u3)) ∈ Z) (hq2 : (q2, tup3 (.str (Str.ofString "x") u4) (.str (Str.ofString "x") u5) (.str (Str.ofString "") u6)) ∈ Z)
    (hc : (L + 1, o2) ∈ Z) (hc2 : o2.data = .cell (some (.ref x))) (hx : (x, instObj 150 dx) ∈ Z) (hz : HandZ w Z f xt l cl) {en : Nat} (hda : (ad, oneD w (Str.ofString "k") tk2 (.str val tv) en) ∈ Z) (hla : (ad == sysModules) = false) (hnl : (nl, listOf #[] n5) ∈ Z)
    {led0 Z0 : List (Addr × Obj)} (U0 : Up led0 Z0 Z) (hD0 : DisjL [123, l, cl, dx, dp, dn, e1, e2] Z0) (hk0 : ∀ t ∈ [123, l, cl, dx, dp, dn, e1, e2], ∃ o, (t, o) ∈ led0) (hlen2 : hds.size ≤ 980) (hln : nsI.size ≤ 1000) (hlp : pI.size ≤ 1000) (hvl : val.length ≤ 50) (hva : vBad (attrS val) = false) (hal : (attrS val).length ≤ 1000) (hnm : nBad nm = false) (hnl2 : nm.length ≤ 2 ^ 63 - 1)
    (hQ : Up led0 Z0 Z → ∀ n' n4' hds' n2' Z' ln m' h' g' dr' tk', (AllBare g → AllBare g') → HandZ w Z' f xt l cl → Ran nm ((123, tabObj ps) :: (dx, wrD w ts f dd ds dn dm dp seen done) :: (dp, listOf (pI.push vp) n) :: (dn, listOf nsI n4) :: (l, listOf hds n2) :: (cl, listOf #[.str nm tn] n3) :: (e1, oe1) :: (e2, oe2) :: Z) Z hds ([Str.ofString "<" ++ Str.ofString "x", attrS val, Str.ofString ">"], true) hds' Z' → Fr h₀ L h' m' → News h₀ L h' ((123, tabObj ps) :: (dx, wrD w ts f dd ds dn dm dp true done) :: (dp, listOf ((pI.push vp).push vp) n') :: (dn, listOf (nsI.push ln) n4') :: (l, listOf hds' n2') :: (cl, listOf #[.str nm tn] n3) :: (e1, oe1) :: (e2, oe2) :: Z') → Q .next ⟨h', g', dr', tk', os⟩) :
    wpAny (model prg w) (Ar d u gd (envS L) outer) (execs stmts (envS L)) Q E ⟨h, g, dr, tk, os⟩ := by
  subst es
  replace hQ := hQ U0
  have hD := DisjL.up U0 hD0 hk0
  clear U0 hk0 hD0
  have r0 := Ran.start nm ((123, tabObj ps) :: (dx, wrD w ts f dd ds dn dm dp seen done) :: (dp, listOf (pI.push vp) n) :: (dn, listOf nsI n4) :: (l, listOf hds n2) :: (cl, listOf #[.str nm tn] n3) :: (e1, oe1) :: (e2, oe2) :: Z) Z hds
  have dj0_1 : (123 : Addr) ≠ l := hD.ne 0 1 rfl rfl rfl
  have dj0_2 : (123 : Addr) ≠ cl := hD.ne 0 2 rfl rfl rfl
  have dj0_3 : (123 : Addr) ≠ dx := hD.ne 0 3 rfl rfl rfl
  have dj0_4 : (123 : Addr) ≠ dp := hD.ne 0 4 rfl rfl rfl
  have dj0_5 : (123 : Addr) ≠ dn := hD.ne 0 5 rfl rfl rfl
  have dj0_6 : (123 : Addr) ≠ e1 := hD.ne 0 6 rfl rfl rfl
  have dj0_7 : (123 : Addr) ≠ e2 := hD.ne 0 7 rfl rfl rfl
  have dj1_2 : l ≠ cl := hD.ne 1 2 rfl rfl rfl
  have dj1_3 : l ≠ dx := hD.ne 1 3 rfl rfl rfl
  have dj1_4 : l ≠ dp := hD.ne 1 4 rfl rfl rfl
  have dj1_5 : l ≠ dn := hD.ne 1 5 rfl rfl rfl
  have dj1_6 : l ≠ e1 := hD.ne 1 6 rfl rfl rfl
  have dj1_7 : l ≠ e2 := hD.ne 1 7 rfl rfl rfl
  have dj2_3 : cl ≠ dx := hD.ne 2 3 rfl rfl rfl
  have dj2_4 : cl ≠ dp := hD.ne 2 4 rfl rfl rfl
  have dj2_5 : cl ≠ dn := hD.ne 2 5 rfl rfl rfl
  have dj2_6 : cl ≠ e1 := hD.ne 2 6 rfl rfl rfl
  have dj2_7 : cl ≠ e2 := hD.ne 2 7 rfl rfl rfl
  have dj3_4 : dx ≠ dp := hD.ne 3 4 rfl rfl rfl
  have dj3_5 : dx ≠ dn := hD.ne 3 5 rfl rfl rfl
  have dj3_6 : dx ≠ e1 := hD.ne 3 6 rfl rfl rfl
  have dj3_7 : dx ≠ e2 := hD.ne 3 7 rfl rfl rfl
  have dj4_5 : dp ≠ dn := hD.ne 4 5 rfl rfl rfl
  have dj4_6 : dp ≠ e1 := hD.ne 4 6 rfl rfl rfl
  have dj4_7 : dp ≠ e2 := hD.ne 4 7 rfl rfl rfl
  have dj5_6 : dn ≠ e1 := hD.ne 5 6 rfl rfl rfl
  have dj5_7 : dn ≠ e2 := hD.ne 5 7 rfl rfl rfl
  have dj6_7 : e1 ≠ e2 := hD.ne 6 7 rfl rfl rfl
  have dz0 : ∀ p ∈ Z, p.1 ≠ (123 : Addr) := hD.nz 0 rfl
  have dz1 : ∀ p ∈ Z, p.1 ≠ l := hD.nz 1 rfl
  have dz2 : ∀ p ∈ Z, p.1 ≠ cl := hD.nz 2 rfl
  have dz3 : ∀ p ∈ Z, p.1 ≠ dx := hD.nz 3 rfl
  have dz4 : ∀ p ∈ Z, p.1 ≠ dp := hD.nz 4 rfl
  have dz5 : ∀ p ∈ Z, p.1 ≠ dn := hD.nz 5 rfl
  have dz6 : ∀ p ∈ Z, p.1 ≠ e1 := hD.nz 6 rfl
  have dz7 : ∀ p ∈ Z, p.1 ≠ e2 := hD.nz 7 rfl
  have hrow : PySem.Challenge.rw_pe0292_01 = _ := rfl
  revert hrow X; k_fill; w_top on; intro X _
  with_reducible refine gen_tok tokV ?_
  intro tk0 htk0
  k_steps
  exact hQ _ _ _ _ _ _ _ _ _ _ _ (fun hb => by solve_by_elim) (by k_asm) (by k_asm) (by k_asm) (news_sub (by k_asm) (by ktu_offI))
end
section
namespace NV6
theorem hereV6 : True := trivial
end NV6
open NV6
section
open PySem.Calls PySem.Spec
variable {w : World} {A : Around} {E : Value → Shared → Prop} {s : Shared} {h₀ : Heap} {L : Addr} {m : Str → Option Value} {news : List (Addr × Obj)}
theorem rowsV60 : True := by
  k_with "call ref" => (fail_if_success fail_if_success have q := hereV6); (k_here; (try dsimp only [List.nil_append, List.cons_append]); k_dflt (refine wpAny_call ?_; first | (refine escc_y ⟨by k_asm, by k_asm, by k_asm, by k_asm, by k_asm, rfl, rfl, by k_units, by k_units⟩ (by kln_le) ?_) | ((with_reducible show codeAny _ _ (Code.call _ ⟨[Value.str (Str.ofString "\n") _], _⟩) _ _); refine write_nl ⟨by k_asm, by k_asm, by k_asm, by k_asm, by k_asm, rfl, rfl, by k_units, by k_units⟩ (by k_units) (by k_units) (by k_asm) (by k_upd) (by k_upd) (by k_upd) (by k_ne) (by k_all) (by kln_le) (by k_asm) (by k_asm) (by k_asm) (by first | with_reducible assumption | assumption | rfl) (by k_upd) (fun P'ₓ ok'ₓ => ?_)) | (refine write_z ⟨by k_asm, by k_asm, by k_asm, by k_asm, by k_asm, rfl, rfl, by k_units, by k_units⟩ (by k_units) (by k_units) (by k_asm) (by k_upd) (by k_upd) (by k_upd) (by k_ne) (by k_all) (by kln_le) (by k_asm) (by k_asm) (by first | with_reducible assumption | assumption | decide) (by k_asm) (by first | with_reducible assumption | assumption | rfl) (by k_upd) (fun hds'ₓ n'ₓ Z'ₓ U'ₓ H'ₓ P'ₓ s'ₓ => ⟨fun ok'ₓ => ?_, fun ok'ₓ => ?_⟩)) | (refine flush_z ⟨by k_asm, by k_asm, by k_asm, by k_asm, by k_asm, rfl, rfl, by k_units, by k_units⟩ (by k_units) (by k_units) (by k_asm) (by k_upd) (by k_upd) (by k_upd) (by k_upd) (by k_mem) (by k_mem) (by k_ne) (by k_ne) (by k_ne) (by k_all) (by k_all) (by kln_le) (by kln_le) (by k_asm) (by k_asm) (by k_asm) (by k_asm) (by k_asm) (by k_asm) (by k_asm) (by first | with_reducible assumption | assumption | rfl) (by k_upd) (fun n'ₓ hds'ₓ n2'ₓ Z'ₓ U'ₓ H'ₓ P'ₓ s'ₓ => ⟨fun ok'ₓ => ?_, fun ok'ₓ => ?_⟩))))
  trivial
theorem addY {D : Addr} {o : Obj} {vs : List Value} {k : Str} {u : Tok} {Q : Bool → Shared → Prop} {g : Obj → List (Addr × Obj)} (F : Fr h₀ L s.heap m) (N : News h₀ L s.heap news) (U : UpdF D o news g) (H : SetL w o vs) (hl : vs.length ≤ 3) (hnew : ∀ v ∈ vs, (strKind prg w).is k v = false)
    (h : ∀ h' o', Fr h₀ L h' m → News h₀ L h' (g o') → SetL w o' (vs ++ [.str k u]) → Q true { s with heap := h', toks := s.toks + 1 }) : wpAny (model prg w) A (setAdd D (.str k u)) Q E s := by
  obtain ⟨pre, post, rfl, hg, a, b⟩ := U.split
  have nD := N (D, o) (List.mem_append_right _ (.head _))
  exact setL_add nD.1 H hl hnew fun h' o' hs ho' H' => h h' o' (F.change hs nD.2.1 nD.2.2) (by rw [hg]; exact N.setIn a b hs ho') H'
theorem ne_mem {Z : List (Addr × Obj)} {a d : Addr} {o : Obj} (hm : (a, o) ∈ Z) (h : ∀ p ∈ Z, p.1 ≠ d) : a ≠ d := h _ hm
theorem new_kx {t : Tok} : ∀ v ∈ ([] ++ [Value.str (Str.ofString "x") t] : List Value), (strKind prg w).is (Str.ofString "k") v = false := fun v hv => by
  rw [List.mem_singleton.mp hv]; rfl
end
theorem allLt_ne2 {q : Addr} {Z : List (Addr × Obj)} (h : AllLt q Z) : ∀ p ∈ Z, p.1 ≠ q + 1 + 1 := fun p hp e => by
  have h1 : @LT.lt Nat _ p.1 q := allLt_mem h p hp
  have h2 : @Eq Nat p.1 (q + 1 + 1) := e
  kln_le
theorem rowsV61 : True := by
  k_with "k_all" => (fail_if_success fail_if_success have q := hereV6); first | exact allLt_ne2 (by with_reducible assumption)
  k_with "eval Set" => (fail_if_success fail_if_success have q := hereV6); (k_here; k_dflt (refine' starSet_eval (K' := K _) (by k_asm) (by k_asm) (by k_asm) (by first | k_is | kernel_rfl!) (by rfl) ?_); intro d'ₓ h'ₓ led'ₓ F'ₓ N'ₓ l1ₓ hs'ₓ; (try k_lt l1ₓ))
  k_with "setAdd str" => (fail_if_success fail_if_success have q := hereV6); (k_here; k_dflt (refine' addY (by k_asm) (by k_asm) (by k_updF) (by k_asm) (by decide) (by exact fun _ h => nomatch h) ?_); intro h'ₓ o'ₓ F'ₓ N'ₓ hs'ₓ; (try dsimp only at N'ₓ))
  k_with "setDisplayStar" => (fail_if_success fail_if_success have q := hereV6); (k_here; k_dflt (refine' starD (by exact rfl) (by k_asm) (by k_asm) (by k_updF) (by k_asm) (by exact Nat.le_refl _) (by k_mem) (by exact ne_mem (by with_reducible assumption) (by k_all)) (by k_asm) (by exact new_kx) ?_); intro h'ₓ tk'ₓ o'ₓ t'ₓ F'ₓ N'ₓ hs'ₓ; (try dsimp only at N'ₓ))
  k_with "storeName" => (fail_if_success fail_if_success have q := hereV6); (k_here; (with_reducible show wpAny _ _ (storeName _ (Str.ofString "parse_qname") _) _ _ _); refine store_pq (by k_asm) (by k_asm) (by k_updF) (by with_reducible assumption) ?_; intro h'ₓ o'ₓ F'ₓ N'ₓ d'ₓ; (try dsimp only at N'ₓ))
  k_with "exec Assign cons DictComp" => (fail_if_success fail_if_success have q := hereV6); (k_here; k_dflt (refine pq_assignL (by kernel_rfl!) (by k_asm) (by k_asm) (by k_asm) (by k_asm) (by k_units) (by k_units) ?_))
  k_with "eval Lambda" => (fail_if_success fail_if_success have q := hereV6); (k_here; k_dflt (refine lam_key (by kernel_rfl!) (by k_asm) (by k_asm) (by k_asm) (CodeHd.keeps (by assumption) (Below.stays (by assumption))) (by with_reducible assumption) (by k_upd) (by k_upd) (by k_all) ?_); intro f'ₓ c'ₓ oc'ₓ vs'ₓ t'ₓ pm'ₓ ct'ₓ ps'ₓ Z'ₓ h'ₓ tk'ₓ U'ₓ hc1'ₓ hc2'ₓ hc3'ₓ K'ₓ F'ₓ N'ₓ l1ₓ; (try k_lt l1ₓ))
  k_with "call builtin:sorted" => (fail_if_success fail_if_success have q := hereV6); (k_here; ksk_kw; k_dflt (show wpAny _ _ (call (Value.builtin _) [Value.ref _] [(PySem.Str.ofString "key", Value.ref _)]) _ _ _); k_dflt (refine sort_kx ⟨by k_asm, by k_asm, by k_asm, by k_asm, by k_asm, rfl, rfl, by kln_le, by kln_le⟩ (by kln_le) (by kln_le) (by k_mem) (by k_mem) (by with_reducible assumption) (by with_reducible assumption) (by k_mem) (by assumption) ?_); intro D'ₓ e'ₓ l1ₓ h'ₓ g'ₓ dr'ₓ tk'ₓ hb'ₓ F'ₓ N'ₓ; (try k_lt l1ₓ))
  trivial
theorem hold_it {G : Prop} (h : G ∨ False) : G := h.elim id False.elim
theorem rowsV62 : True := by
  k_with "PqSrc" => (fail_if_success fail_if_success have q := hereV6); (k_here; k_dflt (refine ⟨_, _, _, _, _, _, _, _, _, _, _, _, _, _, _, _, _, _, _, _, _, _, _, _, _, _, rfl, rfl, (fun hbₓ => by solve_by_elim), Top.nolimit (by k_asm), by k_asm, by k_asm, by k_mem, by k_mem, by with_reducible assumption, by k_mem, by k_mem, by k_mem, StkB.at (by with_reducible assumption) (by k_mem) (fun pₓ hpₓ => by k_mem), ?_⟩); intro D'ₓ oD'ₓ q1'ₓ q2'ₓ u1'ₓ u2'ₓ u3'ₓ u4'ₓ u5'ₓ u6'ₓ l1ₓ l2ₓ l3ₓ lo'ₓ hd'ₓ h'ₓ g'ₓ dr'ₓ tk'ₓ hb'ₓ F'ₓ N'ₓ; (try simp only [AllLt, and_true] at l1ₓ); k_dflt (replace l2ₓ : @LT.lt Nat _ _ _ := l2ₓ); k_dflt (replace l3ₓ : @LT.lt Nat _ _ _ := l3ₓ); refine hold_it ?_)
  k_with "truthy ref" => (fail_if_success fail_if_success have q := hereV6); (k_here; k_dflt (refine' truth_match (by exact News.get (by k_asm) (by kat_tups)) ?_))
  trivial
theorem Up.consL {led Z Z' : List (Addr × Obj)} {q L : Addr} {o : Obj} (U : Up led Z Z') (hL : ∀ r ∈ led, r.1 < L) (h : @LT.lt Nat _ L q) : Up led Z ((q, o) :: Z') := ⟨fun p hp => .tail _ (U.sub p hp), fun p hp => by
  rcases List.mem_cons.mp hp with rfl | hp
  · exact .inr fun r hr => Nat.lt_trans (hL r hr) h
  · exact U.new p hp⟩
theorem news8 {h₀ h : Heap} {L : Addr} {a b c d e f e1 e2 : Addr × Obj} {l l1 l2 l3 l4 l5 l6 l7 l8 : List (Addr × Obj)} (N : News h₀ L h l) (p1 : Pick a l l1) (p2 : Pick b l1 l2) (p3 : Pick c l2 l3) (p4 : Pick d l3 l4) (p5 : Pick e l4 l5) (p6 : Pick f l5 l6) (p7 : Pick e1 l6 l7) (p8 : Pick e2 l7 l8) : News h₀ L h (a :: b :: c :: d :: e :: f :: e1 :: e2 :: l8) := fun q hq => by
  rcases List.mem_cons.mp hq with rfl | hq
  · exact N _ (p1.sub _ (.head _))
  · rcases List.mem_cons.mp hq with rfl | hq
    · exact N _ (p1.rest _ (p2.sub _ (.head _)))
    · rcases List.mem_cons.mp hq with rfl | hq
      · exact N _ (p1.rest _ (p2.rest _ (p3.sub _ (.head _))))
      · rcases List.mem_cons.mp hq with rfl | hq
        · exact N _ (p1.rest _ (p2.rest _ (p3.rest _ (p4.sub _ (.head _)))))
        · exact news4 (fun x hx => N x (p1.rest x (p2.rest x (p3.rest x (p4.rest x hx))))) p5 p6 p7 p8 q hq
theorem lt8 {q a b c d e f e1 e2 : Addr} {o1 o2 o3 o4 o5 o6 o7 o8 : Obj} {Z Z0 : List (Addr × Obj)} (h : @LT.lt Nat _ a q ∧ @LT.lt Nat _ b q ∧ @LT.lt Nat _ c q ∧ @LT.lt Nat _ d q ∧ @LT.lt Nat _ e q ∧ @LT.lt Nat _ f q ∧ @LT.lt Nat _ e1 q ∧ @LT.lt Nat _ e2 q ∧ AllLt q Z) (hs : ∀ p ∈ Z0, p ∈ Z) :
    ∀ r ∈ ((a, o1) :: (b, o2) :: (c, o3) :: (d, o4) :: (e, o5) :: (f, o6) :: (e1, o7) :: (e2, o8) :: Z0 : List (Addr × Obj)), r.1 < q :=
  List.forall_mem_cons.mpr ⟨h.1, List.forall_mem_cons.mpr ⟨h.2.1, List.forall_mem_cons.mpr ⟨h.2.2.1, List.forall_mem_cons.mpr ⟨h.2.2.2.1, List.forall_mem_cons.mpr ⟨h.2.2.2.2.1, List.forall_mem_cons.mpr ⟨h.2.2.2.2.2.1, List.forall_mem_cons.mpr ⟨h.2.2.2.2.2.2.1, List.forall_mem_cons.mpr ⟨h.2.2.2.2.2.2.2.1, fun p hp => allLt_mem h.2.2.2.2.2.2.2.2 p (hs p hp)⟩⟩⟩⟩⟩⟩⟩⟩
theorem key_self {led : List (Addr × Obj)} : ∀ r ∈ led, ∃ o, (r.1, o) ∈ led := fun r hr => ⟨r.2, hr⟩
theorem tk_nil {M : List (Addr × Obj)} : ∀ t ∈ ([] : List Addr), ∃ o, (t, o) ∈ M := fun _ h => nomatch h
theorem tk_cons {a : Addr} {o : Obj} {ts : List Addr} {M : List (Addr × Obj)} (h : (a, o) ∈ M) (t : ∀ b ∈ ts, ∃ o, (b, o) ∈ M) : ∀ b ∈ a :: ts, ∃ o, (b, o) ∈ M := List.forall_mem_cons.mpr ⟨⟨_, h⟩, t⟩
theorem start1_y {news : List (Addr × Obj)}
    {R : Result → Shared → Prop} {x dx f dd ds dn dm dp xt l cl ad nl l0 t0 : Addr} {ts : Nat → Tok} {seen done : Bool} {hds nsI pI : Array Value} {n n2 n3 n4 n5 n6 n7 : Nat} {nm val : Str} {tn t1 tv tk2 : Tok} {ps : Array Value} {dsI : Array Value} {vp : Value} {od : Obj}
    (cx : Cy w A₀ base h₀ outer env L m mean mg mb h ((123, tabObj ps) :: (dx, wrD w ts f dd ds dn dm dp seen done) :: (dp, listOf (pI.push vp) n) :: (dn, listOf nsI n4) :: (l, listOf hds n2) :: (cl, listOf #[.str nm tn] n3) :: (ds, listOf dsI n7) :: (dd, od) :: news) d u)
    (hd1 : d ≤ 680) (hu1 : u ≤ 320) (hx : (x, instObj 150 dx) ∈ news) (hz : HandZ w news f xt l cl) (hB : StkB news dsI l0 t0) {en : Nat} (hda : (ad, oneD w (Str.ofString "k") tk2 (.str val tv) en) ∈ news) (hlo : (ad == sysModules) = false) (hnl : (nl, listOf #[] n5) ∈ news) (C : CodeHd base 125 123) (hK : KeyTab ps news) (hD : DisjL [123, l, cl, dx, dp, dn, ds, dd] news) (hlen2 : hds.size ≤ 980) (hln : nsI.size ≤ 1000) (hlp : pI.size ≤ 1000) (hvl : val.length ≤ 50) (hva : vBad (attrS val) = false) (hal : (attrS val).length ≤ 1000) (hnm : nBad nm = false) (hnl2 : nm.length ≤ 2 ^ 63 - 1) 
    (hF : ∀ ps' n' n4' hds' n2' Z1 Z' ln, Up ((123, tabObj ps) :: (dx, wrD w ts f dd ds dn dm dp seen done) :: (dp, listOf (pI.push vp) n) :: (dn, listOf nsI n4) :: (l, listOf hds n2) :: (cl, listOf #[.str nm tn] n3) :: (ds, listOf dsI n7) :: (dd, od) :: news) news Z1 → KeyTab ps' Z1 → HandZ w Z' f xt l cl → Ran nm ((123, tabObj ps') :: (dx, wrD w ts f dd ds dn dm dp seen done) :: (dp, listOf (pI.push vp) n) :: (dn, listOf nsI n4) :: (l, listOf hds n2) :: (cl, listOf #[.str nm tn] n3) :: (ds, listOf dsI n7) :: (dd, od) :: Z1) Z1 hds ([Str.ofString "<" ++ Str.ofString "x", attrS val, Str.ofString ">"], true) hds' Z' → BackY g os h₀ L m ((123, tabObj ps') :: (dx, wrD w ts f dd ds dn dm dp true done) :: (dp, listOf ((pI.push vp).push vp) n') :: (dn, listOf (nsI.push ln) n4') :: (l, listOf hds' n2') :: (cl, listOf #[.str nm tn] n3) :: (ds, listOf dsI n7) :: (dd, od) :: Z') .none R) :
    codeAny (model prg w) (Ar d u gd env outer) (.call (.ref 126) ⟨[.ref x, .str (Str.ofString "x") t1, .ref ad, .ref nl], []⟩) R ⟨h, g, dr, tk, os⟩ := by
  have dj0_1 : (123 : Addr) ≠ l := hD.ne 0 1 rfl rfl rfl
  have dj0_2 : (123 : Addr) ≠ cl := hD.ne 0 2 rfl rfl rfl
  have dj0_3 : (123 : Addr) ≠ dx := hD.ne 0 3 rfl rfl rfl
  have dj0_4 : (123 : Addr) ≠ dp := hD.ne 0 4 rfl rfl rfl
  have dj0_5 : (123 : Addr) ≠ dn := hD.ne 0 5 rfl rfl rfl
  have dj0_6 : (123 : Addr) ≠ ds := hD.ne 0 6 rfl rfl rfl
  have dj0_7 : (123 : Addr) ≠ dd := hD.ne 0 7 rfl rfl rfl
  have dj1_2 : l ≠ cl := hD.ne 1 2 rfl rfl rfl
  have dj1_3 : l ≠ dx := hD.ne 1 3 rfl rfl rfl
  have dj1_4 : l ≠ dp := hD.ne 1 4 rfl rfl rfl
  have dj1_5 : l ≠ dn := hD.ne 1 5 rfl rfl rfl
  have dj1_6 : l ≠ ds := hD.ne 1 6 rfl rfl rfl
  have dj1_7 : l ≠ dd := hD.ne 1 7 rfl rfl rfl
  have dj2_3 : cl ≠ dx := hD.ne 2 3 rfl rfl rfl
  have dj2_4 : cl ≠ dp := hD.ne 2 4 rfl rfl rfl
  have dj2_5 : cl ≠ dn := hD.ne 2 5 rfl rfl rfl
  have dj2_6 : cl ≠ ds := hD.ne 2 6 rfl rfl rfl
  have dj2_7 : cl ≠ dd := hD.ne 2 7 rfl rfl rfl
  have dj3_4 : dx ≠ dp := hD.ne 3 4 rfl rfl rfl
  have dj3_5 : dx ≠ dn := hD.ne 3 5 rfl rfl rfl
  have dj3_6 : dx ≠ ds := hD.ne 3 6 rfl rfl rfl
  have dj3_7 : dx ≠ dd := hD.ne 3 7 rfl rfl rfl
  have dj4_5 : dp ≠ dn := hD.ne 4 5 rfl rfl rfl
  have dj4_6 : dp ≠ ds := hD.ne 4 6 rfl rfl rfl
  have dj4_7 : dp ≠ dd := hD.ne 4 7 rfl rfl rfl
  have dj5_6 : dn ≠ ds := hD.ne 5 6 rfl rfl rfl
  have dj5_7 : dn ≠ dd := hD.ne 5 7 rfl rfl rfl
  have dj6_7 : ds ≠ dd := hD.ne 6 7 rfl rfl rfl
  have dz0 : ∀ p ∈ news, p.1 ≠ (123 : Addr) := hD.nz 0 rfl
  have dz1 : ∀ p ∈ news, p.1 ≠ l := hD.nz 1 rfl
  have dz2 : ∀ p ∈ news, p.1 ≠ cl := hD.nz 2 rfl
  have dz3 : ∀ p ∈ news, p.1 ≠ dx := hD.nz 3 rfl
  have dz4 : ∀ p ∈ news, p.1 ≠ dp := hD.nz 4 rfl
  have dz5 : ∀ p ∈ news, p.1 ≠ dn := hD.nz 5 rfl
  have dz6 : ∀ p ∈ news, p.1 ≠ ds := hD.nz 6 rfl
  have dz7 : ∀ p ∈ news, p.1 ≠ dd := hD.nz 7 rfl
  obtain ⟨B, F, X, N, T, hf, hke, hd, hu⟩ := cx
  have hrow : PySem.Challenge.rw_pe0292_01 = _ := rfl
  revert hrow X; k_fill; w_top on; intro X _
  refine' code_defC B F X N T rfl hf hke ?k6 ?k7 ?k8 (?k9) ?kB ?kD ?_ ?c2 ?c3 ?c4
  case k6 => k_is
  case k7 => k_is
  case k8 => k_room
  case k9 => exact binds_K (by k_in) rfl (by k_is) rfl rfl rfl
  case kB => exact rfl
  case kD => decide +kernel
  case c2 => exact rfl
  case c3 => exact rfl
  case c4 => exact rfl
  intro g' L' h' tk' cells' FG' F' N' Y' B' X' T' l1
  (try k_lt l1); k_cells Y'; (try simp only [List.cons_append, List.nil_append] at N')
  (try dsimp only); (try ((with_reducible show wpAny _ _ _ _ _ _); k_fold))
  with_reducible refine gen_tok tokV ?_
  intro tk0 htk0
  have lN : AllLt L' news := l1.2.2.2.2.2.2.2.2
  rename (_ = Data.cell (bindC _ _ _ (Str.ofString "self"))) => hc2
  rename (_ = Data.cell (bindC _ _ _ (Str.ofString "parse_qname"))) => hc1
  replace hc2 : _ = Data.cell (some (Value.ref x)) := hc2
  replace hc1 : _ = Data.cell none := hc1
  replace F' : Fr g' L' h' (fun y => if y = Str.ofString "qname_text" then some Value.none else if y = Str.ofString "new_namespaces" then some (Value.ref nl) else if y = Str.ofString "attrs" then some (Value.ref ad) else if y = Str.ofString "tag" then some (Value.str (Str.ofString "x") t1) else none) := F'
  k_steps
  refine Or.inl ?_
  (try dsimp only)
  have U6 : Up ((123, tabObj ps) :: (dx, wrD w ts f dd ds dn dm dp seen done) :: (dp, listOf (pI.push vp) n) :: (dn, listOf nsI n4) :: (l, listOf hds n2) :: (cl, listOf #[.str nm tn] n3) :: (ds, listOf dsI n7) :: (dd, od) :: news) news _ := Up.mono (by with_reducible assumption) (by kas_types)
  have hLl : ∀ r ∈ ((123, tabObj ps) :: (dx, wrD w ts f dd ds dn dm dp seen done) :: (dp, listOf (pI.push vp) n) :: (dn, listOf nsI n4) :: (l, listOf hds n2) :: (cl, listOf #[.str nm tn] n3) :: (ds, listOf dsI n7) :: (dd, od) :: news : List (Addr × Obj)), r.1 < L' := lt8 l1 fun _ h => h
  have hE0 : PassesOwn (model prg w) ((Ar d u gd env outer).deeper (envS L')) (envS L') (fun e s' => wpAny (model prg w) ((Ar d u gd env outer).deeper (envS L')) (leaving (envS L') e) (fun _ s'' => R (Except.error e) s'') (fun e' s'' => R (Except.error e') s'') s') := by passes_own
  have hE : PassesOwn (model prg w) ((Ar d u gd env outer).deeper (envS L')) (envS L') ek := hE0
  refine start_tail (led0 := ((123, tabObj ps) :: (dx, wrD w ts f dd ds dn dm dp seen done) :: (dp, listOf (pI.push vp) n) :: (dn, listOf nsI n4) :: (l, listOf hds n2) :: (cl, listOf #[.str nm tn] n3) :: (ds, listOf dsI n7) :: (dd, od) :: news)) (by kernel_rfl!) (by k_asm) (by k_asm) (by k_asm) (by k_units) (by k_units) hE (by k_asm) (news8 (e1 := (ds, listOf dsI n7)) (e2 := (dd, od)) (by k_asm) (by k_upd) (by k_upd) (by k_upd) (by k_upd) (by k_upd) (by k_upd) (by k_upd) (by k_upd)) (by with_reducible assumption) (by with_reducible assumption) (by kat_tups) (by kat_tups) (by kat_tups) (by kat_tups) (by with_reducible assumption) (by kat_tups) (HandZ.mono hz (fun p hp => by kat_tups)) (by kat_tups) hlo (by kat_tups) ?_ hD (by (repeat' (first | exact tk_nil | refine tk_cons (by kat_tups) ?_))) hlen2 hln hlp hvl hva hal hnm hnl2 ?_
  · (repeat refine Up.consL ?_ hLl (by kln_le))
    exact U6
  · intro UW n' n4' hds' n2' Z' ln m' h6 g6 dr6 tk6 hb6 H6 R6 F6 N6
    (try dsimp only)
    k_steps
    refine hF _ _ _ _ _ _ _ _ UW ?_ H6 R6 _ _ _ _ (fun hb => hb6 (by solve_by_elim)) (by k_asm) (by k_asm)
    · refine KeyTab.mono (by with_reducible assumption) (fun p hp => by kat_tups)
end
section
set_option maxHeartbeats 2000000
inductive All2 {α β : Type} (P : α → β → Prop) : List α → List β → Prop
  | nil : All2 P [] []
  | cons {a b l r} : P a b → All2 P l r → All2 P (a :: l) (b :: r)
noncomputable def Lays (nm : Str) (hds : Array Value) (Z : List (Addr × Obj)) (vs : List Str) (hds' : Array Value) (Z' : List (Addr × Obj)) : Prop :=
  (∀ p ∈ Z, p ∈ Z') ∧ ∃ qs : List Addr, hds'.toList = hds.toList ++ qs.map Value.ref ∧ All2 (fun v q => ∃ t t', (q, tupO (.str nm t) (.str v t')) ∈ Z') vs qs
theorem Lays.refl (nm : Str) (hds : Array Value) {Z Z' : List (Addr × Obj)} (h : ∀ p ∈ Z, p ∈ Z') : Lays nm hds Z [] hds Z' := ⟨h, [], by simp, .nil⟩
theorem forall2_mono {α β : Type} {P Q : α → β → Prop} (h : ∀ a b, P a b → Q a b) : ∀ {l : List α} {r : List β}, All2 P l r → All2 Q l r
  | _, _, .nil => .nil
  | _, _, .cons a b => .cons (h _ _ a) (forall2_mono h b)
theorem forall2_append {α β : Type} {P : α → β → Prop} : ∀ {l l' : List α} {r r' : List β}, All2 P l r → All2 P l' r' → All2 P (l ++ l') (r ++ r')
  | _, _, _, _, .nil, h => h
  | _, _, _, _, .cons a b, h => .cons a (forall2_append b h)
theorem Lays.trans {nm : Str} {a b c : Array Value} {Z Z' Z'' : List (Addr × Obj)} {vs ws : List Str} (x : Lays nm a Z vs b Z') (y : Lays nm b Z' ws c Z'') : Lays nm a Z (vs ++ ws) c Z'' := by
  obtain ⟨x1, qs, x2, x3⟩ := x
  obtain ⟨y1, rs, y2, y3⟩ := y
  refine ⟨fun p hp => y1 p (x1 p hp), qs ++ rs, by rw [y2, x2, List.map_append, List.append_assoc], forall2_append (forall2_mono (fun v q ⟨t, t', h⟩ => ⟨t, t', y1 _ h⟩) x3) y3⟩
theorem Pushed.lays {nm : Str} {hds hds' : Array Value} {Z Z' : List (Addr × Obj)} {vs : List Str} (P : Pushed nm hds Z vs hds' Z') : Lays nm hds Z vs hds' Z' := by
  induction P with
  | nil => exact Lays.refl _ _ fun _ h => h
  | snoc v q t t' P ih =>
    refine ih.trans ⟨fun p hp => .tail _ hp, [q], by simp, .cons ⟨t, t', .head _⟩ .nil⟩
structure RanG (nm : Str) (led0 Z0 : List (Addr × Obj)) (hds0 : Array Value) (o : Outc) (hds : Array Value) (Z : List (Addr × Obj)) : Prop where
  up : Up led0 Z0 Z
  lays : Lays nm hds0 Z0 o.1 hds Z
theorem Ran.gg {nm : Str} {led0 Z0 Z : List (Addr × Obj)} {hds0 hds : Array Value} {o : Outc} (r : Ran nm led0 Z0 hds0 o hds Z) : RanG nm led0 Z0 hds0 o hds Z := ⟨r.up, r.pushed.lays⟩
theorem RanG.then {nm : Str} {led0 led1 led2 Z0 Za Zc Z1 Z' : List (Addr × Obj)} {hds0 hds1 hds2 : Array Value} {o o' : Outc} (r : RanG nm led0 Z0 hds0 o hds1 Za) (ok : o.2 = true) (U1 : Up led0 Za Zc) (U2 : Up led1 Zc Z1) (r2 : RanG nm led2 Z1 hds1 o' hds2 Z')
    (h1 : ∀ r ∈ led0, ∃ o, (r.1, o) ∈ led1) (h2 : ∀ r ∈ led0, ∃ o, (r.1, o) ∈ led2) : RanG nm led0 Z0 hds0 (seqP o o') hds2 Z' := by
  have key : ∀ a ∈ led0, ∃ o, (a.1, o) ∈ led0 := fun a ha => ⟨a.2, ha⟩
  refine ⟨(((r.up.trans U1 key).trans U2 h1).trans r2.up h2), ?_⟩
  unfold seqP
  rw [if_pos ok]
  have x := (r.lays.trans (Lays.refl nm hds1 fun p hp => U2.sub p (U1.sub p hp))).trans r2.lays
  rwa [List.append_nil] at x
end
section
namespace NV10
theorem hereV10 : True := trivial
end NV10
open NV10
theorem StkB.push {Z Z' : List (Addr × Obj)} {its : Array Value} {l0 t0 a : Addr} {k : Nat} (H : StkB Z its l0 t0) (hs : ∀ p ∈ Z, p ∈ Z') (ha : (a, listOf #[] k) ∈ Z') (hz : its.size ≤ 999) : StkB Z' (its.push (.ref a)) l0 t0 :=
  ⟨let ⟨n', tx, tx', h1, h2⟩ := H.is; ⟨n', tx, tx', hs _ h1, hs _ h2⟩, by rw [Array.size_push]; kln_le, by rw [Array.size_push]; kln_le, by rw [Array.getElem?_push_lt H.pos]; have := H.at0; rwa [Array.getElem?_eq_getElem H.pos] at this, fun i h1 h2 => by
    rw [Array.size_push] at h2
    by_cases hi : i < its.size
    · obtain ⟨b, j, e, hm⟩ := H.more i h1 hi
      exact ⟨b, j, by rw [Array.getElem?_push_lt hi]; rwa [Array.getElem?_eq_getElem hi] at e, hs _ hm⟩
    · have e : i = its.size := by kln_le
      subst e
      exact ⟨a, k, by rw [Array.getElem?_push_size], ha⟩⟩
noncomputable def startP (seen empt : Bool) (t val : Str) : Outc := seqP (seqP okP (if empt then okP else flushP seen t)) ([Str.ofString "<" ++ Str.ofString "x", attrS val, Str.ofString ">"], true)
theorem rowsV100 : True := by
  k_with "call ref" => (fail_if_success fail_if_success have q := hereV10); (k_here; refine hold_it ?_)
  k_with "truthy ref" => (fail_if_success fail_if_success have q := hereV10); (k_here; k_dflt (refine truth_list _ (by k_asm) (by kat_tups) rfl (by with_reducible assumption) ?_))
  k_with "getMethod ref" => (fail_if_success fail_if_success have q := hereV10); (k_here; (with_reducible show wpAny _ _ (getMethod (Value.ref _) (Str.ofString "append") _) _ _ _); k_dflt (refine kl_method (by k_asm) (by kat_tups) PySem.F.slot_list_append PySem.F.type_list_append ?_))
  k_with "call ref" => (fail_if_success fail_if_success have q := hereV10); (k_here; (try dsimp only [List.nil_append, List.cons_append]); k_dflt (refine wpAny_call ?_; first | (refine escc_y ⟨by k_asm, by k_asm, by k_asm, by k_asm, by k_asm, rfl, rfl, by k_units, by k_units⟩ (by kln_le) ?_) | ((with_reducible show codeAny _ _ (Code.call _ ⟨[Value.str (Str.ofString "\n") _], _⟩) _ _); refine write_nl ⟨by k_asm, by k_asm, by k_asm, by k_asm, by k_asm, rfl, rfl, by k_units, by k_units⟩ (by k_units) (by k_units) (by k_asm) (by k_upd) (by k_upd) (by k_upd) (by k_ne) (by k_all) (by kln_le) (by k_asm) (by k_asm) (by k_asm) (by first | with_reducible assumption | assumption | rfl) (by k_upd) (fun P'ₓ ok'ₓ => ?_)) | (refine write_z ⟨by k_asm, by k_asm, by k_asm, by k_asm, by k_asm, rfl, rfl, by k_units, by k_units⟩ (by k_units) (by k_units) (by k_asm) (by k_upd) (by k_upd) (by k_upd) (by k_ne) (by k_all) (by kln_le) (by k_asm) (by k_asm) (by first | with_reducible assumption | assumption | decide) (by k_asm) (by first | with_reducible assumption | assumption | rfl) (by k_upd) (fun hds'ₓ n'ₓ Z'ₓ U'ₓ H'ₓ P'ₓ s'ₓ => ⟨fun ok'ₓ => ?_, fun ok'ₓ => ?_⟩)) | (refine flush_z ⟨by k_asm, by k_asm, by k_asm, by k_asm, by k_asm, rfl, rfl, by k_units, by k_units⟩ (by k_units) (by k_units) (by k_asm) (by k_upd) (by k_upd) (by k_upd) (by k_upd) (by k_mem) (by k_mem) (by k_ne) (by k_ne) (by k_ne) (by k_all) (by k_all) (by kln_le) (by kln_le) (by k_asm) (by k_asm) (by k_asm) (by k_asm) (by k_asm) (by k_asm) (by k_asm) (by first | with_reducible assumption | assumption | rfl) (by k_upd) (fun n'ₓ hds'ₓ n2'ₓ Z'ₓ U'ₓ H'ₓ P'ₓ s'ₓ => ⟨fun ok'ₓ => ?_, fun ok'ₓ => ?_⟩))))
  trivial
theorem start_binds (a0 a1 a2 : Value) : bindArgs (fnOf (Str.ofString "start") (Str.ofString "C14NWriterTarget.start") (fPar (sub (stA 7) 7)) (fBody (sub (stA 7) 7)) (fScope (sub (stA 7) 7)) .none .none .none (.str (Str.ofString "cpy313.xml.etree.ElementTree") 289) none (.ref 119) .none) ⟨[a0, a1, a2], []⟩ = pure [(Str.ofString "self", a0), (Str.ofString "tag", a1), (Str.ofString "attrs", a2)] := by kernel_rfl!
theorem rowsV101 : True := by
  k_with "exec If" => (fail_if_success fail_if_success have q := hereV10); (k_here; (fail_if_success (with_reducible refine fl_isJ ?_)); (with_reducible show wpAny _ _ (exec (Stmt.If (Expr.Attribute _ (Str.ofString "_data") _) _ _ _) _) _ _ _); k_dflt (refine fl_join (gT := fun Zₓ => (dx, wrD w ts f dd ds dn dm dp seen done) :: (dp, listOf (pI.push vp) n4) :: (ds, listOf dsI n5) :: (dn, listOf nsI n6) :: (123, tabObj ps) :: Zₓ) (o := seqP okP (if its.isEmpty then okP else flushP seen (Txt.join (Str.ofString "") txts))) (dat := #[]) r0 hz (by k_asm) (by k_asm) (fun n'ₓ hds'ₓ n2'ₓ Z'ₓ h'ₓ g'ₓ dr'ₓ tk'ₓ U'ₓ H'ₓ P'ₓ s'ₓ ok'ₓ hb'ₓ F'ₓ N'ₓ => ?_) ?_))
  k_with "JQ" => (fail_if_success fail_if_success have q := hereV10); (k_here; k_dflt (refine fl_in (by k_asm) (by k_asm) (news_sub (by k_asm) (by k_upd)) (fun hbₓ => by solve_by_elim) (by k_asm) (by first | with_reducible assumption | assumption | rfl) (by first | with_reducible assumption | exact Nat.le_succ _) ?_ ?_); (focus (first | (simp only [*, if_true, if_false, Bool.false_eq_true, okP]; done) | (simp only [*, if_true, if_false, Bool.false_eq_true, okP]; rfl))); (first | rfl | exact isEmpty_of (by assumption)))
  trivial
theorem start_y {news : List (Addr × Obj)}
    {R : Result → Shared → Prop} {x dx f dd ds dn dm dp xt l cl ad l0 t0 : Addr} {ts : Nat → Tok} {seen done : Bool} {its hds dsI nsI pI : Array Value} {n n2 n3 n4 n5 n6 : Nat} {nm val : Str} {tn t1 tv tk2 : Tok} {txts : List Str} {vp : Value} {ps : Array Value}
    (cx : Cy w A₀ base h₀ outer env L m mean mg mb h ((dd, listOf its n) :: (l, listOf hds n2) :: (cl, listOf #[.str nm tn] n3) :: (dx, wrD w ts f dd ds dn dm dp seen done) :: (dp, listOf (pI.push vp) n4) :: (ds, listOf dsI n5) :: (dn, listOf nsI n6) :: (123, tabObj ps) :: news) d u)
    (hd1 : d ≤ 670) (hu1 : u ≤ 310) (hx : (x, instObj 150 dx) ∈ news) (hz : HandZ w news f xt l cl) (hB : StkB news dsI l0 t0) {en : Nat} (hda : (ad, oneD w (Str.ofString "k") tk2 (.str val tv) en) ∈ news) (hlo : (ad == sysModules) = false) (C : CodeHd base 125 123) (hK : KeyTab ps news) (hD : DisjL [dd, l, cl, dx, dp, ds, dn, 123] news) (hlen : its.size ≤ 1000) (hlen2 : hds.size ≤ 970) (hln : nsI.size ≤ 990) (hlp : pI.size ≤ 990) (hls : dsI.size ≤ 990)
    (hvl : val.length ≤ 50) (hva : vBad (attrS val) = false) (hal : (attrS val).length ≤ 1000) (hnm : nBad nm = false) (hnl : nm.length ≤ 2 ^ 63 - 1) (hst : StrsAre its.toList txts) (hsum : (txts.map (·.length)).sum ≤ 16777216) (hj : (Txt.join (Str.ofString "") txts).length ≤ 1000) (hje : (escC (Txt.join (Str.ofString "") txts)).length ≤ 1000)
    (hF : ∀ (o : Outc), o = startP seen its.isEmpty (Txt.join (Str.ofString "") txts) val → ∀ its' n' hds' n2' Z' n4' n5' n6' ps' nl ln kl, its'.isEmpty = true → HandZ w Z' f xt l cl → RanG nm ((dd, listOf its n) :: (l, listOf hds n2) :: (cl, listOf #[.str nm tn] n3) :: (dx, wrD w ts f dd ds dn dm dp seen done) :: (dp, listOf (pI.push vp) n4) :: (ds, listOf dsI n5) :: (dn, listOf nsI n6) :: (123, tabObj ps) :: news) news hds o hds' Z' →
      (o.2 = true → KeyTab ps' Z' → (nl, listOf #[] kl) ∈ Z' → (∀ p ∈ (((dd, listOf its n) :: (l, listOf hds n2) :: (cl, listOf #[.str nm tn] n3) :: (dx, wrD w ts f dd ds dn dm dp seen done) :: (dp, listOf (pI.push vp) n4) :: (ds, listOf dsI n5) :: (dn, listOf nsI n6) :: (123, tabObj ps) :: news : List (Addr × Obj))), p.1 < nl) → BackY g os h₀ L m ((dd, listOf its' n') :: (l, listOf hds' n2') :: (cl, listOf #[.str nm tn] n3) :: (dx, wrD w ts f dd ds dn dm dp true done) :: (dp, listOf ((pI.push vp).push vp) n4') :: (ds, listOf (dsI.push (.ref nl)) n5') :: (dn, listOf (nsI.push ln) n6') :: (123, tabObj ps') :: Z') .none R) ∧
      (o.2 = false → BoomY g os base h₀ outer env L m ((dd, listOf its' n') :: (l, listOf hds' n2') :: (cl, listOf #[.str nm tn] n3) :: (dx, wrD w ts f dd ds dn dm dp seen done) :: (dp, listOf (pI.push vp) n4) :: (ds, listOf dsI n5) :: (dn, listOf nsI n6) :: (123, tabObj ps) :: Z') R)) :
    codeAny (model prg w) (Ar d u gd env outer) (.call (.ref 120) ⟨[.ref x, .str (Str.ofString "x") t1, .ref ad], []⟩) R ⟨h, g, dr, tk, os⟩ := by
  have r0 := Ran.start nm ((dd, listOf its n) :: (l, listOf hds n2) :: (cl, listOf #[.str nm tn] n3) :: (dx, wrD w ts f dd ds dn dm dp seen done) :: (dp, listOf (pI.push vp) n4) :: (ds, listOf dsI n5) :: (dn, listOf nsI n6) :: (123, tabObj ps) :: news) news hds
  have dj0_1 : dd ≠ l := hD.ne 0 1 rfl rfl rfl
  have dj0_2 : dd ≠ cl := hD.ne 0 2 rfl rfl rfl
  have dj0_3 : dd ≠ dx := hD.ne 0 3 rfl rfl rfl
  have dj0_4 : dd ≠ dp := hD.ne 0 4 rfl rfl rfl
  have dj0_5 : dd ≠ ds := hD.ne 0 5 rfl rfl rfl
  have dj0_6 : dd ≠ dn := hD.ne 0 6 rfl rfl rfl
  have dj0_7 : dd ≠ (123 : Addr) := hD.ne 0 7 rfl rfl rfl
  have dj1_2 : l ≠ cl := hD.ne 1 2 rfl rfl rfl
  have dj1_3 : l ≠ dx := hD.ne 1 3 rfl rfl rfl
  have dj1_4 : l ≠ dp := hD.ne 1 4 rfl rfl rfl
  have dj1_5 : l ≠ ds := hD.ne 1 5 rfl rfl rfl
  have dj1_6 : l ≠ dn := hD.ne 1 6 rfl rfl rfl
  have dj1_7 : l ≠ (123 : Addr) := hD.ne 1 7 rfl rfl rfl
  have dj2_3 : cl ≠ dx := hD.ne 2 3 rfl rfl rfl
  have dj2_4 : cl ≠ dp := hD.ne 2 4 rfl rfl rfl
  have dj2_5 : cl ≠ ds := hD.ne 2 5 rfl rfl rfl
  have dj2_6 : cl ≠ dn := hD.ne 2 6 rfl rfl rfl
  have dj2_7 : cl ≠ (123 : Addr) := hD.ne 2 7 rfl rfl rfl
  have dj3_4 : dx ≠ dp := hD.ne 3 4 rfl rfl rfl
  have dj3_5 : dx ≠ ds := hD.ne 3 5 rfl rfl rfl
  have dj3_6 : dx ≠ dn := hD.ne 3 6 rfl rfl rfl
  have dj3_7 : dx ≠ (123 : Addr) := hD.ne 3 7 rfl rfl rfl
  have dj4_5 : dp ≠ ds := hD.ne 4 5 rfl rfl rfl
  have dj4_6 : dp ≠ dn := hD.ne 4 6 rfl rfl rfl
  have dj4_7 : dp ≠ (123 : Addr) := hD.ne 4 7 rfl rfl rfl
  have dj5_6 : ds ≠ dn := hD.ne 5 6 rfl rfl rfl
  have dj5_7 : ds ≠ (123 : Addr) := hD.ne 5 7 rfl rfl rfl
  have dj6_7 : dn ≠ (123 : Addr) := hD.ne 6 7 rfl rfl rfl
  have dz0 : ∀ p ∈ news, p.1 ≠ dd := hD.nz 0 rfl
  have dz1 : ∀ p ∈ news, p.1 ≠ l := hD.nz 1 rfl
  have dz2 : ∀ p ∈ news, p.1 ≠ cl := hD.nz 2 rfl
  have dz3 : ∀ p ∈ news, p.1 ≠ dx := hD.nz 3 rfl
  have dz4 : ∀ p ∈ news, p.1 ≠ dp := hD.nz 4 rfl
  have dz5 : ∀ p ∈ news, p.1 ≠ ds := hD.nz 5 rfl
  have dz6 : ∀ p ∈ news, p.1 ≠ dn := hD.nz 6 rfl
  have dz7 : ∀ p ∈ news, p.1 ≠ (123 : Addr) := hD.nz 7 rfl
  obtain ⟨B, F, X, N, T, hf, hke, hd, hu⟩ := cx
  have hrow : PySem.Challenge.rw_pe0292_01 = _ := rfl
  revert hrow X; k_fill; w_top on; intro X _
  refine' code_def B F X N T rfl hf hke ?k6 ?k7 ?k8 (BindsTo.of_eq (start_binds _ _ _)) ?kB ?_ ?c2 ?c3 ?c4 ?c5
  case k6 => k_is
  case k7 => k_is
  case k8 => k_room
  case kB => exact locs rfl
  case c5 => decide
  case c2 => exact rfl
  case c3 => exact rfl
  case c4 => exact rfl
  intro g' L' h' FG' F' N' B' X' T'
  replace F' : Fr g' L' h' (fun y => List.lookup y ([(Str.ofString "self", .ref x), (Str.ofString "tag", .str (Str.ofString "x") t1), (Str.ofString "attrs", .ref ad)] : List (Str × Value)).reverse) := F'
  (try dsimp only); (try ((with_reducible show wpAny _ _ _ _ _ _); k_fold))
  with_reducible refine gen_tok tokV ?_
  intro tk0 htk0
  k_steps
  · refine Or.inl ?_
    rename (_ ∧ _ ∧ _ ∧ _ ∧ _ ∧ _ ∧ _ ∧ _ ∧ AllLt _ _) => ll
    refine wpAny_call ?_
    refine start1_y (l := l) (cl := cl) (ds := ds) (dd := dd) (dx := dx) (n6 := 0) ⟨by k_asm, by k_asm, by k_asm, news8 (by k_asm) (by k_upd) (by k_upd) (by k_upd) (by k_upd) (by k_upd) (by k_upd) (by k_upd) (by k_upd), by k_asm, by rfl, by rfl, by k_units, by k_units⟩ (by k_units) (by k_units) (by kat_tups) (HandZ.mono (by with_reducible assumption) (fun p hp => by kat_tups)) (StkB.push hB (fun p hp => by kat_tups) (by kat_tups) (by kln_le)) (by kat_tups) hlo (by kat_tups) C (KeyTab.mono hK (fun p hp => by kat_tups)) ?_ (by kln_le) (by kln_le) (by kln_le) hvl hva hal hnm hnl ?_
    · exact DisjL.up (U'ₓ.trans (Up.one (lt8 ll U'ₓ.sub)) key_self) (hD.sel [7, 1, 2, 3, 4, 6, 5, 0] rfl (by decide)) (by (repeat' (first | exact tk_nil | refine tk_cons (by kat_tups) ?_)))
    · intro ps' n' n4' hds' n2' Z1 Z' ln U1 K1 H1 R1 h6 g6 dr6 tk6 hb6 F6 N6
      (try dsimp only)
      k_steps
      refine (hF _ ?_ _ _ _ _ _ _ _ _ _ _ _ _ ?_ H1 (RanG.then (Ran.gg (by with_reducible assumption)) (by first | rfl | k_asm) (Up.one (lt8 ll U'ₓ.sub)) U1 (Ran.gg R1) (by kas_types) (by kas_types))).1 (by first | rfl | (rw [seqP_ok (by k_asm)])) (KeyTab.mono K1 R1.up.sub) (R1.up.sub _ (U1.sub _ (.head _))) (lt8 ll U'ₓ.sub) _ _ _ _ (fun hb => hb6 (by solve_by_elim)) (by k_asm) (news_sub (by k_asm) (by ktu_offI))
      · clear hF; first | rfl | (unfold startP; simp only [*, seqP_okP, seqP_bad, if_true, if_false, Bool.false_eq_true, okP])
      · clear hF; first | k_asm | rfl
  · refine (hF _ ?_ _ _ _ _ _ 0 0 0 ps dd vp 0 ?_ (by k_asm) (Ran.gg (by k_asm))).2 (by k_asm) _ _ _ _ _ _ _ _ (fun hb => by solve_by_elim) (raised_sub (by k_asm) (by k_upd)) (by k_asm) (by k_asm)
    · clear hF; first | rfl | (unfold startP; simp only [*, seqP_okP, seqP_bad, if_true, if_false, Bool.false_eq_true, okP])
    · clear hF; first | k_asm | rfl
end
section
theorem lcall_text {news : List (Addr × Obj)}
    {R : Result → Shared → Prop} {x dx f dd ds dn dm dp : Addr} {ts : Nat → Tok} {seen done : Bool} {its : Array Value} {n : Nat} {v : Str} {t1 tv : Tok}
    (cx : Cy w A₀ base h₀ outer env L m mean mg mb h ((dd, listOf its n) :: news) d u)
    (hd1 : d ≤ 660) (hu1 : u ≤ 300) (hx : (x, instObj 150 dx) ∈ news) (hdx : (dx, wrD w ts f dd ds dn dm dp seen done) ∈ news) (hl : ∀ p ∈ news, p.1 ≠ dd) (hz : its.size ≤ 1000)
    (hF : ∀ t, BackY g os h₀ L m ((dd, listOf (its.push (.str v tv)) (n + 1)) :: news) (.str (Str.ofString "done") t) R) :
    codeAny (model prg w) (Ar d u gd env outer) (.call (.ref 342) ⟨[.ref x, .str (Str.ofString "text") t1, .str v tv], []⟩) R ⟨h, g, dr, tk, os⟩ := by
  obtain ⟨B, F, X, N, T, hf, hke, hd, hu⟩ := cx
  have hrow : PySem.Challenge.rw_pe0292_01 = _ := rfl
  revert hrow X; k_fill; w_top on; intro X _
  refine' code_def B F X N T rfl hf hke ?k6 ?k7 ?k8 (BindsTo.of_eq (call_binds _ _ _)) ?kB ?_ ?c2 ?c3 ?c4 ?c5
  case k6 => k_is
  case k7 => k_is
  case k8 => k_room
  case kB => exact locs rfl
  case c5 => decide
  case c2 => exact rfl
  case c3 => exact rfl
  case c4 => exact rfl
  intro g' L' h' FG' F' N' B' X' T'
  replace F' : Fr g' L' h' (fun y => List.lookup y ([(Str.ofString "target", .ref x), (Str.ofString "what", .str (Str.ofString "text") t1), (Str.ofString "text", .str v tv)] : List (Str × Value)).reverse) := F'
  (try dsimp only); (try ((with_reducible show wpAny _ _ _ _ _ _); k_fold))
  with_reducible refine gen_tok tokV ?_
  intro tk0 htk0
  k_steps
  exact hF _ _ _ _ _ (fun hb => hb) (by k_asm) (by k_asm)
end
section
namespace NL3
theorem hereL3 : True := trivial
end NL3
open NL3
theorem rowsL30 : True := by
  k_with "call ref" => (fail_if_success fail_if_success have q := hereL3); (k_here; refine hold_it ?_)
  k_with "call type:str" => (fail_if_success fail_if_success have q := hereL3); (k_here; (with_reducible show wpAny _ _ (call (Value.type "str") [Value.ref _]) _ _ _); k_dflt (refine' str_got_one PySem.F.excStr_ValueError (by assumption) (by assumption) (by first | units_room | k_room) ?_; k_whole))
  trivial
theorem lcall_comment {news : List (Addr × Obj)}
    {R : Result → Shared → Prop} {x dx f dd ds dn dm dp xt l cl : Addr} {ts : Nat → Tok} {seen done : Bool} {its hds : Array Value} {n n2 n3 : Nat} {nm v : Str} {tn t1 tv : Tok} {txts : List Str}
    (cx : Ct w A₀ base h₀ outer env L m mean mg mb h ((dd, listOf its n) :: (l, listOf hds n2) :: (cl, listOf #[.str nm tn] n3) :: news) d u)
    (hd1 : d ≤ 660) (hu1 : u ≤ 300) (hx : (x, instObj 150 dx) ∈ news) (hdx : (dx, wrD w ts f dd ds dn dm dp seen done) ∈ news) (hz : HandZ w news f xt l cl) (h1 : dd ≠ l) (h2 : dd ≠ cl) (h3 : cl ≠ l) (hdd : ∀ p ∈ news, p.1 ≠ dd) (hl : ∀ p ∈ news, p.1 ≠ l) (hlen : its.size ≤ 1000) (hlen2 : hds.size ≤ 990) (hnm : nBad nm = false) (hnl : nm.length ≤ 2 ^ 63 - 1) (hst : StrsAre its.toList txts) (hsum : (txts.map (·.length)).sum ≤ 16777216) (hj : (Txt.join (Str.ofString "") txts).length ≤ 1000) (hje : (escC (Txt.join (Str.ofString "") txts)).length ≤ 1000) (htl : v.length ≤ 1000) (hte0 : (escC v).length ≤ 900) (hte : (cmS v).length ≤ 1000)
    (hF : ∀ (o : Outc), o = commentP seen done its.isEmpty (Txt.join (Str.ofString "") txts) (cmS v) → ∀ its' n' hds' n2' Z' t', its' = dataP seen done its → HandZ w Z' f xt l cl → Ran nm ((dd, listOf its n) :: (l, listOf hds n2) :: (cl, listOf #[.str nm tn] n3) :: news) news hds o hds' Z' → BackT w A₀ base outer mean mg mb g os h₀ L m ((dd, listOf its' n') :: (l, listOf hds' n2') :: (cl, listOf #[.str nm tn] n3) :: Z') (.str (toldS o.2) t') R) :
    codeAny (model prg w) (Ar d u gd env outer) (.call (.ref 342) ⟨[.ref x, .str (Str.ofString "comment") t1, .str v tv], []⟩) R ⟨h, g, dr, tk, os⟩ := by
  obtain ⟨⟨B, F, X, N, T, hf, hke, hd, hu⟩, XB, TB, D⟩ := cx
  have XBc := XB
  have hrow : PySem.Challenge.rw_pe0292_01 = _ := rfl
  revert hrow X; k_fill; w_top on; intro X _
  refine' code_defT B F X N T XB TB D rfl hf hke ?k6 ?k7 ?k8 (BindsTo.of_eq (call_binds _ _ _)) ?kB ?_ ?c2 ?c3 ?c4 ?c5
  case k6 => k_is
  case k7 => k_is
  case k8 => k_room
  case kB => exact locs rfl
  case c5 => decide
  case c2 => exact rfl
  case c3 => exact rfl
  case c4 => exact rfl
  intro g' L' h' FG' F' N' B' X' T' D' l1
  replace F' : Fr g' L' h' (fun y => List.lookup y ([(Str.ofString "target", .ref x), (Str.ofString "what", .str (Str.ofString "comment") t1), (Str.ofString "text", .str v tv)] : List (Str × Value)).reverse) := F'
  (try dsimp only); (try ((with_reducible show wpAny _ _ _ _ _ _); k_fold))
  with_reducible refine gen_tok tokV ?_
  intro tk0 htk0
  k_steps
  refine Or.inl ?_
  refine wpAny_call ?_
  refine comment_y (Cy.bare ⟨by k_asm, by k_asm, by k_asm, by k_asm, by k_asm, by rfl, by rfl, by k_units, by k_units⟩) (by k_units) (by k_units) hx hdx hz h1 h2 h3 hdd hl hlen hlen2 hnm hnl hst hsum hj hje htl hte0 hte (fun o ho its' n' hds' n2' Z' hi hz' r' => ⟨fun ok => ?_, fun ok => ?_⟩)
  · intro h6 g6 dr6 tk6 hb6 F6 N6
    (try dsimp only)
    k_steps
    have H := fun tQ => hF o ho its' n' hds' n2' Z' tQ hi hz' r'
    simp only [toldS_t ok] at H
    exact leaveT_ (by k_asm) (by k_asm) KtsTurn.refl fun _ T9 F9 N9 B9 X9 Tp9 D9 => H _ _ _ _ _ _ (fun hb => hb6 hb) T9 F9 (news_sub N9 (by k_upd)) B9 X9 Tp9 D9
  · intro h6 g6 d6 tk6 e6 tt6 tu6 gb6 hb6 R6 F6 S6
    (try dsimp only)
    obtain ⟨F7, S7, R7⟩ := raised_toS B' F6 rfl S6 R6
    refine caught_SB (T' := "ValueError") R7 F7 B' S7 XB TB D' KtsTurn.refl (by k_is) PyProof.Rows.Boot.«ValueError» (by decide) PySem.F.isExc_ValueError PySem.F.notTuple_ValueError (by rw [isSubtype_type]; kernel_rfl) ?_
    intro h8 g8 n8 tk8 T8 F8 N8 G8 Nl8 B8 X8 Tp8 D8
    clear R6 F6 S6 R7 F7 S7
    k_steps
    have H := fun tQ => hF o ho its' n' hds' n2' Z' tQ hi hz' r'
    simp only [toldS_f ok] at H
    rw [refS_is]
    exact leaveT_ (by k_asm) (by k_asm) T8 fun _ T9 F9 N9 B9 X9 Tp9 D9 => H _ _ _ _ _ _ (fun hb => hb6 hb) T9 F9 (news_sub N9 (by k_upd)) B9 X9 Tp9 D9
end
section
namespace NL4
theorem hereL4 : True := trivial
end NL4
open NL4
theorem rowsL40 : True := by
  k_with "call ref" => (fail_if_success fail_if_success have q := hereL4); (k_here; refine hold_it ?_)
  k_with "call type:str" => (fail_if_success fail_if_success have q := hereL4); (k_here; (with_reducible show wpAny _ _ (call (Value.type "str") [Value.ref _]) _ _ _); k_dflt (refine' str_got_one PySem.F.excStr_ValueError (by assumption) (by assumption) (by first | units_room | k_room) ?_; k_whole))
  trivial
theorem lcall_pi {news : List (Addr × Obj)}
    {R : Result → Shared → Prop} {x dx f dd ds dn dm dp xt l cl : Addr} {ts : Nat → Tok} {seen done : Bool} {its hds : Array Value} {n n2 n3 : Nat} {nm v : Str} {tn t1 tv : Tok} {txts : List Str}
    (cx : Ct w A₀ base h₀ outer env L m mean mg mb h ((dd, listOf its n) :: (l, listOf hds n2) :: (cl, listOf #[.str nm tn] n3) :: news) d u)
    (hd1 : d ≤ 660) (hu1 : u ≤ 300) (hx : (x, instObj 150 dx) ∈ news) (hdx : (dx, wrD w ts f dd ds dn dm dp seen done) ∈ news) (hz : HandZ w news f xt l cl) (h1 : dd ≠ l) (h2 : dd ≠ cl) (h3 : cl ≠ l) (hdd : ∀ p ∈ news, p.1 ≠ dd) (hl : ∀ p ∈ news, p.1 ≠ l) (hlen : its.size ≤ 1000) (hlen2 : hds.size ≤ 990) (hnm : nBad nm = false) (hnl : nm.length ≤ 2 ^ 63 - 1) (hst : StrsAre its.toList txts) (hsum : (txts.map (·.length)).sum ≤ 16777216) (hj : (Txt.join (Str.ofString "") txts).length ≤ 1000) (hje : (escC (Txt.join (Str.ofString "") txts)).length ≤ 1000) (htl : v.length ≤ 1000) (hte0 : (escC v).length ≤ 900) (hte : (piS v).length ≤ 1000) (hte2 : piS0.length ≤ 1000)
    (hF : ∀ (o : Outc), o = commentP seen done its.isEmpty (Txt.join (Str.ofString "") txts) (if v.length = 0 then piS0 else piS v) → ∀ its' n' hds' n2' Z' t', its' = dataP seen done its → HandZ w Z' f xt l cl → Ran nm ((dd, listOf its n) :: (l, listOf hds n2) :: (cl, listOf #[.str nm tn] n3) :: news) news hds o hds' Z' → BackT w A₀ base outer mean mg mb g os h₀ L m ((dd, listOf its' n') :: (l, listOf hds' n2') :: (cl, listOf #[.str nm tn] n3) :: Z') (.str (toldS o.2) t') R) :
    codeAny (model prg w) (Ar d u gd env outer) (.call (.ref 342) ⟨[.ref x, .str (Str.ofString "instruction") t1, .str v tv], []⟩) R ⟨h, g, dr, tk, os⟩ := by
  obtain ⟨⟨B, F, X, N, T, hf, hke, hd, hu⟩, XB, TB, D⟩ := cx
  have XBc := XB
  have hrow : PySem.Challenge.rw_pe0292_01 = _ := rfl
  revert hrow X; k_fill; w_top on; intro X _
  refine' code_defT B F X N T XB TB D rfl hf hke ?k6 ?k7 ?k8 (BindsTo.of_eq (call_binds _ _ _)) ?kB ?_ ?c2 ?c3 ?c4 ?c5
  case k6 => k_is
  case k7 => k_is
  case k8 => k_room
  case kB => exact locs rfl
  case c5 => decide
  case c2 => exact rfl
  case c3 => exact rfl
  case c4 => exact rfl
  intro g' L' h' FG' F' N' B' X' T' D' l1
  replace F' : Fr g' L' h' (fun y => List.lookup y ([(Str.ofString "target", .ref x), (Str.ofString "what", .str (Str.ofString "instruction") t1), (Str.ofString "text", .str v tv)] : List (Str × Value)).reverse) := F'
  (try dsimp only); (try ((with_reducible show wpAny _ _ _ _ _ _); k_fold))
  with_reducible refine gen_tok tokV ?_
  intro tk0 htk0
  k_steps
  refine Or.inl ?_
  refine wpAny_call ?_
  refine pi_y (Cy.bare ⟨by k_asm, by k_asm, by k_asm, by k_asm, by k_asm, by rfl, by rfl, by k_units, by k_units⟩) (by k_units) (by k_units) hx hdx hz h1 h2 h3 hdd hl hlen hlen2 hnm hnl hst hsum hj hje htl hte0 hte hte2 (fun o ho its' n' hds' n2' Z' hi hz' r' => ⟨fun ok => ?_, fun ok => ?_⟩)
  · intro h6 g6 dr6 tk6 hb6 F6 N6
    (try dsimp only)
    k_steps
    have H := fun tQ => hF o ho its' n' hds' n2' Z' tQ hi hz' r'
    simp only [toldS_t ok] at H
    exact leaveT_ (by k_asm) (by k_asm) KtsTurn.refl fun _ T9 F9 N9 B9 X9 Tp9 D9 => H _ _ _ _ _ _ (fun hb => hb6 hb) T9 F9 (news_sub N9 (by k_upd)) B9 X9 Tp9 D9
  · intro h6 g6 d6 tk6 e6 tt6 tu6 gb6 hb6 R6 F6 S6
    (try dsimp only)
    obtain ⟨F7, S7, R7⟩ := raised_toS B' F6 rfl S6 R6
    refine caught_SB (T' := "ValueError") R7 F7 B' S7 XB TB D' KtsTurn.refl (by k_is) PyProof.Rows.Boot.«ValueError» (by decide) PySem.F.isExc_ValueError PySem.F.notTuple_ValueError (by rw [isSubtype_type]; kernel_rfl) ?_
    intro h8 g8 n8 tk8 T8 F8 N8 G8 Nl8 B8 X8 Tp8 D8
    clear R6 F6 S6 R7 F7 S7
    k_steps
    have H := fun tQ => hF o ho its' n' hds' n2' Z' tQ hi hz' r'
    simp only [toldS_f ok] at H
    rw [refS_is]
    exact leaveT_ (by k_asm) (by k_asm) T8 fun _ T9 F9 N9 B9 X9 Tp9 D9 => H _ _ _ _ _ _ (fun hb => hb6 hb) T9 F9 (news_sub N9 (by k_upd)) B9 X9 Tp9 D9
end
section
namespace NL5
theorem hereL5 : True := trivial
end NL5
open NL5
theorem rowsL50 : True := by
  k_with "call ref" => (fail_if_success fail_if_success have q := hereL5); (k_here; refine hold_it ?_)
  k_with "call type:str" => (fail_if_success fail_if_success have q := hereL5); (k_here; (with_reducible show wpAny _ _ (call (Value.type "str") [Value.ref _]) _ _ _); k_dflt (refine' str_got_one PySem.F.excStr_ValueError (by assumption) (by assumption) (by first | units_room | k_room) ?_; k_whole))
  trivial
theorem lcall_end {news : List (Addr × Obj)}
    {R : Result → Shared → Prop} {x dx f dd ds dn dm dp xt l cl l0 t0 : Addr} {ts : Nat → Tok} {seen done : Bool} {its hds dsI dnI dpI : Array Value} {n n2 n3 n4 n5 n6 : Nat} {nm v : Str} {tn t1 tv : Tok} {txts : List Str} {vs vn vp : Value}
    (cx : Ct w A₀ base h₀ outer env L m mean mg mb h ((dd, listOf its n) :: (l, listOf hds n2) :: (cl, listOf #[.str nm tn] n3) :: (dx, wrD w ts f dd ds dn dm dp seen done) :: (dp, listOf (dpI.push vp) n4) :: (ds, listOf (dsI.push vs) n5) :: (dn, listOf (dnI.push vn) n6) :: news) d u)
    (hd1 : d ≤ 660) (hu1 : u ≤ 300) (hx : (x, instObj 150 dx) ∈ news) (hz : HandZ w news f xt l cl) (hB : StkB news (dsI.push vs) l0 t0) (hD : DisjL [dd, l, cl, dx, dp, ds, dn] news) (hlen : its.size ≤ 1000) (hlen2 : hds.size ≤ 990) (hln : dnI.size ≤ 1000) (hlp : dpI.size ≤ 1000) (hls : dsI.size ≤ 1000) (hnm : nBad nm = false) (hnl : nm.length ≤ 2 ^ 63 - 1) (hst : StrsAre its.toList txts) (hsum : (txts.map (·.length)).sum ≤ 16777216) (hj : (Txt.join (Str.ofString "") txts).length ≤ 1000) (hje : (escC (Txt.join (Str.ofString "") txts)).length ≤ 1000)
    (hF : ∀ (o : Outc), o = endP seen its.isEmpty (Txt.join (Str.ofString "") txts) → ∀ its' n' hds' n2' Z' n4' n5' n6' t', its'.isEmpty = true → HandZ w Z' f xt l cl → Ran nm ((dd, listOf its n) :: (l, listOf hds n2) :: (cl, listOf #[.str nm tn] n3) :: (dx, wrD w ts f dd ds dn dm dp seen done) :: (dp, listOf (dpI.push vp) n4) :: (ds, listOf (dsI.push vs) n5) :: (dn, listOf (dnI.push vn) n6) :: news) news hds o hds' Z' →
      (o.2 = true → BackT w A₀ base outer mean mg mb g os h₀ L m ((dd, listOf its' n') :: (l, listOf hds' n2') :: (cl, listOf #[.str nm tn] n3) :: (dx, wrD w ts f dd ds dn dm dp seen ((dpI.size : Int) == 1)) :: (dp, listOf dpI n4') :: (ds, listOf dsI n5') :: (dn, listOf dnI n6') :: Z') (.str (toldS o.2) t') R) ∧
      (o.2 = false → BackT w A₀ base outer mean mg mb g os h₀ L m ((dd, listOf its' n') :: (l, listOf hds' n2') :: (cl, listOf #[.str nm tn] n3) :: (dx, wrD w ts f dd ds dn dm dp seen done) :: (dp, listOf (dpI.push vp) n4) :: (ds, listOf (dsI.push vs) n5) :: (dn, listOf (dnI.push vn) n6) :: Z') (.str (toldS o.2) t') R)) :
    codeAny (model prg w) (Ar d u gd env outer) (.call (.ref 342) ⟨[.ref x, .str (Str.ofString "end") t1, .str v tv], []⟩) R ⟨h, g, dr, tk, os⟩ := by
  obtain ⟨⟨B, F, X, N, T, hf, hke, hd, hu⟩, XB, TB, D⟩ := cx
  have XBc := XB
  have hrow : PySem.Challenge.rw_pe0292_01 = _ := rfl
  revert hrow X; k_fill; w_top on; intro X _
  refine' code_defT B F X N T XB TB D rfl hf hke ?k6 ?k7 ?k8 (BindsTo.of_eq (call_binds _ _ _)) ?kB ?_ ?c2 ?c3 ?c4 ?c5
  case k6 => k_is
  case k7 => k_is
  case k8 => k_room
  case kB => exact locs rfl
  case c5 => decide
  case c2 => exact rfl
  case c3 => exact rfl
  case c4 => exact rfl
  intro g' L' h' FG' F' N' B' X' T' D' l1
  replace F' : Fr g' L' h' (fun y => List.lookup y ([(Str.ofString "target", .ref x), (Str.ofString "what", .str (Str.ofString "end") t1), (Str.ofString "text", .str v tv)] : List (Str × Value)).reverse) := F'
  (try dsimp only); (try ((with_reducible show wpAny _ _ _ _ _ _); k_fold))
  with_reducible refine gen_tok tokV ?_
  intro tk0 htk0
  k_steps
  refine Or.inl ?_
  refine wpAny_call ?_
  refine end_y (Cy.bare ⟨by k_asm, by k_asm, by k_asm, by k_asm, by k_asm, by rfl, by rfl, by k_units, by k_units⟩) (by k_units) (by k_units) hx hz hB hD hlen hlen2 hln hlp hls hnm hnl hst hsum hj hje (fun o ho its' n' hds' n2' Z' n4' n5' n6' hi hz' r' => ⟨fun ok => ?_, fun ok => ?_⟩)
  · intro h6 g6 dr6 tk6 hb6 F6 N6
    (try dsimp only)
    k_steps
    have H := fun tQ => (hF o ho its' n' hds' n2' Z' n4' n5' n6' tQ hi hz' r').1 ok
    simp only [toldS_t ok] at H
    exact leaveT_ (by k_asm) (by k_asm) KtsTurn.refl fun _ T9 F9 N9 B9 X9 Tp9 D9 => H _ _ _ _ _ _ (fun hb => hb6 hb) T9 F9 (news_sub N9 (by k_upd)) B9 X9 Tp9 D9
  · intro h6 g6 d6 tk6 e6 tt6 tu6 gb6 hb6 R6 F6 S6
    (try dsimp only)
    obtain ⟨F7, S7, R7⟩ := raised_toS B' F6 rfl S6 R6
    refine caught_SB (T' := "ValueError") R7 F7 B' S7 XB TB D' KtsTurn.refl (by k_is) PyProof.Rows.Boot.«ValueError» (by decide) PySem.F.isExc_ValueError PySem.F.notTuple_ValueError (by rw [isSubtype_type]; kernel_rfl) ?_
    intro h8 g8 n8 tk8 T8 F8 N8 G8 Nl8 B8 X8 Tp8 D8
    clear R6 F6 S6 R7 F7 S7
    k_steps
    have H := fun tQ => (hF o ho its' n' hds' n2' Z' 0 0 0 tQ hi hz' r').2 ok
    simp only [toldS_f ok] at H
    rw [refS_is]
    exact leaveT_ (by k_asm) (by k_asm) T8 fun _ T9 F9 N9 B9 X9 Tp9 D9 => H _ _ _ _ _ _ (fun hb => hb6 hb) T9 F9 (news_sub N9 (by k_upd)) B9 X9 Tp9 D9
end
section
namespace NL6
theorem hereL6 : True := trivial
end NL6
open NL6
theorem rowsL60 : True := by
  k_with "call ref" => (fail_if_success fail_if_success have q := hereL6); (k_here; refine hold_it ?_)
  k_with "call type:str" => (fail_if_success fail_if_success have q := hereL6); (k_here; (with_reducible show wpAny _ _ (call (Value.type "str") [Value.ref _]) _ _ _); k_dflt (refine' str_got_one PySem.F.excStr_ValueError (by assumption) (by assumption) (by first | units_room | k_room) ?_; k_whole))
  trivial
theorem dict_plain {ks : List (Option Expr)} {vs : List Expr} {p pos : Pos} {env : Env} : (backTo pos (starEach [Expr.Dict ks vs p] env)).any (·.1) = false := rfl
theorem callWith_KD {M : Model} {A : Around} {E : Value → Shared → Prop} {s : Shared} {K : Frag} {h₀ : Heap} {c : Const} {n : Nat} {pc p pos : Pos} {ks : List (Option Expr)} {vs : List Expr} {env : Env} {f : Value} {first : List Value} {Q : Value → Shared → Prop} (X : K.In h₀) (hk : keepIn K f = true) (h : wpAny M A (spliced (backTo pos (starEach [Expr.Constant c n pc, Expr.Dict ks vs p] env))) (fun vs s₁ => K.In s₁.heap ∧ wpAny M A (call f (first ++ vs)) Q E s₁) E s) :
    wpAny M A (callWith pos f first (backTo pos (starEach [Expr.Constant c n pc, Expr.Dict ks vs p] env)) []) Q E s := callWith_K X hk h rfl dict_plain
theorem rowsL61 : True := by
  k_with "callWith ref" => (fail_if_success fail_if_success have q := hereL6); (k_here; (with_reducible show wpAny _ _ (callWith _ (Value.ref 120) _ (backTo _ (starEach (_ :: _) _)) []) _ _ _); (with_reducible refine callWith_KD (by k_asm) (by k_dflt k_is) ?_); k_whole)
  trivial
theorem StkB.mono {Z Z' : List (Addr × Obj)} {its : Array Value} {l0 t0 : Addr} (H : StkB Z its l0 t0) (hs : ∀ p ∈ Z, p ∈ Z') : StkB Z' its l0 t0 :=
  ⟨let ⟨n', tx, tx', a, b⟩ := H.is; ⟨n', tx, tx', hs _ a, hs _ b⟩, H.pos, H.sz, H.at0, fun i a b => let ⟨c, k, e, m⟩ := H.more i a b; ⟨c, k, e, hs _ m⟩⟩
theorem RanG.drop {nm : Str} {led0 led1 Z0 Z : List (Addr × Obj)} {hds0 hds : Array Value} {o : Outc} {q : Addr × Obj} (r : RanG nm led1 (q :: Z0) hds0 o hds Z) (hnew : ∀ p ∈ led0, p.1 < q.1) (hsub : ∀ p ∈ led0, ∃ o, (p.1, o) ∈ led1) : RanG nm led0 Z0 hds0 o hds Z :=
  ⟨⟨fun p hp => r.up.sub p (.tail _ hp), fun p hp => by
    rcases r.up.new p hp with hp | hp
    · rcases List.mem_cons.mp hp with rfl | hp
      · exact .inr hnew
      · exact .inl hp
    · exact .inr fun a ha => by
        obtain ⟨o, ho⟩ := hsub a ha
        exact hp (a.1, o) ho⟩, ⟨fun p hp => r.lays.1 p (.tail _ hp), r.lays.2⟩⟩
theorem is_oneD {w : World} {o : Obj} {k : Str} {v : Value} (h : o.IsDictOf (strKind prg w) [(k, v)]) : ∃ t en, o = oneD w k t v en := by
  obtain ⟨es, ep, hc, hd, hk, hp, _⟩ := h
  obtain ⟨c, dd, dt, sl⟩ := o
  obtain ⟨l⟩ := es
  obtain ⟨rfl, rfl, rfl⟩ := hc
  dsimp only at hd hp
  subst hd
  cases hp with
  | cons h1 h2 h3 =>
    cases h3
    rename_i e
    obtain ⟨eh, ek, ev⟩ := e
    obtain ⟨t, ht⟩ := key_str h1
    dsimp only at ht h2
    subst ht
    subst h2
    obtain ⟨k', hk1, hk2⟩ := hk ⟨eh, .str k t, ev⟩ (by simp)
    obtain ⟨t', ht'⟩ := key_str hk1
    cases ht'
    refine ⟨t, ep, ?_⟩
    dsimp only at hk2
    rw [hk2]
    rfl
theorem DisjL.cons {a : Addr} {o : Obj} : ∀ {as : List Addr} {Z : List (Addr × Obj)}, DisjL as Z → (∀ b ∈ as, b ≠ a) → DisjL as ((a, o) :: Z)
  | [], _, _, _ => trivial
  | c :: r, Z, h, hn => ⟨h.1, fun p hp => by
      rcases List.mem_cons.mp hp with rfl | hp
      · exact Ne.symm (hn c (.head _))
      · exact h.2.1 p hp, DisjL.cons h.2.2 fun b hb => hn b (.tail _ hb)⟩
theorem ne8 {q a b c d e f e1 e2 : Addr} {Z : List (Addr × Obj)} (h : @LT.lt Nat _ a q ∧ @LT.lt Nat _ b q ∧ @LT.lt Nat _ c q ∧ @LT.lt Nat _ d q ∧ @LT.lt Nat _ e q ∧ @LT.lt Nat _ f q ∧ @LT.lt Nat _ e1 q ∧ @LT.lt Nat _ e2 q ∧ AllLt q Z) : ∀ x ∈ ([a, b, c, d, e, f, e1, e2] : List Addr), x ≠ q :=
  List.forall_mem_cons.mpr ⟨Nat.ne_of_lt h.1, List.forall_mem_cons.mpr ⟨Nat.ne_of_lt h.2.1, List.forall_mem_cons.mpr ⟨Nat.ne_of_lt h.2.2.1, List.forall_mem_cons.mpr ⟨Nat.ne_of_lt h.2.2.2.1, List.forall_mem_cons.mpr ⟨Nat.ne_of_lt h.2.2.2.2.1, List.forall_mem_cons.mpr ⟨Nat.ne_of_lt h.2.2.2.2.2.1, List.forall_mem_cons.mpr ⟨Nat.ne_of_lt h.2.2.2.2.2.2.1, List.forall_mem_cons.mpr ⟨Nat.ne_of_lt h.2.2.2.2.2.2.2.1, fun _ h => nomatch h⟩⟩⟩⟩⟩⟩⟩⟩
theorem ins_at {q : Addr × Obj} (l : List (Addr × Obj)) {Z : List (Addr × Obj)} {p : Addr × Obj} (h : p ∈ l ++ Z) : p ∈ l ++ q :: Z :=
  (List.mem_append.mp h).elim (fun h => List.mem_append_left _ h) fun h => List.mem_append_right _ (.tail _ h)
theorem lcall_begin {news : List (Addr × Obj)}
    {R : Result → Shared → Prop} {x dx f dd ds dn dm dp xt l cl l0 t0 : Addr} {ts : Nat → Tok} {seen done : Bool} {its hds dsI nsI pI : Array Value} {n n2 n3 n4 n5 n6 : Nat} {nm v : Str} {tn t1 tv : Tok} {txts : List Str} {vp : Value} {ps : Array Value}
    (cx : Ct w A₀ base h₀ outer env L m mean mg mb h ((dd, listOf its n) :: (l, listOf hds n2) :: (cl, listOf #[.str nm tn] n3) :: (dx, wrD w ts f dd ds dn dm dp seen done) :: (dp, listOf (pI.push vp) n4) :: (ds, listOf dsI n5) :: (dn, listOf nsI n6) :: (123, tabObj ps) :: news) d u)
    (hd1 : d ≤ 660) (hu1 : u ≤ 300) (hx : (x, instObj 150 dx) ∈ news) (hz : HandZ w news f xt l cl) (hB : StkB news dsI l0 t0) (hK : KeyTab ps news) (hD : DisjL [dd, l, cl, dx, dp, ds, dn, 123] news) (hlen : its.size ≤ 1000) (hlen2 : hds.size ≤ 970) (hln : nsI.size ≤ 990) (hlp : pI.size ≤ 990) (hls : dsI.size ≤ 990)
    (hvl : v.length ≤ 50) (hva : vBad (attrS v) = false) (hal : (attrS v).length ≤ 1000) (hnm : nBad nm = false) (hnl : nm.length ≤ 2 ^ 63 - 1) (hst : StrsAre its.toList txts) (hsum : (txts.map (·.length)).sum ≤ 16777216) (hj : (Txt.join (Str.ofString "") txts).length ≤ 1000) (hje : (escC (Txt.join (Str.ofString "") txts)).length ≤ 1000)
    (hF : ∀ (o : Outc), o = startP seen its.isEmpty (Txt.join (Str.ofString "") txts) v → ∀ its' n' hds' n2' Z' n4' n5' n6' ps' nl ln kl t', its'.isEmpty = true → HandZ w Z' f xt l cl → RanG nm ((dd, listOf its n) :: (l, listOf hds n2) :: (cl, listOf #[.str nm tn] n3) :: (dx, wrD w ts f dd ds dn dm dp seen done) :: (dp, listOf (pI.push vp) n4) :: (ds, listOf dsI n5) :: (dn, listOf nsI n6) :: (123, tabObj ps) :: news) news hds o hds' Z' →
      (o.2 = true → KeyTab ps' Z' → (nl, listOf #[] kl) ∈ Z' → (∀ p ∈ (((dd, listOf its n) :: (l, listOf hds n2) :: (cl, listOf #[.str nm tn] n3) :: (dx, wrD w ts f dd ds dn dm dp seen done) :: (dp, listOf (pI.push vp) n4) :: (ds, listOf dsI n5) :: (dn, listOf nsI n6) :: (123, tabObj ps) :: news : List (Addr × Obj))), p.1 < nl) → BackT w A₀ base outer mean mg mb g os h₀ L m ((dd, listOf its' n') :: (l, listOf hds' n2') :: (cl, listOf #[.str nm tn] n3) :: (dx, wrD w ts f dd ds dn dm dp true done) :: (dp, listOf ((pI.push vp).push vp) n4') :: (ds, listOf (dsI.push (.ref nl)) n5') :: (dn, listOf (nsI.push ln) n6') :: (123, tabObj ps') :: Z') (.str (toldS o.2) t') R) ∧
      (o.2 = false → BackT w A₀ base outer mean mg mb g os h₀ L m ((dd, listOf its' n') :: (l, listOf hds' n2') :: (cl, listOf #[.str nm tn] n3) :: (dx, wrD w ts f dd ds dn dm dp seen done) :: (dp, listOf (pI.push vp) n4) :: (ds, listOf dsI n5) :: (dn, listOf nsI n6) :: (123, tabObj ps) :: Z') (.str (toldS o.2) t') R)) :
    codeAny (model prg w) (Ar d u gd env outer) (.call (.ref 342) ⟨[.ref x, .str (Str.ofString "begin") t1, .str v tv], []⟩) R ⟨h, g, dr, tk, os⟩ := by
  obtain ⟨⟨B, F, X, N, T, hf, hke, hd, hu⟩, XB, TB, D⟩ := cx
  have XBc := XB
  have hrow : PySem.Challenge.rw_pe0292_01 = _ := rfl
  revert hrow X; k_fill; w_top on; intro X _
  refine' code_defT B F X N T XB TB D rfl hf hke ?k6 ?k7 ?k8 (BindsTo.of_eq (call_binds _ _ _)) ?kB ?_ ?c2 ?c3 ?c4 ?c5
  case k6 => k_is
  case k7 => k_is
  case k8 => k_room
  case kB => exact locs rfl
  case c5 => decide
  case c2 => exact rfl
  case c3 => exact rfl
  case c4 => exact rfl
  intro g' L' h' FG' F' N' B' X' T' D' l1
  replace F' : Fr g' L' h' (fun y => List.lookup y ([(Str.ofString "target", .ref x), (Str.ofString "what", .str (Str.ofString "begin") t1), (Str.ofString "text", .str v tv)] : List (Str × Value)).reverse) := F'
  (try dsimp only); (try ((with_reducible show wpAny _ _ _ _ _ _); k_fold))
  with_reducible refine gen_tok tokV ?_
  intro tk0 htk0
  k_steps
  refine Or.inl ?_
  refine wpAny_call ?_
  rename (Obj.IsDictOf _ _ _) => hdo
  obtain ⟨t5, en, rfl⟩ := is_oneD (k := Str.ofString "k") hdo
  rename (_ ∧ _ ∧ _ ∧ _ ∧ _ ∧ _ ∧ _ ∧ _ ∧ AllLt _ _) => ll
  refine start_y (l := l) (cl := cl) (ds := ds) (dd := dd) (dx := dx) (Cy.bare ⟨by k_asm, by k_asm, by k_asm, news8 (by k_asm) (by k_upd) (by k_upd) (by k_upd) (by k_upd) (by k_upd) (by k_upd) (by k_upd) (by k_upd), by k_asm, by rfl, by rfl, by k_units, by k_units⟩) (by k_units) (by k_units) (.tail _ hx) (HandZ.mono hz (fun p hp => .tail _ hp)) (StkB.mono hB (fun p hp => .tail _ hp)) (.head _) (by with_reducible assumption) (codeHd_of_K (XBc.keeps (bare_base B')) (by kernel_rfl)) (KeyTab.mono hK (fun p hp => .tail _ hp)) ?_ hlen hlen2 hln hlp hls hvl hva hal hnm hnl hst hsum hj hje ?_
  · exact hD.cons (ne8 ll)
  intro o ho its' n' hds' n2' Z' n4' n5' n6' ps' nl ln kl hi hz' r1
  have ins : ∀ (q : Addr × Obj) (p : Addr × Obj), p ∈ ((dd, listOf its n) :: (l, listOf hds n2) :: (cl, listOf #[.str nm tn] n3) :: (dx, wrD w ts f dd ds dn dm dp seen done) :: (dp, listOf (pI.push vp) n4) :: (ds, listOf dsI n5) :: (dn, listOf nsI n6) :: (123, tabObj ps) :: news : List (Addr × Obj)) → p ∈ ((dd, listOf its n) :: (l, listOf hds n2) :: (cl, listOf #[.str nm tn] n3) :: (dx, wrD w ts f dd ds dn dm dp seen done) :: (dp, listOf (pI.push vp) n4) :: (ds, listOf dsI n5) :: (dn, listOf nsI n6) :: (123, tabObj ps) :: q :: news : List (Addr × Obj)) := fun q p hp => by
    exact ins_at [_, _, _, _, _, _, _, _] hp
  have r' := RanG.drop (led0 := (dd, listOf its n) :: (l, listOf hds n2) :: (cl, listOf #[.str nm tn] n3) :: (dx, wrD w ts f dd ds dn dm dp seen done) :: (dp, listOf (pI.push vp) n4) :: (ds, listOf dsI n5) :: (dn, listOf nsI n6) :: (123, tabObj ps) :: news) r1 (lt8 ll fun _ h => h) (fun p hp => ⟨p.2, ins _ p hp⟩)
  refine ⟨fun ok k6 m6 l6 => ?_, fun ok => ?_⟩
  · intro h6 g6 dr6 tk6 hb6 F6 N6
    (try dsimp only)
    k_steps
    have H := fun tQ => (hF o ho its' n' hds' n2' Z' n4' n5' n6' ps' nl ln kl tQ hi hz' r').1 ok k6 m6 (fun p hp => l6 p (ins _ p hp))
    simp only [toldS_t ok] at H
    exact leaveT_ (by k_asm) (by k_asm) KtsTurn.refl fun _ T9 F9 N9 B9 X9 Tp9 D9 => H _ _ _ _ _ _ (fun hb => hb6 hb) T9 F9 (news_sub N9 (by k_upd)) B9 X9 Tp9 D9
  · intro h6 g6 d6 tk6 e6 tt6 tu6 gb6 hb6 R6 F6 S6
    (try dsimp only)
    obtain ⟨F7, S7, R7⟩ := raised_toS B' F6 rfl S6 R6
    refine caught_SB (T' := "ValueError") R7 F7 B' S7 XB TB D' KtsTurn.refl (by k_is) PyProof.Rows.Boot.«ValueError» (by decide) PySem.F.isExc_ValueError PySem.F.notTuple_ValueError (by rw [isSubtype_type]; kernel_rfl) ?_
    intro h8 g8 n8 tk8 T8 F8 N8 G8 Nl8 B8 X8 Tp8 D8
    clear R6 F6 S6 R7 F7 S7
    k_steps
    have H := fun tQ => (hF o ho its' n' hds' n2' Z' n4' n5' n6' ps' nl ln kl tQ hi hz' r').2 ok
    simp only [toldS_f ok] at H
    rw [refS_is]
    exact leaveT_ (by k_asm) (by k_asm) T8 fun _ T9 F9 N9 B9 X9 Tp9 D9 => H _ _ _ _ _ _ (fun hb => hb6 hb) T9 F9 (news_sub N9 (by k_upd)) B9 X9 Tp9 D9
end
section
theorem stK_from {a b c d e v : Value} : stored (stK a b c d e) (Str.ofString "from") v = stK a b v d e := by rfl
theorem stK_held {a b c d e v : Value} : stored (stK a b c d e) (Str.ofString "held") v = stK v b c d e := by rfl
theorem stK_depth {a b c d e v : Value} : stored (stK a b c d e) (Str.ofString "depth") v = stK a v c d e := by rfl
theorem stK_seen {a b c d e v : Value} : stored (stK a b c d e) (Str.ofString "seen") v = stK a b c v e := by rfl
section
variable {w : World} {A : Around} {E : Value → Shared → Prop} {s : Shared} {h₀ : Heap} {L d : Addr} {m : Str → Option Value} {led l1 : List (Addr × Obj)} {o : Obj} {kvs kvs' : List (Str × Value)} {x : Str} {t : Tok} {v : Value}
theorem dset_P {Q : Unit → Shared → Prop} (F : Fr h₀ L s.heap m) (N : News h₀ L s.heap led) (p : Pick (d, o) led l1) (off : ∀ p ∈ l1, p.1 ≠ d) (ho : o.IsDictOf (strKind prg w) kvs) (e : stored kvs x v = kvs') (hsz : kvs.length ≤ sizeLine)
    (h : ∀ h' o', Fr h₀ L h' m → News h₀ L h' ((d, o') :: l1) → o'.IsDictOf (strKind prg w) kvs' → Q () { s with heap := h', toks := s.toks + 1 }) :
    wpAny (model prg w) A (setItem (.ref d) (.str x t) v) Q E s := dset F (news1 N p) (UpdF.head off) ho e hsz h
end
noncomputable def layP (v : Str) : Outc := if bad v then ([], false) else ([v], true)
theorem layP_len (v : Str) : (layP v).1.length ≤ 1 := by unfold layP; split <;> simp
inductive PushedL (frm : Int) (ls : Array Value) (Z : List (Addr × Obj)) : List Str → Array Value → List (Addr × Obj) → Prop
  | nil : PushedL frm ls Z [] ls Z
  | snoc {vs ls' Z'} (v : Str) (q : Addr) (t t' : Tok) : PushedL frm ls Z vs ls' Z' → PushedL frm ls Z (vs ++ [v]) (ls'.push (.ref q)) ((q, tupO (.int frm t) (.str v t')) :: Z')
theorem PushedL.trans {nm : Int} {a b c : Array Value} {Z Z' Z'' : List (Addr × Obj)} {vs ws : List Str} (P : PushedL nm a Z vs b Z') (P' : PushedL nm b Z' ws c Z'') : PushedL nm a Z (vs ++ ws) c Z'' := by
  induction P' with
  | nil => rw [List.append_nil]; exact P
  | snoc v q t t' _ ih => rw [← List.append_assoc]; exact .snoc v q t t' ih
structure RanL (frm : Int) (led0 Z0 : List (Addr × Obj)) (ls0 : Array Value) (o : Outc) (ls : Array Value) (Z : List (Addr × Obj)) : Prop where
  up : Up led0 Z0 Z
  pushed : PushedL frm ls0 Z0 o.1 ls Z
theorem RanL.vs {frm : Int} {led0 Z0 Z : List (Addr × Obj)} {ls0 ls : Array Value} {o : Outc} (r : RanL frm led0 Z0 ls0 o ls Z) : RanL frm led0 Z0 ls0 (o.1, true) ls Z := ⟨r.up, r.pushed⟩
theorem RanL.start (frm : Int) (led0 Z0 : List (Addr × Obj)) (ls0 : Array Value) : RanL frm led0 Z0 ls0 ([], true) ls0 Z0 := ⟨Up.refl _ _, .nil⟩
theorem RanL.then {frm : Int} {led0 led Z0 Z Z' : List (Addr × Obj)} {ls0 ls ls' : Array Value} {o o' : Outc} (r : RanL frm led0 Z0 ls0 o ls Z) (ok : o.2 = true) (U : Up led Z Z') (P : PushedL frm ls Z o'.1 ls' Z') (hk : ∀ r ∈ led0, ∃ o, (r.1, o) ∈ led) :
    RanL frm led0 Z0 ls0 (seqP o o') ls' Z' := ⟨r.up.trans U hk, by unfold seqP; rw [if_pos ok]; exact r.pushed.trans P⟩
section
variable {led Z : List (Addr × Obj)}
    {R : Result → Shared → Prop} {st ll : Addr} {so : Obj} {text : Str} {tt ft : Tok} {frm : Int} {ls : Array Value} {n : Nat} {held depth seen : Value}
theorem llay_z (cx : Cy w A₀ base h₀ outer env L m mean mg mb h ((st, so) :: (ll, listOf ls n) :: Z) d u) (ho : so.IsDictOf (strKind prg w) (stK held depth (.int frm ft) seen (.ref ll)))
    (hne : st ≠ ll) (hnews : ∀ p ∈ Z, p.1 ≠ ll) (hlen : ls.size ≤ 1000)
    {led0 Z0 : List (Addr × Obj)} {ls0 : Array Value} {o : Outc} (r : RanL frm led0 Z0 ls0 o ls Z) (ok : o.2 = true) (hk : ∀ r ∈ led0, ∃ o, (r.1, o) ∈ ((st, so) :: (ll, listOf ls n) :: Z))
    (hF : ∀ ls' n' Z', Up ((st, so) :: (ll, listOf ls n) :: Z) Z Z' → RanL frm led0 Z0 ls0 (seqP o (layP text)) ls' Z' → ls'.size ≤ ls.size + 1 →
      ((seqP o (layP text)).2 = true → BackY g os h₀ L m ((st, so) :: (ll, listOf ls' n') :: Z') (.bool true) R) ∧ ((seqP o (layP text)).2 = false → BackY g os h₀ L m ((st, so) :: (ll, listOf ls' n') :: Z') (.bool false) R)) :
    codeAny (model prg w) (Ar d u gd env outer) (.call (.ref 328) ⟨[.ref st, .str text tt], []⟩) R ⟨h, g, dr, tk, os⟩ := by
  refine lay_y cx ho hne hnews hlen (fun hb => ?_) fun hb q lq => ?_
  · have e : layP text = ([], false) := by unfold layP; rw [if_pos hb]
    exact (hF ls n Z (Up.refl _ _) (r.then ok (Up.refl _ _) (by rw [e]; exact .nil) hk) (Nat.le_succ _)).2 (by rw [seqP_ok ok, e])
  · have e : layP text = ([text], true) := by unfold layP; rw [if_neg (by rw [hb]; exact Bool.false_ne_true)]
    have U : Up ((st, so) :: (ll, listOf ls n) :: Z) Z ((q, tupO (.int frm ft) (.str text tt)) :: Z) := Up.one fun p hp => by
      rcases List.mem_cons.mp hp with rfl | hp
      · exact lq.1
      · rcases List.mem_cons.mp hp with rfl | hp
        · exact lq.2.1
        · exact allLt_mem lq.2.2 p hp
    have H := (hF _ (n + 1) _ U (r.then ok U (by rw [e]; exact .snoc (vs := []) text q ft tt .nil) hk) (by rw [Array.size_push]; exact Nat.le_refl _)).1 (by rw [seqP_ok ok, e])
    intro h' g' d' tk' hb F' N'
    exact H h' g' d' tk' hb F' (news_sub N' fun p hp => by
      rcases List.mem_cons.mp hp with rfl | hp
      · exact .tail _ (.head _)
      · rcases List.mem_cons.mp hp with rfl | hp
        · exact .tail _ (.tail _ (.head _))
        · rcases List.mem_cons.mp hp with rfl | hp
          · exact .head _
          · exact .tail _ (.tail _ (.tail _ hp)))
end
inductive JN (Q : Flow → Shared → Prop) (g : Array GenState) (os : OsState) (h₀ : Heap) (L : Addr) (m : Str → Option Value) (frm : Int) (led0 Z0 : List (Addr × Obj)) (ls0 : Array Value) (st ll : Addr) (so : Obj) (o : Outc) (fl : Flow) (s : Shared) : Prop
  | nx (ls' : Array Value) (n' : Nat) (Z' : List (Addr × Obj)) (h' : Heap) (g' : Array GenState) (dr' : Drawn) (tk' : Tok) (_ : fl = .next) (_ : s = ⟨h', g', dr', tk', os⟩) (_ : RanL frm led0 Z0 ls0 o ls' Z') (_ : ls'.size ≤ ls0.size + 1) (_ : o.2 = true) (_ : AllBare g → AllBare g') (_ : Fr h₀ L h' m)
      (_ : News h₀ L h' ((st, so) :: (ll, listOf ls' n') :: Z')) : JN Q g os h₀ L m frm led0 Z0 ls0 st ll so o fl s
  | out (_ : Q fl s) : JN Q g os h₀ L m frm led0 Z0 ls0 st ll so o fl s
section
variable {w : World} {A : Around} {E : Value → Shared → Prop} {Q : Flow → Shared → Prop} {g g0 : Array GenState} {os : OsState} {h₀ h : Heap} {L : Addr} {m : Str → Option Value} {frm : Int} {led0 Z0 Z : List (Addr × Obj)} {ls0 ls : Array Value} {st ll : Addr} {so : Obj} {n : Nat} {o o0 : Outc} {dr : Drawn} {tk : Tok}
theorem jn_is {c : Sem Flow} {s : Shared} (h : wpAny (model prg w) A c (JN Q g os h₀ L m frm led0 Z0 ls0 st ll so o) E s) : wpAny (model prg w) A c (JN Q g os h₀ L m frm led0 Z0 ls0 st ll so o) E s := h
theorem jn_join {c : Sem Flow} (_r : RanL frm led0 Z0 ls0 o0 ls0 Z0) (_F : Fr h₀ L h m) (_N : News h₀ L h ((st, so) :: (ll, listOf ls0 n) :: Z0))
    (hq : ∀ ls' n' Z' h' g' dr' tk', Up led0 Z0 Z' → RanL frm led0 Z0 ls0 o ls' Z' → ls'.size ≤ ls0.size + 1 → o.2 = true → (AllBare g → AllBare g') → Fr h₀ L h' m → News h₀ L h' ((st, so) :: (ll, listOf ls' n') :: Z') → Q .next ⟨h', g', dr', tk', os⟩)
    (hc : wpAny (model prg w) A c (JN Q g os h₀ L m frm led0 Z0 ls0 st ll so o) E ⟨h, g, dr, tk, os⟩) : wpAny (model prg w) A c Q E ⟨h, g, dr, tk, os⟩ :=
  wpAny_mono hc (fun _ _ j => by
    cases j with
    | nx ls' n' Z' h' g' dr' tk' e1 e2 P z k b F N => subst e1; subst e2; exact hq ls' n' Z' h' g' dr' tk' P.up P z k b F N
    | out q => exact q) fun _ _ e => e
theorem jn_in {o1 : Outc} (F : Fr h₀ L h m) (N : News h₀ L h ((st, so) :: (ll, listOf ls n) :: Z)) (b : AllBare g → AllBare g0) (P : RanL frm led0 Z0 ls0 o1 ls Z) (k : o1.2 = true) (z : ls.size ≤ ls0.size + 1) (e : o = o1) :
    JN Q g os h₀ L m frm led0 Z0 ls0 st ll so o .next ⟨h, g0, dr, tk, os⟩ :=
  .nx ls n Z h g0 dr tk rfl rfl (e ▸ P) z (e ▸ k) b F N
end
structure StepR where
  vs : List Str
  ret : Bool
  held : Str
  dep : Int
  seen : Bool
noncomputable def stepQ (isB isE : Bool) (p held : Str) (dep : Int) (seen : Bool) : StepR :=
  if dep = 0 ∧ isB = false then ⟨(if seen then okP else seqP okP (layP p)).1, false, held, dep, seen⟩
  else
    let o := seqP (if 0 < dep then seqP okP (layP (spell psC held)) else okP) (layP p)
    if o.2 then ⟨o.1, true, Str.ofString "", if isB then dep + 1 else if isE then dep - 1 else dep, if isB then true else seen⟩ else ⟨o.1, false, Str.ofString "", dep, seen⟩
theorem stepQ_0 {isE seen : Bool} {p held : Str} {dep : Int} (h : dep = 0) : stepQ false isE p held dep seen = ⟨(if seen then okP else seqP okP (layP p)).1, false, held, dep, seen⟩ := by unfold stepQ; rw [if_pos ⟨h, rfl⟩]
theorem stepQ_1 {isB isE seen : Bool} {p held : Str} {dep : Int} {o : Outc} (h : dep ≠ 0 ∨ isB = true) (e : seqP (if 0 < dep then seqP okP (layP (spell psC held)) else okP) (layP p) = o) (ok : o.2 = true) :
    stepQ isB isE p held dep seen = ⟨o.1, true, Str.ofString "", if isB then dep + 1 else if isE then dep - 1 else dep, if isB then true else seen⟩ := by
  subst e
  unfold stepQ
  rw [if_neg (fun z => h.elim (fun a => a z.1) fun a => by rw [a] at z; cases z.2)]
  (try dsimp only)
  rw [if_pos ok]
theorem stepQ_2 {isB isE seen : Bool} {p held : Str} {dep : Int} {o : Outc} (h : dep ≠ 0 ∨ isB = true) (e : seqP (if 0 < dep then seqP okP (layP (spell psC held)) else okP) (layP p) = o) (ok : o.2 = false) :
    stepQ isB isE p held dep seen = ⟨o.1, false, Str.ofString "", dep, seen⟩ := by
  subst e
  unfold stepQ
  rw [if_neg (fun z => h.elim (fun a => a z.1) fun a => by rw [a] at z; cases z.2)]
  (try dsimp only)
  rw [if_neg (by rw [ok]; exact Bool.false_ne_true)]
section
variable {isB isE seen : Bool} {p held : Str} {dep : Int}
theorem stepQ_1p (h0 : 0 < dep) (ok : (seqP (seqP okP (layP (spell psC held))) (layP p)).2 = true) :
    stepQ isB isE p held dep seen = ⟨(seqP (seqP okP (layP (spell psC held))) (layP p)).1, true, Str.ofString "", if isB then dep + 1 else if isE then dep - 1 else dep, if isB then true else seen⟩ := stepQ_1 (.inl (by kln_le)) (by rw [if_pos h0]) ok
theorem stepQ_2p (h0 : 0 < dep) (ok : (seqP (seqP okP (layP (spell psC held))) (layP p)).2 = false) :
    stepQ isB isE p held dep seen = ⟨(seqP (seqP okP (layP (spell psC held))) (layP p)).1, false, Str.ofString "", dep, seen⟩ := stepQ_2 (.inl (by kln_le)) (by rw [if_pos h0]) ok
theorem stepQ_3p (h0 : 0 < dep) (ok : (seqP okP (layP (spell psC held))).2 = false) :
    stepQ isB isE p held dep seen = ⟨(seqP okP (layP (spell psC held))).1, false, Str.ofString "", dep, seen⟩ := stepQ_2 (.inl (by kln_le)) ((congrArg (fun z => seqP z (layP p)) (if_pos h0)).trans (seqP_bad ok)) ok
theorem stepQ_1n (h0 : ¬ 0 < dep) (h : dep ≠ 0 ∨ isB = true) (ok : (seqP okP (layP p)).2 = true) :
    stepQ isB isE p held dep seen = ⟨(seqP okP (layP p)).1, true, Str.ofString "", if isB then dep + 1 else if isE then dep - 1 else dep, if isB then true else seen⟩ := stepQ_1 h (by rw [if_neg h0]) ok
theorem stepQ_2n (h0 : ¬ 0 < dep) (h : dep ≠ 0 ∨ isB = true) (ok : (seqP okP (layP p)).2 = false) :
    stepQ isB isE p held dep seen = ⟨(seqP okP (layP p)).1, false, Str.ofString "", dep, seen⟩ := stepQ_2 h (by rw [if_neg h0]) ok
end
end
section
theorem step_binds (a0 a1 a2 : Value) : bindArgs (fnOf (Str.ofString "_law_step") (Str.ofString "_law_step") (fPar (stA 19)) (fBody (stA 19)) (fScope (stA 19)) .none .none .none (.str (Str.ofString "law_pe0292_01") 802) none (.ref 334) .none) ⟨[a0, a1, a2], []⟩ = pure [(Str.ofString "state", a0), (Str.ofString "what", a1), (Str.ofString "text", a2)] := by kernel_rfl!
end
section
namespace NN2c
theorem hereN2c : True := trivial
end NN2c
open NN2c
noncomputable abbrev envT (L : Addr) : Env := envOf (Str.ofString "_law_step") (fScope (stA 19)) L 335 (Value.ref 334)
noncomputable abbrev stS8 : List Stmt := List.drop 8 (fBody (stA 19))
theorem hk_swap {led0 l : List (Addr × Obj)} {st : Addr} {so so' : Obj} (h : ∀ r ∈ led0, ∃ o, (r.1, o) ∈ ((st, so) :: l)) : ∀ r ∈ led0, ∃ o, (r.1, o) ∈ ((st, so') :: l) := fun r hr => by
  obtain ⟨o, ho⟩ := h r hr
  rcases List.mem_cons.mp ho with e | ho
  · exact ⟨so', (congrArg Prod.fst e : r.1 = st) ▸ .head _⟩
  · exact ⟨o, .tail _ ho⟩
theorem hk_up {led led0 Z Z' : List (Addr × Obj)} {st ll : Addr} {so so' lo lo' : Obj} (U : Up led Z Z') (h : ∀ r ∈ led0, ∃ o, (r.1, o) ∈ ((st, so) :: (ll, lo) :: Z)) : ∀ r ∈ led0, ∃ o, (r.1, o) ∈ ((st, so') :: (ll, lo') :: Z') := fun r hr => by
  obtain ⟨o, ho⟩ := h r hr
  rcases List.mem_cons.mp ho with e | ho
  · exact ⟨so', (congrArg Prod.fst e : r.1 = st) ▸ .head _⟩
  · rcases List.mem_cons.mp ho with e | ho
    · exact ⟨lo', (congrArg Prod.fst e : r.1 = ll) ▸ .tail _ (.head _)⟩
    · exact ⟨o, .tail _ (.tail _ (U.sub _ ho))⟩
section
variable {w : World} {so : Obj} {held fr l : Value} {td : Tok} {dep : Int} {seen b e : Bool}
theorem rowsN2c0 : True := by
  k_with "eval Name" => (fail_if_success fail_if_success have q := hereN2c); (k_here; k_dflt (refine' nameX_L (by k_asm) (by first | with_reducible assumption | exact lk_here | exact lk_skip (by decide +kernel) (by with_reducible assumption)) ?_ (by rfl) (by rfl); k_whole))
  k_with "setItem ref str" => (fail_if_success fail_if_success have q := hereN2c); (k_here; (try dsimp only [List.nil_append, List.cons_append]); (with_reducible show wpAny _ _ (setItem (Value.ref _) (Value.str _ _) _) _ _ _); k_dflt (first | (refine dset_P (by k_asm) (by k_asm) (by k_upd) (by k_all) (by k_asm) stK_from (by show _ ≤ _; decide) ?_) | (refine dset_P (by k_asm) (by k_asm) (by k_upd) (by k_all) (by k_asm) stK_held (by show _ ≤ _; decide) ?_) | (refine dset_P (by k_asm) (by k_asm) (by k_upd) (by k_all) (by k_asm) stK_depth (by show _ ≤ _; decide) ?_) | (refine dset_P (by k_asm) (by k_asm) (by k_upd) (by k_all) (by k_asm) stK_seen (by show _ ≤ _; decide) ?_)); intro h'ₓ o'ₓ F'ₓ N'ₓ hd'ₓ)
  k_with "call ref" => (fail_if_success fail_if_success have q := hereN2c); (k_here; (try dsimp only [List.nil_append, List.cons_append]); k_dflt (refine wpAny_call ?_; first | (refine spellC_y ⟨by k_asm, by k_asm, by k_asm, by k_asm, by k_asm, rfl, rfl, by k_units, by k_units⟩ (by kln_le) (by k_asm) ?_) | (refine llay_z ⟨by k_asm, by k_asm, by k_asm, by k_asm, by k_asm, rfl, rfl, by k_units, by k_units⟩ (by k_asm) (by k_asm) (by k_all) (by kln_le) (by k_asm) (by first | with_reducible assumption | assumption | rfl) (by first | with_reducible assumption | exact hk_swap (by with_reducible assumption) | k_upd) (fun ls'ₓ n'ₓ Z'ₓ U'ₓ r'ₓ s'ₓ => ⟨fun ok'ₓ => ?_, fun ok'ₓ => ?_⟩))))
  trivial
theorem st_b (hb : b = true) (k : so.IsDictOf (strKind prg w) (stK held (.int (dep + 1) td) fr (.bool true) l)) : so.IsDictOf (strKind prg w) (stK held (.int (if b = true then dep + 1 else if e = true then dep - 1 else dep) td) fr (.bool (if b = true then true else seen)) l) := by
  subst hb; exact k
theorem st_e (hb : b = false) (he : e = true) (k : so.IsDictOf (strKind prg w) (stK held (.int (dep - 1) td) fr (.bool seen) l)) : so.IsDictOf (strKind prg w) (stK held (.int (if b = true then dep + 1 else if e = true then dep - 1 else dep) td) fr (.bool (if b = true then true else seen)) l) := by
  subst hb he; exact k
theorem st_o (hb : b = false) (he : e = false) (k : so.IsDictOf (strKind prg w) (stK held (.int dep td) fr (.bool seen) l)) : so.IsDictOf (strKind prg w) (stK held (.int (if b = true then dep + 1 else if e = true then dep - 1 else dep) td) fr (.bool (if b = true then true else seen)) l) := by
  subst hb he; exact k
end
theorem step_put {w : World} {A₀ : Around} {d u : Nat} {gd : Option (List Code)} {base h₀ : Heap} {outer : List Env} {L : Addr} {m : Str → Option Value} {mean : ExcName → Option Value} {mg mb : Str → Option Value} {h : Heap} {g : Array GenState} {dr : Drawn} {tk : Tok} {os : OsState} {Z : List (Addr × Obj)} {Q : Flow → Shared → Prop} {E : Value → Shared → Prop}
    {stmts : List Stmt} {st ll : Addr} {so : Obj} {ls : Array Value} {n : Nat} {wh pc : Str} {held : Value} {t1 tp td tf : Tok} {dep : Int} {seen : Bool}
    (es : stS8 = stmts) (hbe : (wh == Str.ofString "begin") = true → (wh == Str.ofString "end") = false) (B : Below A₀ base outer h₀) (X : (K w.params).In h₀) (T : Top topProg LS mean mg mb h₀) (hd1 : d ≤ 670) (hu1 : u ≤ 310)
    (F : Fr h₀ L h m) (hm1 : m (Str.ofString "state") = some (.ref st)) (hm2 : m (Str.ofString "what") = some (.str wh t1)) (hm3 : m (Str.ofString "piece") = some (.str pc tp))
    (N : News h₀ L h ((st, so) :: (ll, listOf ls n) :: Z)) (ho : so.IsDictOf (strKind prg w) (stK held (.int dep td) (.int dep tf) (.bool seen) (.ref ll)))
    (hne : st ≠ ll) (hst : ∀ p ∈ Z, p.1 ≠ st) (hll : ∀ p ∈ Z, p.1 ≠ ll) (hlen : ls.size ≤ 992)
    {led0 Z0 : List (Addr × Obj)} {ls0 : Array Value} {o : Outc} (r : RanL dep led0 Z0 ls0 o ls Z) (ok : o.2 = true) (hk : ∀ r ∈ led0, ∃ o, (r.1, o) ∈ ((st, so) :: (ll, listOf ls n) :: Z))
    (h0 : (seqP o (layP pc)).2 = false → ∀ ls' n' Z' h' g' dr' tk', (AllBare g → AllBare g') → RanL dep led0 Z0 ls0 (seqP o (layP pc)) ls' Z' → Fr h₀ L h' m → News h₀ L h' ((st, so) :: (ll, listOf ls' n') :: Z') → Q (.ret (.bool false)) ⟨h', g', dr', tk', os⟩)
    (h1 : (seqP o (layP pc)).2 = true → ∀ so' ls' n' Z' td' h' g' dr' tk', (AllBare g → AllBare g') → RanL dep led0 Z0 ls0 (seqP o (layP pc)) ls' Z' → so'.IsDictOf (strKind prg w) (stK held (.int (if (wh == Str.ofString "begin") = true then dep + 1 else if (wh == Str.ofString "end") = true then dep - 1 else dep) td') (.int dep tf) (.bool (if (wh == Str.ofString "begin") = true then true else seen)) (.ref ll)) → Fr h₀ L h' m → News h₀ L h' ((st, so') :: (ll, listOf ls' n') :: Z') → Q (.ret (.bool true)) ⟨h', g', dr', tk', os⟩) :
    wpAny (model prg w) (Ar d u gd (envT L) outer) (execs stmts (envT L)) Q E ⟨h, g, dr, tk, os⟩ := by
  subst es
  have hrow : PySem.Challenge.rw_pe0292_01 = _ := rfl
  revert hrow X; k_fill; w_top on; intro X _
  with_reducible refine gen_tok tokV ?_
  intro tk0 htk0
  k_steps
  all_goals first
    | exact absurd ((hbe (by with_reducible assumption)).symm.trans (by with_reducible assumption)) Bool.false_ne_true
    | exact h0 (by with_reducible assumption) _ _ _ _ _ _ _ (fun hb => by solve_by_elim) (by k_asm) (by k_asm) (by k_asm)
    | exact h1 (by with_reducible assumption) _ _ _ _ _ _ _ _ _ (fun hb => by solve_by_elim) (by k_asm) (by first | exact st_b (by with_reducible assumption) (by k_asm) | exact st_e (by with_reducible assumption) (by with_reducible assumption) (by k_asm) | exact st_o (by with_reducible assumption) (by with_reducible assumption) (by k_asm)) (by k_asm) (by k_asm)
end
section
namespace NN2d
theorem hereN2d : True := trivial
end NN2d
open NN2d
theorem rowsN2d0 : True := by
  k_with "eval Name" => (fail_if_success fail_if_success have q := hereN2d); (k_here; k_dflt (refine' nameX_L (by k_asm) (by first | with_reducible assumption | exact lk_here | exact lk_skip (by decide +kernel) (by with_reducible assumption)) ?_ (by rfl) (by rfl); k_whole))
  k_with "setItem ref str" => (fail_if_success fail_if_success have q := hereN2d); (k_here; (try dsimp only [List.nil_append, List.cons_append]); (with_reducible show wpAny _ _ (setItem (Value.ref _) (Value.str _ _) _) _ _ _); k_dflt (first | (refine dset_P (by k_asm) (by k_asm) (by k_upd) (by k_all) (by k_asm) stK_from (by show _ ≤ _; decide) ?_) | (refine dset_P (by k_asm) (by k_asm) (by k_upd) (by k_all) (by k_asm) stK_held (by show _ ≤ _; decide) ?_) | (refine dset_P (by k_asm) (by k_asm) (by k_upd) (by k_all) (by k_asm) stK_depth (by show _ ≤ _; decide) ?_) | (refine dset_P (by k_asm) (by k_asm) (by k_upd) (by k_all) (by k_asm) stK_seen (by show _ ≤ _; decide) ?_)); intro h'ₓ o'ₓ F'ₓ N'ₓ hd'ₓ)
  k_with "call ref" => (fail_if_success fail_if_success have q := hereN2d); (k_here; (try dsimp only [List.nil_append, List.cons_append]); k_dflt (refine wpAny_call ?_; first | (refine spellC_y ⟨by k_asm, by k_asm, by k_asm, by k_asm, by k_asm, rfl, rfl, by k_units, by k_units⟩ (by kln_le) (by k_asm) ?_) | (refine llay_z ⟨by k_asm, by k_asm, by k_asm, by k_asm, by k_asm, rfl, rfl, by k_units, by k_units⟩ (by k_asm) (by k_asm) (by k_all) (by kln_le) (by k_asm) (by first | with_reducible assumption | assumption | rfl) (by first | with_reducible assumption | exact hk_swap (by with_reducible assumption) | exact hk_up (by with_reducible assumption) (by with_reducible assumption) | k_upd) (fun ls'ₓ n'ₓ Z'ₓ U'ₓ r'ₓ s'ₓ => ⟨fun ok'ₓ => ?_, fun ok'ₓ => ?_⟩))))
  trivial
theorem bne_t {a b : Str} (h : (a != b) = true) : (a == b) = false := by
  unfold bne at h; cases e : (a == b)
  · rfl
  · rw [e] at h; cases h
theorem bne_f {a b : Str} (h : (a != b) = false) : (a == b) = true := by
  unfold bne at h; cases e : (a == b)
  · rw [e] at h; cases h
  · rfl
theorem stepQ_s {isB isE seen : Bool} {p held : Str} {dep : Int} (hb : isB = false) (h : dep = 0) (hs : seen = true) : stepQ isB isE p held dep seen = ⟨okP.1, false, held, dep, seen⟩ := by
  subst hb hs; rw [stepQ_0 h]; rfl
theorem stepQ_n {isB isE seen : Bool} {p held : Str} {dep : Int} (hb : isB = false) (h : dep = 0) (hs : seen = false) : stepQ isB isE p held dep seen = ⟨(seqP okP (layP p)).1, false, held, dep, seen⟩ := by
  subst hb hs; rw [stepQ_0 h]; rfl
noncomputable abbrev stS5 : List Stmt := List.drop 5 (fBody (stA 19))
noncomputable abbrev stS4 : List Stmt := List.drop 4 (fBody (stA 19))
section
theorem rowsN2d1 : True := by
  k_with "execs cons" => (fail_if_success fail_if_success have q := hereN2d); (k_here; (with_reducible show wpAny _ _ (execs (Stmt.If (Expr.UnaryOp _ (Expr.Call _ _ _ _) _) _ _ _ :: _) _) _ _ _); k_dflt (refine (step_put (by kernel_rfl!) hbe (by k_asm) (by k_asm) (by k_asm) (by k_units) (by k_units) (by k_asm) (by first | with_reducible assumption | exact lk_skip (by decide +kernel) (by with_reducible assumption) | rfl) (by first | with_reducible assumption | exact lk_skip (by decide +kernel) (by with_reducible assumption) | rfl) (by first | with_reducible assumption | exact lk_skip (by decide +kernel) (by with_reducible assumption) | rfl) (by k_asm) (by k_asm) (by k_asm) (by k_all) (by k_all) (by kln_le) (by k_asm) (by first | with_reducible assumption | rfl) (by first | with_reducible assumption | exact hk_swap (by with_reducible assumption) | exact hk_up (by with_reducible assumption) (by with_reducible assumption) | k_upd) (fun ok'ₓ ls'ₓ n'ₓ Z'ₓ h'ₓ g'ₓ dr'ₓ tk'ₓ hb'ₓ r'ₓ F'ₓ N'ₓ => ?_) (fun ok'ₓ so'ₓ ls'ₓ n'ₓ Z'ₓ td'ₓ h'ₓ g'ₓ dr'ₓ tk'ₓ hb'ₓ r'ₓ ho'ₓ F'ₓ N'ₓ => ?_))))
  trivial
theorem step_mid {w : World} {A₀ : Around} {d u : Nat} {gd : Option (List Code)} {base h₀ : Heap} {outer : List Env} {L : Addr} {m : Str → Option Value} {mean : ExcName → Option Value} {mg mb : Str → Option Value} {h : Heap} {g : Array GenState} {dr : Drawn} {tk : Tok} {os : OsState} {Z : List (Addr × Obj)} {Q : Flow → Shared → Prop} {E : Value → Shared → Prop}
    {stmts : List Stmt} {st ll : Addr} {so : Obj} {ls : Array Value} {n : Nat} {wh pc held : Str} {th t1 tp td tf : Tok} {dep : Int} {seen : Bool}
    (es : stS5 = stmts) (hbe : (wh == Str.ofString "begin") = true → (wh == Str.ofString "end") = false) (hc : dep ≠ 0 ∨ (wh == Str.ofString "begin") = true)
    (B : Below A₀ base outer h₀) (X : (K w.params).In h₀) (T : Top topProg LS mean mg mb h₀) (hd1 : d ≤ 670) (hu1 : u ≤ 310)
    (F : Fr h₀ L h m) (hm1 : m (Str.ofString "state") = some (.ref st)) (hm2 : m (Str.ofString "what") = some (.str wh t1)) (hm3 : m (Str.ofString "piece") = some (.str pc tp))
    (N : News h₀ L h ((st, so) :: (ll, listOf ls n) :: Z)) (ho : so.IsDictOf (strKind prg w) (stK (.str held th) (.int dep td) (.int dep tf) (.bool seen) (.ref ll)))
    (hne : st ≠ ll) (hst : ∀ p ∈ Z, p.1 ≠ st) (hll : ∀ p ∈ Z, p.1 ≠ ll) (hlen : ls.size ≤ 990) (hhl : held.length ≤ 500) (hha : (held.cps.all (· < 128)) = true)
    {led0 Z0 : List (Addr × Obj)} {ls0 : Array Value} (r : RanL dep led0 Z0 ls0 ([], true) ls Z) (hk : ∀ r ∈ led0, ∃ o, (r.1, o) ∈ ((st, so) :: (ll, listOf ls n) :: Z))
    (hQ : ∀ rr : StepR, rr = stepQ (wh == Str.ofString "begin") (wh == Str.ofString "end") pc held dep seen → ∀ so' ls' n' Z' th' td' m' h' g' dr' tk', (AllBare g → AllBare g') → RanL dep led0 Z0 ls0 (rr.vs, true) ls' Z' → so'.IsDictOf (strKind prg w) (stK (.str rr.held th') (.int rr.dep td') (.int dep tf) (.bool rr.seen) (.ref ll)) → Fr h₀ L h' m' → News h₀ L h' ((st, so') :: (ll, listOf ls' n') :: Z') → Q (.ret (.bool rr.ret)) ⟨h', g', dr', tk', os⟩) :
    wpAny (model prg w) (Ar d u gd (envT L) outer) (execs stmts (envT L)) Q E ⟨h, g, dr, tk, os⟩ := by
  subst es
  have hrow : PySem.Challenge.rw_pe0292_01 = _ := rfl
  revert hrow X; k_fill; w_top on; intro X _
  with_reducible refine gen_tok tokV ?_
  intro tk0 htk0
  k_steps
  all_goals first
    | exact hQ ⟨_, _, _, _, _⟩ (Eq.symm (stepQ_1p (by with_reducible assumption) (by with_reducible assumption))) _ _ _ _ _ _ _ _ _ _ _ (fun hb => by solve_by_elim) (RanL.vs (by k_asm)) (by k_asm) (by k_asm) (by k_asm)
    | exact hQ ⟨_, _, _, _, _⟩ (Eq.symm (stepQ_2p (by with_reducible assumption) (by with_reducible assumption))) _ _ _ _ _ _ _ _ _ _ _ (fun hb => by solve_by_elim) (RanL.vs (by k_asm)) (by k_asm) (by k_asm) (by k_asm)
    | exact hQ ⟨_, _, _, _, _⟩ (Eq.symm (stepQ_3p (by with_reducible assumption) (by with_reducible assumption))) _ _ _ _ _ _ _ _ _ _ _ (fun hb => by solve_by_elim) (RanL.vs (by k_asm)) (by k_asm) (by k_asm) (by k_asm)
    | exact hQ ⟨_, _, _, _, _⟩ (Eq.symm (stepQ_1n (by with_reducible assumption) hc (by with_reducible assumption))) _ _ _ _ _ _ _ _ _ _ _ (fun hb => by solve_by_elim) (RanL.vs (by k_asm)) (by k_asm) (by k_asm) (by k_asm)
    | exact hQ ⟨_, _, _, _, _⟩ (Eq.symm (stepQ_2n (by with_reducible assumption) hc (by with_reducible assumption))) _ _ _ _ _ _ _ _ _ _ _ (fun hb => by solve_by_elim) (RanL.vs (by k_asm)) (by k_asm) (by k_asm) (by k_asm)
end
section
theorem rowsN2d2 : True := by
  k_with "execs cons" => (fail_if_success fail_if_success have q := hereN2d); (k_here; (with_reducible show wpAny _ _ (execs (Stmt.Assign [Expr.Name (Str.ofString "held") _] _ _ :: _) _) _ _ _); k_dflt (refine (step_mid (by kernel_rfl!) hbe (by first | exact .inl (by with_reducible assumption) | exact .inr (bne_f (by with_reducible assumption))) (by k_asm) (by k_asm) (by k_asm) (by k_units) (by k_units) (by k_asm) (by first | with_reducible assumption | exact lk_skip (by decide +kernel) (by with_reducible assumption) | rfl) (by first | with_reducible assumption | exact lk_skip (by decide +kernel) (by with_reducible assumption) | rfl) (by first | with_reducible assumption | exact lk_skip (by decide +kernel) (by with_reducible assumption) | rfl) (by k_asm) (by k_asm) (by k_asm) (by k_all) (by k_all) (by kln_le) hhl hha (by k_asm) (by first | with_reducible assumption | exact hk_swap (by with_reducible assumption) | exact hk_up (by with_reducible assumption) (by with_reducible assumption) | k_upd) (fun rrₓ erₓ so'ₓ ls'ₓ n'ₓ Z'ₓ th'ₓ td'ₓ m'ₓ h'ₓ g'ₓ dr'ₓ tk'ₓ hb'ₓ r'ₓ ho'ₓ F'ₓ N'ₓ => ?_))))
  trivial
theorem step_tail {w : World} {A₀ : Around} {d u : Nat} {gd : Option (List Code)} {base h₀ : Heap} {outer : List Env} {L : Addr} {m : Str → Option Value} {mean : ExcName → Option Value} {mg mb : Str → Option Value} {h : Heap} {g : Array GenState} {dr : Drawn} {tk : Tok} {os : OsState} {Z : List (Addr × Obj)} {Q : Flow → Shared → Prop} {E : Value → Shared → Prop}
    {stmts : List Stmt} {st ll : Addr} {so : Obj} {ls : Array Value} {n : Nat} {wh pc held : Str} {th t1 tp td tf : Tok} {dep : Int} {seen isB isE : Bool}
    (es : stS4 = stmts) (hB : (wh == Str.ofString "begin") = isB) (hE : (wh == Str.ofString "end") = isE) (hbe : (wh == Str.ofString "begin") = true → (wh == Str.ofString "end") = false)
    (B : Below A₀ base outer h₀) (X : (K w.params).In h₀) (T : Top topProg LS mean mg mb h₀) (hd1 : d ≤ 670) (hu1 : u ≤ 310)
    (F : Fr h₀ L h m) (hm1 : m (Str.ofString "state") = some (.ref st)) (hm2 : m (Str.ofString "what") = some (.str wh t1)) (hm3 : m (Str.ofString "piece") = some (.str pc tp))
    (N : News h₀ L h ((st, so) :: (ll, listOf ls n) :: Z)) (ho : so.IsDictOf (strKind prg w) (stK (.str held th) (.int dep td) (.int dep tf) (.bool seen) (.ref ll)))
    (hne : st ≠ ll) (hst : ∀ p ∈ Z, p.1 ≠ st) (hll : ∀ p ∈ Z, p.1 ≠ ll) (hlen : ls.size ≤ 990) (hhl : held.length ≤ 500) (hha : (held.cps.all (· < 128)) = true)
    {led0 Z0 : List (Addr × Obj)} {ls0 : Array Value} (r : RanL dep led0 Z0 ls0 ([], true) ls Z) (hk : ∀ r ∈ led0, ∃ o, (r.1, o) ∈ ((st, so) :: (ll, listOf ls n) :: Z))
    (hQ : ∀ rr : StepR, rr = stepQ isB isE pc held dep seen → ∀ so' ls' n' Z' th' td' m' h' g' dr' tk', (AllBare g → AllBare g') → RanL dep led0 Z0 ls0 (rr.vs, true) ls' Z' → so'.IsDictOf (strKind prg w) (stK (.str rr.held th') (.int rr.dep td') (.int dep tf) (.bool rr.seen) (.ref ll)) → Fr h₀ L h' m' → News h₀ L h' ((st, so') :: (ll, listOf ls' n') :: Z') → Q (.ret (.bool rr.ret)) ⟨h', g', dr', tk', os⟩) :
    wpAny (model prg w) (Ar d u gd (envT L) outer) (execs stmts (envT L)) Q E ⟨h, g, dr, tk, os⟩ := by
  subst es hB hE
  have hrow : PySem.Challenge.rw_pe0292_01 = _ := rfl
  revert hrow X; k_fill; w_top on; intro X _
  with_reducible refine gen_tok tokV ?_
  intro tk0 htk0
  k_steps
  all_goals first
    | exact hQ _ (by assumption) _ _ _ _ _ _ _ _ _ _ _ (fun hb => by solve_by_elim) (by k_asm) (by k_asm) (by k_asm) (by k_asm)
    | exact hQ ⟨_, _, _, _, _⟩ (Eq.symm (stepQ_s (bne_t (by with_reducible assumption)) (by with_reducible assumption) (by with_reducible assumption))) _ _ _ _ _ _ _ _ _ _ _ (fun hb => by solve_by_elim) (RanL.vs (by k_asm)) (by k_asm) (by k_asm) (by k_asm)
    | exact hQ ⟨_, _, _, _, _⟩ (Eq.symm (stepQ_n (bne_t (by with_reducible assumption)) (by with_reducible assumption) (by with_reducible assumption))) _ _ _ _ _ _ _ _ _ _ _ (fun hb => by solve_by_elim) (RanL.vs (by k_asm)) (by k_asm) (by k_asm) (by k_asm)
end
end
section
namespace NN2
theorem hereN2 : True := trivial
end NN2
open NN2
theorem rowsN20 : True := by
  k_with "setItem ref str" => (fail_if_success fail_if_success have q := hereN2); (k_here; (try dsimp only [List.nil_append, List.cons_append]); (with_reducible show wpAny _ _ (setItem (Value.ref _) (Value.str _ _) _) _ _ _); k_dflt (first | (refine dset_P (by k_asm) (by k_asm) (by k_upd) (by k_all) (by k_asm) stK_from (by show _ ≤ _; decide) ?_) | (refine dset_P (by k_asm) (by k_asm) (by k_upd) (by k_all) (by k_asm) stK_held (by show _ ≤ _; decide) ?_) | (refine dset_P (by k_asm) (by k_asm) (by k_upd) (by k_all) (by k_asm) stK_depth (by show _ ≤ _; decide) ?_) | (refine dset_P (by k_asm) (by k_asm) (by k_upd) (by k_all) (by k_asm) stK_seen (by show _ ≤ _; decide) ?_)); intro h'ₓ o'ₓ F'ₓ N'ₓ hd'ₓ)
  k_with "call ref" => (fail_if_success fail_if_success have q := hereN2); (k_here; (try dsimp only [List.nil_append, List.cons_append]); k_dflt (refine wpAny_call ?_; first | (refine spellC_y ⟨by k_asm, by k_asm, by k_asm, by k_asm, by k_asm, rfl, rfl, by k_units, by k_units⟩ (by kln_le) (by k_asm) ?_) | (refine spellA_y ⟨by k_asm, by k_asm, by k_asm, by k_asm, by k_asm, rfl, rfl, by k_units, by k_units⟩ (by kln_le) (by k_asm) ?_) | (refine llay_z ⟨by k_asm, by k_asm, by k_asm, by k_asm, by k_asm, rfl, rfl, by k_units, by k_units⟩ (by k_asm) (by k_asm) (by k_all) (by kln_le) (by k_asm) (by first | with_reducible assumption | assumption | rfl) (by k_upd) (fun ls'ₓ n'ₓ Z'ₓ U'ₓ r'ₓ s'ₓ => ⟨fun ok'ₓ => ?_, fun ok'ₓ => ?_⟩))))
  trivial
theorem step_text {news : List (Addr × Obj)}
    {R : Result → Shared → Prop} {st ll : Addr} {so : Obj} {ls : Array Value} {n : Nat} {v held : Str} {t1 tv th td : Tok} {dep : Int} {seen : Bool} {frm : Value}
    (cx : Cy w A₀ base h₀ outer env L m mean mg mb h ((st, so) :: (ll, listOf ls n) :: news) d u)
    (hd1 : d ≤ 660) (hu1 : u ≤ 300) (ho : so.IsDictOf (strKind prg w) (stK (.str held th) (.int dep td) frm (.bool seen) (.ref ll))) (hne : st ≠ ll) (hst : ∀ p ∈ news, p.1 ≠ st) (hll : ∀ p ∈ news, p.1 ≠ ll) (hlen : ls.size ≤ 990) (hvl : v.length ≤ 100) (hva : (v.cps.all (· < 128)) = true) (hhl : held.length ≤ 500) (hha : (held.cps.all (· < 128)) = true)
    (hF : ∀ r : StepR, r = ⟨[], true, held ++ v, dep, seen⟩ → ∀ so' ls' n' Z' th' td' tf', RanL dep ((st, so) :: (ll, listOf ls n) :: news) news ls (r.vs, true) ls' Z' → so'.IsDictOf (strKind prg w) (stK (.str r.held th') (.int r.dep td') (.int dep tf') (.bool r.seen) (.ref ll)) → BackY g os h₀ L m ((st, so') :: (ll, listOf ls' n') :: Z') (.bool r.ret) R) :
    codeAny (model prg w) (Ar d u gd env outer) (.call (.ref 335) ⟨[.ref st, .str (Str.ofString "text") t1, .str v tv], []⟩) R ⟨h, g, dr, tk, os⟩ := by
  have r0 := RanL.start dep ((st, so) :: (ll, listOf ls n) :: news) news ls
  obtain ⟨B, F, X, N, T, hf, hke, hd, hu⟩ := cx
  have hrow : PySem.Challenge.rw_pe0292_01 = _ := rfl
  revert hrow X; k_fill; w_top on; intro X _
  refine' code_def B F X N T rfl hf hke ?k6 ?k7 ?k8 (BindsTo.of_eq (step_binds _ _ _)) ?kB ?_ ?c2 ?c3 ?c4 ?c5
  case k6 => k_is
  case k7 => k_is
  case k8 => k_room
  case kB => exact locs rfl
  case c5 => decide
  case c2 => exact rfl
  case c3 => exact rfl
  case c4 => exact rfl
  intro g' L' h' FG' F' N' B' X' T'
  replace F' : Fr g' L' h' (fun y => List.lookup y ([(Str.ofString "state", .ref st), (Str.ofString "what", .str (Str.ofString "text") t1), (Str.ofString "text", .str v tv)] : List (Str × Value)).reverse) := F'
  (try dsimp only); (try ((with_reducible show wpAny _ _ _ _ _ _); k_fold))
  with_reducible refine gen_tok tokV ?_
  intro tk0 htk0
  k_steps
  exact hF _ rfl _ _ _ _ _ _ _ r0 (by k_asm) _ _ _ _ (fun hb => by solve_by_elim) (by k_asm) (news_sub (by k_asm) (by k_upd))
end
section
namespace NN3
theorem hereN3 : True := trivial
end NN3
open NN3
theorem rowsN30 : True := by
  k_with "setItem ref str" => (fail_if_success fail_if_success have q := hereN3); (k_here; (try dsimp only [List.nil_append, List.cons_append]); (with_reducible show wpAny _ _ (setItem (Value.ref _) (Value.str _ _) _) _ _ _); k_dflt (first | (refine dset_P (by k_asm) (by k_asm) (by k_upd) (by k_all) (by k_asm) stK_from (by show _ ≤ _; decide) ?_) | (refine dset_P (by k_asm) (by k_asm) (by k_upd) (by k_all) (by k_asm) stK_held (by show _ ≤ _; decide) ?_) | (refine dset_P (by k_asm) (by k_asm) (by k_upd) (by k_all) (by k_asm) stK_depth (by show _ ≤ _; decide) ?_) | (refine dset_P (by k_asm) (by k_asm) (by k_upd) (by k_all) (by k_asm) stK_seen (by show _ ≤ _; decide) ?_)); intro h'ₓ o'ₓ F'ₓ N'ₓ hd'ₓ)
  k_with "call ref" => (fail_if_success fail_if_success have q := hereN3); (k_here; (try dsimp only [List.nil_append, List.cons_append]); k_dflt (refine wpAny_call ?_; first | (refine spellC_y ⟨by k_asm, by k_asm, by k_asm, by k_asm, by k_asm, rfl, rfl, by k_units, by k_units⟩ (by kln_le) (by k_asm) ?_) | (refine spellA_y ⟨by k_asm, by k_asm, by k_asm, by k_asm, by k_asm, rfl, rfl, by k_units, by k_units⟩ (by kln_le) (by k_asm) ?_)))
  k_with "execs cons" => (fail_if_success fail_if_success have q := hereN3); (k_here; (with_reducible show wpAny _ _ (execs (Stmt.If (Expr.BoolOp _ _ _) _ _ _ :: _) _) _ _ _); k_dflt (refine step_tail (wh := Str.ofString "end") (isB := false) (isE := true) (by kernel_rfl!) (by decide) (by decide) (by decide) (by k_asm) (by k_asm) (by k_asm) (by k_units) (by k_units) (by k_asm) (by first | rfl | exact lk_here | exact lk_skip (by decide +kernel) (by rfl)) (by first | rfl | exact lk_here | exact lk_skip (by decide +kernel) (by rfl)) (by first | rfl | exact lk_here | exact lk_skip (by decide +kernel) (by rfl)) (by k_asm) (by k_asm) (by k_asm) (by k_all) (by k_all) (by kln_le) hhl hha r0 (by k_upd) (fun rrₓ erₓ so'ₓ ls'ₓ n'ₓ Z'ₓ th'ₓ td'ₓ m'ₓ h'ₓ g'ₓ dr'ₓ tk'ₓ hb'ₓ r'ₓ ho'ₓ F'ₓ N'ₓ => ?_)))
  trivial
theorem step_end {news : List (Addr × Obj)}
    {R : Result → Shared → Prop} {st ll : Addr} {so : Obj} {ls : Array Value} {n : Nat} {v held : Str} {t1 tv th td : Tok} {dep : Int} {seen : Bool} {frm : Value}
    (cx : Cy w A₀ base h₀ outer env L m mean mg mb h ((st, so) :: (ll, listOf ls n) :: news) d u)
    (hd1 : d ≤ 660) (hu1 : u ≤ 300) (ho : so.IsDictOf (strKind prg w) (stK (.str held th) (.int dep td) frm (.bool seen) (.ref ll))) (hne : st ≠ ll) (hst : ∀ p ∈ news, p.1 ≠ st) (hll : ∀ p ∈ news, p.1 ≠ ll) (hlen : ls.size ≤ 990) (hvl : v.length ≤ 100) (hva : (v.cps.all (· < 128)) = true) (hhl : held.length ≤ 500) (hha : (held.cps.all (· < 128)) = true)
    (hF : ∀ r : StepR, r = stepQ false true (Str.ofString "</x>") held dep seen → ∀ so' ls' n' Z' th' td' tf', RanL dep ((st, so) :: (ll, listOf ls n) :: news) news ls (r.vs, true) ls' Z' → so'.IsDictOf (strKind prg w) (stK (.str r.held th') (.int r.dep td') (.int dep tf') (.bool r.seen) (.ref ll)) → BackY g os h₀ L m ((st, so') :: (ll, listOf ls' n') :: Z') (.bool r.ret) R) :
    codeAny (model prg w) (Ar d u gd env outer) (.call (.ref 335) ⟨[.ref st, .str (Str.ofString "end") t1, .str v tv], []⟩) R ⟨h, g, dr, tk, os⟩ := by
  have r0 := RanL.start dep ((st, so) :: (ll, listOf ls n) :: news) news ls
  obtain ⟨B, F, X, N, T, hf, hke, hd, hu⟩ := cx
  have hrow : PySem.Challenge.rw_pe0292_01 = _ := rfl
  revert hrow X; k_fill; w_top on; intro X _
  refine' code_def B F X N T rfl hf hke ?k6 ?k7 ?k8 (BindsTo.of_eq (step_binds _ _ _)) ?kB ?_ ?c2 ?c3 ?c4 ?c5
  case k6 => k_is
  case k7 => k_is
  case k8 => k_room
  case kB => exact locs rfl
  case c5 => decide
  case c2 => exact rfl
  case c3 => exact rfl
  case c4 => exact rfl
  intro g' L' h' FG' F' N' B' X' T'
  replace F' : Fr g' L' h' (fun y => List.lookup y ([(Str.ofString "state", .ref st), (Str.ofString "what", .str (Str.ofString "end") t1), (Str.ofString "text", .str v tv)] : List (Str × Value)).reverse) := F'
  (try dsimp only); (try ((with_reducible show wpAny _ _ _ _ _ _); k_fold))
  with_reducible refine gen_tok tokV ?_
  intro tk0 htk0
  k_steps
  all_goals exact hF _ (by k_asm) _ _ _ _ _ _ _ (by k_asm) (by k_asm) _ _ _ _ (fun hb => by solve_by_elim) (by k_asm) (by k_asm)
end
section
namespace NN4
theorem hereN4 : True := trivial
end NN4
open NN4
theorem rowsN40 : True := by
  k_with "setItem ref str" => (fail_if_success fail_if_success have q := hereN4); (k_here; (try dsimp only [List.nil_append, List.cons_append]); (with_reducible show wpAny _ _ (setItem (Value.ref _) (Value.str _ _) _) _ _ _); k_dflt (first | (refine dset_P (by k_asm) (by k_asm) (by k_upd) (by k_all) (by k_asm) stK_from (by show _ ≤ _; decide) ?_) | (refine dset_P (by k_asm) (by k_asm) (by k_upd) (by k_all) (by k_asm) stK_held (by show _ ≤ _; decide) ?_) | (refine dset_P (by k_asm) (by k_asm) (by k_upd) (by k_all) (by k_asm) stK_depth (by show _ ≤ _; decide) ?_) | (refine dset_P (by k_asm) (by k_asm) (by k_upd) (by k_all) (by k_asm) stK_seen (by show _ ≤ _; decide) ?_)); intro h'ₓ o'ₓ F'ₓ N'ₓ hd'ₓ)
  k_with "call ref" => (fail_if_success fail_if_success have q := hereN4); (k_here; (try dsimp only [List.nil_append, List.cons_append]); k_dflt (refine wpAny_call ?_; first | (refine spellC_y ⟨by k_asm, by k_asm, by k_asm, by k_asm, by k_asm, rfl, rfl, by k_units, by k_units⟩ (by kln_le) (by k_asm) ?_) | (refine spellA_y ⟨by k_asm, by k_asm, by k_asm, by k_asm, by k_asm, rfl, rfl, by k_units, by k_units⟩ (by kln_le) (by k_asm) ?_)))
  k_with "execs cons" => (fail_if_success fail_if_success have q := hereN4); (k_here; (with_reducible show wpAny _ _ (execs (Stmt.If (Expr.BoolOp _ _ _) _ _ _ :: _) _) _ _ _); k_dflt (refine step_tail (wh := Str.ofString "begin") (isB := true) (isE := false) (by kernel_rfl!) (by decide) (by decide) (by decide) (by k_asm) (by k_asm) (by k_asm) (by k_units) (by k_units) (by k_asm) (by first | rfl | exact lk_here | exact lk_skip (by decide +kernel) (by rfl)) (by first | rfl | exact lk_here | exact lk_skip (by decide +kernel) (by rfl)) (by first | rfl | exact lk_here | exact lk_skip (by decide +kernel) (by rfl)) (by k_asm) (by k_asm) (by k_asm) (by k_all) (by k_all) (by kln_le) hhl hha r0 (by k_upd) (fun rrₓ erₓ so'ₓ ls'ₓ n'ₓ Z'ₓ th'ₓ td'ₓ m'ₓ h'ₓ g'ₓ dr'ₓ tk'ₓ hb'ₓ r'ₓ ho'ₓ F'ₓ N'ₓ => ?_)))
  trivial
theorem step_begin {news : List (Addr × Obj)}
    {R : Result → Shared → Prop} {st ll : Addr} {so : Obj} {ls : Array Value} {n : Nat} {v held : Str} {t1 tv th td : Tok} {dep : Int} {seen : Bool} {frm : Value}
    (cx : Cy w A₀ base h₀ outer env L m mean mg mb h ((st, so) :: (ll, listOf ls n) :: news) d u)
    (hd1 : d ≤ 660) (hu1 : u ≤ 300) (ho : so.IsDictOf (strKind prg w) (stK (.str held th) (.int dep td) frm (.bool seen) (.ref ll))) (hne : st ≠ ll) (hst : ∀ p ∈ news, p.1 ≠ st) (hll : ∀ p ∈ news, p.1 ≠ ll) (hlen : ls.size ≤ 990) (hvl : v.length ≤ 100) (hva : (v.cps.all (· < 128)) = true) (hhl : held.length ≤ 500) (hha : (held.cps.all (· < 128)) = true) (hsa : (spell psA v).length ≤ 900)
    (hF : ∀ r : StepR, r = stepQ true false (Str.ofString "<x k=\"" ++ spell psA v ++ Str.ofString "\">") held dep seen → ∀ so' ls' n' Z' th' td' tf', RanL dep ((st, so) :: (ll, listOf ls n) :: news) news ls (r.vs, true) ls' Z' → so'.IsDictOf (strKind prg w) (stK (.str r.held th') (.int r.dep td') (.int dep tf') (.bool r.seen) (.ref ll)) → BackY g os h₀ L m ((st, so') :: (ll, listOf ls' n') :: Z') (.bool r.ret) R) :
    codeAny (model prg w) (Ar d u gd env outer) (.call (.ref 335) ⟨[.ref st, .str (Str.ofString "begin") t1, .str v tv], []⟩) R ⟨h, g, dr, tk, os⟩ := by
  have r0 := RanL.start dep ((st, so) :: (ll, listOf ls n) :: news) news ls
  obtain ⟨B, F, X, N, T, hf, hke, hd, hu⟩ := cx
  have hrow : PySem.Challenge.rw_pe0292_01 = _ := rfl
  revert hrow X; k_fill; w_top on; intro X _
  refine' code_def B F X N T rfl hf hke ?k6 ?k7 ?k8 (BindsTo.of_eq (step_binds _ _ _)) ?kB ?_ ?c2 ?c3 ?c4 ?c5
  case k6 => k_is
  case k7 => k_is
  case k8 => k_room
  case kB => exact locs rfl
  case c5 => decide
  case c2 => exact rfl
  case c3 => exact rfl
  case c4 => exact rfl
  intro g' L' h' FG' F' N' B' X' T'
  replace F' : Fr g' L' h' (fun y => List.lookup y ([(Str.ofString "state", .ref st), (Str.ofString "what", .str (Str.ofString "begin") t1), (Str.ofString "text", .str v tv)] : List (Str × Value)).reverse) := F'
  (try dsimp only); (try ((with_reducible show wpAny _ _ _ _ _ _); k_fold))
  with_reducible refine gen_tok tokV ?_
  intro tk0 htk0
  k_steps
  all_goals exact hF _ (by k_asm) _ _ _ _ _ _ _ (by k_asm) (by k_asm) _ _ _ _ (fun hb => by solve_by_elim) (by k_asm) (by k_asm)
end
section
namespace NN5
theorem hereN5 : True := trivial
end NN5
open NN5
theorem rowsN50 : True := by
  k_with "setItem ref str" => (fail_if_success fail_if_success have q := hereN5); (k_here; (try dsimp only [List.nil_append, List.cons_append]); (with_reducible show wpAny _ _ (setItem (Value.ref _) (Value.str _ _) _) _ _ _); k_dflt (first | (refine dset_P (by k_asm) (by k_asm) (by k_upd) (by k_all) (by k_asm) stK_from (by show _ ≤ _; decide) ?_) | (refine dset_P (by k_asm) (by k_asm) (by k_upd) (by k_all) (by k_asm) stK_held (by show _ ≤ _; decide) ?_) | (refine dset_P (by k_asm) (by k_asm) (by k_upd) (by k_all) (by k_asm) stK_depth (by show _ ≤ _; decide) ?_) | (refine dset_P (by k_asm) (by k_asm) (by k_upd) (by k_all) (by k_asm) stK_seen (by show _ ≤ _; decide) ?_)); intro h'ₓ o'ₓ F'ₓ N'ₓ hd'ₓ)
  k_with "call ref" => (fail_if_success fail_if_success have q := hereN5); (k_here; (try dsimp only [List.nil_append, List.cons_append]); k_dflt (refine wpAny_call ?_; first | (refine spellC_y ⟨by k_asm, by k_asm, by k_asm, by k_asm, by k_asm, rfl, rfl, by k_units, by k_units⟩ (by kln_le) (by k_asm) ?_) | (refine spellA_y ⟨by k_asm, by k_asm, by k_asm, by k_asm, by k_asm, rfl, rfl, by k_units, by k_units⟩ (by kln_le) (by k_asm) ?_)))
  k_with "execs cons" => (fail_if_success fail_if_success have q := hereN5); (k_here; (with_reducible show wpAny _ _ (execs (Stmt.If (Expr.BoolOp _ _ _) _ _ _ :: _) _) _ _ _); k_dflt (refine step_tail (wh := Str.ofString "comment") (isB := false) (isE := false) (by kernel_rfl!) (by decide) (by decide) (by decide) (by k_asm) (by k_asm) (by k_asm) (by k_units) (by k_units) (by k_asm) (by first | rfl | exact lk_here | exact lk_skip (by decide +kernel) (by rfl)) (by first | rfl | exact lk_here | exact lk_skip (by decide +kernel) (by rfl)) (by first | rfl | exact lk_here | exact lk_skip (by decide +kernel) (by rfl)) (by k_asm) (by k_asm) (by k_asm) (by k_all) (by k_all) (by kln_le) hhl hha r0 (by k_upd) (fun rrₓ erₓ so'ₓ ls'ₓ n'ₓ Z'ₓ th'ₓ td'ₓ m'ₓ h'ₓ g'ₓ dr'ₓ tk'ₓ hb'ₓ r'ₓ ho'ₓ F'ₓ N'ₓ => ?_)))
  trivial
theorem step_comment {news : List (Addr × Obj)}
    {R : Result → Shared → Prop} {st ll : Addr} {so : Obj} {ls : Array Value} {n : Nat} {v held : Str} {t1 tv th td : Tok} {dep : Int} {seen : Bool} {frm : Value}
    (cx : Cy w A₀ base h₀ outer env L m mean mg mb h ((st, so) :: (ll, listOf ls n) :: news) d u)
    (hd1 : d ≤ 660) (hu1 : u ≤ 300) (ho : so.IsDictOf (strKind prg w) (stK (.str held th) (.int dep td) frm (.bool seen) (.ref ll))) (hne : st ≠ ll) (hst : ∀ p ∈ news, p.1 ≠ st) (hll : ∀ p ∈ news, p.1 ≠ ll) (hlen : ls.size ≤ 990) (hvl : v.length ≤ 100) (hva : (v.cps.all (· < 128)) = true) (hhl : held.length ≤ 500) (hha : (held.cps.all (· < 128)) = true) (hsc : (spell psC v).length ≤ 900)
    (hF : ∀ r : StepR, r = stepQ false false (Str.ofString "<!--" ++ spell psC v ++ Str.ofString "-->") held dep seen → ∀ so' ls' n' Z' th' td' tf', RanL dep ((st, so) :: (ll, listOf ls n) :: news) news ls (r.vs, true) ls' Z' → so'.IsDictOf (strKind prg w) (stK (.str r.held th') (.int r.dep td') (.int dep tf') (.bool r.seen) (.ref ll)) → BackY g os h₀ L m ((st, so') :: (ll, listOf ls' n') :: Z') (.bool r.ret) R) :
    codeAny (model prg w) (Ar d u gd env outer) (.call (.ref 335) ⟨[.ref st, .str (Str.ofString "comment") t1, .str v tv], []⟩) R ⟨h, g, dr, tk, os⟩ := by
  have r0 := RanL.start dep ((st, so) :: (ll, listOf ls n) :: news) news ls
  obtain ⟨B, F, X, N, T, hf, hke, hd, hu⟩ := cx
  have hrow : PySem.Challenge.rw_pe0292_01 = _ := rfl
  revert hrow X; k_fill; w_top on; intro X _
  refine' code_def B F X N T rfl hf hke ?k6 ?k7 ?k8 (BindsTo.of_eq (step_binds _ _ _)) ?kB ?_ ?c2 ?c3 ?c4 ?c5
  case k6 => k_is
  case k7 => k_is
  case k8 => k_room
  case kB => exact locs rfl
  case c5 => decide
  case c2 => exact rfl
  case c3 => exact rfl
  case c4 => exact rfl
  intro g' L' h' FG' F' N' B' X' T'
  replace F' : Fr g' L' h' (fun y => List.lookup y ([(Str.ofString "state", .ref st), (Str.ofString "what", .str (Str.ofString "comment") t1), (Str.ofString "text", .str v tv)] : List (Str × Value)).reverse) := F'
  (try dsimp only); (try ((with_reducible show wpAny _ _ _ _ _ _); k_fold))
  with_reducible refine gen_tok tokV ?_
  intro tk0 htk0
  k_steps
  all_goals exact hF _ (by k_asm) _ _ _ _ _ _ _ (by k_asm) (by k_asm) _ _ _ _ (fun hb => by solve_by_elim) (by k_asm) (by k_asm)
end
section
namespace NN6
theorem hereN6 : True := trivial
end NN6
open NN6
theorem rowsN60 : True := by
  k_with "setItem ref str" => (fail_if_success fail_if_success have q := hereN6); (k_here; (try dsimp only [List.nil_append, List.cons_append]); (with_reducible show wpAny _ _ (setItem (Value.ref _) (Value.str _ _) _) _ _ _); k_dflt (first | (refine dset_P (by k_asm) (by k_asm) (by k_upd) (by k_all) (by k_asm) stK_from (by show _ ≤ _; decide) ?_) | (refine dset_P (by k_asm) (by k_asm) (by k_upd) (by k_all) (by k_asm) stK_held (by show _ ≤ _; decide) ?_) | (refine dset_P (by k_asm) (by k_asm) (by k_upd) (by k_all) (by k_asm) stK_depth (by show _ ≤ _; decide) ?_) | (refine dset_P (by k_asm) (by k_asm) (by k_upd) (by k_all) (by k_asm) stK_seen (by show _ ≤ _; decide) ?_)); intro h'ₓ o'ₓ F'ₓ N'ₓ hd'ₓ)
  k_with "call ref" => (fail_if_success fail_if_success have q := hereN6); (k_here; (try dsimp only [List.nil_append, List.cons_append]); k_dflt (refine wpAny_call ?_; first | (refine spellC_y ⟨by k_asm, by k_asm, by k_asm, by k_asm, by k_asm, rfl, rfl, by k_units, by k_units⟩ (by kln_le) (by k_asm) ?_) | (refine spellA_y ⟨by k_asm, by k_asm, by k_asm, by k_asm, by k_asm, rfl, rfl, by k_units, by k_units⟩ (by kln_le) (by k_asm) ?_)))
  k_with "execs cons" => (fail_if_success fail_if_success have q := hereN6); (k_here; (with_reducible show wpAny _ _ (execs (Stmt.If (Expr.BoolOp _ _ _) _ _ _ :: _) _) _ _ _); k_dflt (refine step_tail (wh := Str.ofString "instruction") (isB := false) (isE := false) (by kernel_rfl!) (by decide) (by decide) (by decide) (by k_asm) (by k_asm) (by k_asm) (by k_units) (by k_units) (by k_asm) (by first | rfl | exact lk_here | exact lk_skip (by decide +kernel) (by rfl)) (by first | rfl | exact lk_here | exact lk_skip (by decide +kernel) (by rfl)) (by first | rfl | exact lk_here | exact lk_skip (by decide +kernel) (by rfl)) (by k_asm) (by k_asm) (by k_asm) (by k_all) (by k_all) (by kln_le) hhl hha r0 (by k_upd) (fun rrₓ erₓ so'ₓ ls'ₓ n'ₓ Z'ₓ th'ₓ td'ₓ m'ₓ h'ₓ g'ₓ dr'ₓ tk'ₓ hb'ₓ r'ₓ ho'ₓ F'ₓ N'ₓ => ?_)))
  trivial
theorem step_pi {news : List (Addr × Obj)}
    {R : Result → Shared → Prop} {st ll : Addr} {so : Obj} {ls : Array Value} {n : Nat} {v held : Str} {t1 tv th td : Tok} {dep : Int} {seen : Bool} {frm : Value}
    (cx : Cy w A₀ base h₀ outer env L m mean mg mb h ((st, so) :: (ll, listOf ls n) :: news) d u)
    (hd1 : d ≤ 660) (hu1 : u ≤ 300) (ho : so.IsDictOf (strKind prg w) (stK (.str held th) (.int dep td) frm (.bool seen) (.ref ll))) (hne : st ≠ ll) (hst : ∀ p ∈ news, p.1 ≠ st) (hll : ∀ p ∈ news, p.1 ≠ ll) (hlen : ls.size ≤ 990) (hvl : v.length ≤ 100) (hva : (v.cps.all (· < 128)) = true) (hhl : held.length ≤ 500) (hha : (held.cps.all (· < 128)) = true) (hsc : (spell psC v).length ≤ 900)
    (hF : ∀ r : StepR, r = stepQ false false (if (v != Str.ofString "") = true then Str.ofString "<?i " ++ spell psC v ++ Str.ofString "?>" else Str.ofString "<?i?>") held dep seen → ∀ so' ls' n' Z' th' td' tf', RanL dep ((st, so) :: (ll, listOf ls n) :: news) news ls (r.vs, true) ls' Z' → so'.IsDictOf (strKind prg w) (stK (.str r.held th') (.int r.dep td') (.int dep tf') (.bool r.seen) (.ref ll)) → BackY g os h₀ L m ((st, so') :: (ll, listOf ls' n') :: Z') (.bool r.ret) R) :
    codeAny (model prg w) (Ar d u gd env outer) (.call (.ref 335) ⟨[.ref st, .str (Str.ofString "instruction") t1, .str v tv], []⟩) R ⟨h, g, dr, tk, os⟩ := by
  have r0 := RanL.start dep ((st, so) :: (ll, listOf ls n) :: news) news ls
  obtain ⟨B, F, X, N, T, hf, hke, hd, hu⟩ := cx
  have hrow : PySem.Challenge.rw_pe0292_01 = _ := rfl
  revert hrow X; k_fill; w_top on; intro X _
  refine' code_def B F X N T rfl hf hke ?k6 ?k7 ?k8 (BindsTo.of_eq (step_binds _ _ _)) ?kB ?_ ?c2 ?c3 ?c4 ?c5
  case k6 => k_is
  case k7 => k_is
  case k8 => k_room
  case kB => exact locs rfl
  case c5 => decide
  case c2 => exact rfl
  case c3 => exact rfl
  case c4 => exact rfl
  intro g' L' h' FG' F' N' B' X' T'
  replace F' : Fr g' L' h' (fun y => List.lookup y ([(Str.ofString "state", .ref st), (Str.ofString "what", .str (Str.ofString "instruction") t1), (Str.ofString "text", .str v tv)] : List (Str × Value)).reverse) := F'
  (try dsimp only); (try ((with_reducible show wpAny _ _ _ _ _ _); k_fold))
  with_reducible refine gen_tok tokV ?_
  intro tk0 htk0
  k_steps
  all_goals exact hF _ (by first | with_reducible assumption | (rw [if_pos (show (v != Str.ofString "") = true by with_reducible assumption)]; with_reducible assumption) | (rw [if_neg (ne_true_of_eq_false (show (v != Str.ofString "") = false by with_reducible assumption))]; with_reducible assumption)) _ _ _ _ _ _ _ (by k_asm) (by k_asm) _ _ _ _ (fun hb => by solve_by_elim) (by k_asm) (by k_asm)
end
section
noncomputable def SecAre (Z : List (Addr × Obj)) (its : List Value) (ts : List Str) : Prop := All2 (fun (t : Str) v => ∃ q a u, v = Value.ref q ∧ (q, tupO a (.str t u)) ∈ Z) ts its
theorem All2.len {α β : Type} {P : α → β → Prop} {l : List α} {r : List β} (h : All2 P l r) : l.length = r.length := by
  induction h with
  | nil => rfl
  | cons _ _ ih => simp only [List.length_cons, ih]
theorem All2.at {α β : Type} {P : α → β → Prop} {l : List α} {r : List β} (h : All2 P l r) : ∀ {i : Nat} {b : β}, r[i]? = some b → ∃ a, l[i]? = some a ∧ P a b := by
  induction h with
  | nil => intro i b e; simp at e
  | cons p _ ih =>
    intro i b e
    cases i with
    | zero => simp only [List.getElem?_cons_zero, Option.some.injEq] at e; exact ⟨_, rfl, e ▸ p⟩
    | succ i => simp only [List.getElem?_cons_succ] at e ⊢; exact ih e
section
open PySem.Calls PySem.Spec LCg LCp
variable {prog : Program} {w : World} {A : Around} {E : Value → Shared → Prop} {s : Shared} {h₀ : Heap} {L : Addr} {m : Str → Option Value} {env : Env}
theorem comp_name {x : Str} {px : Pos} {scope : Scope} {cl : List (Str × Addr)} {C : Addr} {oC : Obj} {m₂ : Str → Option Value} {v : Value} {Q : Value → Shared → Prop} (hkind : scope.kind = .function) (hx : scope.names.lookup x = some .local) (hC : NsObj oC m₂) (nC : s.heap.get? C = some oC) (hm : m₂ x = some v)
    (h : Q v s) (hd : (x == ("__debug__" : Str)) = false) : wpAny (model prog w) A (eval (.Name x px) (compEnvC scope cl C env)) Q E s :=
  wpAny_Name (wpAny_loadName_local (by simp [compEnvC, relabel, hkind]) (lookup_relabel_local hx) (hC.ns nC) hm h) hd
theorem second_rest {x x₂ : Str} {px : Pos} {scope : Scope} {cl : List (Str × Addr)} {its : Array Value} {ts : List Str} {news : List (Addr × Obj)} {S : List (Addr × Obj) → Prop} {Fin : List Value → List (Addr × Obj) → Prop} (hkind : scope.kind = .function) (hx : scope.names.lookup x₂ = some .local)
    (hd : (x₂ == ("__debug__" : Str)) = false) (hS : S news) (H : SecAre news its.toList ts) (fin : ∀ ys, StrsAre ys ts → Fin ys news) :
    CompRestP prog w A h₀ L m env (.Name x₂ px) x x₂ scope cl s S (fun i v => its[i]? = some v) Fin its.size 0 [] news := by
  have hl : ts.length = its.size := H.len
  have key : ∀ (j i : Nat) (ys : List Value), i + j = its.size → StrsAre ys (ts.take i) → CompRestP prog w A h₀ L m env (.Name x₂ px) x x₂ scope cl s S (fun i v => its[i]? = some v) Fin j i ys news := by
    intro j
    induction j with
    | zero =>
      intro i ys hi hy
      rw [List.take_of_length_le (by kln_le)] at hy
      exact CompRestP.zero (fin ys hy)
    | succ j ih =>
      intro i ys hi hy
      refine CompRestP.succ ?_
      intro v hv
      obtain ⟨t, ht, q, a, u, rfl, hm⟩ := H.at (by rw [Array.getElem?_toList]; exact hv)
      refine ⟨q, _, a, .str t u, 0, rfl, hm, rfl, rfl, ?_⟩
      intro I oI C oC D m₂ h tk E' hC h1 h2 F N off ne
      refine comp_name hkind hx hC (N (C, oC) (.tail _ (.head _))).1 h2 ?_ hd
      refine ⟨h, tk, news, rfl, F, N, off, hS, ih (i + 1) _ (by kln_le) ?_⟩
      rw [List.take_add_one, ht]
      simpa using kct_snoc hy
  exact key _ 0 [] (by kln_le) (by simp only [List.take_zero]; exact .nil)
end
end
section
namespace NO2
theorem hereO2 : True := trivial
end NO2
open NO2
theorem Off1.ne' {D : Addr} {l : List (Addr × Obj)} (h : LCg.Off1 D l) : ∀ p ∈ l, p.1 ≠ D := off1_mem h
theorem rowsO20 : True := by
  k_with "eval ListComp" => (fail_if_success fail_if_success have q := hereO2); (k_here; k_dflt (refine LCp.ListComp_P (by k_asm) (by with_unfolding_all rfl) (by decide) (by rfl) (by decide) (by rfl) (by rfl) (by decide) ?_))
  trivial
theorem values_binds (a0 : Value) : bindArgs (fnOf (Str.ofString "values") (Str.ofString "Headers.values") (fPar (sub (stA 15) 10)) (fBody (sub (stA 15) 10)) (fScope (sub (stA 15) 10)) .none .none .none (.str (Str.ofString "cpy313.wsgiref.headers") 539) none (.ref 268) .none) ⟨[a0], []⟩ = pure [(Str.ofString "self", a0)] := by kernel_rfl!
theorem values_y {news : List (Addr × Obj)}
    {R : Result → Shared → Prop} {x dx l : Addr} {th : Tok} {hds : Array Value} {n : Nat} {ts : List Str}
    (cx : Cy w A₀ base h₀ outer env L m mean mg mb h (news) d u)
    (hd1 : d ≤ 660) (hu1 : u ≤ 300) (hx : (x, instObj 312 dx) ∈ news) (hdx : (dx, tabD w l th) ∈ news) (hl : (l, listOf hds n) ∈ news) (hz : hds.size ≤ 1000) (H : SecAre news hds.toList ts)
    (hF : ∀ D ys, StrsAre ys ts → (∀ p ∈ news, p.1 ≠ D) → BackY g os h₀ L m ((D, LCg.lst ys) :: news) (.ref D) R) :
    codeAny (model prg w) (Ar d u gd env outer) (.call (.ref 269) ⟨[.ref x], []⟩) R ⟨h, g, dr, tk, os⟩ := by
  obtain ⟨B, F, X, N, T, hf, hke, hd, hu⟩ := cx
  have hrow : PySem.Challenge.rw_pe0292_01 = _ := rfl
  revert hrow X; k_fill; w_top on; intro X _
  refine' code_def B F X N T rfl hf hke ?k6 ?k7 ?k8 (BindsTo.of_eq (values_binds _)) ?kB ?_ ?c2 ?c3 ?c4 ?c5
  case k6 => k_is
  case k7 => k_is
  case k8 => k_room
  case kB => exact locs rfl
  case c5 => decide
  case c2 => exact rfl
  case c3 => exact rfl
  case c4 => exact rfl
  intro g' L' h' FG' F' N' B' X' T'
  replace F' : Fr g' L' h' (fun y => List.lookup y ([(Str.ofString "self", .ref x)] : List (Str × Value)).reverse) := F'
  (try dsimp only); (try ((with_reducible show wpAny _ _ _ _ _ _); k_fold))
  with_reducible refine gen_tok tokV ?_
  intro tk0 htk0
  k_steps
  refine LCp.SrcLP.ledger rfl (by k_asm) (by k_asm) hl (Nat.le_trans hz (by decide)) fun hg => ?_
  refine second_rest rfl rfl (by decide) (.inr ⟨_, hl, rfl, _, rfl⟩) H ?_
  intro ys hys D hh tkk Fz Nz oz
  (try dsimp only)
  k_steps
  exact hF _ _ hys (off1_mem oz) _ _ _ _ (fun hb => hb) (by k_asm) (news_sub (by k_asm) (by k_upd))
end
section
theorem strs_pairs : ∀ {vs : List Value} {ys : List Str}, StrsAre vs ys → ∃ ps : List (Str × Tok), vs = strValues ps ∧ ps.map (·.1) = ys
  | _, _, .nil => ⟨[], rfl, rfl⟩
  | _, _, .cons y t r => by
    obtain ⟨ps, e1, e2⟩ := strs_pairs r
    exact ⟨(y, t) :: ps, by rw [e1]; rfl, by rw [← e2]; rfl⟩
section
open PySem.Calls PySem.Spec
theorem join_any {w : World} {A : Around} {E : Value → Shared → Prop} {s : Shared} {h₀ : Heap} {L D : Addr} {news : List (Addr × Obj)} {vs : List Value} {ys : List Str} {tj : Tok} {Q : Value → Shared → Prop} (N : News h₀ L s.heap news) (hm : (D, LCg.lst vs) ∈ news) (hs : StrsAre vs ys) (hz : (ys.map (·.length)).sum ≤ 16777216)
    (h : ∀ t' k, Q (.str (Txt.join (Str.ofString "") ys) t') { s with toks := k }) : wpAny (model prg w) A (call (.builtin "str.join") [.str (Str.ofString "") tj, .ref D]) Q E s := by
  obtain ⟨ps, rfl, rfl⟩ := strs_pairs hs
  have hok' : JoinOk (Str.ofString "") (ps.map (·.1)) = true := joinOk_of (by
    have : (Str.ofString "").length = 0 := by decide
    rw [this, Nat.mul_zero]
    kln_le)
  unfold JoinOk at hok'
  rw [Bool.not_eq_true'] at hok'
  have hl : s.heap.IsList D (strValues ps).toArray := ⟨_, (N _ hm).1, rfl, _, rfl⟩
  exact call_meets PySem.F.slot_str_join (typeIs_str _ _ _) PySem.F.entry_str_join (PySem.F.args_str_join_2 _ _) (meets_str_join_list (Str.ofString "") tj D ps hok') ⟨hl, post_join ps ⟨joinFit_length hok', h⟩⟩
end
structure TestEnd (s : Shared) (h : Heap) (b ok : Bool) (s' : Shared) : Prop where
  is : ∃ tk', s' = { s with heap := h, toks := tk' } ∧ ok = b
structure ItemEnd (s : Shared) (h : Heap) (t : Str) (y : Value) (s' : Shared) : Prop where
  is : ∃ tk' u, s' = { s with heap := h, toks := tk' } ∧ y = .str t u
noncomputable def PairAre (Z : List (Addr × Obj)) (its : List Value) (ps : List (Str × Str)) : Prop := All2 (fun (e : Str × Str) v => ∃ q a u, v = Value.ref q ∧ (q, tupO (.str e.1 a) (.str e.2 u)) ∈ Z) ps its
section
open PySem.Calls PySem.Spec LCg LCt
variable {prog : Program} {w : World} {A : Around} {E : Value → Shared → Prop} {s : Shared} {h₀ : Heap} {L : Addr} {m : Str → Option Value} {env : Env}
theorem filt_rest {ct elt : Expr} {x : Str} {scope : Scope} {cl : List (Str × Addr)} {its : Array Value} {ps : List (Str × Str)} {news : List (Addr × Obj)} {S : List (Addr × Obj) → Prop} {Fin : List Value → List (Addr × Obj) → Prop} (p : Str × Str → Bool) (hS : S news) (H : PairAre news its.toList ps)
    (test : ∀ q a u (e : Str × Str) I oI C oC D m₂ ys h tk (E' : Value → Shared → Prop), (q, tupO (.str e.1 a) (.str e.2 u)) ∈ news → e ∈ ps → NsObj oC m₂ → m₂ x = some (.ref q) → Fr h₀ L h m → News h₀ L h ((I, oI) :: (C, oC) :: (D, lst ys) :: news) → Off3 I C D news →
      wpAny (model prog w) A (isTrue ct (compEnvC scope cl C env) (eval ct (compEnvC scope cl C env))) (fun ok s' => TestEnd s h (p e) ok s') E' { s with heap := h, toks := tk })
    (item : ∀ q a u (e : Str × Str) I oI C oC D m₂ ys h tk (E' : Value → Shared → Prop), (q, tupO (.str e.1 a) (.str e.2 u)) ∈ news → e ∈ ps → NsObj oC m₂ → m₂ x = some (.ref q) → Fr h₀ L h m → News h₀ L h ((I, oI) :: (C, oC) :: (D, lst ys) :: news) → Off3 I C D news →
      wpAny (model prog w) A (eval elt (compEnvC scope cl C env)) (fun y s' => ItemEnd s h e.2 y s') E' { s with heap := h, toks := tk })
    (fin : ∀ ys, StrsAre ys ((ps.filter p).map (·.2)) → Fin ys news) :
    CompRestT prog w A h₀ L m env ct elt x scope cl s S (fun i v => its[i]? = some v) Fin its.size 0 [] news := by
  have hl : ps.length = its.size := H.len
  have key : ∀ (j i : Nat) (ys : List Value), i + j = its.size → StrsAre ys (((ps.take i).filter p).map (·.2)) → CompRestT prog w A h₀ L m env ct elt x scope cl s S (fun i v => its[i]? = some v) Fin j i ys news := by
    intro j
    induction j with
    | zero =>
      intro i ys hi hy
      rw [List.take_of_length_le (by kln_le)] at hy
      exact CompRestT.zero (fin ys hy)
    | succ j ih =>
      intro i ys hi hy
      refine CompRestT.succ ?_
      intro v I oI C oC D m₂ h tk E' hv hC h1 F N off ne
      obtain ⟨e, he, q, a, u, rfl, hm⟩ := H.at (by rw [Array.getElem?_toList]; exact hv)
      have hin : e ∈ ps := List.mem_of_getElem? he
      refine wpAny_mono (test q a u e I oI C oC D m₂ ys h tk E' hm hin hC h1 F N off) (fun ok s₂ hq => ?_) fun _ _ x => x
      obtain ⟨tk', rfl, rfl⟩ := hq.is
      have e1 : ps.take (i + 1) = ps.take i ++ [e] := by rw [List.take_add_one, he]; rfl
      by_cases hp : p e = true
      · rw [if_pos hp]
        refine wpAny_mono (item q a u e I oI C oC D m₂ ys h tk' E' hm hin hC h1 F N off) (fun y s₃ hq => ?_) fun _ _ x => x
        obtain ⟨tk2, u2, rfl, rfl⟩ := hq.is
        refine ⟨h, tk2, news, rfl, F, N, off, hS, ih (i + 1) _ (by kln_le) ?_⟩
        rw [e1, List.filter_append, List.filter_cons_of_pos hp, List.filter_nil, List.map_append]
        exact kct_snoc hy
      · rw [if_neg hp]
        refine ⟨h, tk', news, rfl, F, N, off, hS, ih (i + 1) _ (by kln_le) ?_⟩
        rw [e1, List.filter_append, List.filter_cons_of_neg hp, List.filter_nil, List.append_nil]
        exact hy
  exact key _ 0 [] (by kln_le) (by simp only [List.take_zero, List.filter_nil, List.map_nil]; exact .nil)
end
end
section
namespace NO4
theorem hereO4 : True := trivial
end NO4
open NO4
theorem lower_any {M : Model} {w : World} {A : Around} {E : Value → Shared → Prop} {s : Shared} {x : Str} {t : Tok} {Q : Value → Shared → Prop} (hx : x.length ≤ 1000) (h : ∀ t' k, Q (.str (Txt.lower x) t') { s with toks := k }) : wpAny (model prg w) A (call (.builtin "str.lower") [.str x t]) Q E s := SCL.lower (by kln_le) fun _ => h _ _
theorem rowsO40 : True := by
  k_with "call builtin:str.lower" => (fail_if_success fail_if_success have q := hereO4); (k_here; (with_reducible show wpAny _ _ (call (Value.builtin "str.lower") [Value.str _ _]) _ _ _); k_dflt (refine lower_any (by with_reducible assumption) ?_; k_whole))
  k_with "eval ListComp" => (fail_if_success fail_if_success have q := hereO4); (k_here; k_dflt (refine LCt.ListComp_T (by k_asm) (by with_unfolding_all rfl) (by decide) (by rfl) (by decide) (by rfl) ?_))
  k_with "call ref" => (fail_if_success fail_if_success have q := hereO4); (k_here; (try dsimp only [List.nil_append, List.cons_append]); k_dflt (refine wpAny_call ?_; first | (refine convN_y ⟨by k_asm, by k_asm, by k_asm, by k_asm, by k_asm, rfl, rfl, by k_units, by k_units⟩ (by with_reducible assumption) (by with_reducible assumption) ?_)))
  trivial
theorem PairAre.mono {Z Z' : List (Addr × Obj)} {its : List Value} {ps : List (Str × Str)} (H : PairAre Z its ps) (hs : ∀ p ∈ Z, p ∈ Z') : PairAre Z' its ps := forall2_mono (fun _ _ ⟨q, a, u, e, m⟩ => ⟨q, a, u, e, hs _ m⟩) H
theorem get_all_binds (a0 a1 : Value) : bindArgs (fnOf (Str.ofString "get_all") (Str.ofString "Headers.get_all") (fPar (sub (stA 15) 7)) (fBody (sub (stA 15) 7)) (fScope (sub (stA 15) 7)) .none .none .none (.str (Str.ofString "cpy313.wsgiref.headers") 539) none (.ref 250) .none) ⟨[a0, a1], []⟩ = pure [(Str.ofString "self", a0), (Str.ofString "name", a1)] := by kernel_rfl!
theorem get_all_y {news : List (Addr × Obj)}
    {R : Result → Shared → Prop} {x dx l : Addr} {th tn : Tok} {hds : Array Value} {n : Nat} {ps : List (Str × Str)} {nm : Str}
    (cx : Cy w A₀ base h₀ outer env L m mean mg mb h (news) d u)
    (hd1 : d ≤ 660) (hu1 : u ≤ 300) (hx : (x, instObj 312 dx) ∈ news) (hdx : (dx, tabD w l th) ∈ news) (hl : (l, listOf hds n) ∈ news) (hz : hds.size ≤ 1000) (H : PairAre news hds.toList ps) (hn1 : nm.length ≤ 1000) (hn2 : (Txt.lower nm).length ≤ 2 ^ 63 - 1) (hn3 : nBad (Txt.lower nm) = false) (hns : ∀ e ∈ ps, e.1.length ≤ 1000)
    (hF : ∀ D ys, StrsAre ys ((ps.filter fun e => Txt.lower e.1 == Txt.lower nm).map (·.2)) → (∀ p ∈ news, p.1 ≠ D) → BackY g os h₀ L m ((D, LCg.lst ys) :: news) (.ref D) R) :
    codeAny (model prg w) (Ar d u gd env outer) (.call (.ref 251) ⟨[.ref x, .str nm tn], []⟩) R ⟨h, g, dr, tk, os⟩ := by
  obtain ⟨B, F, X, N, T, hf, hke, hd, hu⟩ := cx
  have hrow : PySem.Challenge.rw_pe0292_01 = _ := rfl
  revert hrow X; k_fill; w_top on; intro X _
  refine' code_defC B F X N T rfl hf hke ?k6 ?k7 ?k8 (BindsTo.of_eq (get_all_binds _ _)) ?kB ?kD ?_ ?c2 ?c3 ?c4
  case k6 => k_is
  case k7 => k_is
  case k8 => k_room
  case kB => exact rfl
  case kD => decide +kernel
  case c2 => exact rfl
  case c3 => exact rfl
  case c4 => exact rfl
  intro g' L' h' tk' cells' FG' F' N' Y' B' X' T' l1
  (try k_lt l1); k_cells Y'; (try simp only [List.cons_append, List.nil_append] at N')
  (try dsimp only); (try ((with_reducible show wpAny _ _ _ _ _ _); k_fold))
  with_reducible refine gen_tok tokV ?_
  intro tk0 htk0
  k_steps
  refine LCt.CompSrcT.ledger rfl (by k_asm) (by k_asm) (List.mem_cons_of_mem _ hl) (Nat.le_trans hz (by decide)) fun hg => ?_
  refine filt_rest (fun e => Txt.lower e.1 == Txt.lower nm) (.inr ⟨_, List.mem_cons_of_mem _ hl, rfl, _, rfl⟩) (H.mono fun p hp => List.mem_cons_of_mem _ hp) ?_ ?_ ?_
  · intro q a u e I oI C oC D m₂ ys h tk E' hq he hC h1 F N off
    have hle := hns e he
    (try dsimp only)
    k_steps
    exact ⟨_, rfl, rfl⟩
  · intro q a u e I oI C oC D m₂ ys h tk E' hq he hC h1 F N off
    (try dsimp only)
    k_steps
    exact ⟨_, _, rfl, rfl⟩
  · intro ys hys D hh tkk Fz Nz oz
    (try dsimp only)
    k_steps
    exact hF _ _ hys (fun p hp => off1_mem oz p (List.mem_cons_of_mem _ hp)) _ _ _ _ (fun hb => by solve_by_elim) (by k_asm) (news_sub (by k_asm) (by k_upd))
end
section
noncomputable def LaidAre (Z : List (Addr × Obj)) (its : List Value) (ps : List (Int × Str)) : Prop := All2 (fun (e : Int × Str) v => ∃ q a u, v = Value.ref q ∧ (q, tupO (.int e.1 a) (.str e.2 u)) ∈ Z) ps its
section
open PySem.Calls PySem.Spec LCg
variable {w : World} {A : Around} {E : Value → Shared → Prop} {s : Shared} {h₀ : Heap} {L : Addr} {m : Str → Option Value} {news : List (Addr × Obj)} {env : Env}
inductive PcSrc (w : World) (A : Around) (h₀ : Heap) (L : Addr) (m : Str → Option Value) (env : Env) (c : Expr) (x1 x2 : Str) (scope : Scope) (cl : List (Str × Addr)) (Q : Value → Shared → Prop) (xv : Value) (s : Shared) : Prop
  | mk (ll) (ls) (n) (nz) (ps) (f) (_ : xv = .ref ll)
    (_ : A.handled = none)
    (_ : h₀.NoLimit)
    (_ : Fr h₀ L s.heap m)
    (_ : News h₀ L s.heap nz)
    (_ : (ll, listOf ls n) ∈ nz)
    (_ : LaidAre nz ls.toList ps)
    (_ : ls.size ≤ 1000)
    (_ : (∀ (e : Int × Str) a I oI D oD C oC m₂ h tk (E' : Value → Shared → Prop), NsObj oC m₂ → m₂ x1 = some (.int e.1 a) → Fr h₀ L h m → News h₀ L h ((C, oC) :: (D, oD) :: (I, oI) :: nz) →
      wpAny (model prg w) A (isTrue c (compEnvC scope cl C env) (eval c (compEnvC scope cl C env))) (fun ok s' => TestEnd s h (f e) ok s') E' { s with heap := h, toks := tk }))
    (_ : (∀ D its k h tk, StrsAre its.toList ((ps.filter f).map (·.2)) → (∀ p ∈ nz, p.1 ≠ D) → Fr h₀ L h m → News h₀ L h ((D, listOf its k) :: nz) → Q (.ref D) { s with heap := h, toks := tk })) : PcSrc w A h₀ L m env c x1 x2 scope cl Q xv s
inductive PcI (h₀ : Heap) (L : Addr) (m : Str → Option Value) (nz : List (Addr × Obj)) (ps : List (Int × Str)) (f : Int × Str → Bool) (z : Nat) (ll D C I : Addr) (s₁ : Shared) (k : Nat) (s' : Shared) : Prop
  | mk (h' : Heap) (tk' : Tok) (i : Nat) (its : Array Value) (kk : Nat) (oC oI : Obj) (mC : Str → Option Value) (_ : s' = { s₁ with heap := h', toks := tk' }) (_ : k = z + 1 - i) (_ : i ≤ z) (_ : ItAt oI ll i) (_ : NsObj oC mC) (_ : its.size ≤ i) (_ : StrsAre its.toList (((ps.take i).filter f).map (·.2))) (_ : Fr h₀ L h' m)
      (_ : News h₀ L h' ((C, oC) :: (D, listOf its kk) :: (I, oI) :: nz)) : PcI h₀ L m nz ps f z ll D C I s₁ k s'
theorem pcomp {c iter : Expr} {x1 x2 : Str} {p1 p2 p3 tp : Pos} {t9 : Nat} {scope : Scope} {cl : List (Str × Addr)} {pos : Pos} {Q : Value → Shared → Prop}
    (hclos : closureFor scope env = pure cl) (hcell : ∀ y ∈ scope.names, y.2 ≠ .cell) (hkind : scope.kind = .function)
    (hnames : ∀ y ∈ scope.names, y.2 = .local → scope.names.lookup y.1 = some .local) (hx1 : scope.names.lookup x1 = some .local) (hx2 : scope.names.lookup x2 = some .local) (hne : x1 ≠ x2) (hd : (x2 == ("__debug__" : Str)) = false)
    (h : wpAny (model prg w) A (eval iter env) (PcSrc w A h₀ L m env c x1 x2 scope cl Q) E s)
    (hs : ∀ x, foldedSetIterable iter env x = pure x := by intro _; rfl) :
    wpAny (model prg w) A (eval (.ListComp (.Name x2 p3) [⟨.Tuple [.Name x1 p1, .Name x2 p2] t9 tp, iter, [c], 0⟩] scope pos) env) Q E s := by
  rw [eval_ListComp]
  refine wpAny_comprehension_free (use := none) rfl hs hclos hkind hnames (wpAny_mono h (fun xv s₁ h₁ => ?_) fun _ _ e => e)
  obtain ⟨ll, ls, n, nz, ps, f, rfl, hh, hnl, F, N, hll, H, hsz, test, fin⟩ := h₁
  have hlen : ps.length = ls.size := H.len
  refine wpAny_pyIter_list (News.isList N hll) ?_
  refine wpAny_newObj_type (wpAny_newFunctionEnv hcell (by intro y hy; simp at hy) (fun h₁ hns₁ hsb₁ => ?_) hkind)
  dsimp only at hns₁ hsb₁ ⊢
  have hlt : AllLt s₁.heap.objs.size nz := allLt_of fun p hp => Heap.lt_size (N p hp).1
  have F1 := F.push ({ cls := .type "list_iterator", data := .fields #[.ref ll, .int 0 0] } : Obj)
  have N1 := News.push F N ({ cls := .type "list_iterator", data := .fields #[.ref ll, .int 0 0] } : Obj) rfl
  have hID : @LT.lt Nat _ s₁.heap.objs.size (s₁.heap.push ({ cls := .type "list_iterator", data := .fields #[.ref ll, .int 0 0] } : Obj)).objs.size := by rw [Heap.size_push]; exact Nat.lt_succ_self _
  generalize hG1 : s₁.heap.push ({ cls := .type "list_iterator", data := .fields #[.ref ll, .int 0 0] } : Obj) = H1 at *
  have F2 := F1.push ({ cls := .type "list", dict := none, data := .seq ([] : List Value).toArray } : Obj)
  have N2 := News.push F1 N1 ({ cls := .type "list", dict := none, data := .seq ([] : List Value).toArray } : Obj) rfl
  have hDC : @LT.lt Nat _ H1.objs.size (H1.push ({ cls := .type "list", dict := none, data := .seq ([] : List Value).toArray } : Obj)).objs.size := by rw [Heap.size_push]; exact Nat.lt_succ_self _
  generalize hG2 : H1.push ({ cls := .type "list", dict := none, data := .seq ([] : List Value).toArray } : Obj) = H2 at *
  have F3 : Fr h₀ L h₁ m := F2.filled hsb₁
  have hCL : H2.objs.size ≠ L := Nat.ne_of_gt F2.ns.lt
  have hC0 : h₀.get? H2.objs.size = none := Heap.get?_none_of_le (Nat.le_trans F.above (Nat.le_of_lt F2.ns.lt))
  have offC : ∀ p ∈ (H1.objs.size, ({ cls := .type "list", dict := none, data := .seq ([] : List Value).toArray } : Obj)) :: (s₁.heap.objs.size, ({ cls := .type "list_iterator", data := .fields #[.ref ll, .int 0 0] } : Obj)) :: nz, p.1 ≠ H2.objs.size := fun p hp => Nat.ne_of_lt (Heap.lt_size (N2 p hp).1)
  obtain ⟨oC, eC, hC⟩ := ns_obj hns₁
  have N3 : News h₀ L h₁ ((H2.objs.size, oC) :: (H1.objs.size, listOf #[] 0) :: (s₁.heap.objs.size, ({ cls := .type "list_iterator", data := .fields #[.ref ll, .int 0 0] } : Obj)) :: nz) := fun p hp => by
    rcases List.mem_cons.mp hp with rfl | hp
    · exact ⟨eC, hCL, hC0⟩
    · exact ⟨hsb₁.extBut _ _ (offC p hp) (Heap.get?_push_of_some _ (N2 p hp).1), (N2 p hp).2⟩
  have hit0 : ItAt ({ cls := .type "list_iterator", data := .fields #[.ref ll, .int 0 0] } : Obj) ll 0 := ⟨rfl, rfl⟩
  have loop : codeAny (model prg w) A (.compLoop (.ListComp (.Name x2 p3) [⟨.Tuple [.Name x1 p1, .Name x2 p2] t9 tp, iter, [c], 0⟩] scope pos) 0 (.ref s₁.heap.objs.size) (.ref H1.objs.size) (compEnvC scope cl H2.objs.size env))
      (compPost (model prg w) A E none Q (.ref H1.objs.size) H2.objs.size) { s₁ with heap := h₁, toks := s₁.toks + ([] : List (Str × Value)).length } := by
    generalize ({ cls := .type "list_iterator", data := .fields #[.ref ll, .int 0 0] } : Obj) = oI at *
    generalize s₁.heap.objs.size = I at *
    generalize H1.objs.size = D at *
    generalize H2.objs.size = C at *
    have nI : ∀ p ∈ nz, p.1 ≠ I := allLt_ne hlt
    have nD : ∀ p ∈ nz, p.1 ≠ D := fun p hp => Nat.ne_of_lt (Nat.lt_trans (allLt_mem hlt p hp) hID)
    have nC : ∀ p ∈ nz, p.1 ≠ C := fun p hp => Nat.ne_of_lt (Nat.lt_trans (Nat.lt_trans (allLt_mem hlt p hp) hID) hDC)
    have dID : I ≠ D := Nat.ne_of_lt hID
    have dDC : D ≠ C := Nat.ne_of_lt hDC
    have dIC : I ≠ C := Nat.ne_of_lt (Nat.lt_trans hID hDC)
    refine kct_loop (PcI h₀ L m nz ps f ls.size ll D C I s₁) ?_ (ls.size + 1) ⟨h₁, _, 0, #[], 0, oC, oI, _, rfl, rfl, Nat.zero_le _, hit0, hC, Nat.le_refl _, by simp only [List.take_zero, List.filter_nil, List.map_nil]; exact .nil, F3, N3⟩
    rintro k s' ⟨h', tk', i, its, kk, oC, oI, mC, rfl, rfl, hi, hit, hC, hiz, hy, F4, N4⟩
    by_cases hlt' : i < ls.size
    · obtain ⟨v, hv⟩ : ∃ v, ls[i]? = some v := ⟨ls[i], Array.getElem?_eq_getElem hlt'⟩
      obtain ⟨e, he, q, a, u, rfl, hm⟩ := H.at (by rw [Array.getElem?_toList]; exact hv)
      refine next_K F4 N4 (UpdF.tail (Ne.symm dIC) (UpdF.tail (Ne.symm dID) (UpdF.head nI))) hit (.tail _ (.tail _ (.tail _ hll))) hv fun h5 oI5 F5 N5 hit5 => ?_
      (try dsimp only)
      refine wpAny_letOwnedTupleGo_listiter (l := ll) (i := i + 1) ⟨_, (N5 _ (.tail _ (.tail _ (.head _)))).1, hit5.c, hit5.d⟩ ?_
      have ht : IsTup h5 q #[.int e.1 a, .str e.2 u] := ⟨_, (N5 _ (.tail _ (.tail _ (.tail _ hm)))).1, rfl, _, rfl⟩
      refine assign_Tuple_tuple hh ht rfl rfl fun h6 hx6 => ?_
      have he' : ∀ b o, h5.get? b = some o → h6.get? b = some o := fun b o e => hx6 b o (Nat.ne_of_lt (Heap.lt_size e)) e
      have F6 : Fr h₀ L h6 m := F5.keeps he'
      have N6 : News h₀ L h6 ((C, oC) :: (D, listOf its kk) :: (I, oI5) :: nz) := fun p hp => ⟨he' _ _ (N5 p hp).1, (N5 p hp).2⟩
      have off6 : ∀ p ∈ (D, listOf its kk) :: (I, oI5) :: nz, p.1 ≠ C := List.forall_mem_cons.mpr ⟨dDC, List.forall_mem_cons.mpr ⟨dIC, nC⟩⟩
      refine assignInOrder_cons (storeC (s := { s₁ with heap := h6, toks := tk' }) hkind hx1 F6 N6 off6 hC fun h7 oC7 tk7 F7 N7 hC7 => ?_)
      refine assignInOrder_cons (storeC (s := { s₁ with heap := h7, toks := tk7 }) hkind hx2 F7 N7 off6 hC7 fun h8 oC8 tk8 F8 N8 hC8 => ?_)
      refine assignInOrder_nil ?_
      refine wpAny_mono (test e a I oI5 D _ C oC8 _ h8 tk8 _ hC8 (by simp [hne]) F8 N8) (fun ok s9 hq => ?_) fun _ _ x => x
      obtain ⟨tk9, rfl, rfl⟩ := hq.is
      have e1 : ps.take (i + 1) = ps.take i ++ [e] := by rw [List.take_add_one, he]; rfl
      by_cases hp : f e = true
      · rw [if_pos hp]
        refine comp_name hkind hx2 hC8 (N8 _ (.head _)).1 (v := .str e.2 u) (by simp) ?_ hd
        refine append_K F8 N8 (Upd.tail (Ne.symm dDC) (Upd.head (List.forall_mem_cons.mpr ⟨dID, nD⟩))) (fun h10 F10 N10 => ?_) (Nat.le_trans (Nat.le_trans hiz hi) (Nat.le_trans hsz (by decide)))
        refine ⟨ls.size + 1 - (i + 1), subs1 (by with_reducible assumption), h10, tk9, i + 1, its.push (.str e.2 u), kk + 1, oC8, oI5, _, rfl, rfl, hlt', hit5, hC8, by rw [Array.size_push]; kln_le, ?_, F10, N10⟩
        rw [e1, List.filter_append, List.filter_cons_of_pos hp, List.filter_nil, List.map_append, Array.toList_push]
        exact kct_snoc hy
      · rw [if_neg hp]
        refine ⟨ls.size + 1 - (i + 1), subs1 (by with_reducible assumption), h8, tk9, i + 1, its, kk, oC8, oI5, _, rfl, rfl, hlt', hit5, hC8, by kln_le, ?_, F8, N8⟩
        rw [e1, List.filter_append, List.filter_cons_of_neg hp, List.filter_nil, List.append_nil]
        exact hy
    · obtain rfl : i = ls.size := Nat.le_antisymm hi (Nat.not_lt.mp hlt')
      have N5 : News h₀ L h' ((I, oI) :: (C, oC) :: (D, listOf its kk) :: nz) := fun p hp => by
        rcases List.mem_cons.mp hp with rfl | hp
        · exact N4 _ (.tail _ (.tail _ (.head _)))
        · rcases List.mem_cons.mp hp with rfl | hp
          · exact N4 _ (.head _)
          · rcases List.mem_cons.mp hp with rfl | hp
            · exact N4 _ (.tail _ (.head _))
            · exact N4 _ (.tail _ (.tail _ (.tail _ hp)))
      refine next_end hh F4 N5 (List.forall_mem_cons.mpr ⟨Ne.symm dIC, List.forall_mem_cons.mpr ⟨Ne.symm dID, nI⟩⟩) hit (.tail _ (.tail _ hll)) (by rw [Array.getElem?_eq_none (Nat.le_refl _)]) fun h6 F6 N6 => ?_
      have nC6 := N6 _ (.head _)
      refine ⟨_, hC.ns nC6.1, fun h7 hs7 => fin D its kk h7 _ ?_ nD (F6.change hs7 nC6.2.1 nC6.2.2) fun p hp => ?_⟩
      · rw [List.take_of_length_le (by kln_le)] at hy
        exact hy
      · refine ⟨hs7.extBut _ _ ?_ (N6 p (.tail _ hp)).1, (N6 p (.tail _ hp)).2⟩
        rcases List.mem_cons.mp hp with rfl | hp
        · exact dDC
        · exact nC p hp
  exact codeAny_compStart_list loop (wpAny_pyIter_listiter (l := ll) (i := 0) ⟨_, (N3 _ (.tail _ (.tail _ (.head _)))).1, rfl, rfl⟩ loop)
end
end
section
theorem str_ext {a b : Str} (h : a.cps.toList = b.cps.toList) : a = b := by
  obtain ⟨⟨x⟩⟩ := a
  obtain ⟨⟨y⟩⟩ := b
  dsimp only at h
  rw [h]
theorem app_cps (a b : Str) : (a ++ b).cps.toList = a.cps.toList ++ b.cps.toList := by rw [Str.cps_append, Array.toList_append]
theorem len_cps (a : Str) : a.length = a.cps.toList.length := by rw [Array.length_toList]; rfl
theorem e_cps : (Str.ofString "").cps.toList = [] := by decide
theorem join_cps0 : ∀ (x : Str) (l : List Str), (Str.join (Str.ofString "") (x :: l)).cps.toList = ((x :: l).map (·.cps.toList)).flatten
  | x, [] => by
    show (Str.join (Str.ofString "") [x]).cps.toList = _
    rw [show Str.join (Str.ofString "") [x] = x from rfl]
    simp
  | x, y :: r => by
    rw [show Str.join (Str.ofString "") (x :: y :: r) = x ++ Str.ofString "" ++ Str.join (Str.ofString "") (y :: r) from rfl, app_cps, app_cps, e_cps, join_cps0 y r]
    simp
theorem join_cps (l : List Str) : (Txt.join (Str.ofString "") l).cps.toList = (l.map (·.cps.toList)).flatten := by
  unfold Txt.join
  rw [StrLaws.glued_eq_join]
  cases l with
  | nil => rfl
  | cons x r => exact join_cps0 x r
theorem join_app (l r : List Str) : Txt.join (Str.ofString "") (l ++ r) = Txt.join (Str.ofString "") l ++ Txt.join (Str.ofString "") r := str_ext (by rw [app_cps, join_cps, join_cps, join_cps, List.map_append, List.flatten_append])
theorem join_snoc1 (l : List Str) (v : Str) : Txt.join (Str.ofString "") (l ++ [v]) = Txt.join (Str.ofString "") l ++ v := by rw [join_app, join_one]
theorem join_len (l : List Str) : (Txt.join (Str.ofString "") l).length = (l.map (·.length)).sum := by
  rw [len_cps, join_cps, List.length_flatten, List.map_map]
  rfl
theorem app_len (a b : Str) : (a ++ b).length = a.length + b.length := by rw [len_cps, app_cps, List.length_append, ← len_cps, ← len_cps]
end
section
inductive Kd : Type
  | beg | fin | txt | cmt | ins
noncomputable def Kd.s : Kd → Str
  | .beg => Str.ofString "begin"
  | .fin => Str.ofString "end"
  | .txt => Str.ofString "text"
  | .cmt => Str.ofString "comment"
  | .ins => Str.ofString "instruction"
structure WS where
  t : Str
  dep : Nat
  seen : Bool
  tab : List (Str × Str)
noncomputable def WS.done (W : WS) : Bool := W.seen && (W.dep == 0)
noncomputable def laysW (nm : Str) (o : Outc) (tab : List (Str × Str)) : List (Str × Str) := tab ++ o.1.map fun v => (nm, v)
noncomputable def tellP (W : WS) (p : Str) : Outc := seqP (seqP (if W.done then ([], false) else flushP W.seen W.t) (writeP p)) (if W.seen then okP else ([], false))
noncomputable def tellT (W : WS) : Str := if W.done then W.t else if W.seen then Str.ofString "" else W.t
noncomputable def callW (k : Kd) (v nm : Str) (W : WS) : Bool × WS :=
  match k with
  | .txt => (true, ⟨W.t ++ v, W.dep, W.seen, W.tab⟩)
  | .cmt => ((tellP W (cmS v)).2, ⟨tellT W, W.dep, W.seen, laysW nm (tellP W (cmS v)) W.tab⟩)
  | .ins => ((tellP W (if v.length = 0 then piS0 else piS v)).2, ⟨tellT W, W.dep, W.seen, laysW nm (tellP W (if v.length = 0 then piS0 else piS v)) W.tab⟩)
  | .fin => let o := seqP (flushP W.seen W.t) ([endS], true); (o.2, ⟨Str.ofString "", if o.2 then W.dep - 1 else W.dep, W.seen, laysW nm o W.tab⟩)
  | .beg => let o := seqP (flushP W.seen W.t) ([Str.ofString "<" ++ Str.ofString "x", attrS v, Str.ofString ">"], true); (o.2, ⟨Str.ofString "", if o.2 then W.dep + 1 else W.dep, if o.2 then true else W.seen, laysW nm o W.tab⟩)
theorem join_nil : Txt.join (Str.ofString "") [] = Str.ofString "" := by decide +kernel
theorem empty_len : (Str.ofString "").length = 0 := by decide
theorem flushP_e (seen : Bool) : flushP seen (Str.ofString "") = okP := by unfold flushP; rw [if_pos (.inl empty_len)]
theorem flushP_u (t : Str) : flushP false t = okP := by unfold flushP; rw [if_pos (.inr rfl)]
theorem seqP_one (a : Outc) : seqP okP a = a := by
  unfold seqP
  rw [if_pos rfl]
  rfl
structure Cf where
  its : Array Value
  hds : Array Value
  dsI : Array Value
  nsI : Array Value
  pI : Array Value
  ps : Array Value
  n1 : Nat
  n2 : Nat
  n4 : Nat
  n5 : Nat
  n6 : Nat
  seen : Bool
  done : Bool
structure Txts (its : Array Value) (t : Str) (b : Nat) : Prop where
  is : ∃ txts, StrsAre its.toList txts ∧ Txt.join (Str.ofString "") txts = t ∧ its.size ≤ b ∧ (txts.map (·.length)).sum ≤ 3 * b
structure InvW (w : World) (x dx f xt l cl l0 t0 : Addr) (W : WS) (c : Cf) (Z : List (Addr × Obj)) (b : Nat) : Prop where
  hx : (x, instObj 150 dx) ∈ Z
  hz : HandZ w Z f xt l cl
  hB : StkB Z c.dsI l0 t0
  hK : KeyTab c.ps Z
  txts : Txts c.its W.t b
  tl : W.t.length ≤ 3 * b
  tab : PairAre Z c.hds.toList W.tab
  tabn : W.tab.length ≤ 4 * b
  seen : c.seen = W.seen
  done : c.done = W.done
  pz : c.pI.size = W.dep + 1
  dz : c.dsI.size = W.dep + 1
  nz : c.nsI.size = W.dep + 2
  dep : W.dep ≤ b
  sd : 0 < W.dep → W.seen = true
noncomputable def offL (as : List Addr) (Z : List (Addr × Obj)) : List (Addr × Obj) := Z.filter fun p => decide (p.1 ∉ as)
theorem offL_sub {as : List Addr} {Z : List (Addr × Obj)} {p : Addr × Obj} (h : p ∈ offL as Z) : p ∈ Z := (List.mem_filter.mp h).1
theorem offL_not {as : List Addr} {Z : List (Addr × Obj)} {p : Addr × Obj} (h : p ∈ offL as Z) : p.1 ∉ as := of_decide_eq_true (List.mem_filter.mp h).2
theorem offL_mem {as : List Addr} {Z : List (Addr × Obj)} {p : Addr × Obj} (h : p ∈ Z) (n : p.1 ∉ as) : p ∈ offL as Z := List.mem_filter.mpr ⟨h, decide_eq_true n⟩
theorem DisjL.off : ∀ {as : List Addr} {Z : List (Addr × Obj)}, DisjL as Z → ∀ p ∈ Z, p.1 ∉ as
  | [], _, _, _, _ => List.not_mem_nil
  | a :: r, Z, h, p, hp => fun q => by
    rcases List.mem_cons.mp q with q | q
    · exact h.2.1 p hp q
    · exact DisjL.off h.2.2 p hp q
theorem DisjL.swap : ∀ {as : List Addr} {Z Z' : List (Addr × Obj)}, DisjL as Z → (∀ p ∈ Z', p.1 ∉ as) → DisjL as Z'
  | [], _, _, _, _ => trivial
  | a :: r, Z, Z', h, hn => ⟨h.1, fun p hp e => hn p hp (by rw [e]; exact .head _), DisjL.swap h.2.2 fun p hp q => hn p hp (.tail _ q)⟩
theorem DisjL.take2 {a b : Addr} {o o2 : Obj} : ∀ {as : List Addr} {Z : List (Addr × Obj)}, DisjL (as ++ [a, b]) Z → DisjL as ((a, o) :: (b, o2) :: Z)
  | [], _, _ => trivial
  | c :: r, Z, h => by
    refine ⟨fun q hq => h.1 q (List.mem_append_left _ hq), fun p hp => ?_, DisjL.take2 h.2.2⟩
    rcases List.mem_cons.mp hp with rfl | hp
    · exact Ne.symm (h.1 a (List.mem_append_right _ (.head _)))
    · rcases List.mem_cons.mp hp with rfl | hp
      · exact Ne.symm (h.1 b (List.mem_append_right _ (.tail _ (.head _))))
      · exact h.2.1 p hp
structure Odd (o : Obj) : Prop where
  c : o.cls ≠ .type "tuple"
  f : ∀ vs, o.data = .fields vs → ∀ t, vs[1]? ≠ some (.str keyQ t)
theorem odd_list (its : Array Value) (n : Nat) : Odd (listOf its n) := ⟨by intro h; injection h with h; exact absurd h (by decide), fun vs h => by cases h⟩
theorem odd_dict {o : Obj} (h1 : o.cls = .type "dict") {es n} (h2 : o.data = .dict es n) : Odd o := ⟨by rw [h1]; intro h; injection h with h; exact absurd h (by decide), fun vs h => by rw [h2] at h; cases h⟩
theorem odd_isDict {w : World} {o : Obj} {kvs : List (Str × Value)} (h : o.IsDictOf (strKind prg w) kvs) : Odd o := by
  obtain ⟨es, ep, hc, hd, _⟩ := h
  exact odd_dict hc.1 hd
theorem odd_tab {ps : Array Value} {Z : List (Addr × Obj)} (h : KeyTab ps Z) : Odd (tabObj ps) := by
  refine ⟨fun h => (by cases h), fun vs e t q => ?_⟩
  have e2 : ps = vs := by injection e
  subst e2
  rcases h with rfl | ⟨c', oc, vs, t', rfl, _⟩
  · simp at q
  · simp [rawInt] at q
section
variable {g h : Heap} {L : Addr} {led Z : List (Addr × Obj)} {as : List Addr}
theorem cut_tup (N : News g L h led) (hZ : ∀ p ∈ Z, p ∈ led) (hT : ∀ a ∈ as, ∃ o, (a, o) ∈ led ∧ Odd o) {q : Addr} {a b : Value} (hm : (q, tupO a b) ∈ Z) : (q, tupO a b) ∈ offL as Z := offL_mem hm fun hq => by
  obtain ⟨o, ho, od⟩ := hT q hq
  have e := (N _ ho).1.symm.trans (N _ (hZ _ hm)).1
  have e2 : o = tupO a b := Option.some.inj e
  exact od.c (by rw [e2])
theorem cut_pair (N : News g L h led) (hZ : ∀ p ∈ Z, p ∈ led) (hT : ∀ a ∈ as, ∃ o, (a, o) ∈ led ∧ Odd o) {its : List Value} {ps : List (Str × Str)} (H : PairAre Z its ps) : PairAre (offL as Z) its ps :=
  forall2_mono (fun _ _ ⟨q, a, u, e, m⟩ => ⟨q, a, u, e, cut_tup N hZ hT m⟩) H
theorem cut_laid (N : News g L h led) (hZ : ∀ p ∈ Z, p ∈ led) (hT : ∀ a ∈ as, ∃ o, (a, o) ∈ led ∧ Odd o) {its : List Value} {ps : List (Int × Str)} (H : LaidAre Z its ps) : LaidAre (offL as Z) its ps :=
  forall2_mono (fun _ _ ⟨q, a, u, e, m⟩ => ⟨q, a, u, e, cut_tup N hZ hT m⟩) H
theorem cut_key (N : News g L h led) (hZ : ∀ p ∈ Z, p ∈ led) (hT : ∀ a ∈ as, ∃ o, (a, o) ∈ led ∧ Odd o) {ps : Array Value} (H : KeyTab ps Z) : KeyTab ps (offL as Z) := by
  rcases H with rfl | ⟨c', oc, vs, t, e, hm, hd, hv⟩
  · exact .inl rfl
  · refine .inr ⟨c', oc, vs, t, e, offL_mem hm fun hq => ?_, hd, hv⟩
    obtain ⟨o, ho, od⟩ := hT c' hq
    have e3 := (N _ ho).1.symm.trans (N _ (hZ _ hm)).1
    have e2 : o = oc := Option.some.inj e3
    exact od.f vs (by rw [e2]; exact hd) t hv
end
theorem PairAre.add {Z Z' : List (Addr × Obj)} {hds hds' : Array Value} {tab : List (Str × Str)} {nm : Str} {vs : List Str} {Z0 : List (Addr × Obj)} (H : PairAre Z hds.toList tab) (hs : ∀ p ∈ Z, p ∈ Z') (y : Lays nm hds Z0 vs hds' Z') : PairAre Z' hds'.toList (tab ++ vs.map fun v => (nm, v)) := by
  obtain ⟨_, qs, e, h2⟩ := y
  rw [e]
  refine forall2_append (H.mono hs) ?_
  clear e
  induction h2 with
  | nil => exact .nil
  | cons p _ ih => exact .cons (let ⟨t, t', m⟩ := p; ⟨_, t, t', rfl, m⟩) ih
end
section
structure TxtOk (v : Str) : Prop where
  len : v.length ≤ 3
  escl : (escC v).length ≤ 900
  cms : (cmS v).length ≤ 1000
  pis : (piS v).length ≤ 1000
  asc : (v.cps.all (· < 128)) = true
  spC : (spell psC v).length ≤ 900
  spA : (spell psA v).length ≤ 900
structure ValOk (v : Str) : Prop where
  bad : vBad (attrS v) = false
  len : (attrS v).length ≤ 1000
theorem piS0_len : piS0.length ≤ 1000 := by decide
theorem a60 {a b c : Nat} (h : a ≤ b) (hb : b ≤ 60) (k : Nat.ble 60 c = true) : a ≤ c := Nat.le_trans h (Nat.le_trans hb (Nat.le_of_ble_eq_true k))
theorem a180 {a b c : Nat} (h : a ≤ 3 * b) (hb : b ≤ 60) (k : Nat.ble (3 * 60) c = true) : a ≤ c := Nat.le_trans h (Nat.le_trans (Nat.mul_le_mul_left 3 hb) (Nat.le_of_ble_eq_true k))
theorem a240 {a t b c : Nat} (e : a = t) (h : t ≤ 4 * b) (hb : b ≤ 60) (k : Nat.ble (4 * 60) c = true) : a ≤ c := Nat.le_trans (Nat.le_of_eq e) (Nat.le_trans h (Nat.le_trans (Nat.mul_le_mul_left 4 hb) (Nat.le_of_ble_eq_true k)))
theorem apn {a d b c j : Nat} (e : a = d + j) (h : d ≤ b) (hb : b ≤ 60) (k : Nat.ble (60 + j) c = true) : a ≤ c := Nat.le_trans (Nat.le_of_eq e) (Nat.le_trans (Nat.add_le_add_right (Nat.le_trans h hb) j) (Nat.le_of_ble_eq_true k))
theorem apz {a d b c j : Nat} (e : a + 1 = d + j) (h : d ≤ b) (hb : b ≤ 60) (k : Nat.ble (60 + j) c = true) : a ≤ c := Nat.le_trans (Nat.le_succ a) (apn e h hb k)
theorem a4 {t s f o b j : Nat} (h : t ≤ 4 * b) (h1 : s ≤ f + o) (h2 : f ≤ 1) (h3 : o = j) (k : Nat.ble (1 + j) 4 = true) : t + s ≤ 4 * (b + 1) :=
  Nat.le_trans (Nat.add_le_add h (Nat.le_trans h1 (Nat.add_le_add h2 (Nat.le_of_eq h3)))) (Nat.add_le_add_left (Nat.le_of_ble_eq_true k) (4 * b))
theorem a0 {a d : Nat} (e : a + 1 = d + 1) (h : 0 < d) : 0 < a := (Nat.succ.inj e).symm ▸ h
theorem ai {d : Nat} (h : ¬ d = 1) : (d : Int) ≠ 1 := fun z => h (Int.ofNat.inj z)
theorem aj {d : Nat} (h : ¬ d = 1) (hw : 0 < d) : d - 1 ≠ 0 := Nat.sub_ne_zero_of_lt (Nat.lt_of_le_of_ne hw (Ne.symm h))
theorem ak {a j : Nat} : ∀ {d : Nat}, a + 1 = d + j → 0 < d → a = d - 1 + j
  | d + 1, e, _ => Nat.succ.inj (e.trans (Nat.add_right_comm d 1 j))
theorem am {d b : Nat} (h : d ≤ b) : d - 1 ≤ b + 1 := Nat.le_trans (Nat.sub_le _ _) (Nat.le_succ_of_le h)
theorem push_of {a : Array Value} {k : Nat} (h : a.size = k + 1) : ∃ b y, a = Array.push b y := Array.eq_push_of_size_ne_zero (by kln_le)
theorem DisjL.take1 {a : Addr} {o : Obj} : ∀ {as : List Addr} {Z : List (Addr × Obj)}, DisjL (as ++ [a]) Z → DisjL as ((a, o) :: Z)
  | [], _, _ => trivial
  | c :: r, Z, h => by
    refine ⟨fun q hq => h.1 q (List.mem_append_left _ hq), fun p hp => ?_, DisjL.take1 h.2.2⟩
    rcases List.mem_cons.mp hp with rfl | hp
    · exact Ne.symm (h.1 a (List.mem_append_right _ (.head _)))
    · exact h.2.1 p hp
theorem ahead_eq {seen done empt : Bool} {t : Str} (h : empt = true → t = Str.ofString "") : aheadP seen done empt t = if done then ([], false) else flushP seen t := by
  unfold aheadP
  cases done with
  | true => rw [if_pos rfl, if_pos rfl, writeP_nl]
  | false =>
    rw [if_neg Bool.false_ne_true, if_neg Bool.false_ne_true]
    cases seen with
    | false => rw [flushP_u]; rfl
    | true =>
      cases empt with
      | true => rw [h rfl, flushP_e]; rfl
      | false => rfl
theorem tell_eq {W : WS} {seen done empt : Bool} {p : Str} (hs : seen = W.seen) (hd : done = W.done) (h : empt = true → W.t = Str.ofString "") : commentP seen done empt W.t p = tellP W p := by
  unfold commentP tellP
  rw [ahead_eq h, seqP_one, hs, hd]
  unfold behindP
  rw [writeP_nl]
theorem strs_nil {ts : List Str} (h : StrsAre [] ts) : ts = [] := by cases h; rfl
theorem Txts.nil (b : Nat) : Txts #[] (Str.ofString "") b := ⟨[], .nil, join_nil, Nat.zero_le _, Nat.zero_le _⟩
theorem Txts.up {its : Array Value} {t : Str} {b : Nat} (h : Txts its t b) : Txts its t (b + 1) := by
  obtain ⟨x, a, b, c, d⟩ := h.is
  exact ⟨x, a, b, by kln_le, by kln_le⟩
theorem Txts.e {its : Array Value} {t : Str} {b : Nat} (h : Txts its t b) (e : its.isEmpty = true) : t = Str.ofString "" := by
  obtain ⟨x, a, h2, c, d⟩ := h.is
  rw [isEmpty_of e] at a
  rw [strs_nil a] at h2
  rw [← h2, join_nil]
theorem Txts.tell {its : Array Value} {W : WS} {b : Nat} {seen done : Bool} (h : Txts its W.t b) (hs : seen = W.seen) (hd : done = W.done) : Txts (dataP seen done its) (tellT W) b := by
  unfold dataP tellT
  rw [← hs, ← hd]
  cases done with
  | true => exact h
  | false =>
    rw [if_neg Bool.false_ne_true, if_neg Bool.false_ne_true]
    cases seen with
    | false => exact h
    | true =>
      cases he : its.isEmpty with
      | true => rw [if_neg (by decide), if_pos rfl, ← h.e he]; exact h
      | false => rw [if_pos (by decide), if_pos rfl]; exact Txts.nil b
theorem Txts.flush {its : Array Value} {b : Nat} (e : its.isEmpty = true) : Txts its (Str.ofString "") b := by rw [isEmpty_of e]; exact Txts.nil b
theorem StkB.popY {Z : List (Addr × Obj)} {its : Array Value} {y : Value} {l0 t0 : Addr} (H : StkB Z (its.push y) l0 t0) (hz : 0 < its.size) : StkB Z its l0 t0 :=
  ⟨H.is, hz, Nat.le_trans (Nat.le_succ _) (by have := H.sz; rwa [Array.size_push] at this), by have := H.at0; rwa [Array.getElem?_push_lt hz, ← Array.getElem?_eq_getElem hz] at this, fun i h1 h2 => by
    obtain ⟨a, k, e, m⟩ := H.more i h1 (by rw [Array.size_push]; kln_le)
    exact ⟨a, k, by rwa [Array.getElem?_push_lt h2, ← Array.getElem?_eq_getElem h2] at e, m⟩⟩
theorem tell_len (W : WS) (p : Str) : (tellP W p).1.length ≤ 4 := by
  unfold tellP
  refine Nat.le_trans seqP_len (Nat.le_trans (Nat.add_le_add (Nat.le_trans seqP_len (Nat.add_le_add (show _ ≤ 1 from ?_) (writeP_len p))) (show _ ≤ 0 from ?_)) (by decide))
  · split
    · exact Nat.zero_le _
    · exact flushP_len _ _
  · split <;> exact Nat.le_refl _
theorem lays_len (nm : Str) (o : Outc) (tab : List (Str × Str)) : (laysW nm o tab).length = tab.length + o.1.length := by unfold laysW; rw [List.length_append, List.length_map]
theorem tellT_len {W : WS} {b : Nat} (h : W.t.length ≤ b) : (tellT W).length ≤ b := by
  unfold tellT
  split
  · exact h
  · split
    · rw [empty_len]; exact Nat.zero_le _
    · exact h
theorem lcall_u_cmt
    {R : Result → Shared → Prop} {x dx f dd ds dn dm dp xt l cl l0 t0 st ll : Addr} {ts : Nat → Tok} {so : Obj} {ls : Array Value} {n3 n7 b : Nat} {nm v : Str} {tn t1 tv : Tok} {c : Cf} {Z : List (Addr × Obj)} {W : WS}
    (cx : Ct w A₀ base h₀ outer env L m mean mg mb h ((dd, listOf c.its c.n1) :: (l, listOf c.hds c.n2) :: (cl, listOf #[.str nm tn] n3) :: (dx, wrD w ts f dd ds dn dm dp c.seen c.done) :: (dp, listOf c.pI c.n4) :: (ds, listOf c.dsI c.n5) :: (dn, listOf c.nsI c.n6) :: (123, tabObj c.ps) :: (st, so) :: (ll, listOf ls n7) :: Z) d u)
    (hd1 : d ≤ 660) (hu1 : u ≤ 300) (I : InvW w x dx f xt l cl l0 t0 W c Z b) (hb : b ≤ 60) (hD : DisjL [dd, l, cl, dx, dp, ds, dn, 123, st, ll] Z) (hso : Odd so) (hv : TxtOk v) (hnm : nBad nm = false) (hnl : nm.length ≤ 2 ^ 63 - 1) (hje : (escC W.t).length ≤ 1000) 
    (hF : ∀ c' Z' t', InvW w x dx f xt l cl l0 t0 (callW .cmt v nm W).2 c' Z' (b + 1) → (∀ p ∈ Z, p ∈ Z') → DisjL [dd, l, cl, dx, dp, ds, dn, 123, st, ll] Z' → BackT w A₀ base outer mean mg mb g os h₀ L m ((dd, listOf c'.its c'.n1) :: (l, listOf c'.hds c'.n2) :: (cl, listOf #[.str nm tn] n3) :: (dx, wrD w ts f dd ds dn dm dp c'.seen c'.done) :: (dp, listOf c'.pI c'.n4) :: (ds, listOf c'.dsI c'.n5) :: (dn, listOf c'.nsI c'.n6) :: (123, tabObj c'.ps) :: (st, so) :: (ll, listOf ls n7) :: Z') (.str (toldS (callW .cmt v nm W).1) t') R) :
    codeAny (model prg w) (Ar d u gd env outer) (.call (.ref 342) ⟨[.ref x, .str (Str.ofString "comment") t1, .str v tv], []⟩) R ⟨h, g, dr, tk, os⟩ := by
  obtain ⟨txts, ht1, ht2, ht3, ht4⟩ := I.txts.is
  have J := I.txts
  have hD0 := hD
  have hj : (Txt.join (Str.ofString "") txts).length ≤ 1000 := by rw [ht2]; exact a180 I.tl hb rfl
  have hhs : c.hds.size = W.tab.length := (Array.length_toList.symm.trans I.tab.len.symm)
  have hhb := I.tabn
  have tk9 : DisjL [dd, l, cl] ((dx, wrD w ts f dd ds dn dm dp c.seen c.done) :: (dp, listOf c.pI c.n4) :: (ds, listOf c.dsI c.n5) :: (dn, listOf c.nsI c.n6) :: (123, tabObj c.ps) :: (st, so) :: (ll, listOf ls n7) :: Z) :=
    DisjL.take1 (as := [dd, l, cl]) (DisjL.take1 (as := [dd, l, cl, dx]) (DisjL.take1 (as := [dd, l, cl, dx, dp]) (DisjL.take1 (as := [dd, l, cl, dx, dp, ds]) (DisjL.take1 (as := [dd, l, cl, dx, dp, ds, dn]) (DisjL.take1 (as := [dd, l, cl, dx, dp, ds, dn, 123]) (DisjL.take1 (as := [dd, l, cl, dx, dp, ds, dn, 123, st]) hD))))))
  have inZ : ∀ p ∈ Z, p ∈ (dx, wrD w ts f dd ds dn dm dp c.seen c.done) :: (dp, listOf c.pI c.n4) :: (ds, listOf c.dsI c.n5) :: (dn, listOf c.nsI c.n6) :: (123, tabObj c.ps) :: (st, so) :: (ll, listOf ls n7) :: Z := fun p hp => by
    iterate 7 (refine List.mem_cons_of_mem _ ?_)
    exact hp
  refine lcall_comment cx hd1 hu1 (inZ _ I.hx) (.head _) (I.hz.mono inZ) (tk9.1 l (.head _)) (tk9.1 cl (.tail _ (.head _))) (Ne.symm (tk9.2.2.1 cl (.head _))) tk9.2.1 tk9.2.2.2.1 (by first | exact a60 ht3 hb rfl | exact a240 hhs hhb hb rfl | exact a180 ht4 hb rfl) (by first | exact a60 ht3 hb rfl | exact a240 hhs hhb hb rfl | exact a180 ht4 hb rfl) hnm hnl ht1 (by first | exact a60 ht3 hb rfl | exact a240 hhs hhb hb rfl | exact a180 ht4 hb rfl) hj (by rw [ht2]; exact hje) (Nat.le_trans hv.len (by decide)) hv.escl hv.cms ?_
  intro o ho its' n' hds' n2' Z' t' hi hz' r' h₀' h' g' d' tk' hbb T9 F9 N9 B9 X9 Tp9 D9
  rw [ht2, tell_eq (W := W) I.seen I.done (fun e => J.e e)] at ho
  subst ho
  have hsub := fun p hp => r'.up.sub p (inZ p hp)
  have hT : ∀ a ∈ ([dd, l, cl, dx, dp, ds, dn, 123, st, ll] : List Addr), ∃ o, (a, o) ∈ (dd, listOf its' n') :: (l, listOf hds' n2') :: (cl, listOf #[.str nm tn] n3) :: Z' ∧ Odd o := by
    have up := fun p hp => List.mem_cons_of_mem (dd, listOf its' n') (List.mem_cons_of_mem (l, listOf hds' n2') (List.mem_cons_of_mem (cl, listOf #[.str nm tn] n3) (r'.up.sub p hp)))
    refine List.forall_mem_cons.mpr ⟨⟨_, .head _, odd_list _ _⟩, List.forall_mem_cons.mpr ⟨⟨_, .tail _ (.head _), odd_list _ _⟩, List.forall_mem_cons.mpr ⟨⟨_, .tail _ (.tail _ (.head _)), odd_list _ _⟩, List.forall_mem_cons.mpr ⟨⟨_, up _ (.head _), odd_dict rfl rfl⟩, List.forall_mem_cons.mpr ⟨⟨_, up _ (.tail _ (.head _)), odd_list _ _⟩,
      List.forall_mem_cons.mpr ⟨⟨_, up _ (.tail _ (.tail _ (.head _))), odd_list _ _⟩, List.forall_mem_cons.mpr ⟨⟨_, up _ (.tail _ (.tail _ (.tail _ (.head _)))), odd_list _ _⟩, List.forall_mem_cons.mpr ⟨⟨_, up _ (.tail _ (.tail _ (.tail _ (.tail _ (.head _))))), odd_tab I.hK⟩, List.forall_mem_cons.mpr ⟨⟨_, up _ (.tail _ (.tail _ (.tail _ (.tail _ (.tail _ (.head _)))))), hso⟩,
      List.forall_mem_cons.mpr ⟨⟨_, up _ (.tail _ (.tail _ (.tail _ (.tail _ (.tail _ (.tail _ (.head _))))))), odd_list _ _⟩, fun _ h => nomatch h⟩⟩⟩⟩⟩⟩⟩⟩⟩⟩
  have hZl : ∀ p ∈ Z', p ∈ (dd, listOf its' n') :: (l, listOf hds' n2') :: (cl, listOf #[.str nm tn] n3) :: Z' := fun p hp => .tail _ (.tail _ (.tail _ hp))
  have hoff : ∀ p ∈ Z, p ∈ offL [dd, l, cl, dx, dp, ds, dn, 123, st, ll] Z' := fun p hp => offL_mem (hsub p hp) (hD.off p hp)
  refine hF ⟨its', hds', c.dsI, c.nsI, c.pI, c.ps, n', n2', c.n4, c.n5, c.n6, c.seen, c.done⟩ (offL [dd, l, cl, dx, dp, ds, dn, 123, st, ll] Z') t' ⟨hoff _ I.hx, I.hz.mono hoff, StkB.mono I.hB hoff, I.hK.mono hoff, ?_, ?_, ?_, ?_, I.seen, I.done, I.pz, I.dz, I.nz, Nat.le_succ_of_le I.dep, I.sd⟩ hoff (hD.swap fun p hp => offL_not hp) h₀' h' g' d' tk' hbb T9 F9 (news_sub N9 ?_) B9 X9 Tp9 D9
  · rw [hi]; exact (J.tell I.seen I.done).up
  · exact tellT_len (Nat.le_trans I.tl (Nat.mul_le_mul_left 3 (Nat.le_succ b)))
  · exact cut_pair N9 hZl hT (I.tab.add hsub r'.gg.lays)
  · show (laysW nm _ W.tab).length ≤ _
    rw [lays_len]
    have := tell_len W (cmS v)
    exact Nat.add_le_add I.tabn this
  · refine List.forall_mem_cons.mpr ⟨.head _, List.forall_mem_cons.mpr ⟨.tail _ (.head _), List.forall_mem_cons.mpr ⟨.tail _ (.tail _ (.head _)), List.forall_mem_cons.mpr ⟨hZl _ (r'.up.sub _ (.head _)), List.forall_mem_cons.mpr ⟨hZl _ (r'.up.sub _ (.tail _ (.head _))), List.forall_mem_cons.mpr ⟨hZl _ (r'.up.sub _ (.tail _ (.tail _ (.head _)))),
      List.forall_mem_cons.mpr ⟨hZl _ (r'.up.sub _ (.tail _ (.tail _ (.tail _ (.head _))))), List.forall_mem_cons.mpr ⟨hZl _ (r'.up.sub _ (.tail _ (.tail _ (.tail _ (.tail _ (.head _)))))), List.forall_mem_cons.mpr ⟨hZl _ (r'.up.sub _ (.tail _ (.tail _ (.tail _ (.tail _ (.tail _ (.head _))))))), List.forall_mem_cons.mpr ⟨hZl _ (r'.up.sub _ (.tail _ (.tail _ (.tail _ (.tail _ (.tail _ (.tail _ (.head _)))))))), fun p hp => hZl p (offL_sub hp)⟩⟩⟩⟩⟩⟩⟩⟩⟩⟩
theorem lcall_u_ins
    {R : Result → Shared → Prop} {x dx f dd ds dn dm dp xt l cl l0 t0 st ll : Addr} {ts : Nat → Tok} {so : Obj} {ls : Array Value} {n3 n7 b : Nat} {nm v : Str} {tn t1 tv : Tok} {c : Cf} {Z : List (Addr × Obj)} {W : WS}
    (cx : Ct w A₀ base h₀ outer env L m mean mg mb h ((dd, listOf c.its c.n1) :: (l, listOf c.hds c.n2) :: (cl, listOf #[.str nm tn] n3) :: (dx, wrD w ts f dd ds dn dm dp c.seen c.done) :: (dp, listOf c.pI c.n4) :: (ds, listOf c.dsI c.n5) :: (dn, listOf c.nsI c.n6) :: (123, tabObj c.ps) :: (st, so) :: (ll, listOf ls n7) :: Z) d u)
    (hd1 : d ≤ 660) (hu1 : u ≤ 300) (I : InvW w x dx f xt l cl l0 t0 W c Z b) (hb : b ≤ 60) (hD : DisjL [dd, l, cl, dx, dp, ds, dn, 123, st, ll] Z) (hso : Odd so) (hv : TxtOk v) (hnm : nBad nm = false) (hnl : nm.length ≤ 2 ^ 63 - 1) (hje : (escC W.t).length ≤ 1000) 
    (hF : ∀ c' Z' t', InvW w x dx f xt l cl l0 t0 (callW .ins v nm W).2 c' Z' (b + 1) → (∀ p ∈ Z, p ∈ Z') → DisjL [dd, l, cl, dx, dp, ds, dn, 123, st, ll] Z' → BackT w A₀ base outer mean mg mb g os h₀ L m ((dd, listOf c'.its c'.n1) :: (l, listOf c'.hds c'.n2) :: (cl, listOf #[.str nm tn] n3) :: (dx, wrD w ts f dd ds dn dm dp c'.seen c'.done) :: (dp, listOf c'.pI c'.n4) :: (ds, listOf c'.dsI c'.n5) :: (dn, listOf c'.nsI c'.n6) :: (123, tabObj c'.ps) :: (st, so) :: (ll, listOf ls n7) :: Z') (.str (toldS (callW .ins v nm W).1) t') R) :
    codeAny (model prg w) (Ar d u gd env outer) (.call (.ref 342) ⟨[.ref x, .str (Str.ofString "instruction") t1, .str v tv], []⟩) R ⟨h, g, dr, tk, os⟩ := by
  obtain ⟨txts, ht1, ht2, ht3, ht4⟩ := I.txts.is
  have J := I.txts
  have hD0 := hD
  have hj : (Txt.join (Str.ofString "") txts).length ≤ 1000 := by rw [ht2]; exact a180 I.tl hb rfl
  have hhs : c.hds.size = W.tab.length := (Array.length_toList.symm.trans I.tab.len.symm)
  have hhb := I.tabn
  have tk9 : DisjL [dd, l, cl] ((dx, wrD w ts f dd ds dn dm dp c.seen c.done) :: (dp, listOf c.pI c.n4) :: (ds, listOf c.dsI c.n5) :: (dn, listOf c.nsI c.n6) :: (123, tabObj c.ps) :: (st, so) :: (ll, listOf ls n7) :: Z) :=
    DisjL.take1 (as := [dd, l, cl]) (DisjL.take1 (as := [dd, l, cl, dx]) (DisjL.take1 (as := [dd, l, cl, dx, dp]) (DisjL.take1 (as := [dd, l, cl, dx, dp, ds]) (DisjL.take1 (as := [dd, l, cl, dx, dp, ds, dn]) (DisjL.take1 (as := [dd, l, cl, dx, dp, ds, dn, 123]) (DisjL.take1 (as := [dd, l, cl, dx, dp, ds, dn, 123, st]) hD))))))
  have inZ : ∀ p ∈ Z, p ∈ (dx, wrD w ts f dd ds dn dm dp c.seen c.done) :: (dp, listOf c.pI c.n4) :: (ds, listOf c.dsI c.n5) :: (dn, listOf c.nsI c.n6) :: (123, tabObj c.ps) :: (st, so) :: (ll, listOf ls n7) :: Z := fun p hp => by
    iterate 7 (refine List.mem_cons_of_mem _ ?_)
    exact hp
  refine lcall_pi cx hd1 hu1 (inZ _ I.hx) (.head _) (I.hz.mono inZ) (tk9.1 l (.head _)) (tk9.1 cl (.tail _ (.head _))) (Ne.symm (tk9.2.2.1 cl (.head _))) tk9.2.1 tk9.2.2.2.1 (by first | exact a60 ht3 hb rfl | exact a240 hhs hhb hb rfl | exact a180 ht4 hb rfl) (by first | exact a60 ht3 hb rfl | exact a240 hhs hhb hb rfl | exact a180 ht4 hb rfl) hnm hnl ht1 (by first | exact a60 ht3 hb rfl | exact a240 hhs hhb hb rfl | exact a180 ht4 hb rfl) hj (by rw [ht2]; exact hje) (Nat.le_trans hv.len (by decide)) hv.escl hv.pis piS0_len ?_
  intro o ho its' n' hds' n2' Z' t' hi hz' r' h₀' h' g' d' tk' hbb T9 F9 N9 B9 X9 Tp9 D9
  rw [ht2, tell_eq (W := W) I.seen I.done (fun e => J.e e)] at ho
  subst ho
  have hsub := fun p hp => r'.up.sub p (inZ p hp)
  have hT : ∀ a ∈ ([dd, l, cl, dx, dp, ds, dn, 123, st, ll] : List Addr), ∃ o, (a, o) ∈ (dd, listOf its' n') :: (l, listOf hds' n2') :: (cl, listOf #[.str nm tn] n3) :: Z' ∧ Odd o := by
    have up := fun p hp => List.mem_cons_of_mem (dd, listOf its' n') (List.mem_cons_of_mem (l, listOf hds' n2') (List.mem_cons_of_mem (cl, listOf #[.str nm tn] n3) (r'.up.sub p hp)))
    refine List.forall_mem_cons.mpr ⟨⟨_, .head _, odd_list _ _⟩, List.forall_mem_cons.mpr ⟨⟨_, .tail _ (.head _), odd_list _ _⟩, List.forall_mem_cons.mpr ⟨⟨_, .tail _ (.tail _ (.head _)), odd_list _ _⟩, List.forall_mem_cons.mpr ⟨⟨_, up _ (.head _), odd_dict rfl rfl⟩, List.forall_mem_cons.mpr ⟨⟨_, up _ (.tail _ (.head _)), odd_list _ _⟩,
      List.forall_mem_cons.mpr ⟨⟨_, up _ (.tail _ (.tail _ (.head _))), odd_list _ _⟩, List.forall_mem_cons.mpr ⟨⟨_, up _ (.tail _ (.tail _ (.tail _ (.head _)))), odd_list _ _⟩, List.forall_mem_cons.mpr ⟨⟨_, up _ (.tail _ (.tail _ (.tail _ (.tail _ (.head _))))), odd_tab I.hK⟩, List.forall_mem_cons.mpr ⟨⟨_, up _ (.tail _ (.tail _ (.tail _ (.tail _ (.tail _ (.head _)))))), hso⟩,
      List.forall_mem_cons.mpr ⟨⟨_, up _ (.tail _ (.tail _ (.tail _ (.tail _ (.tail _ (.tail _ (.head _))))))), odd_list _ _⟩, fun _ h => nomatch h⟩⟩⟩⟩⟩⟩⟩⟩⟩⟩
  have hZl : ∀ p ∈ Z', p ∈ (dd, listOf its' n') :: (l, listOf hds' n2') :: (cl, listOf #[.str nm tn] n3) :: Z' := fun p hp => .tail _ (.tail _ (.tail _ hp))
  have hoff : ∀ p ∈ Z, p ∈ offL [dd, l, cl, dx, dp, ds, dn, 123, st, ll] Z' := fun p hp => offL_mem (hsub p hp) (hD.off p hp)
  refine hF ⟨its', hds', c.dsI, c.nsI, c.pI, c.ps, n', n2', c.n4, c.n5, c.n6, c.seen, c.done⟩ (offL [dd, l, cl, dx, dp, ds, dn, 123, st, ll] Z') t' ⟨hoff _ I.hx, I.hz.mono hoff, StkB.mono I.hB hoff, I.hK.mono hoff, ?_, ?_, ?_, ?_, I.seen, I.done, I.pz, I.dz, I.nz, Nat.le_succ_of_le I.dep, I.sd⟩ hoff (hD.swap fun p hp => offL_not hp) h₀' h' g' d' tk' hbb T9 F9 (news_sub N9 ?_) B9 X9 Tp9 D9
  · rw [hi]; exact (J.tell I.seen I.done).up
  · exact tellT_len (Nat.le_trans I.tl (Nat.mul_le_mul_left 3 (Nat.le_succ b)))
  · exact cut_pair N9 hZl hT (I.tab.add hsub r'.gg.lays)
  · show (laysW nm _ W.tab).length ≤ _
    rw [lays_len]
    have := tell_len W (if v.length = 0 then piS0 else piS v)
    exact Nat.add_le_add I.tabn this
  · refine List.forall_mem_cons.mpr ⟨.head _, List.forall_mem_cons.mpr ⟨.tail _ (.head _), List.forall_mem_cons.mpr ⟨.tail _ (.tail _ (.head _)), List.forall_mem_cons.mpr ⟨hZl _ (r'.up.sub _ (.head _)), List.forall_mem_cons.mpr ⟨hZl _ (r'.up.sub _ (.tail _ (.head _))), List.forall_mem_cons.mpr ⟨hZl _ (r'.up.sub _ (.tail _ (.tail _ (.head _)))),
      List.forall_mem_cons.mpr ⟨hZl _ (r'.up.sub _ (.tail _ (.tail _ (.tail _ (.head _))))), List.forall_mem_cons.mpr ⟨hZl _ (r'.up.sub _ (.tail _ (.tail _ (.tail _ (.tail _ (.head _)))))), List.forall_mem_cons.mpr ⟨hZl _ (r'.up.sub _ (.tail _ (.tail _ (.tail _ (.tail _ (.tail _ (.head _))))))), List.forall_mem_cons.mpr ⟨hZl _ (r'.up.sub _ (.tail _ (.tail _ (.tail _ (.tail _ (.tail _ (.tail _ (.head _)))))))), fun p hp => hZl p (offL_sub hp)⟩⟩⟩⟩⟩⟩⟩⟩⟩⟩
end
section
theorem lcall_u_txt
    {R : Result → Shared → Prop} {x dx f dd ds dn dm dp xt l cl l0 t0 st ll : Addr} {ts : Nat → Tok} {so : Obj} {ls : Array Value} {n3 n7 b : Nat} {nm v : Str} {tn t1 tv : Tok} {c : Cf} {Z : List (Addr × Obj)} {W : WS}
    (cx : Ct w A₀ base h₀ outer env L m mean mg mb h ((dd, listOf c.its c.n1) :: (l, listOf c.hds c.n2) :: (cl, listOf #[.str nm tn] n3) :: (dx, wrD w ts f dd ds dn dm dp c.seen c.done) :: (dp, listOf c.pI c.n4) :: (ds, listOf c.dsI c.n5) :: (dn, listOf c.nsI c.n6) :: (123, tabObj c.ps) :: (st, so) :: (ll, listOf ls n7) :: Z) d u)
    (hd1 : d ≤ 660) (hu1 : u ≤ 300) (I : InvW w x dx f xt l cl l0 t0 W c Z b) (hb : b ≤ 60) (hD : DisjL [dd, l, cl, dx, dp, ds, dn, 123, st, ll] Z) (hso : Odd so) (hv : TxtOk v) (hnm : nBad nm = false) (hnl : nm.length ≤ 2 ^ 63 - 1) (hje : (escC W.t).length ≤ 1000) 
    (hF : ∀ c' Z' t', InvW w x dx f xt l cl l0 t0 (callW .txt v nm W).2 c' Z' (b + 1) → (∀ p ∈ Z, p ∈ Z') → DisjL [dd, l, cl, dx, dp, ds, dn, 123, st, ll] Z' → BackT w A₀ base outer mean mg mb g os h₀ L m ((dd, listOf c'.its c'.n1) :: (l, listOf c'.hds c'.n2) :: (cl, listOf #[.str nm tn] n3) :: (dx, wrD w ts f dd ds dn dm dp c'.seen c'.done) :: (dp, listOf c'.pI c'.n4) :: (ds, listOf c'.dsI c'.n5) :: (dn, listOf c'.nsI c'.n6) :: (123, tabObj c'.ps) :: (st, so) :: (ll, listOf ls n7) :: Z') (.str (toldS (callW .txt v nm W).1) t') R) :
    codeAny (model prg w) (Ar d u gd env outer) (.call (.ref 342) ⟨[.ref x, .str (Str.ofString "text") t1, .str v tv], []⟩) R ⟨h, g, dr, tk, os⟩ := by
  obtain ⟨txts, ht1, ht2, ht3, ht4⟩ := I.txts.is
  have ctx := cx
  obtain ⟨⟨B, F, X, N, T, hf, hke, hd, hu⟩, XB, TB, D⟩ := cx
  have inZ : ∀ p ∈ Z, p ∈ (l, listOf c.hds c.n2) :: (cl, listOf #[.str nm tn] n3) :: (dx, wrD w ts f dd ds dn dm dp c.seen c.done) :: (dp, listOf c.pI c.n4) :: (ds, listOf c.dsI c.n5) :: (dn, listOf c.nsI c.n6) :: (123, tabObj c.ps) :: (st, so) :: (ll, listOf ls n7) :: Z := fun p hp => by
    iterate 9 (refine List.mem_cons_of_mem _ ?_)
    exact hp
  have t9 : DisjL [dd] ((l, listOf c.hds c.n2) :: (cl, listOf #[.str nm tn] n3) :: (dx, wrD w ts f dd ds dn dm dp c.seen c.done) :: (dp, listOf c.pI c.n4) :: (ds, listOf c.dsI c.n5) :: (dn, listOf c.nsI c.n6) :: (123, tabObj c.ps) :: (st, so) :: (ll, listOf ls n7) :: Z) :=
    DisjL.take1 (as := [dd]) (DisjL.take1 (as := [dd, l]) (DisjL.take1 (as := [dd, l, cl]) (DisjL.take1 (as := [dd, l, cl, dx]) (DisjL.take1 (as := [dd, l, cl, dx, dp]) (DisjL.take1 (as := [dd, l, cl, dx, dp, ds]) (DisjL.take1 (as := [dd, l, cl, dx, dp, ds, dn]) (DisjL.take1 (as := [dd, l, cl, dx, dp, ds, dn, 123]) (DisjL.take1 (as := [dd, l, cl, dx, dp, ds, dn, 123, st]) hD))))))))
  refine lcall_text ctx.cy hd1 hu1 (inZ _ I.hx) (.tail _ (.tail _ (.head _))) t9.2.1 (a60 ht3 hb rfl) fun t h' g' d' tk' hbb F9 N9 => ?_
  refine hF ⟨c.its.push (.str v tv), c.hds, c.dsI, c.nsI, c.pI, c.ps, c.n1 + 1, c.n2, c.n4, c.n5, c.n6, c.seen, c.done⟩ Z t ⟨I.hx, I.hz, I.hB, I.hK, ⟨txts ++ [v], ?_, ?_, ?_, ?_⟩, ?_, I.tab, Nat.le_trans I.tabn (Nat.mul_le_mul_left 4 (Nat.le_succ b)), I.seen, I.done, I.pz, I.dz, I.nz, Nat.le_succ_of_le I.dep, I.sd⟩ (fun _ h => h) hD h₀ h' g' d' tk' hbb KtsTurn.refl F9 N9 B X T D
  · rw [Array.toList_push]; exact kct_snoc ht1
  · rw [join_snoc1, ht2]; rfl
  · rw [Array.size_push]; exact Nat.succ_le_succ ht3
  · rw [List.map_append, List.sum_append]
    have := hv.len
    simp only [List.map_cons, List.map_nil, List.sum_cons, List.sum_nil]
    exact Nat.add_le_add ht4 hv.len
  · have := hv.len
    have := I.tl
    show (W.t ++ v).length ≤ _
    rw [app_len]
    exact Nat.add_le_add I.tl hv.len
theorem lcall_u_fin
    {R : Result → Shared → Prop} {x dx f dd ds dn dm dp xt l cl l0 t0 st ll : Addr} {ts : Nat → Tok} {so : Obj} {ls : Array Value} {n3 n7 b : Nat} {nm v : Str} {tn t1 tv : Tok} {c : Cf} {Z : List (Addr × Obj)} {W : WS}
    (cx : Ct w A₀ base h₀ outer env L m mean mg mb h ((dd, listOf c.its c.n1) :: (l, listOf c.hds c.n2) :: (cl, listOf #[.str nm tn] n3) :: (dx, wrD w ts f dd ds dn dm dp c.seen c.done) :: (dp, listOf c.pI c.n4) :: (ds, listOf c.dsI c.n5) :: (dn, listOf c.nsI c.n6) :: (123, tabObj c.ps) :: (st, so) :: (ll, listOf ls n7) :: Z) d u)
    (hd1 : d ≤ 660) (hu1 : u ≤ 300) (I : InvW w x dx f xt l cl l0 t0 W c Z b) (hb : b ≤ 60) (hD : DisjL [dd, l, cl, dx, dp, ds, dn, 123, st, ll] Z) (hso : Odd so) (hv : TxtOk v) (hnm : nBad nm = false) (hnl : nm.length ≤ 2 ^ 63 - 1) (hje : (escC W.t).length ≤ 1000) (hw : 0 < W.dep)
    (hF : ∀ c' Z' t', InvW w x dx f xt l cl l0 t0 (callW .fin v nm W).2 c' Z' (b + 1) → (∀ p ∈ Z, p ∈ Z') → DisjL [dd, l, cl, dx, dp, ds, dn, 123, st, ll] Z' → BackT w A₀ base outer mean mg mb g os h₀ L m ((dd, listOf c'.its c'.n1) :: (l, listOf c'.hds c'.n2) :: (cl, listOf #[.str nm tn] n3) :: (dx, wrD w ts f dd ds dn dm dp c'.seen c'.done) :: (dp, listOf c'.pI c'.n4) :: (ds, listOf c'.dsI c'.n5) :: (dn, listOf c'.nsI c'.n6) :: (123, tabObj c'.ps) :: (st, so) :: (ll, listOf ls n7) :: Z') (.str (toldS (callW .fin v nm W).1) t') R) :
    codeAny (model prg w) (Ar d u gd env outer) (.call (.ref 342) ⟨[.ref x, .str (Str.ofString "end") t1, .str v tv], []⟩) R ⟨h, g, dr, tk, os⟩ := by
  obtain ⟨txts, ht1, ht2, ht3, ht4⟩ := I.txts.is
  have hj : (Txt.join (Str.ofString "") txts).length ≤ 1000 := by rw [ht2]; exact a180 I.tl hb rfl
  have hhs : c.hds.size = W.tab.length := (Array.length_toList.symm.trans I.tab.len.symm)
  have hhb := I.tabn
  have hdb := I.dep
  obtain ⟨its, hds, dsI, nsI, pI, ps, n1, n2, n4, n5, n6, seen, done⟩ := c
  dsimp only at *
  obtain ⟨J1, J2, J3, J4, J5, J6, J7, J8, J9, J10, J11, J12, J13, J14, J15⟩ := I
  dsimp only at *
  obtain ⟨dpI, vp, rfl⟩ := push_of J11
  obtain ⟨dsJ, vs, rfl⟩ := push_of J12
  obtain ⟨dnJ, vn, rfl⟩ := push_of (k := W.dep + 1) J13
  rw [Array.size_push] at J11 J12 J13
  have inZ : ∀ p ∈ Z, p ∈ (123, tabObj ps) :: (st, so) :: (ll, listOf ls n7) :: Z := fun p hp => .tail _ (.tail _ (.tail _ hp))
  have t9 : DisjL [dd, l, cl, dx, dp, ds, dn] ((123, tabObj ps) :: (st, so) :: (ll, listOf ls n7) :: Z) := DisjL.take1 (as := [dd, l, cl, dx, dp, ds, dn]) (DisjL.take1 (as := [dd, l, cl, dx, dp, ds, dn, 123]) (DisjL.take1 (as := [dd, l, cl, dx, dp, ds, dn, 123, st]) hD))
  refine lcall_end cx hd1 hu1 (inZ _ J1) (J2.mono inZ) (StkB.mono J3 inZ) t9 (by first | exact a60 ht3 hb rfl | exact a240 hhs hhb hb rfl | exact apz J11 hdb hb rfl | exact apz J12 hdb hb rfl | exact apz J13 hdb hb rfl | exact apn J12 hdb hb rfl | exact apn J13 hdb hb rfl | exact a180 ht4 hb rfl) (by first | exact a60 ht3 hb rfl | exact a240 hhs hhb hb rfl | exact apz J11 hdb hb rfl | exact apz J12 hdb hb rfl | exact apz J13 hdb hb rfl | exact apn J12 hdb hb rfl | exact apn J13 hdb hb rfl | exact a180 ht4 hb rfl) (by first | exact a60 ht3 hb rfl | exact a240 hhs hhb hb rfl | exact apz J11 hdb hb rfl | exact apz J12 hdb hb rfl | exact apz J13 hdb hb rfl | exact apn J12 hdb hb rfl | exact apn J13 hdb hb rfl | exact a180 ht4 hb rfl) (by first | exact a60 ht3 hb rfl | exact a240 hhs hhb hb rfl | exact apz J11 hdb hb rfl | exact apz J12 hdb hb rfl | exact apz J13 hdb hb rfl | exact apn J12 hdb hb rfl | exact apn J13 hdb hb rfl | exact a180 ht4 hb rfl) (by first | exact a60 ht3 hb rfl | exact a240 hhs hhb hb rfl | exact apz J11 hdb hb rfl | exact apz J12 hdb hb rfl | exact apz J13 hdb hb rfl | exact apn J12 hdb hb rfl | exact apn J13 hdb hb rfl | exact a180 ht4 hb rfl) hnm hnl ht1 (by first | exact a60 ht3 hb rfl | exact a240 hhs hhb hb rfl | exact apz J11 hdb hb rfl | exact apz J12 hdb hb rfl | exact apz J13 hdb hb rfl | exact apn J12 hdb hb rfl | exact apn J13 hdb hb rfl | exact a180 ht4 hb rfl) hj (by rw [ht2]; exact hje) ?_
  intro o ho its' n' hds' n2' Z' n4' n5' n6' t' hi hz' r'
  have ho2 : o = seqP (flushP W.seen W.t) ([endS], true) := by
    rw [ho, ht2]
    unfold endP
    rw [seqP_one, J9, show writeP endS = ([endS], true) by unfold writeP; rw [if_neg (by rw [endS_ok]; exact Bool.false_ne_true)]]
    cases he : its.isEmpty with
    | true => rw [if_pos rfl, J5.e he, flushP_e]
    | false => rw [if_neg Bool.false_ne_true]
  clear ho
  subst ho2
  have hsub := fun p hp => r'.up.sub p (inZ p hp)
  have hoff : ∀ p ∈ Z, p ∈ offL [dd, l, cl, dx, dp, ds, dn, 123, st, ll] Z' := fun p hp => offL_mem (hsub p hp) (hD.off p hp)
  have hlen : (laysW nm (seqP (flushP W.seen W.t) ([endS], true)) W.tab).length ≤ 4 * (b + 1) := by
    rw [lays_len]
    have h1 : (seqP (flushP W.seen W.t) ([endS], true)).1.length ≤ _ := seqP_len
    have h2 := flushP_len W.seen W.t
    have h3 : (([endS], true) : Outc).1.length = 1 := rfl
    exact a4 hhb h1 h2 h3 rfl
  refine ⟨fun ok h₀' h' g' d' tk' hbb T9 F9 N9 B9 X9 Tp9 D9 => ?_, fun ok h₀' h' g' d' tk' hbb T9 F9 N9 B9 X9 Tp9 D9 => ?_⟩
  · have hT : ∀ a ∈ ([dd, l, cl, dx, dp, ds, dn, 123, st, ll] : List Addr), ∃ o, (a, o) ∈ ((dd, listOf its' n') :: (l, listOf hds' n2') :: (cl, listOf #[.str nm tn] n3) :: (dx, wrD w ts f dd ds dn dm dp seen ((dpI.size : Int) == 1)) :: (dp, listOf dpI n4') :: (ds, listOf dsJ n5') :: (dn, listOf dnJ n6') :: Z' : List (Addr × Obj)) ∧ Odd o := List.forall_mem_cons.mpr ⟨⟨_, (List.Mem.head _), odd_list _ _⟩, List.forall_mem_cons.mpr ⟨⟨_, (.tail _ (List.Mem.head _)), odd_list _ _⟩, List.forall_mem_cons.mpr ⟨⟨_, (.tail _ (.tail _ (List.Mem.head _))), odd_list _ _⟩, List.forall_mem_cons.mpr ⟨⟨_, (.tail _ (.tail _ (.tail _ (List.Mem.head _)))), odd_dict rfl rfl⟩, List.forall_mem_cons.mpr ⟨⟨_, (.tail _ (.tail _ (.tail _ (.tail _ (List.Mem.head _))))), odd_list _ _⟩, List.forall_mem_cons.mpr ⟨⟨_, (.tail _ (.tail _ (.tail _ (.tail _ (.tail _ (List.Mem.head _)))))), odd_list _ _⟩, List.forall_mem_cons.mpr ⟨⟨_, (.tail _ (.tail _ (.tail _ (.tail _ (.tail _ (.tail _ (List.Mem.head _))))))), odd_list _ _⟩, List.forall_mem_cons.mpr ⟨⟨_, (.tail _ (.tail _ (.tail _ (.tail _ (.tail _ (.tail _ (.tail _ (r'.up.sub _ (List.Mem.head _))))))))), odd_tab J4⟩, List.forall_mem_cons.mpr ⟨⟨_, (.tail _ (.tail _ (.tail _ (.tail _ (.tail _ (.tail _ (.tail _ (r'.up.sub _ (.tail _ (List.Mem.head _)))))))))), hso⟩, List.forall_mem_cons.mpr ⟨⟨_, (.tail _ (.tail _ (.tail _ (.tail _ (.tail _ (.tail _ (.tail _ (r'.up.sub _ (.tail _ (.tail _ (List.Mem.head _))))))))))), odd_list _ _⟩, fun _ h => nomatch h⟩⟩⟩⟩⟩⟩⟩⟩⟩⟩
    have hZl : ∀ p ∈ Z', p ∈ ((dd, listOf its' n') :: (l, listOf hds' n2') :: (cl, listOf #[.str nm tn] n3) :: (dx, wrD w ts f dd ds dn dm dp seen ((dpI.size : Int) == 1)) :: (dp, listOf dpI n4') :: (ds, listOf dsJ n5') :: (dn, listOf dnJ n6') :: Z' : List (Addr × Obj)) := fun p hp => by
      iterate 7 (refine List.mem_cons_of_mem _ ?_)
      exact hp
    have e1 : callW .fin v nm W = (true, ⟨Str.ofString "", W.dep - 1, W.seen, laysW nm (seqP (flushP W.seen W.t) ([endS], true)) W.tab⟩) := by
      unfold callW; dsimp only; rw [ok]; rfl
    have G := hF ⟨its', hds', dsJ, dnJ, dpI, ps, n', n2', n4', n5', n6', seen, (dpI.size : Int) == 1⟩ (offL [dd, l, cl, dx, dp, ds, dn, 123, st, ll] Z') t'
    rw [e1] at G
    rw [ok]
    refine G ⟨hoff _ J1, J2.mono hoff, StkB.popY (StkB.mono J3 hoff) (a0 J12 hw), J4.mono hoff, (Txts.flush hi), ?_, cut_pair N9 hZl hT (J7.add hsub r'.gg.lays), hlen, J9, ?_, ?_, ?_, ?_, ?_, ?_⟩ hoff (hD.swap fun p hp => offL_not hp) h₀' h' g' d' tk' hbb T9 F9 (news_sub N9 ?_) B9 X9 Tp9 D9
    · show (Str.ofString "").length ≤ _; rw [empty_len]; exact Nat.zero_le _
    · show ((dpI.size : Int) == 1) = (W.seen && (W.dep - 1 == 0))
      rw [J15 hw, Bool.true_and, show dpI.size = W.dep from Nat.succ.inj J11]
      by_cases h1 : W.dep = 1
      · rw [h1]; rfl
      · rw [show ((W.dep : Int) == 1) = false from beq_eq_false_iff_ne.mpr (ai h1), show (W.dep - 1 == 0) = false from beq_eq_false_iff_ne.mpr (aj h1 hw)]
    · exact ak J11 hw
    · exact ak J12 hw
    · exact ak J13 hw
    · exact am J14
    · intro _; exact J15 hw
    · exact List.forall_mem_cons.mpr ⟨(List.Mem.head _), List.forall_mem_cons.mpr ⟨(.tail _ (List.Mem.head _)), List.forall_mem_cons.mpr ⟨(.tail _ (.tail _ (List.Mem.head _))), List.forall_mem_cons.mpr ⟨(.tail _ (.tail _ (.tail _ (List.Mem.head _)))), List.forall_mem_cons.mpr ⟨(.tail _ (.tail _ (.tail _ (.tail _ (List.Mem.head _))))), List.forall_mem_cons.mpr ⟨(.tail _ (.tail _ (.tail _ (.tail _ (.tail _ (List.Mem.head _)))))), List.forall_mem_cons.mpr ⟨(.tail _ (.tail _ (.tail _ (.tail _ (.tail _ (.tail _ (List.Mem.head _))))))), List.forall_mem_cons.mpr ⟨(.tail _ (.tail _ (.tail _ (.tail _ (.tail _ (.tail _ (.tail _ (r'.up.sub _ (List.Mem.head _))))))))), List.forall_mem_cons.mpr ⟨(.tail _ (.tail _ (.tail _ (.tail _ (.tail _ (.tail _ (.tail _ (r'.up.sub _ (.tail _ (List.Mem.head _)))))))))), List.forall_mem_cons.mpr ⟨(.tail _ (.tail _ (.tail _ (.tail _ (.tail _ (.tail _ (.tail _ (r'.up.sub _ (.tail _ (.tail _ (List.Mem.head _))))))))))), fun p hp => hZl p (offL_sub hp)⟩⟩⟩⟩⟩⟩⟩⟩⟩⟩
  · have hT : ∀ a ∈ ([dd, l, cl, dx, dp, ds, dn, 123, st, ll] : List Addr), ∃ o, (a, o) ∈ ((dd, listOf its' n') :: (l, listOf hds' n2') :: (cl, listOf #[.str nm tn] n3) :: (dx, wrD w ts f dd ds dn dm dp seen done) :: (dp, listOf (dpI.push vp) n4) :: (ds, listOf (dsJ.push vs) n5) :: (dn, listOf (dnJ.push vn) n6) :: Z' : List (Addr × Obj)) ∧ Odd o := List.forall_mem_cons.mpr ⟨⟨_, (List.Mem.head _), odd_list _ _⟩, List.forall_mem_cons.mpr ⟨⟨_, (.tail _ (List.Mem.head _)), odd_list _ _⟩, List.forall_mem_cons.mpr ⟨⟨_, (.tail _ (.tail _ (List.Mem.head _))), odd_list _ _⟩, List.forall_mem_cons.mpr ⟨⟨_, (.tail _ (.tail _ (.tail _ (List.Mem.head _)))), odd_dict rfl rfl⟩, List.forall_mem_cons.mpr ⟨⟨_, (.tail _ (.tail _ (.tail _ (.tail _ (List.Mem.head _))))), odd_list _ _⟩, List.forall_mem_cons.mpr ⟨⟨_, (.tail _ (.tail _ (.tail _ (.tail _ (.tail _ (List.Mem.head _)))))), odd_list _ _⟩, List.forall_mem_cons.mpr ⟨⟨_, (.tail _ (.tail _ (.tail _ (.tail _ (.tail _ (.tail _ (List.Mem.head _))))))), odd_list _ _⟩, List.forall_mem_cons.mpr ⟨⟨_, (.tail _ (.tail _ (.tail _ (.tail _ (.tail _ (.tail _ (.tail _ (r'.up.sub _ (List.Mem.head _))))))))), odd_tab J4⟩, List.forall_mem_cons.mpr ⟨⟨_, (.tail _ (.tail _ (.tail _ (.tail _ (.tail _ (.tail _ (.tail _ (r'.up.sub _ (.tail _ (List.Mem.head _)))))))))), hso⟩, List.forall_mem_cons.mpr ⟨⟨_, (.tail _ (.tail _ (.tail _ (.tail _ (.tail _ (.tail _ (.tail _ (r'.up.sub _ (.tail _ (.tail _ (List.Mem.head _))))))))))), odd_list _ _⟩, fun _ h => nomatch h⟩⟩⟩⟩⟩⟩⟩⟩⟩⟩
    have hZl : ∀ p ∈ Z', p ∈ ((dd, listOf its' n') :: (l, listOf hds' n2') :: (cl, listOf #[.str nm tn] n3) :: (dx, wrD w ts f dd ds dn dm dp seen done) :: (dp, listOf (dpI.push vp) n4) :: (ds, listOf (dsJ.push vs) n5) :: (dn, listOf (dnJ.push vn) n6) :: Z' : List (Addr × Obj)) := fun p hp => by
      iterate 7 (refine List.mem_cons_of_mem _ ?_)
      exact hp
    have e1 : callW .fin v nm W = (false, ⟨Str.ofString "", W.dep, W.seen, laysW nm (seqP (flushP W.seen W.t) ([endS], true)) W.tab⟩) := by
      unfold callW; dsimp only; rw [ok]; rfl
    have G := hF ⟨its', hds', dsJ.push vs, dnJ.push vn, dpI.push vp, ps, n', n2', n4, n5, n6, seen, done⟩ (offL [dd, l, cl, dx, dp, ds, dn, 123, st, ll] Z') t'
    rw [e1] at G
    rw [ok]
    refine G ⟨hoff _ J1, J2.mono hoff, StkB.mono J3 hoff, J4.mono hoff, (Txts.flush hi), ?_, cut_pair N9 hZl hT (J7.add hsub r'.gg.lays), hlen, J9, J10, by rw [Array.size_push]; exact J11, by rw [Array.size_push]; exact J12, by rw [Array.size_push]; exact J13, Nat.le_succ_of_le J14, J15⟩ hoff (hD.swap fun p hp => offL_not hp) h₀' h' g' d' tk' hbb T9 F9 (news_sub N9 ?_) B9 X9 Tp9 D9
    · show (Str.ofString "").length ≤ _; rw [empty_len]; exact Nat.zero_le _
    · exact List.forall_mem_cons.mpr ⟨(List.Mem.head _), List.forall_mem_cons.mpr ⟨(.tail _ (List.Mem.head _)), List.forall_mem_cons.mpr ⟨(.tail _ (.tail _ (List.Mem.head _))), List.forall_mem_cons.mpr ⟨(.tail _ (.tail _ (.tail _ (List.Mem.head _)))), List.forall_mem_cons.mpr ⟨(.tail _ (.tail _ (.tail _ (.tail _ (List.Mem.head _))))), List.forall_mem_cons.mpr ⟨(.tail _ (.tail _ (.tail _ (.tail _ (.tail _ (List.Mem.head _)))))), List.forall_mem_cons.mpr ⟨(.tail _ (.tail _ (.tail _ (.tail _ (.tail _ (.tail _ (List.Mem.head _))))))), List.forall_mem_cons.mpr ⟨(.tail _ (.tail _ (.tail _ (.tail _ (.tail _ (.tail _ (.tail _ (r'.up.sub _ (List.Mem.head _))))))))), List.forall_mem_cons.mpr ⟨(.tail _ (.tail _ (.tail _ (.tail _ (.tail _ (.tail _ (.tail _ (r'.up.sub _ (.tail _ (List.Mem.head _)))))))))), List.forall_mem_cons.mpr ⟨(.tail _ (.tail _ (.tail _ (.tail _ (.tail _ (.tail _ (.tail _ (r'.up.sub _ (.tail _ (.tail _ (List.Mem.head _))))))))))), fun p hp => hZl p (offL_sub hp)⟩⟩⟩⟩⟩⟩⟩⟩⟩⟩
theorem lcall_u_beg
    {R : Result → Shared → Prop} {x dx f dd ds dn dm dp xt l cl l0 t0 st ll : Addr} {ts : Nat → Tok} {so : Obj} {ls : Array Value} {n3 n7 b : Nat} {nm v : Str} {tn t1 tv : Tok} {c : Cf} {Z : List (Addr × Obj)} {W : WS}
    (cx : Ct w A₀ base h₀ outer env L m mean mg mb h ((dd, listOf c.its c.n1) :: (l, listOf c.hds c.n2) :: (cl, listOf #[.str nm tn] n3) :: (dx, wrD w ts f dd ds dn dm dp c.seen c.done) :: (dp, listOf c.pI c.n4) :: (ds, listOf c.dsI c.n5) :: (dn, listOf c.nsI c.n6) :: (123, tabObj c.ps) :: (st, so) :: (ll, listOf ls n7) :: Z) d u)
    (hd1 : d ≤ 660) (hu1 : u ≤ 300) (I : InvW w x dx f xt l cl l0 t0 W c Z b) (hb : b ≤ 60) (hD : DisjL [dd, l, cl, dx, dp, ds, dn, 123, st, ll] Z) (hso : Odd so) (hv : TxtOk v) (hnm : nBad nm = false) (hnl : nm.length ≤ 2 ^ 63 - 1) (hje : (escC W.t).length ≤ 1000) (hw : W.done = false) (hv2 : ValOk v)
    (hF : ∀ c' Z' t', InvW w x dx f xt l cl l0 t0 (callW .beg v nm W).2 c' Z' (b + 1) → (∀ p ∈ Z, p ∈ Z') → DisjL [dd, l, cl, dx, dp, ds, dn, 123, st, ll] Z' → BackT w A₀ base outer mean mg mb g os h₀ L m ((dd, listOf c'.its c'.n1) :: (l, listOf c'.hds c'.n2) :: (cl, listOf #[.str nm tn] n3) :: (dx, wrD w ts f dd ds dn dm dp c'.seen c'.done) :: (dp, listOf c'.pI c'.n4) :: (ds, listOf c'.dsI c'.n5) :: (dn, listOf c'.nsI c'.n6) :: (123, tabObj c'.ps) :: (st, so) :: (ll, listOf ls n7) :: Z') (.str (toldS (callW .beg v nm W).1) t') R) :
    codeAny (model prg w) (Ar d u gd env outer) (.call (.ref 342) ⟨[.ref x, .str (Str.ofString "begin") t1, .str v tv], []⟩) R ⟨h, g, dr, tk, os⟩ := by
  obtain ⟨txts, ht1, ht2, ht3, ht4⟩ := I.txts.is
  have hj : (Txt.join (Str.ofString "") txts).length ≤ 1000 := by rw [ht2]; exact a180 I.tl hb rfl
  have hhs : c.hds.size = W.tab.length := (Array.length_toList.symm.trans I.tab.len.symm)
  have hhb := I.tabn
  have hdb := I.dep
  obtain ⟨its, hds, dsI, nsI, pI, ps, n1, n2, n4, n5, n6, seen, done⟩ := c
  dsimp only at *
  obtain ⟨J1, J2, J3, J4, J5, J6, J7, J8, J9, J10, J11, J12, J13, J14, J15⟩ := I
  dsimp only at *
  obtain ⟨dpI, vp, rfl⟩ := push_of J11
  rw [Array.size_push] at J11
  have inZ : ∀ p ∈ Z, p ∈ (st, so) :: (ll, listOf ls n7) :: Z := fun p hp => .tail _ (.tail _ hp)
  have t9 : DisjL [dd, l, cl, dx, dp, ds, dn, 123] ((st, so) :: (ll, listOf ls n7) :: Z) := DisjL.take1 (as := [dd, l, cl, dx, dp, ds, dn, 123]) (DisjL.take1 (as := [dd, l, cl, dx, dp, ds, dn, 123, st]) hD)
  refine lcall_begin cx hd1 hu1 (inZ _ J1) (J2.mono inZ) (StkB.mono J3 inZ) (J4.mono inZ) t9 (by first | exact a60 ht3 hb rfl | exact a240 hhs hhb hb rfl | exact apz J11 hdb hb rfl | exact apz J12 hdb hb rfl | exact apz J13 hdb hb rfl | exact apn J12 hdb hb rfl | exact apn J13 hdb hb rfl | exact a180 ht4 hb rfl) (by first | exact a60 ht3 hb rfl | exact a240 hhs hhb hb rfl | exact apz J11 hdb hb rfl | exact apz J12 hdb hb rfl | exact apz J13 hdb hb rfl | exact apn J12 hdb hb rfl | exact apn J13 hdb hb rfl | exact a180 ht4 hb rfl) (by first | exact a60 ht3 hb rfl | exact a240 hhs hhb hb rfl | exact apz J11 hdb hb rfl | exact apz J12 hdb hb rfl | exact apz J13 hdb hb rfl | exact apn J12 hdb hb rfl | exact apn J13 hdb hb rfl | exact a180 ht4 hb rfl) (by first | exact a60 ht3 hb rfl | exact a240 hhs hhb hb rfl | exact apz J11 hdb hb rfl | exact apz J12 hdb hb rfl | exact apz J13 hdb hb rfl | exact apn J12 hdb hb rfl | exact apn J13 hdb hb rfl | exact a180 ht4 hb rfl) (by first | exact a60 ht3 hb rfl | exact a240 hhs hhb hb rfl | exact apz J11 hdb hb rfl | exact apz J12 hdb hb rfl | exact apz J13 hdb hb rfl | exact apn J12 hdb hb rfl | exact apn J13 hdb hb rfl | exact a180 ht4 hb rfl) (Nat.le_trans hv.len (by decide)) hv2.bad hv2.len hnm hnl ht1 (by first | exact a60 ht3 hb rfl | exact a240 hhs hhb hb rfl | exact apz J11 hdb hb rfl | exact apz J12 hdb hb rfl | exact apz J13 hdb hb rfl | exact apn J12 hdb hb rfl | exact apn J13 hdb hb rfl | exact a180 ht4 hb rfl) hj (by rw [ht2]; exact hje) ?_
  intro o ho its' n' hds' n2' Z' n4' n5' n6' ps' nl ln kl t' hi hz' r'
  have ho2 : o = seqP (flushP W.seen W.t) ([Str.ofString "<" ++ Str.ofString "x", attrS v, Str.ofString ">"], true) := by
    rw [ho, ht2]
    unfold startP
    rw [seqP_one, J9]
    cases he : its.isEmpty with
    | true => rw [if_pos rfl, J5.e he, flushP_e]
    | false => rw [if_neg Bool.false_ne_true]
  clear ho
  subst ho2
  have hsub := fun p hp => r'.up.sub p (inZ p hp)
  have hoff : ∀ p ∈ Z, p ∈ offL [dd, l, cl, dx, dp, ds, dn, 123, st, ll] Z' := fun p hp => offL_mem (hsub p hp) (hD.off p hp)
  have hlen : (laysW nm (seqP (flushP W.seen W.t) ([Str.ofString "<" ++ Str.ofString "x", attrS v, Str.ofString ">"], true)) W.tab).length ≤ 4 * (b + 1) := by
    rw [lays_len]
    have h1 : (seqP (flushP W.seen W.t) ([Str.ofString "<" ++ Str.ofString "x", attrS v, Str.ofString ">"], true)).1.length ≤ _ := seqP_len
    have h2 := flushP_len W.seen W.t
    have h3 : (([Str.ofString "<" ++ Str.ofString "x", attrS v, Str.ofString ">"], true) : Outc).1.length = 3 := rfl
    exact a4 hhb h1 h2 h3 rfl
  refine ⟨fun ok k6 m6 l6 h₀' h' g' d' tk' hbb T9 F9 N9 B9 X9 Tp9 D9 => ?_, fun ok h₀' h' g' d' tk' hbb T9 F9 N9 B9 X9 Tp9 D9 => ?_⟩
  · have hT : ∀ a ∈ ([dd, l, cl, dx, dp, ds, dn, 123, st, ll] : List Addr), ∃ o, (a, o) ∈ ((dd, listOf its' n') :: (l, listOf hds' n2') :: (cl, listOf #[.str nm tn] n3) :: (dx, wrD w ts f dd ds dn dm dp true done) :: (dp, listOf ((dpI.push vp).push vp) n4') :: (ds, listOf (dsI.push (.ref nl)) n5') :: (dn, listOf (nsI.push ln) n6') :: (123, tabObj ps') :: Z' : List (Addr × Obj)) ∧ Odd o := List.forall_mem_cons.mpr ⟨⟨_, (List.Mem.head _), odd_list _ _⟩, List.forall_mem_cons.mpr ⟨⟨_, (.tail _ (List.Mem.head _)), odd_list _ _⟩, List.forall_mem_cons.mpr ⟨⟨_, (.tail _ (.tail _ (List.Mem.head _))), odd_list _ _⟩, List.forall_mem_cons.mpr ⟨⟨_, (.tail _ (.tail _ (.tail _ (List.Mem.head _)))), odd_dict rfl rfl⟩, List.forall_mem_cons.mpr ⟨⟨_, (.tail _ (.tail _ (.tail _ (.tail _ (List.Mem.head _))))), odd_list _ _⟩, List.forall_mem_cons.mpr ⟨⟨_, (.tail _ (.tail _ (.tail _ (.tail _ (.tail _ (List.Mem.head _)))))), odd_list _ _⟩, List.forall_mem_cons.mpr ⟨⟨_, (.tail _ (.tail _ (.tail _ (.tail _ (.tail _ (.tail _ (List.Mem.head _))))))), odd_list _ _⟩, List.forall_mem_cons.mpr ⟨⟨_, (.tail _ (.tail _ (.tail _ (.tail _ (.tail _ (.tail _ (.tail _ (List.Mem.head _)))))))), odd_tab k6⟩, List.forall_mem_cons.mpr ⟨⟨_, (.tail _ (.tail _ (.tail _ (.tail _ (.tail _ (.tail _ (.tail _ (.tail _ (r'.up.sub _ (List.Mem.head _)))))))))), hso⟩, List.forall_mem_cons.mpr ⟨⟨_, (.tail _ (.tail _ (.tail _ (.tail _ (.tail _ (.tail _ (.tail _ (.tail _ (r'.up.sub _ (.tail _ (List.Mem.head _))))))))))), odd_list _ _⟩, fun _ h => nomatch h⟩⟩⟩⟩⟩⟩⟩⟩⟩⟩
    have hZl : ∀ p ∈ Z', p ∈ ((dd, listOf its' n') :: (l, listOf hds' n2') :: (cl, listOf #[.str nm tn] n3) :: (dx, wrD w ts f dd ds dn dm dp true done) :: (dp, listOf ((dpI.push vp).push vp) n4') :: (ds, listOf (dsI.push (.ref nl)) n5') :: (dn, listOf (nsI.push ln) n6') :: (123, tabObj ps') :: Z' : List (Addr × Obj)) := fun p hp => by
      iterate 8 (refine List.mem_cons_of_mem _ ?_)
      exact hp
    have e1 : callW .beg v nm W = (true, ⟨Str.ofString "", W.dep + 1, true, laysW nm (seqP (flushP W.seen W.t) ([Str.ofString "<" ++ Str.ofString "x", attrS v, Str.ofString ">"], true)) W.tab⟩) := by
      unfold callW; dsimp only; rw [ok]; rfl
    have hnl9 : nl ∉ [dd, l, cl, dx, dp, ds, dn, 123, st, ll] := fun q => by
      have l7 : ∀ a ∈ ([dd, l, cl, dx, dp, ds, dn, 123, st, ll] : List Addr), a < nl := List.forall_mem_cons.mpr ⟨(l6 _ (List.Mem.head _)), List.forall_mem_cons.mpr ⟨(l6 _ (.tail _ (List.Mem.head _))), List.forall_mem_cons.mpr ⟨(l6 _ (.tail _ (.tail _ (List.Mem.head _)))), List.forall_mem_cons.mpr ⟨(l6 _ (.tail _ (.tail _ (.tail _ (List.Mem.head _))))), List.forall_mem_cons.mpr ⟨(l6 _ (.tail _ (.tail _ (.tail _ (.tail _ (List.Mem.head _)))))), List.forall_mem_cons.mpr ⟨(l6 _ (.tail _ (.tail _ (.tail _ (.tail _ (.tail _ (List.Mem.head _))))))), List.forall_mem_cons.mpr ⟨(l6 _ (.tail _ (.tail _ (.tail _ (.tail _ (.tail _ (.tail _ (List.Mem.head _)))))))), List.forall_mem_cons.mpr ⟨(l6 _ (.tail _ (.tail _ (.tail _ (.tail _ (.tail _ (.tail _ (.tail _ (List.Mem.head _))))))))), List.forall_mem_cons.mpr ⟨(l6 _ (.tail _ (.tail _ (.tail _ (.tail _ (.tail _ (.tail _ (.tail _ (.tail _ (List.Mem.head _)))))))))), List.forall_mem_cons.mpr ⟨(l6 _ (.tail _ (.tail _ (.tail _ (.tail _ (.tail _ (.tail _ (.tail _ (.tail _ (.tail _ (List.Mem.head _))))))))))), fun _ h => nomatch h⟩⟩⟩⟩⟩⟩⟩⟩⟩⟩
      exact absurd (l7 nl q) (Nat.lt_irrefl _)
    have G := hF ⟨its', hds', dsI.push (.ref nl), nsI.push ln, (dpI.push vp).push vp, ps', n', n2', n4', n5', n6', true, done⟩ (offL [dd, l, cl, dx, dp, ds, dn, 123, st, ll] Z') t'
    rw [e1] at G
    rw [ok]
    refine G ⟨hoff _ J1, J2.mono hoff, StkB.push J3 hoff (offL_mem m6 hnl9) (by first | exact a60 ht3 hb rfl | exact a240 hhs hhb hb rfl | exact apz J11 hdb hb rfl | exact apz J12 hdb hb rfl | exact apz J13 hdb hb rfl | exact apn J12 hdb hb rfl | exact apn J13 hdb hb rfl | exact a180 ht4 hb rfl), cut_key N9 hZl hT k6, (Txts.flush hi), ?_, cut_pair N9 hZl hT (J7.add hsub r'.lays), hlen, rfl, ?_, ?_, ?_, ?_, ?_, fun _ => rfl⟩ hoff (hD.swap fun p hp => offL_not hp) h₀' h' g' d' tk' hbb T9 F9 (news_sub N9 ?_) B9 X9 Tp9 D9
    · show (Str.ofString "").length ≤ _; rw [empty_len]; exact Nat.zero_le _
    · show done = (true && (W.dep + 1 == 0))
      rw [J10, hw]; rfl
    · rw [Array.size_push, Array.size_push]; exact congrArg (· + 1) J11
    · rw [Array.size_push]; exact congrArg (· + 1) J12
    · rw [Array.size_push]; exact congrArg (· + 1) J13
    · exact Nat.succ_le_succ J14
    · exact List.forall_mem_cons.mpr ⟨(List.Mem.head _), List.forall_mem_cons.mpr ⟨(.tail _ (List.Mem.head _)), List.forall_mem_cons.mpr ⟨(.tail _ (.tail _ (List.Mem.head _))), List.forall_mem_cons.mpr ⟨(.tail _ (.tail _ (.tail _ (List.Mem.head _)))), List.forall_mem_cons.mpr ⟨(.tail _ (.tail _ (.tail _ (.tail _ (List.Mem.head _))))), List.forall_mem_cons.mpr ⟨(.tail _ (.tail _ (.tail _ (.tail _ (.tail _ (List.Mem.head _)))))), List.forall_mem_cons.mpr ⟨(.tail _ (.tail _ (.tail _ (.tail _ (.tail _ (.tail _ (List.Mem.head _))))))), List.forall_mem_cons.mpr ⟨(.tail _ (.tail _ (.tail _ (.tail _ (.tail _ (.tail _ (.tail _ (List.Mem.head _)))))))), List.forall_mem_cons.mpr ⟨(.tail _ (.tail _ (.tail _ (.tail _ (.tail _ (.tail _ (.tail _ (.tail _ (r'.up.sub _ (List.Mem.head _)))))))))), List.forall_mem_cons.mpr ⟨(.tail _ (.tail _ (.tail _ (.tail _ (.tail _ (.tail _ (.tail _ (.tail _ (r'.up.sub _ (.tail _ (List.Mem.head _))))))))))), fun p hp => hZl p (offL_sub hp)⟩⟩⟩⟩⟩⟩⟩⟩⟩⟩
  · have hT : ∀ a ∈ ([dd, l, cl, dx, dp, ds, dn, 123, st, ll] : List Addr), ∃ o, (a, o) ∈ ((dd, listOf its' n') :: (l, listOf hds' n2') :: (cl, listOf #[.str nm tn] n3) :: (dx, wrD w ts f dd ds dn dm dp seen done) :: (dp, listOf (dpI.push vp) n4) :: (ds, listOf dsI n5) :: (dn, listOf nsI n6) :: (123, tabObj ps) :: Z' : List (Addr × Obj)) ∧ Odd o := List.forall_mem_cons.mpr ⟨⟨_, (List.Mem.head _), odd_list _ _⟩, List.forall_mem_cons.mpr ⟨⟨_, (.tail _ (List.Mem.head _)), odd_list _ _⟩, List.forall_mem_cons.mpr ⟨⟨_, (.tail _ (.tail _ (List.Mem.head _))), odd_list _ _⟩, List.forall_mem_cons.mpr ⟨⟨_, (.tail _ (.tail _ (.tail _ (List.Mem.head _)))), odd_dict rfl rfl⟩, List.forall_mem_cons.mpr ⟨⟨_, (.tail _ (.tail _ (.tail _ (.tail _ (List.Mem.head _))))), odd_list _ _⟩, List.forall_mem_cons.mpr ⟨⟨_, (.tail _ (.tail _ (.tail _ (.tail _ (.tail _ (List.Mem.head _)))))), odd_list _ _⟩, List.forall_mem_cons.mpr ⟨⟨_, (.tail _ (.tail _ (.tail _ (.tail _ (.tail _ (.tail _ (List.Mem.head _))))))), odd_list _ _⟩, List.forall_mem_cons.mpr ⟨⟨_, (.tail _ (.tail _ (.tail _ (.tail _ (.tail _ (.tail _ (.tail _ (List.Mem.head _)))))))), odd_tab J4⟩, List.forall_mem_cons.mpr ⟨⟨_, (.tail _ (.tail _ (.tail _ (.tail _ (.tail _ (.tail _ (.tail _ (.tail _ (r'.up.sub _ (List.Mem.head _)))))))))), hso⟩, List.forall_mem_cons.mpr ⟨⟨_, (.tail _ (.tail _ (.tail _ (.tail _ (.tail _ (.tail _ (.tail _ (.tail _ (r'.up.sub _ (.tail _ (List.Mem.head _))))))))))), odd_list _ _⟩, fun _ h => nomatch h⟩⟩⟩⟩⟩⟩⟩⟩⟩⟩
    have hZl : ∀ p ∈ Z', p ∈ ((dd, listOf its' n') :: (l, listOf hds' n2') :: (cl, listOf #[.str nm tn] n3) :: (dx, wrD w ts f dd ds dn dm dp seen done) :: (dp, listOf (dpI.push vp) n4) :: (ds, listOf dsI n5) :: (dn, listOf nsI n6) :: (123, tabObj ps) :: Z' : List (Addr × Obj)) := fun p hp => by
      iterate 8 (refine List.mem_cons_of_mem _ ?_)
      exact hp
    have e1 : callW .beg v nm W = (false, ⟨Str.ofString "", W.dep, W.seen, laysW nm (seqP (flushP W.seen W.t) ([Str.ofString "<" ++ Str.ofString "x", attrS v, Str.ofString ">"], true)) W.tab⟩) := by
      unfold callW; dsimp only; rw [ok]; rfl
    have G := hF ⟨its', hds', dsI, nsI, dpI.push vp, ps, n', n2', n4, n5, n6, seen, done⟩ (offL [dd, l, cl, dx, dp, ds, dn, 123, st, ll] Z') t'
    rw [e1] at G
    rw [ok]
    refine G ⟨hoff _ J1, J2.mono hoff, StkB.mono J3 hoff, J4.mono hoff, (Txts.flush hi), ?_, cut_pair N9 hZl hT (J7.add hsub r'.lays), hlen, J9, J10, by rw [Array.size_push]; exact J11, J12, J13, Nat.le_succ_of_le J14, J15⟩ hoff (hD.swap fun p hp => offL_not hp) h₀' h' g' d' tk' hbb T9 F9 (news_sub N9 ?_) B9 X9 Tp9 D9
    · show (Str.ofString "").length ≤ _; rw [empty_len]; exact Nat.zero_le _
    · exact List.forall_mem_cons.mpr ⟨(List.Mem.head _), List.forall_mem_cons.mpr ⟨(.tail _ (List.Mem.head _)), List.forall_mem_cons.mpr ⟨(.tail _ (.tail _ (List.Mem.head _))), List.forall_mem_cons.mpr ⟨(.tail _ (.tail _ (.tail _ (List.Mem.head _)))), List.forall_mem_cons.mpr ⟨(.tail _ (.tail _ (.tail _ (.tail _ (List.Mem.head _))))), List.forall_mem_cons.mpr ⟨(.tail _ (.tail _ (.tail _ (.tail _ (.tail _ (List.Mem.head _)))))), List.forall_mem_cons.mpr ⟨(.tail _ (.tail _ (.tail _ (.tail _ (.tail _ (.tail _ (List.Mem.head _))))))), List.forall_mem_cons.mpr ⟨(.tail _ (.tail _ (.tail _ (.tail _ (.tail _ (.tail _ (.tail _ (List.Mem.head _)))))))), List.forall_mem_cons.mpr ⟨(.tail _ (.tail _ (.tail _ (.tail _ (.tail _ (.tail _ (.tail _ (.tail _ (r'.up.sub _ (List.Mem.head _)))))))))), List.forall_mem_cons.mpr ⟨(.tail _ (.tail _ (.tail _ (.tail _ (.tail _ (.tail _ (.tail _ (.tail _ (r'.up.sub _ (.tail _ (List.Mem.head _))))))))))), fun p hp => hZl p (offL_sub hp)⟩⟩⟩⟩⟩⟩⟩⟩⟩⟩
end
section
theorem lcall_u (k : Kd)
    {R : Result → Shared → Prop} {x dx f dd ds dn dm dp xt l cl l0 t0 st ll : Addr} {ts : Nat → Tok} {so : Obj} {ls : Array Value} {n3 n7 b : Nat} {nm v : Str} {tn t1 tv : Tok} {c : Cf} {Z : List (Addr × Obj)} {W : WS}
    (cx : Ct w A₀ base h₀ outer env L m mean mg mb h ((dd, listOf c.its c.n1) :: (l, listOf c.hds c.n2) :: (cl, listOf #[.str nm tn] n3) :: (dx, wrD w ts f dd ds dn dm dp c.seen c.done) :: (dp, listOf c.pI c.n4) :: (ds, listOf c.dsI c.n5) :: (dn, listOf c.nsI c.n6) :: (123, tabObj c.ps) :: (st, so) :: (ll, listOf ls n7) :: Z) d u)
    (hd1 : d ≤ 660) (hu1 : u ≤ 300) (I : InvW w x dx f xt l cl l0 t0 W c Z b) (hb : b ≤ 60) (hD : DisjL [dd, l, cl, dx, dp, ds, dn, 123, st, ll] Z) (hso : Odd so) (hv : TxtOk v) (hnm : nBad nm = false) (hnl : nm.length ≤ 2 ^ 63 - 1) (hje : (escC W.t).length ≤ 1000) (hw : match k with | .fin => 0 < W.dep | .beg => W.done = false ∧ ValOk v | _ => True)
    (hF : ∀ c' Z' t', InvW w x dx f xt l cl l0 t0 (callW k v nm W).2 c' Z' (b + 1) → (∀ p ∈ Z, p ∈ Z') → DisjL [dd, l, cl, dx, dp, ds, dn, 123, st, ll] Z' → BackT w A₀ base outer mean mg mb g os h₀ L m ((dd, listOf c'.its c'.n1) :: (l, listOf c'.hds c'.n2) :: (cl, listOf #[.str nm tn] n3) :: (dx, wrD w ts f dd ds dn dm dp c'.seen c'.done) :: (dp, listOf c'.pI c'.n4) :: (ds, listOf c'.dsI c'.n5) :: (dn, listOf c'.nsI c'.n6) :: (123, tabObj c'.ps) :: (st, so) :: (ll, listOf ls n7) :: Z') (.str (toldS (callW k v nm W).1) t') R) :
    codeAny (model prg w) (Ar d u gd env outer) (.call (.ref 342) ⟨[.ref x, .str k.s t1, .str v tv], []⟩) R ⟨h, g, dr, tk, os⟩ := by
  cases k with
  | txt => exact lcall_u_txt cx hd1 hu1 I hb hD hso hv hnm hnl hje hF
  | cmt => exact lcall_u_cmt cx hd1 hu1 I hb hD hso hv hnm hnl hje hF
  | ins => exact lcall_u_ins cx hd1 hu1 I hb hD hso hv hnm hnl hje hF
  | fin => exact lcall_u_fin cx hd1 hu1 I hb hD hso hv hnm hnl hje hw hF
  | beg => exact lcall_u_beg cx hd1 hu1 I hb hD hso hv hnm hnl hje hw.1 hw.2 hF
end
section
structure Lw where
  held : Str
  dep : Nat
  seen : Bool
  laid : List (Int × Str)
noncomputable def isBk : Kd → Bool
  | .beg => true
  | _ => false
noncomputable def isEk : Kd → Bool
  | .fin => true
  | _ => false
noncomputable def pieceL (k : Kd) (v : Str) : Str :=
  match k with
  | .beg => Str.ofString "<x k=\"" ++ spell psA v ++ Str.ofString "\">"
  | .cmt => Str.ofString "<!--" ++ spell psC v ++ Str.ofString "-->"
  | .ins => if (v != Str.ofString "") = true then Str.ofString "<?i " ++ spell psC v ++ Str.ofString "?>" else Str.ofString "<?i?>"
  | _ => Str.ofString "</x>"
noncomputable def stepN (S : Lw) (r : StepR) : Bool × Lw := (r.ret, ⟨r.held, r.dep.toNat, r.seen, S.laid ++ r.vs.map fun v => ((S.dep : Int), v)⟩)
noncomputable def stepL (k : Kd) (v : Str) (S : Lw) : Bool × Lw :=
  match k with
  | .txt => stepN S ⟨[], true, S.held ++ v, S.dep, S.seen⟩
  | k => stepN S (stepQ (isBk k) (isEk k) (pieceL k v) S.held S.dep S.seen)
structure InvL (w : World) (st ll : Addr) (S : Lw) (so : Obj) (ls : Array Value) (Z : List (Addr × Obj)) (b : Nat) : Prop where
  so : ∃ th td frm, so.IsDictOf (strKind prg w) (stK (.str S.held th) (.int (S.dep : Int) td) frm (.bool S.seen) (.ref ll))
  la : LaidAre Z ls.toList S.laid
  lan : S.laid.length ≤ 2 * b
  hl : S.held.length ≤ 3 * b
  ha : (S.held.cps.all (· < 128)) = true
theorem InvL.odd {w : World} {st ll : Addr} {S : Lw} {so : Obj} {ls : Array Value} {Z : List (Addr × Obj)} {b : Nat} (I : InvL w st ll S so ls Z b) : Odd so := let ⟨_, _, _, h⟩ := I.so; odd_isDict h
theorem LaidAre.mono {Z Z' : List (Addr × Obj)} {its : List Value} {ps : List (Int × Str)} (H : LaidAre Z its ps) (hs : ∀ p ∈ Z, p ∈ Z') : LaidAre Z' its ps := forall2_mono (fun _ _ ⟨q, a, u, e, m⟩ => ⟨q, a, u, e, hs _ m⟩) H
theorem PushedL.sub {frm : Int} {ls ls' : Array Value} {Z Z' : List (Addr × Obj)} {vs : List Str} (P : PushedL frm ls Z vs ls' Z') : ∀ p ∈ Z, p ∈ Z' := by
  induction P with
  | nil => exact fun _ h => h
  | snoc v q t t' _ ih => exact fun p hp => .tail _ (ih p hp)
theorem PushedL.laid {frm : Int} {ls ls' : Array Value} {Z Z' : List (Addr × Obj)} {vs : List Str} {ps : List (Int × Str)} (P : PushedL frm ls Z vs ls' Z') (H : LaidAre Z ls.toList ps) : LaidAre Z' ls'.toList (ps ++ vs.map fun v => (frm, v)) := by
  induction P with
  | nil => rw [List.map_nil, List.append_nil]; exact H
  | snoc v q t t' P ih =>
    rw [Array.toList_push, List.map_append, ← List.append_assoc]
    exact forall2_append (LaidAre.mono ih fun p hp => .tail _ hp) (.cons ⟨q, t, t', rfl, .head _⟩ .nil)
theorem layP_seq (a : Outc) (p : Str) (k : Nat) (h : a.1.length ≤ k) : (seqP a (layP p)).1.length ≤ k + 1 := Nat.le_trans seqP_len (Nat.add_le_add h (layP_len p))
theorem stepQ_facts (isB isE : Bool) (p held : Str) (dep : Nat) (seen : Bool) (hh : (held.cps.all (· < 128)) = true) : (stepQ isB isE p held dep seen).vs.length ≤ 2 ∧ 0 ≤ (stepQ isB isE p held dep seen).dep ∧ (stepQ isB isE p held dep seen).held.length ≤ held.length ∧ ((stepQ isB isE p held dep seen).held.cps.all (· < 128)) = true := by
  have hE : ((Str.ofString "").cps.all (· < 128)) = true := by decide +kernel
  unfold stepQ
  split
  · refine ⟨?_, Int.natCast_nonneg _, Nat.le_refl _, hh⟩
    (try dsimp only)
    split
    · exact Nat.zero_le _
    · exact Nat.le_succ_of_le (layP_seq okP p 0 (Nat.le_refl _))
  · rename_i hn
    have hv : (seqP (if 0 < (dep : Int) then seqP okP (layP (spell psC held)) else okP) (layP p)).1.length ≤ 2 := layP_seq _ p 1 (by
      split
      · exact layP_seq okP _ 0 (Nat.le_refl _)
      · exact Nat.zero_le _)
    (try dsimp only)
    generalize seqP (if 0 < (dep : Int) then seqP okP (layP (spell psC held)) else okP) (layP p) = o at hv
    split
    · refine ⟨hv, ?_, by rw [empty_len]; exact Nat.zero_le _, hE⟩
      (try dsimp only)
      split
      · kln_le
      · rename_i hb
        have : (dep : Int) ≠ 0 := fun z => hn ⟨z, by simpa using hb⟩
        split <;> kln_le
    · exact ⟨hv, Int.natCast_nonneg _, by rw [empty_len]; exact Nat.zero_le _, hE⟩
theorem a120 {a t b c : Nat} (e : a = t) (h : t ≤ 2 * b) (hb : b ≤ 60) (k : Nat.ble (2 * 60) c = true) : a ≤ c := Nat.le_trans (Nat.le_of_eq e) (Nat.le_trans h (Nat.le_trans (Nat.mul_le_mul_left 2 hb) (Nat.le_of_ble_eq_true k)))
theorem step_u (k : Kd)
    {R : Result → Shared → Prop} {x dx f dd ds dn dm dp xt l cl l0 t0 st ll : Addr} {ts : Nat → Tok} {so : Obj} {ls : Array Value} {n3 n7 b : Nat} {nm v : Str} {tn t1 tv : Tok} {c : Cf} {Z : List (Addr × Obj)} {S : Lw}
    (cx : Cy w A₀ base h₀ outer env L m mean mg mb h ((dd, listOf c.its c.n1) :: (l, listOf c.hds c.n2) :: (cl, listOf #[.str nm tn] n3) :: (dx, wrD w ts f dd ds dn dm dp c.seen c.done) :: (dp, listOf c.pI c.n4) :: (ds, listOf c.dsI c.n5) :: (dn, listOf c.nsI c.n6) :: (123, tabObj c.ps) :: (st, so) :: (ll, listOf ls n7) :: Z) d u)
    (hd1 : d ≤ 660) (hu1 : u ≤ 300) (I : InvL w st ll S so ls Z b) (hb : b ≤ 60) (hD : DisjL [dd, l, cl, dx, dp, ds, dn, 123, st, ll] Z) (hK : KeyTab c.ps Z) (hv : TxtOk v)
    (hF : ∀ so' ls' n7' Z', InvL w st ll (stepL k v S).2 so' ls' Z' (b + 1) → (∀ p ∈ Z, p ∈ Z') → DisjL [dd, l, cl, dx, dp, ds, dn, 123, st, ll] Z' → BackY g os h₀ L m ((dd, listOf c.its c.n1) :: (l, listOf c.hds c.n2) :: (cl, listOf #[.str nm tn] n3) :: (dx, wrD w ts f dd ds dn dm dp c.seen c.done) :: (dp, listOf c.pI c.n4) :: (ds, listOf c.dsI c.n5) :: (dn, listOf c.nsI c.n6) :: (123, tabObj c.ps) :: (st, so') :: (ll, listOf ls' n7') :: Z') (.bool (stepL k v S).1) R) :
    codeAny (model prg w) (Ar d u gd env outer) (.call (.ref 335) ⟨[.ref st, .str k.s t1, .str v tv], []⟩) R ⟨h, g, dr, tk, os⟩ := by
  obtain ⟨th, td, frm, hso⟩ := I.so
  have hls : ls.size = S.laid.length := (Array.length_toList.symm.trans I.la.len.symm)
  have hln := I.lan
  have hhl := I.hl
  have hvl := hv.len
  have ro : News h₀ L h ((st, so) :: (ll, listOf ls n7) :: (dd, listOf c.its c.n1) :: (l, listOf c.hds c.n2) :: (cl, listOf #[.str nm tn] n3) :: (dx, wrD w ts f dd ds dn dm dp c.seen c.done) :: (dp, listOf c.pI c.n4) :: (ds, listOf c.dsI c.n5) :: (dn, listOf c.nsI c.n6) :: (123, tabObj c.ps) :: Z) := news_sub cx.N (List.forall_mem_cons.mpr ⟨(.tail _ (.tail _ (.tail _ (.tail _ (.tail _ (.tail _ (.tail _ (.tail _ (List.Mem.head _))))))))), List.forall_mem_cons.mpr ⟨(.tail _ (.tail _ (.tail _ (.tail _ (.tail _ (.tail _ (.tail _ (.tail _ (.tail _ (List.Mem.head _)))))))))), List.forall_mem_cons.mpr ⟨(List.Mem.head _), List.forall_mem_cons.mpr ⟨(.tail _ (List.Mem.head _)), List.forall_mem_cons.mpr ⟨(.tail _ (.tail _ (List.Mem.head _))), List.forall_mem_cons.mpr ⟨(.tail _ (.tail _ (.tail _ (List.Mem.head _)))), List.forall_mem_cons.mpr ⟨(.tail _ (.tail _ (.tail _ (.tail _ (List.Mem.head _))))), List.forall_mem_cons.mpr ⟨(.tail _ (.tail _ (.tail _ (.tail _ (.tail _ (List.Mem.head _)))))), List.forall_mem_cons.mpr ⟨(.tail _ (.tail _ (.tail _ (.tail _ (.tail _ (.tail _ (List.Mem.head _))))))), List.forall_mem_cons.mpr ⟨(.tail _ (.tail _ (.tail _ (.tail _ (.tail _ (.tail _ (.tail _ (List.Mem.head _)))))))), fun p hp => (.tail _ (.tail _ (.tail _ (.tail _ (.tail _ (.tail _ (.tail _ (.tail _ (.tail _ (.tail _ hp))))))))))⟩⟩⟩⟩⟩⟩⟩⟩⟩⟩)
  have ne1 : st ≠ ll := (hD.2.2.2.2.2.2.2.2.2.2.2.2.2.2.2.2).1 ll (.head _)
  have ne2 : ∀ p ∈ (dd, listOf c.its c.n1) :: (l, listOf c.hds c.n2) :: (cl, listOf #[.str nm tn] n3) :: (dx, wrD w ts f dd ds dn dm dp c.seen c.done) :: (dp, listOf c.pI c.n4) :: (ds, listOf c.dsI c.n5) :: (dn, listOf c.nsI c.n6) :: (123, tabObj c.ps) :: Z, p.1 ≠ st := List.forall_mem_cons.mpr ⟨((hD).1 st (.tail _ (.tail _ (.tail _ (.tail _ (.tail _ (.tail _ (.tail _ (List.Mem.head _))))))))), List.forall_mem_cons.mpr ⟨((hD.2.2).1 st (.tail _ (.tail _ (.tail _ (.tail _ (.tail _ (.tail _ (List.Mem.head _)))))))), List.forall_mem_cons.mpr ⟨((hD.2.2.2.2).1 st (.tail _ (.tail _ (.tail _ (.tail _ (.tail _ (List.Mem.head _))))))), List.forall_mem_cons.mpr ⟨((hD.2.2.2.2.2.2).1 st (.tail _ (.tail _ (.tail _ (.tail _ (List.Mem.head _)))))), List.forall_mem_cons.mpr ⟨((hD.2.2.2.2.2.2.2.2).1 st (.tail _ (.tail _ (.tail _ (List.Mem.head _))))), List.forall_mem_cons.mpr ⟨((hD.2.2.2.2.2.2.2.2.2.2).1 st (.tail _ (.tail _ (List.Mem.head _)))), List.forall_mem_cons.mpr ⟨((hD.2.2.2.2.2.2.2.2.2.2.2.2).1 st (.tail _ (List.Mem.head _))), List.forall_mem_cons.mpr ⟨((hD.2.2.2.2.2.2.2.2.2.2.2.2.2.2).1 st (List.Mem.head _)), (hD.2.2.2.2.2.2.2.2.2.2.2.2.2.2.2.2).2.1⟩⟩⟩⟩⟩⟩⟩⟩
  have ne3 : ∀ p ∈ (dd, listOf c.its c.n1) :: (l, listOf c.hds c.n2) :: (cl, listOf #[.str nm tn] n3) :: (dx, wrD w ts f dd ds dn dm dp c.seen c.done) :: (dp, listOf c.pI c.n4) :: (ds, listOf c.dsI c.n5) :: (dn, listOf c.nsI c.n6) :: (123, tabObj c.ps) :: Z, p.1 ≠ ll := List.forall_mem_cons.mpr ⟨((hD).1 ll (.tail _ (.tail _ (.tail _ (.tail _ (.tail _ (.tail _ (.tail _ (.tail _ (List.Mem.head _)))))))))), List.forall_mem_cons.mpr ⟨((hD.2.2).1 ll (.tail _ (.tail _ (.tail _ (.tail _ (.tail _ (.tail _ (.tail _ (List.Mem.head _))))))))), List.forall_mem_cons.mpr ⟨((hD.2.2.2.2).1 ll (.tail _ (.tail _ (.tail _ (.tail _ (.tail _ (.tail _ (List.Mem.head _)))))))), List.forall_mem_cons.mpr ⟨((hD.2.2.2.2.2.2).1 ll (.tail _ (.tail _ (.tail _ (.tail _ (.tail _ (List.Mem.head _))))))), List.forall_mem_cons.mpr ⟨((hD.2.2.2.2.2.2.2.2).1 ll (.tail _ (.tail _ (.tail _ (.tail _ (List.Mem.head _)))))), List.forall_mem_cons.mpr ⟨((hD.2.2.2.2.2.2.2.2.2.2).1 ll (.tail _ (.tail _ (.tail _ (List.Mem.head _))))), List.forall_mem_cons.mpr ⟨((hD.2.2.2.2.2.2.2.2.2.2.2.2).1 ll (.tail _ (.tail _ (List.Mem.head _)))), List.forall_mem_cons.mpr ⟨((hD.2.2.2.2.2.2.2.2.2.2.2.2.2.2).1 ll (.tail _ (List.Mem.head _))), (hD.2.2.2.2.2.2.2.2.2.2.2.2.2.2.2.2.2.2).2.1⟩⟩⟩⟩⟩⟩⟩⟩
  have fin : ∀ r : StepR, r.vs.length ≤ 2 → 0 ≤ r.dep → r.held.length ≤ 3 * (b + 1) → (r.held.cps.all (· < 128)) = true → stepL k v S = stepN S r → ∀ so' ls' n' Z' th' td' tf', RanL (S.dep : Int) ((st, so) :: (ll, listOf ls n7) :: (dd, listOf c.its c.n1) :: (l, listOf c.hds c.n2) :: (cl, listOf #[.str nm tn] n3) :: (dx, wrD w ts f dd ds dn dm dp c.seen c.done) :: (dp, listOf c.pI c.n4) :: (ds, listOf c.dsI c.n5) :: (dn, listOf c.nsI c.n6) :: (123, tabObj c.ps) :: Z) ((dd, listOf c.its c.n1) :: (l, listOf c.hds c.n2) :: (cl, listOf #[.str nm tn] n3) :: (dx, wrD w ts f dd ds dn dm dp c.seen c.done) :: (dp, listOf c.pI c.n4) :: (ds, listOf c.dsI c.n5) :: (dn, listOf c.nsI c.n6) :: (123, tabObj c.ps) :: Z) ls (r.vs, true) ls' Z' → so'.IsDictOf (strKind prg w) (stK (.str r.held th') (.int r.dep td') (.int (S.dep : Int) tf') (.bool r.seen) (.ref ll)) → BackY g os h₀ L m ((st, so') :: (ll, listOf ls' n') :: Z') (.bool r.ret) R := by
    intro r hv2 hd0 hh1 hh2 er so' ls' n' Z' th' td' tf' rr ho h' g' d' tk' hbb F9 N9
    have hsub := fun p hp => rr.up.sub p ((fun p hp => (.tail _ (.tail _ (.tail _ (.tail _ (.tail _ (.tail _ (.tail _ (.tail _ hp))))))))) p hp)
    have hT : ∀ a ∈ ([dd, l, cl, dx, dp, ds, dn, 123, st, ll] : List Addr), ∃ o, (a, o) ∈ ((st, so') :: (ll, listOf ls' n') :: Z' : List (Addr × Obj)) ∧ Odd o := List.forall_mem_cons.mpr ⟨⟨_, (.tail _ (.tail _ (rr.up.sub _ (List.Mem.head _)))), odd_list _ _⟩, List.forall_mem_cons.mpr ⟨⟨_, (.tail _ (.tail _ (rr.up.sub _ (.tail _ (List.Mem.head _))))), odd_list _ _⟩, List.forall_mem_cons.mpr ⟨⟨_, (.tail _ (.tail _ (rr.up.sub _ (.tail _ (.tail _ (List.Mem.head _)))))), odd_list _ _⟩, List.forall_mem_cons.mpr ⟨⟨_, (.tail _ (.tail _ (rr.up.sub _ (.tail _ (.tail _ (.tail _ (List.Mem.head _))))))), odd_dict rfl rfl⟩, List.forall_mem_cons.mpr ⟨⟨_, (.tail _ (.tail _ (rr.up.sub _ (.tail _ (.tail _ (.tail _ (.tail _ (List.Mem.head _)))))))), odd_list _ _⟩, List.forall_mem_cons.mpr ⟨⟨_, (.tail _ (.tail _ (rr.up.sub _ (.tail _ (.tail _ (.tail _ (.tail _ (.tail _ (List.Mem.head _))))))))), odd_list _ _⟩, List.forall_mem_cons.mpr ⟨⟨_, (.tail _ (.tail _ (rr.up.sub _ (.tail _ (.tail _ (.tail _ (.tail _ (.tail _ (.tail _ (List.Mem.head _)))))))))), odd_list _ _⟩, List.forall_mem_cons.mpr ⟨⟨_, (.tail _ (.tail _ (rr.up.sub _ (.tail _ (.tail _ (.tail _ (.tail _ (.tail _ (.tail _ (.tail _ (List.Mem.head _))))))))))), odd_tab hK⟩, List.forall_mem_cons.mpr ⟨⟨_, .head _, odd_isDict ho⟩, List.forall_mem_cons.mpr ⟨⟨_, .tail _ (.head _), odd_list _ _⟩, fun _ h => nomatch h⟩⟩⟩⟩⟩⟩⟩⟩⟩⟩
    have hZl : ∀ p ∈ Z', p ∈ ((st, so') :: (ll, listOf ls' n') :: Z' : List (Addr × Obj)) := fun p hp => .tail _ (.tail _ hp)
    have hoff : ∀ p ∈ Z, p ∈ offL [dd, l, cl, dx, dp, ds, dn, 123, st, ll] Z' := fun p hp => offL_mem (hsub p hp) (hD.off p hp)
    have G := hF so' ls' n' (offL [dd, l, cl, dx, dp, ds, dn, 123, st, ll] Z')
    rw [er] at G
    refine G ⟨⟨th', td', .int (S.dep : Int) tf', ?_⟩, cut_laid N9 hZl hT (rr.pushed.laid (I.la.mono (fun p hp => (.tail _ (.tail _ (.tail _ (.tail _ (.tail _ (.tail _ (.tail _ (.tail _ hp))))))))))), ?_, hh1, hh2⟩ hoff (hD.swap fun p hp => offL_not hp) h' g' d' tk' hbb F9 (news_sub N9 (List.forall_mem_cons.mpr ⟨(.tail _ (.tail _ (rr.up.sub _ (List.Mem.head _)))), List.forall_mem_cons.mpr ⟨(.tail _ (.tail _ (rr.up.sub _ (.tail _ (List.Mem.head _))))), List.forall_mem_cons.mpr ⟨(.tail _ (.tail _ (rr.up.sub _ (.tail _ (.tail _ (List.Mem.head _)))))), List.forall_mem_cons.mpr ⟨(.tail _ (.tail _ (rr.up.sub _ (.tail _ (.tail _ (.tail _ (List.Mem.head _))))))), List.forall_mem_cons.mpr ⟨(.tail _ (.tail _ (rr.up.sub _ (.tail _ (.tail _ (.tail _ (.tail _ (List.Mem.head _)))))))), List.forall_mem_cons.mpr ⟨(.tail _ (.tail _ (rr.up.sub _ (.tail _ (.tail _ (.tail _ (.tail _ (.tail _ (List.Mem.head _))))))))), List.forall_mem_cons.mpr ⟨(.tail _ (.tail _ (rr.up.sub _ (.tail _ (.tail _ (.tail _ (.tail _ (.tail _ (.tail _ (List.Mem.head _)))))))))), List.forall_mem_cons.mpr ⟨(.tail _ (.tail _ (rr.up.sub _ (.tail _ (.tail _ (.tail _ (.tail _ (.tail _ (.tail _ (.tail _ (List.Mem.head _))))))))))), List.forall_mem_cons.mpr ⟨(List.Mem.head _), List.forall_mem_cons.mpr ⟨(.tail _ (.head _)), fun p hp => hZl p (offL_sub hp)⟩⟩⟩⟩⟩⟩⟩⟩⟩⟩))
    · show so'.IsDictOf (strKind prg w) (stK (.str r.held th') (.int ((r.dep.toNat : Nat) : Int) td') _ (.bool r.seen) (.ref ll))
      rw [Int.toNat_of_nonneg hd0]
      exact ho
    · show (S.laid ++ r.vs.map fun v => ((S.dep : Int), v)).length ≤ _
      rw [List.length_append, List.length_map]
      exact Nat.add_le_add hln hv2
  have q := fun isB isE p => stepQ_facts isB isE p S.held S.dep S.seen I.ha
  have cy : Cy w A₀ base h₀ outer env L m mean mg mb h ((st, so) :: (ll, listOf ls n7) :: (dd, listOf c.its c.n1) :: (l, listOf c.hds c.n2) :: (cl, listOf #[.str nm tn] n3) :: (dx, wrD w ts f dd ds dn dm dp c.seen c.done) :: (dp, listOf c.pI c.n4) :: (ds, listOf c.dsI c.n5) :: (dn, listOf c.nsI c.n6) :: (123, tabObj c.ps) :: Z) d u := ⟨cx.B, cx.F, cx.X, ro, cx.T, cx.hf, cx.hke, cx.hd, cx.hu⟩
  cases k with
  | txt => exact step_text cy hd1 hu1 hso ne1 ne2 ne3 (by first | exact Nat.le_trans hvl (by decide) | exact a120 hls hln hb rfl | exact a180 hhl hb rfl) (by first | exact Nat.le_trans hvl (by decide) | exact a120 hls hln hb rfl | exact a180 hhl hb rfl) hv.asc (by first | exact Nat.le_trans hvl (by decide) | exact a120 hls hln hb rfl | exact a180 hhl hb rfl) I.ha fun r er => (by
      subst er
      exact fin _ (Nat.zero_le _) (Int.natCast_nonneg _) (by show (S.held ++ v).length ≤ _; rw [app_len]; exact Nat.add_le_add hhl hvl) (by
        show (Array.all (S.held ++ v).cps fun x => decide (x < 128)) = true
        rw [Str.cps_append, Array.all_append, I.ha, hv.asc]; rfl) rfl)
  | fin => exact step_end cy hd1 hu1 hso ne1 ne2 ne3 (by first | exact Nat.le_trans hvl (by decide) | exact a120 hls hln hb rfl | exact a180 hhl hb rfl) (by first | exact Nat.le_trans hvl (by decide) | exact a120 hls hln hb rfl | exact a180 hhl hb rfl) hv.asc (by first | exact Nat.le_trans hvl (by decide) | exact a120 hls hln hb rfl | exact a180 hhl hb rfl) I.ha fun r er => (by
      subst er
      exact fin _ (q _ _ _).1 (q _ _ _).2.1 (Nat.le_trans (q _ _ _).2.2.1 (Nat.le_trans hhl (Nat.mul_le_mul_left 3 (Nat.le_succ b)))) (q _ _ _).2.2.2 rfl)
  | beg => exact step_begin cy hd1 hu1 hso ne1 ne2 ne3 (by first | exact Nat.le_trans hvl (by decide) | exact a120 hls hln hb rfl | exact a180 hhl hb rfl) (by first | exact Nat.le_trans hvl (by decide) | exact a120 hls hln hb rfl | exact a180 hhl hb rfl) hv.asc (by first | exact Nat.le_trans hvl (by decide) | exact a120 hls hln hb rfl | exact a180 hhl hb rfl) I.ha hv.spA fun r er => (by
      subst er
      exact fin _ (q _ _ _).1 (q _ _ _).2.1 (Nat.le_trans (q _ _ _).2.2.1 (Nat.le_trans hhl (Nat.mul_le_mul_left 3 (Nat.le_succ b)))) (q _ _ _).2.2.2 rfl)
  | cmt => exact step_comment cy hd1 hu1 hso ne1 ne2 ne3 (by first | exact Nat.le_trans hvl (by decide) | exact a120 hls hln hb rfl | exact a180 hhl hb rfl) (by first | exact Nat.le_trans hvl (by decide) | exact a120 hls hln hb rfl | exact a180 hhl hb rfl) hv.asc (by first | exact Nat.le_trans hvl (by decide) | exact a120 hls hln hb rfl | exact a180 hhl hb rfl) I.ha hv.spC fun r er => (by
      subst er
      exact fin _ (q _ _ _).1 (q _ _ _).2.1 (Nat.le_trans (q _ _ _).2.2.1 (Nat.le_trans hhl (Nat.mul_le_mul_left 3 (Nat.le_succ b)))) (q _ _ _).2.2.2 rfl)
  | ins => exact step_pi cy hd1 hu1 hso ne1 ne2 ne3 (by first | exact Nat.le_trans hvl (by decide) | exact a120 hls hln hb rfl | exact a180 hhl hb rfl) (by first | exact Nat.le_trans hvl (by decide) | exact a120 hls hln hb rfl | exact a180 hhl hb rfl) hv.asc (by first | exact Nat.le_trans hvl (by decide) | exact a120 hls hln hb rfl | exact a180 hhl hb rfl) I.ha hv.spC fun r er => (by
      subst er
      exact fin _ (q _ _ _).1 (q _ _ _).2.1 (Nat.le_trans (q _ _ _).2.2.1 (Nat.le_trans hhl (Nat.mul_le_mul_left 3 (Nat.le_succ b)))) (q _ _ _).2.2.2 rfl)
end
section
theorem subs_eq (k : Nat) (z l : List Nat) : subs k z l = l.flatMap fun a => if a = k then z else [a] := rfl
theorem lit_amp : Str.ofString "&" = ⟨#[38]⟩ := by decide +kernel
theorem lit_lt : Str.ofString "<" = ⟨#[60]⟩ := by decide +kernel
theorem lit_gt : Str.ofString ">" = ⟨#[62]⟩ := by decide +kernel
theorem lit_cr : Str.ofString "\x0d" = ⟨#[13]⟩ := by decide +kernel
theorem cps_amp : (Str.ofString "&amp;").cps.toList = [38, 97, 109, 112, 59] := by decide +kernel
theorem cps_lt : (Str.ofString "&lt;").cps.toList = [38, 108, 116, 59] := by decide +kernel
theorem cps_gt : (Str.ofString "&gt;").cps.toList = [38, 103, 116, 59] := by decide +kernel
theorem cps_cr : (Str.ofString "&#xD;").cps.toList = [38, 35, 120, 68, 59] := by decide +kernel
noncomputable def spN (a : Nat) : List Nat := if a = 38 then [38, 97, 109, 112, 59] else if a = 60 then [38, 108, 116, 59] else if a = 62 then [38, 103, 116, 59] else if a = 13 then [38, 35, 120, 68, 59] else [a]
theorem spN_sp (a : Nat) : (sp psC a).cps.toList = spN a := by
  unfold sp spN
  by_cases h1 : a = 38
  · subst h1; exact cps_amp
  by_cases h2 : a = 60
  · subst h2; exact cps_lt
  by_cases h3 : a = 62
  · subst h3; exact cps_gt
  by_cases h4 : a = 13
  · subst h4; exact cps_cr
  rw [if_neg h1, if_neg h2, if_neg h3, if_neg h4]
  have e : psC.lookup a = none := by
    simp only [psC, List.lookup_cons, List.lookup_nil, beq_eq_false_iff_ne.mpr h1, beq_eq_false_iff_ne.mpr h2, beq_eq_false_iff_ne.mpr h3, beq_eq_false_iff_ne.mpr h4]
  rw [e]; rfl
theorem spell_cps (t : Str) : (spell psC t).cps.toList = t.cps.toList.flatMap spN := by
  unfold spell
  rw [join_cps, List.map_map]
  show (List.map (fun a => (sp psC a).cps.toList) t.cps.toList).flatten = _
  rw [List.map_congr_left (g := spN) fun a _ => spN_sp a]
  rfl
theorem escC_cps (t : Str) : (escC t).cps.toList = t.cps.toList.flatMap spN := by
  unfold escC
  rw [lit_cr, lit_gt, lit_lt, lit_amp, replace_subs, replace_subs, replace_subs, replace_subs, cps_amp, cps_lt, cps_gt, cps_cr, subs_eq, subs_eq, subs_eq, subs_eq, List.flatMap_assoc, List.flatMap_assoc, List.flatMap_assoc]
  congr 1
  funext a
  unfold spN
  by_cases h1 : a = 38
  · subst h1; rfl
  by_cases h2 : a = 60
  · subst h2; rfl
  by_cases h3 : a = 62
  · subst h3; rfl
  by_cases h4 : a = 13
  · subst h4; rfl
  simp [h1, h2, h3, h4]
theorem esc_spell (t : Str) : escC t = spell psC t := str_ext (by rw [escC_cps, spell_cps])
theorem spN_len (a : Nat) : (spN a).length ≤ 5 := by
  unfold spN
  repeat' split
  all_goals first | exact Nat.le_refl _ | decide | (show 1 ≤ 5; decide)
theorem flatMap_len {f : Nat → List Nat} {k : Nat} (h : ∀ a, (f a).length ≤ k) : ∀ l : List Nat, (l.flatMap f).length ≤ k * l.length
  | [] => by simp
  | a :: r => by
    rw [List.flatMap_cons, List.length_append, List.length_cons, Nat.mul_succ]
    have := h a
    have := flatMap_len h r
    omega
theorem escC_len (t : Str) : (escC t).length ≤ 5 * t.length := by rw [len_cps, len_cps, escC_cps]; exact flatMap_len spN_len _
noncomputable def okc (c : Nat) : Bool := c == 116 || c == 38 || c == 60 || c == 62 || c == 9 || c == 10 || c == 13 || c == 127 || c == 34
noncomputable def fine (c : Nat) : Bool := vP c == (decide (c = 10) || decide (c = 127))
noncomputable def Good (t : Str) : Prop := ∀ c ∈ t.cps.toList, okc c = true
noncomputable def Fine (t : Str) : Prop := ∀ c ∈ t.cps.toList, fine c = true
theorem fine_sp (c : Nat) (h : okc c = true) : ∀ x ∈ spN c, fine x = true := by
  unfold okc at h
  simp only [Bool.or_eq_true, beq_iff_eq] at h
  rcases h with (((((((rfl | rfl) | rfl) | rfl) | rfl) | rfl) | rfl) | rfl) | rfl <;> decide +kernel
theorem Good.fine {t : Str} (h : Good t) : Fine (spell psC t) := fun c hc => by
  rw [spell_cps] at hc
  obtain ⟨a, ha, hx⟩ := List.mem_flatMap.mp hc
  exact fine_sp a (h a ha) c hx
theorem Good.app {a b : Str} (x : Good a) (y : Good b) : Good (a ++ b) := fun c hc => by
  rw [app_cps] at hc
  exact (List.mem_append.mp hc).elim (x c) (y c)
theorem Fine.app {a b : Str} (x : Fine a) (y : Fine b) : Fine (a ++ b) := fun c hc => by
  rw [app_cps] at hc
  exact (List.mem_append.mp hc).elim (x c) (y c)
theorem Fine.vb {t : Str} (h : Fine t) : vBad t = bad t := by
  unfold vBad bad
  rw [Bool.eq_iff_iff, List.any_eq_true, Bool.or_eq_true, decide_eq_true_eq, decide_eq_true_eq]
  constructor
  · rintro ⟨c, hc, hv⟩
    have hf := beq_iff_eq.mp (h c hc)
    rw [hv] at hf
    rcases Bool.or_eq_true_iff.mp hf.symm with e | e
    · exact .inl (of_decide_eq_true e ▸ hc)
    · exact .inr (of_decide_eq_true e ▸ hc)
  · rintro (hc | hc)
    · exact ⟨10, hc, by decide +kernel⟩
    · exact ⟨127, hc, by decide +kernel⟩
end
section
noncomputable abbrev jn (l : List Str) : Str := Txt.join (Str.ofString "") l
theorem jn_app (l r : List Str) : jn (l ++ r) = jn l ++ jn r := join_app l r
theorem jn_one (x : Str) : jn [x] = x := join_one x
theorem app_e (a : Str) : a ++ Str.ofString "" = a := str_ext (by rw [app_cps, e_cps, List.append_nil])
theorem e_app (a : Str) : Str.empty ++ a = a := str_ext (by rw [app_cps]; rfl)
theorem app_assoc (a b c : Str) : a ++ b ++ c = a ++ (b ++ c) := str_ext (by simp only [app_cps, List.append_assoc])
structure Eqv (o o' : Outc) : Prop where
  ok : o.2 = o'.2
  jo : jn o.1 = jn o'.1
theorem Eqv.refl (o : Outc) : Eqv o o := ⟨rfl, rfl⟩
theorem Eqv.seq {a a' b b' : Outc} (x : Eqv a a') (y : Eqv b b') : Eqv (seqP a b) (seqP a' b') := by
  unfold seqP
  rw [x.ok]
  cases h : a'.2 with
  | true =>
    rw [if_pos rfl, if_pos rfl]
    exact ⟨y.ok, by show jn (a.1 ++ b.1) = jn (a'.1 ++ b'.1); rw [jn_app, jn_app]; exact congr (congrArg _ x.jo) y.jo⟩
  | false =>
    rw [if_neg Bool.false_ne_true, if_neg Bool.false_ne_true]
    exact ⟨x.ok.trans (by rw [h]), x.jo⟩
theorem seqP_okr (a : Outc) : seqP a okP = a := seqP_okP a
theorem lay_write {p : Str} (h : Fine p) : layP p = writeP p := by unfold layP writeP; rw [h.vb]
theorem lay_flush {t : Str} (h : Good t) : Eqv (layP (spell psC t)) (flushP true t) := by
  rw [lay_write h.fine]
  unfold flushP
  by_cases hl : t.length = 0
  · rw [if_pos (.inl hl)]
    have e : t.cps.toList = [] := List.length_eq_zero_iff.mp (by rw [← len_cps]; exact hl)
    have e2 : spell psC t = Str.ofString "" := str_ext (by rw [spell_cps, e, e_cps]; rfl)
    rw [e2]
    have : writeP (Str.ofString "") = ([Str.ofString ""], true) := by
      unfold writeP
      rw [if_neg (by decide +kernel)]
    rw [this]
    exact ⟨rfl, by decide +kernel⟩
  · rw [if_neg (fun q => q.elim hl (by decide)), esc_spell]
    exact Eqv.refl _
theorem Fine.lit {l : List Nat} {t : Str} (e : t.cps.toList = l) (h : (l.all fine) = true) : Fine t := fun c hc => List.all_eq_true.mp h c (e ▸ hc)
structure TxtL (v : Str) : Prop where
  ok : TxtOk v
  good : Good v
structure ValL (v : Str) : Prop where
  ok : ValOk v
  att : Str.ofString "<" ++ Str.ofString "x" ++ (attrS v ++ Str.ofString ">") = pieceL .beg v
  lay : layP (pieceL .beg v) = ([pieceL .beg v], true)
theorem cm_eq (v : Str) : cmS v = pieceL .cmt v := by
  show Str.empty ++ Str.ofString "<!--" ++ escC v ++ Str.ofString "-->" = _
  rw [e_app, esc_spell]; rfl
theorem pi_lit : Str.ofString "<?" ++ Str.ofString "i" ++ Str.ofString " " = Str.ofString "<?i " := by decide +kernel
theorem pi0_lit : piS0 = Str.ofString "<?i?>" := by decide +kernel
theorem ne_iff (v : Str) : (v != Str.ofString "") = true ↔ ¬ v.length = 0 := by
  rw [bne_iff_ne]
  refine not_congr ⟨fun e => by rw [e]; exact empty_len, fun e => str_ext (by rw [e_cps]; exact List.length_eq_zero_iff.mp (by rw [← len_cps]; exact e))⟩
theorem pi_eq (v : Str) : (if v.length = 0 then piS0 else piS v) = pieceL .ins v := by
  unfold pieceL
  (try dsimp only)
  by_cases h : v.length = 0
  · rw [if_pos h, if_neg (fun q => (ne_iff v).mp q h), pi0_lit]
  · rw [if_neg h, if_pos ((ne_iff v).mpr h)]
    show Str.empty ++ Str.ofString "<?" ++ Str.ofString "i" ++ Str.ofString " " ++ escC v ++ Str.ofString "?>" = _
    rw [e_app, esc_spell, pi_lit]
theorem end_eq : endS = Str.ofString "</x>" := by decide +kernel
theorem lay_end : layP (Str.ofString "</x>") = ([Str.ofString "</x>"], true) := by unfold layP; rw [if_neg (by decide +kernel)]
theorem cm_fine {v : Str} (h : Good v) : Fine (pieceL .cmt v) :=
  Fine.app (Fine.app (Fine.lit (l := [60, 33, 45, 45]) (by decide +kernel) (by decide +kernel)) h.fine) (Fine.lit (l := [45, 45, 62]) (by decide +kernel) (by decide +kernel))
theorem pi_fine {v : Str} (h : Good v) : Fine (pieceL .ins v) := by
  unfold pieceL
  (try dsimp only)
  split
  · exact Fine.app (Fine.app (Fine.lit (l := [60, 63, 105, 32]) (by decide +kernel) (by decide +kernel)) h.fine) (Fine.lit (l := [63, 62]) (by decide +kernel) (by decide +kernel))
  · exact Fine.lit (l := [60, 63, 105, 63, 62]) (by decide +kernel) (by decide +kernel)
noncomputable def lowD (d : Nat) : Str := match d with
  | 0 => Str.ofString "a"
  | 1 => Str.ofString "b"
  | 2 => Str.ofString "c"
  | _ => Str.ofString "d"
noncomputable def upD (d : Nat) : Str := match d with
  | 0 => Str.ofString "A"
  | 1 => Str.ofString "B"
  | 2 => Str.ofString "C"
  | _ => Str.ofString "D"
theorem low_low (d : Nat) : Txt.lower (lowD d) = lowD d := by
  unfold lowD; split <;> decide +kernel
theorem low_up (d : Nat) : Txt.lower (upD d) = lowD d := by
  unfold lowD upD; split <;> decide +kernel
theorem low_inj {a b : Nat} (ha : a < 4) (hb : b < 4) (h : lowD a = lowD b) : a = b := by
  have ha' := lt4 ha
  have hb' := lt4 hb
  rcases ha' with rfl | rfl | rfl | rfl <;> rcases hb' with rfl | rfl | rfl | rfl <;> first | rfl | (exact absurd h (by decide +kernel))
structure Agree (S : Lw) (W : WS) : Prop where
  held : S.held = W.t
  dep : S.dep = W.dep
  seen : S.seen = W.seen
  good : Good W.t
  d3 : W.dep < 4
  sd : 0 < W.dep → W.seen = true
  all : jn (S.laid.map (·.2)) = jn (W.tab.map (·.2))
  at' : ∀ d : Nat, d < 4 → jn ((S.laid.filter (fun e => e.1 == (d : Int))).map (·.2)) = jn ((W.tab.filter (fun e => Txt.lower e.1 == lowD d)).map (·.2))
section
variable {S : Lw} {W : WS} {nm : Str} {vs : List Str} {o : Outc}
theorem lays_all (A : Agree S W) (h : jn vs = jn o.1) : jn ((S.laid ++ vs.map fun v => ((S.dep : Int), v)).map (·.2)) = jn ((laysW nm o W.tab).map (·.2)) := by
  unfold laysW jn
  rw [List.map_append, List.map_append, join_app, join_app, List.map_map, List.map_map]
  show Txt.join _ _ ++ Txt.join _ (List.map (fun v => v) vs) = Txt.join _ _ ++ Txt.join _ (List.map (fun v => v) o.1)
  rw [List.map_id', List.map_id']
  exact congr (congrArg _ A.all) h
theorem lays_at (A : Agree S W) (hn : Txt.lower nm = lowD W.dep) (h : jn vs = jn o.1) {d : Nat} (hd : d < 4) : jn (((S.laid ++ vs.map fun v => ((S.dep : Int), v)).filter (fun e => e.1 == (d : Int))).map (·.2)) = jn (((laysW nm o W.tab).filter (fun e => Txt.lower e.1 == lowD d)).map (·.2)) := by
  unfold laysW jn
  rw [List.filter_append, List.filter_append, List.map_append, List.map_append, join_app, join_app]
  refine congr (congrArg _ (A.at' d hd)) ?_
  rw [List.filter_map, List.filter_map, List.map_map, List.map_map]
  show Txt.join _ (List.map (fun v => v) (List.filter (fun _ => (S.dep : Int) == (d : Int)) vs)) = Txt.join _ (List.map (fun v => v) (List.filter (fun _ => Txt.lower nm == lowD d) o.1))
  rw [List.map_id', List.map_id', A.dep, hn]
  by_cases he : W.dep = d
  · subst he
    rw [show ((W.dep : Int) == (W.dep : Int)) = true from beq_self_eq_true _, show (lowD W.dep == lowD W.dep) = true from beq_self_eq_true _, List.filter_eq_self.mpr fun _ _ => rfl, List.filter_eq_self.mpr fun _ _ => rfl]
    exact h
  · rw [show ((W.dep : Int) == (d : Int)) = false from beq_eq_false_iff_ne.mpr (by omega), show (lowD W.dep == lowD d) = false from beq_eq_false_iff_ne.mpr fun q => he (low_inj A.d3 hd q), List.filter_eq_nil_iff.mpr fun _ _ => Bool.false_ne_true, List.filter_eq_nil_iff.mpr fun _ _ => Bool.false_ne_true]
end
theorem stepQ_B {isB isE seen : Bool} {p held : Str} {dep : Int} (h : dep ≠ 0 ∨ isB = true) :
    stepQ isB isE p held dep seen = if (seqP (if 0 < dep then seqP okP (layP (spell psC held)) else okP) (layP p)).2 then ⟨(seqP (if 0 < dep then seqP okP (layP (spell psC held)) else okP) (layP p)).1, true, Str.ofString "", if isB then dep + 1 else if isE then dep - 1 else dep, if isB then true else seen⟩
      else ⟨(seqP (if 0 < dep then seqP okP (layP (spell psC held)) else okP) (layP p)).1, false, Str.ofString "", dep, seen⟩ := by
  unfold stepQ
  rw [if_neg (fun z => h.elim (fun a => a z.1) fun a => by rw [a] at z; cases z.2)]
theorem good_e : Good (Str.ofString "") := fun c hc => by rw [e_cps] at hc; cases hc
theorem agree_B {S : Lw} {W : WS} {nm p : Str} {isB isE : Bool} {o : Outc} {dep' : Nat} (A : Agree S W) (hn : Txt.lower nm = lowD W.dep) (h : W.dep ≠ 0 ∨ isB = true)
    (E : Eqv (seqP (if 0 < (W.dep : Int) then layP (spell psC W.t) else okP) (layP p)) o)
    (hd : dep' = if isB then W.dep + 1 else if isE then W.dep - 1 else W.dep) (h4 : dep' < 4) (hs : W.dep ≠ 0 → W.seen = true) (hE : isE = true → 0 < W.dep) :
    (stepN S (stepQ isB isE p S.held S.dep S.seen)).1 = o.2 ∧ Agree (stepN S (stepQ isB isE p S.held S.dep S.seen)).2 ⟨Str.ofString "", if o.2 then dep' else W.dep, if o.2 && isB then true else W.seen, laysW nm o W.tab⟩ := by
  obtain ⟨a1, a2, a3, a4, a5, a6, a7, a8⟩ := id A
  rw [a1, a2, a3, stepQ_B (h.imp (fun q z => q (by omega)) id)]
  rw [← seqP_one (layP (spell psC W.t))] at E
  generalize seqP (if 0 < (W.dep : Int) then seqP okP (layP (spell psC W.t)) else okP) (layP p) = q at E ⊢
  cases hq : q.2 with
  | true =>
    have ho : o.2 = true := E.ok ▸ hq
    rw [if_pos rfl, ho]
    refine ⟨rfl, rfl, ?_, ?_, good_e, ?_, ?_, lays_all A E.jo, fun d hd => lays_at A hn E.jo hd⟩
    · show Int.toNat (if isB = true then (W.dep : Int) + 1 else if isE = true then (W.dep : Int) - 1 else W.dep) = if true = true then dep' else W.dep
      rw [if_pos rfl, hd]
      cases isB with
      | true => rfl
      | false =>
        cases isE with
        | true => have := hE rfl; exact Int.toNat_sub W.dep 1
        | false => rfl
    · show (if isB = true then true else W.seen) = if (true && isB) = true then true else W.seen
      rw [Bool.true_and]
    · show (if true = true then dep' else W.dep) < 4
      rw [if_pos rfl]; exact h4
    · intro hp
      show (if (true && isB) = true then true else W.seen) = true
      cases isB with
      | true => rfl
      | false =>
        refine hs ?_
        have hp' : 0 < dep' := hp
        rw [hd] at hp'
        intro z
        rw [z] at hp'
        cases isE <;> simp at hp'
  | false =>
    have ho : o.2 = false := E.ok ▸ hq
    rw [if_neg Bool.false_ne_true, ho]
    exact ⟨rfl, rfl, Int.toNat_natCast _, rfl, good_e, a5, fun hp => a6 hp, lays_all A E.jo, fun d hd => lays_at A hn E.jo hd⟩
theorem agree_step {S : Lw} {W : WS} {nm v : Str} (k : Kd) (A : Agree S W) (hn : Txt.lower nm = lowD W.dep) (hv : TxtL v) (hk : match k with | .beg => W.done = false ∧ W.dep < 3 ∧ ValL v | .fin => 0 < W.dep | _ => True) :
    (stepL k v S).1 = (callW k v nm W).1 ∧ Agree (stepL k v S).2 (callW k v nm W).2 := by
  have hdone : 0 < W.dep → W.done = false := fun h => by unfold WS.done; rw [show (W.dep == 0) = false from beq_eq_false_iff_ne.mpr (by omega), Bool.and_false]
  have tell : ∀ p, True ∨ True → Fine p → (stepN S (stepQ false false p S.held S.dep S.seen)).1 = (tellP W p).2 ∧ Agree (stepN S (stepQ false false p S.held S.dep S.seen)).2 ⟨tellT W, W.dep, W.seen, laysW nm (tellP W p) W.tab⟩ := by
    intro p _ hp
    by_cases h0 : W.dep = 0
    · have hz : (S.dep : Int) = 0 := by rw [A.dep, h0]; rfl
      rw [stepQ_0 hz, A.seen]
      have hdn : W.done = W.seen := by unfold WS.done; rw [h0]; exact Bool.and_true _
      have e1 : (tellP W p).2 = false ∧ jn (if W.seen = true then okP else seqP okP (layP p)).1 = jn (tellP W p).1 := by
        unfold tellP
        rw [hdn, lay_write hp]
        cases hs : W.seen with
        | true =>
          rw [if_pos rfl, if_pos rfl]
          exact ⟨rfl, rfl⟩
        | false =>
          rw [if_neg Bool.false_ne_true, if_neg Bool.false_ne_true, if_neg Bool.false_ne_true, flushP_u]
          rw [seqP_one]
          unfold writeP
          split
          · exact ⟨rfl, rfl⟩
          · exact ⟨rfl, rfl⟩
      have e2 : tellT W = W.t := by
        unfold tellT
        rw [hdn]
        cases hs : W.seen with
        | true => rw [if_pos rfl]
        | false => rw [if_neg Bool.false_ne_true, if_neg Bool.false_ne_true]
      rw [e2]
      exact ⟨e1.1.symm, A.held, (Int.toNat_natCast _).trans A.dep, rfl, A.good, A.d3, A.sd, lays_all A e1.2, fun d hd => lays_at A hn e1.2 hd⟩
    · have hs := A.sd (by omega)
      have e3 : tellP W p = seqP (flushP true W.t) (writeP p) := by
        unfold tellP
        rw [hdone (by omega), hs, if_neg Bool.false_ne_true, if_pos rfl, seqP_okP]
      have e4 : tellT W = Str.ofString "" := by
        unfold tellT
        rw [hdone (by omega), hs, if_neg Bool.false_ne_true, if_pos rfl]
      have := agree_B (isB := false) (isE := false) (p := p) (o := tellP W p) (dep' := W.dep) A hn (.inl h0) (by
        rw [e3, if_pos (by omega)]
        exact (lay_flush A.good).seq (by rw [lay_write hp]; exact Eqv.refl _)) rfl A.d3 (fun _ => hs) (fun h => by cases h)
      rw [Bool.and_false, if_neg Bool.false_ne_true] at this
      rw [show (if (tellP W p).2 = true then W.dep else W.dep) = W.dep by split <;> rfl] at this
      rw [e4]
      exact this
  cases k with
  | txt =>
    refine ⟨rfl, ?_, (Int.toNat_natCast _).trans A.dep, A.seen, A.good.app hv.good, A.d3, A.sd, ?_, fun d hd => ?_⟩
    · show S.held ++ v = W.t ++ v; rw [A.held]
    · show jn ((S.laid ++ []).map fun (e : Int × Str) => e.2) = _; rw [List.append_nil]; exact A.all
    · show jn (((S.laid ++ []).filter fun (e : Int × Str) => e.1 == (d : Int)).map fun (e : Int × Str) => e.2) = _; rw [List.append_nil]; exact A.at' d hd
  | cmt =>
    show (stepN S (stepQ false false (pieceL .cmt v) S.held S.dep S.seen)).1 = (tellP W (cmS v)).2 ∧ Agree (stepN S (stepQ false false (pieceL .cmt v) S.held S.dep S.seen)).2 ⟨tellT W, W.dep, W.seen, laysW nm (tellP W (cmS v)) W.tab⟩
    rw [cm_eq]
    exact tell _ (.inl trivial) (cm_fine hv.good)
  | ins =>
    show (stepN S (stepQ false false (pieceL .ins v) S.held S.dep S.seen)).1 = (tellP W (if v.length = 0 then piS0 else piS v)).2 ∧ Agree (stepN S (stepQ false false (pieceL .ins v) S.held S.dep S.seen)).2 ⟨tellT W, W.dep, W.seen, laysW nm (tellP W (if v.length = 0 then piS0 else piS v)) W.tab⟩
    rw [pi_eq]
    exact tell _ (.inr trivial) (pi_fine hv.good)
  | fin =>
    have hk0 : 0 < W.dep := hk
    have hs := A.sd hk0
    have := agree_B (isB := false) (isE := true) (p := Str.ofString "</x>") (o := seqP (flushP W.seen W.t) ([endS], true)) (dep' := W.dep - 1) A hn (.inl (by omega)) (by
      rw [if_pos (by omega), hs, lay_end, end_eq]
      exact (lay_flush A.good).seq (Eqv.refl _)) rfl (by have := A.d3; omega) (fun _ => hs) (fun _ => hk0)
    rw [Bool.and_false, if_neg Bool.false_ne_true] at this
    exact this
  | beg =>
    obtain ⟨k1, k2, k3⟩ := hk
    have e5 : Eqv (layP (pieceL .beg v)) ([Str.ofString "<" ++ Str.ofString "x", attrS v, Str.ofString ">"], true) := by
      rw [k3.lay]
      refine ⟨rfl, ?_⟩
      show jn [pieceL .beg v] = jn ([Str.ofString "<" ++ Str.ofString "x"] ++ ([attrS v] ++ [Str.ofString ">"]))
      rw [jn_app, jn_app, jn_one, jn_one, jn_one, jn_one, k3.att]
    have := agree_B (isB := true) (isE := false) (p := pieceL .beg v) (o := seqP (flushP W.seen W.t) ([Str.ofString "<" ++ Str.ofString "x", attrS v, Str.ofString ">"], true)) (dep' := W.dep + 1) A hn (.inr rfl) (by
      by_cases h0 : W.dep = 0
      · have hs : W.seen = false := by
          unfold WS.done at k1
          rw [h0] at k1
          have := k1
          rw [show ((0 : Nat) == 0) = true from rfl, Bool.and_true] at this
          exact this
        rw [if_neg (by omega), hs, flushP_u]
        exact (Eqv.refl _).seq e5
      · rw [if_pos (by omega), A.sd (by omega)]
        exact (lay_flush A.good).seq e5) rfl (by omega) (fun h => A.sd (by omega)) (fun h => by cases h)
    rw [Bool.and_true] at this
    exact this
end
section
namespace NQ8
theorem hereQ8 : True := trivial
end NQ8
open NQ8
set_option backward.match.sparseCases false in
noncomputable def forBody : Stmt → List Stmt
  | .For _ _ b _ _ => b
  | _ => []
noncomputable abbrev turnB : List Stmt := forBody (nth (fBody (stA 21)) 0)
noncomputable abbrev envSm (L : Addr) : Env := envOf (Str.ofString "_law_same") (fScope (stA 21)) L 347 (.ref 346)
noncomputable abbrev mS (x xt st cl : Addr) (k : Kd) (v : Str) (t1 tv : Tok) (gr : Bool) (T G U : Option Value) : Str → Option Value := fun y => if y = Str.ofString "told" then T else if y = Str.ofString "went" then G else if y = Str.ofString "turn" then U else List.lookup y ([(Str.ofString "target", .ref x), (Str.ofString "table", .ref xt), (Str.ofString "state", .ref st), (Str.ofString "cell", .ref cl), (Str.ofString "what", .str k.s t1), (Str.ofString "text", .str v tv), (Str.ofString "great", .bool gr)] : List (Str × Value)).reverse
theorem InvW.mono {w : World} {x dx f xt l cl l0 t0 : Addr} {W : WS} {c : Cf} {Z Z' : List (Addr × Obj)} {b : Nat} (I : InvW w x dx f xt l cl l0 t0 W c Z b) (hs : ∀ p ∈ Z, p ∈ Z') : InvW w x dx f xt l cl l0 t0 W c Z' b :=
  ⟨hs _ I.hx, I.hz.mono hs, StkB.mono I.hB hs, I.hK.mono hs, I.txts, I.tl, I.tab.mono hs, I.tabn, I.seen, I.done, I.pz, I.dz, I.nz, I.dep, I.sd⟩
theorem InvL.mono {w : World} {st ll : Addr} {S : Lw} {so : Obj} {ls : Array Value} {Z Z' : List (Addr × Obj)} {b : Nat} (I : InvL w st ll S so ls Z b) (hs : ∀ p ∈ Z, p ∈ Z') : InvL w st ll S so ls Z' b :=
  ⟨I.so, LaidAre.mono I.la hs, I.lan, I.hl, I.ha⟩
theorem PairAre.sec {Z : List (Addr × Obj)} {its : List Value} {ps : List (Str × Str)} (H : PairAre Z its ps) : SecAre Z its (ps.map (·.2)) := by
  unfold PairAre at H
  induction H with
  | nil => exact .nil
  | cons p _ ih => exact .cons (let ⟨q, a, u, e, m⟩ := p; ⟨q, _, u, e, m⟩) ih
theorem LaidAre.sec {Z : List (Addr × Obj)} {its : List Value} {ps : List (Int × Str)} (H : LaidAre Z its ps) : SecAre Z its (ps.map (·.2)) := by
  unfold LaidAre at H
  induction H with
  | nil => exact .nil
  | cons p _ ih => exact .cons (let ⟨q, a, u, e, m⟩ := p; ⟨q, _, u, e, m⟩) ih
theorem SecAre.mono {Z Z' : List (Addr × Obj)} {its : List Value} {ts : List Str} (H : SecAre Z its ts) (hs : ∀ p ∈ Z, p ∈ Z') : SecAre Z' its ts := forall2_mono (fun _ _ ⟨q, a, u, e, m⟩ => ⟨q, a, u, e, hs _ m⟩) H
theorem item_up {d : Nat} (h : d < 4) : Txt.item (Str.ofString "ABCD") (d : Int) = upD d := by
  have h' := lt4 h
  rcases h' with rfl | rfl | rfl | rfl <;> decide +kernel
theorem item_low {d : Nat} (h : d < 4) : Txt.item (Str.ofString "abcd") (d : Int) = lowD d := by
  have h' := lt4 h
  rcases h' with rfl | rfl | rfl | rfl <;> decide +kernel
theorem cset {w : World} {A : Around} {E : Value → Shared → Prop} {s : Shared} {h₀ : Heap} {L D : Addr} {m : Str → Option Value} {led l1 : List (Addr × Obj)} {a v : Value} {n : Nat} {t : Tok} {Q : Unit → Shared → Prop} (F : Fr h₀ L s.heap m) (N : News h₀ L s.heap led) (p : Pick (D, listOf #[a] n) led l1) (off : ∀ q ∈ l1, q.1 ≠ D)
    (h : ∀ h', Fr h₀ L h' m → News h₀ L h' ((D, listOf #[v] n) :: l1) → Q () { s with heap := h' }) : wpAny (model prg w) A (setItem (.ref D) (.int 0 t) v) Q E s :=
  ki_set (q := [v]) F (news1 N p) (by decide) (by decide) rfl (Upd.head off) h
theorem abc_len : (Str.ofString "ABCD").length = 4 ∧ (Str.ofString "abcd").length = 4 := by decide
section
variable {w : World} {A : Around} {E : Value → Shared → Prop} {s : Shared} {value slice : Expr} {d : Nat} {t u : Tok} {Q : Value → Shared → Prop}
theorem idx_up (hd : d < 4) (h : Q (.str (upD d) s.toks) { s with toks := s.toks + 1 })
    (hs : subscripted slice false (.str (Str.ofString "ABCD") t) (.int (d : Int) u) = operate [.str (Str.ofString "ABCD") t, .int (d : Int) u] (getItem (.str (Str.ofString "ABCD") t) (.int (d : Int) u)) := by with_unfolding_all rfl)
    (ht : ∀ r, letTemporaryGo value (.str (Str.ofString "ABCD") t) r = pure () := by intro _; with_unfolding_all rfl) :
    wpAny (model prg w) A (subscriptTail value slice (.str (Str.ofString "ABCD") t) (.int (d : Int) u)) Q E s :=
  item_str (fitsSsize_of (N := 9223372036854775808) (by kln_le) (by kln_le) (Int.le_refl _)) (by rw [abc_len.1]; kln_le) (by rw [abc_len.1]; kln_le) (fun _ => by rw [item_up hd]; exact h) hs ht
theorem idx_low (hd : d < 4) (h : Q (.str (lowD d) s.toks) { s with toks := s.toks + 1 })
    (hs : subscripted slice false (.str (Str.ofString "abcd") t) (.int (d : Int) u) = operate [.str (Str.ofString "abcd") t, .int (d : Int) u] (getItem (.str (Str.ofString "abcd") t) (.int (d : Int) u)) := by with_unfolding_all rfl)
    (ht : ∀ r, letTemporaryGo value (.str (Str.ofString "abcd") t) r = pure () := by intro _; with_unfolding_all rfl) :
    wpAny (model prg w) A (subscriptTail value slice (.str (Str.ofString "abcd") t) (.int (d : Int) u)) Q E s :=
  item_str (fitsSsize_of (N := 9223372036854775808) (by kln_le) (by kln_le) (Int.le_refl _)) (by rw [abc_len.2]; kln_le) (by rw [abc_len.2]; kln_le) (fun _ => by rw [item_low hd]; exact h) hs ht
end
theorem rowsQ80 : True := by
  k_with "subscriptTail Constant Subscript str int" => (fail_if_success fail_if_success have q := hereQ8); (k_here; (with_reducible show wpAny _ _ (subscriptTail _ _ (Value.str _ _) (Value.int _ _)) _ _ _); k_dflt (first | (refine idx_up (by with_reducible assumption) ?_) | (refine idx_low (by with_reducible assumption) ?_)))
  k_with "setItem ref int" => (fail_if_success fail_if_success have q := hereQ8); (k_here; (with_reducible show wpAny _ _ (setItem (Value.ref _) (Value.int _ _) _) _ _ _); k_dflt (refine cset (by k_asm) (by k_asm) (by k_upd) (by k_all) ?_); intro h'ₓ F'ₓ N'ₓ)
  k_with "execs cons" => (fail_if_success fail_if_success have q := hereQ8); (k_here; (with_reducible show wpAny _ _ (execs (Stmt.Assign [Expr.Name _ _] _ _ :: _) _) _ _ _); refine hold_it ?_)
  trivial
theorem cell_y (k : Kd) {w : World} {d u : Nat} {gd : Option (List Code)} {base g₁ : Heap} {outer : List Env} {env : Env} {L : Addr} {mean : ExcName → Option Value} {mg mb : Str → Option Value} {h : Heap} {g : Array GenState} {dr : Drawn} {tk : Tok} {os : OsState}
    {Q : Flow → Shared → Prop} {Er : Value → Shared → Prop} {x dx f dd ds dn dm dp xt l cl l0 t0 st ll : Addr} {ts : Nat → Tok} {so : Obj} {ls : Array Value} {n3 n7 b : Nat} {nm v : Str} {tn t1 tv : Tok} {c : Cf} {Z : List (Addr × Obj)} {W : WS} {S : Lw} {gr : Bool} {vT vG vU : Option Value}
    (F : Fr g₁ L h (mS x xt st cl k v t1 tv gr vT vG vU)) (X : (K w.params).In g₁) (N : News g₁ L h ((dd, listOf c.its c.n1) :: (l, listOf c.hds c.n2) :: (cl, listOf #[.str nm tn] n3) :: (dx, wrD w ts f dd ds dn dm dp c.seen c.done) :: (dp, listOf c.pI c.n4) :: (ds, listOf c.dsI c.n5) :: (dn, listOf c.nsI c.n6) :: (123, tabObj c.ps) :: (st, so) :: (ll, listOf ls n7) :: Z)) (T : Top topProg LS mean mg mb g₁)
    (IL : InvL w st ll S so ls Z b) (hD : DisjL [dd, l, cl, dx, dp, ds, dn, 123, st, ll] Z) (hd3 : S.dep < 4)
    (hF : ∀ h' tn' tk', Fr g₁ L h' (mS x xt st cl k v t1 tv gr vT vG vU) → News g₁ L h' ((dd, listOf c.its c.n1) :: (l, listOf c.hds c.n2) :: (cl, listOf #[.str (if gr then upD S.dep else lowD S.dep) tn'] n3) :: (dx, wrD w ts f dd ds dn dm dp c.seen c.done) :: (dp, listOf c.pI c.n4) :: (ds, listOf c.dsI c.n5) :: (dn, listOf c.nsI c.n6) :: (123, tabObj c.ps) :: (st, so) :: (ll, listOf ls n7) :: Z) → wpAny (model prg w) ((Ar d u gd env outer).deeper (envSm L)) (execs (List.drop 1 turnB) (envSm L)) Q Er ⟨h', g, dr, tk', os⟩) :
    wpAny (model prg w) ((Ar d u gd env outer).deeper (envSm L)) (execs turnB (envSm L)) Q Er ⟨h, g, dr, tk, os⟩ := by
  have hrow : PySem.Challenge.rw_pe0292_01 = _ := rfl
  revert hrow X; k_fill; w_top on; intro X _
  obtain ⟨th, td, frm, hso⟩ := IL.so
  have ne2 : ∀ p ∈ ((dd, listOf c.its c.n1) :: (l, listOf c.hds c.n2) :: (dx, wrD w ts f dd ds dn dm dp c.seen c.done) :: (dp, listOf c.pI c.n4) :: (ds, listOf c.dsI c.n5) :: (dn, listOf c.nsI c.n6) :: (123, tabObj c.ps) :: (st, so) :: (ll, listOf ls n7) :: Z : List (Addr × Obj)), p.1 ≠ cl := List.forall_mem_cons.mpr ⟨((hD).1 cl (.tail _ (List.Mem.head _))), List.forall_mem_cons.mpr ⟨((hD.2.2).1 cl (List.Mem.head _)), List.forall_mem_cons.mpr ⟨(Ne.symm ((hD.2.2.2.2).1 dx (List.Mem.head _))), List.forall_mem_cons.mpr ⟨(Ne.symm ((hD.2.2.2.2).1 dp (.tail _ (List.Mem.head _)))), List.forall_mem_cons.mpr ⟨(Ne.symm ((hD.2.2.2.2).1 ds (.tail _ (.tail _ (List.Mem.head _))))), List.forall_mem_cons.mpr ⟨(Ne.symm ((hD.2.2.2.2).1 dn (.tail _ (.tail _ (.tail _ (List.Mem.head _)))))), List.forall_mem_cons.mpr ⟨(Ne.symm ((hD.2.2.2.2).1 123 (.tail _ (.tail _ (.tail _ (.tail _ (List.Mem.head _))))))), List.forall_mem_cons.mpr ⟨(Ne.symm ((hD.2.2.2.2).1 st (.tail _ (.tail _ (.tail _ (.tail _ (.tail _ (List.Mem.head _)))))))), List.forall_mem_cons.mpr ⟨(Ne.symm ((hD.2.2.2.2).1 ll (.tail _ (.tail _ (.tail _ (.tail _ (.tail _ (.tail _ (List.Mem.head _))))))))), (hD.2.2.2.2).2.1⟩⟩⟩⟩⟩⟩⟩⟩⟩
  cases gr
  all_goals simp only [if_true, if_false, Bool.false_eq_true] at hF
  all_goals k_steps
  all_goals refine Or.inl ?_
  all_goals first | rw [item_up hd3] at * | rw [item_low hd3] at *
  all_goals exact hF _ _ _ (by k_asm) (news_sub (by k_asm) (by k_upd))
end
section
namespace NQ9
theorem hereQ9 : True := trivial
end NQ9
open NQ9
theorem sum_le {l : List (Str × Str)} (h : ∀ e ∈ l, e.2.length ≤ 1000) : ((l.map (·.2)).map (·.length)).sum ≤ 1000 * l.length := by
  induction l with
  | nil => exact Nat.le_refl _
  | cons a r ih =>
    have h1 := h a (.head _)
    have h2 := ih fun e he => h e (.tail _ he)
    simp only [List.map_cons, List.sum_cons, List.length_cons]
    exact Nat.le_trans (Nat.add_le_add h1 h2) (Nat.le_of_eq (Nat.add_comm 1000 (1000 * r.length)))
noncomputable def Small (tab : List (Str × Str)) : Prop := ∀ e ∈ tab, e.1.length ≤ 1 ∧ e.2.length ≤ 1000
theorem Small.lays {nm : Str} {o : Outc} {tab : List (Str × Str)} (h : Small tab) (hn : nm.length ≤ 1) (ho : ∀ v ∈ o.1, v.length ≤ 1000) : Small (laysW nm o tab) := fun e he => by
  rcases List.mem_append.mp he with he | he
  · exact h e he
  · obtain ⟨v, hv, rfl⟩ := List.mem_map.mp he
    exact ⟨hn, ho v hv⟩
theorem seqP_all {a b : Outc} {P : Str → Prop} (ha : ∀ v ∈ a.1, P v) (hb : ∀ v ∈ b.1, P v) : ∀ v ∈ (seqP a b).1, P v := fun v hv => by
  unfold seqP at hv
  split at hv
  · exact (List.mem_append.mp hv).elim (ha v) (hb v)
  · exact ha v hv
theorem writeP_all {t : Str} {P : Str → Prop} (h : P t) : ∀ v ∈ (writeP t).1, P v := fun v hv => by
  unfold writeP at hv
  split at hv
  · cases hv
  · rw [List.mem_singleton.mp hv]; exact h
theorem flushP_all {seen : Bool} {t : Str} {P : Str → Prop} (h : P (escC t)) : ∀ v ∈ (flushP seen t).1, P v := fun v hv => by
  unfold flushP at hv
  split at hv
  · cases hv
  · exact writeP_all h v hv
theorem tellP_all {W : WS} {p : Str} {P : Str → Prop} (h : P (escC W.t)) (hp : P p) : ∀ v ∈ (tellP W p).1, P v := by
  unfold tellP
  refine seqP_all (seqP_all ?_ (writeP_all hp)) ?_
  · split
    · exact fun v hv => nomatch hv
    · exact flushP_all h
  · split <;> exact fun v hv => nomatch hv
theorem lits_len : (Str.ofString "<" ++ Str.ofString "x").length ≤ 1000 ∧ (Str.ofString ">").length ≤ 1000 ∧ endS.length ≤ 1000 := by decide
theorem callW_small {W : WS} {nm v : Str} (k : Kd) (h : Small W.tab) (hn : nm.length ≤ 1) (ht : (escC W.t).length ≤ 1000) (hv : TxtOk v) (hk : match k with | .beg => (attrS v).length ≤ 1000 | _ => True) : Small (callW k v nm W).2.tab := by
  cases k with
  | txt => exact h
  | cmt => exact h.lays hn (tellP_all (P := fun v => v.length ≤ 1000) ht hv.cms)
  | ins => exact h.lays hn (tellP_all (P := fun v => v.length ≤ 1000) ht (by split; exact piS0_len; exact hv.pis))
  | fin => exact h.lays hn (seqP_all (P := fun v => v.length ≤ 1000) (flushP_all ht) fun v hv => by rw [List.mem_singleton.mp hv]; exact lits_len.2.2)
  | beg => exact h.lays hn (seqP_all (P := fun v => v.length ≤ 1000) (flushP_all ht) fun v hv => by
      rcases List.mem_cons.mp hv with rfl | hv
      · exact lits_len.1
      · rcases List.mem_cons.mp hv with rfl | hv
        · exact hk
        · rw [List.mem_singleton.mp hv]; exact lits_len.2.1)
theorem mS_eq {x xt st cl : Addr} {k : Kd} {v : Str} {t1 tv : Tok} {gr : Bool} {vT vG vU a b : Option Value} : (fun y => if y = Str.ofString "told" then a else if y = Str.ofString "went" then b else mS x xt st cl k v t1 tv gr vT vG vU y) = mS x xt st cl k v t1 tv gr a b vU := by
  funext y
  unfold mS
  by_cases h1 : y = Str.ofString "told"
  · rw [if_pos h1, if_pos h1]
  · rw [if_neg h1, if_neg h1]
    by_cases h2 : y = Str.ofString "went"
    · rw [if_pos h2, if_neg h1, if_pos h2]
    · rw [if_neg h2, if_neg h1, if_neg h2, if_neg h2]
theorem fr_mS {g hp : Heap} {L : Addr} {x xt st cl : Addr} {k : Kd} {v : Str} {t1 tv : Tok} {gr : Bool} {vT vG vU a b : Option Value} (F : Fr g L hp (fun y => if y = Str.ofString "told" then a else if y = Str.ofString "went" then b else mS x xt st cl k v t1 tv gr vT vG vU y)) : Fr g L hp (mS x xt st cl k v t1 tv gr a b vU) := by rw [mS_eq] at F; exact F
theorem low_small (d : Nat) : (lowD d).length ≤ 1 ∧ nBad (lowD d) = false := by unfold lowD; split <;> decide +kernel
theorem up_small (d : Nat) : (upD d).length ≤ 1 ∧ nBad (upD d) = false := by unfold upD; split <;> decide +kernel
theorem rowsQ90 : True := by
  k_with "call ref" => (fail_if_success fail_if_success have q := hereQ9); (k_here; refine hold_it ?_)
  k_with "call builtin:str.join" => (fail_if_success fail_if_success have q := hereQ9); (k_here; refine hold_it ?_)
  k_with "eval ListComp" => (fail_if_success fail_if_success have q := hereQ9); (k_here; k_dflt (refine LCp.ListComp_P (by k_asm) (by with_unfolding_all rfl) (by decide) (by rfl) (by decide) (by rfl) (by rfl) (by decide) ?_))
  trivial
theorem q_t {Q : Flow → Shared → Prop} {gb : Bool} {s : Shared} (a : gb = true) (h : Q (if gb then .ret (.bool true) else .next) s) : Q (.ret (.bool true)) s := by subst a; exact h
theorem q_f {Q : Flow → Shared → Prop} {gb : Bool} {s : Shared} (a : gb = false) (h : Q (if gb then .ret (.bool true) else .next) s) : Q .next s := by subst a; exact h
theorem rest_tail (k : Kd) {w : World} {d u : Nat} {gd : Option (List Code)} {base g₁ : Heap} {outer : List Env} {env : Env} {L : Addr} {mean : ExcName → Option Value} {mg mb : Str → Option Value} {h : Heap} {g : Array GenState} {dr : Drawn} {tk : Tok} {os : OsState} {stmts : List Stmt}
    {Q : Flow → Shared → Prop} {Er : Value → Shared → Prop} {x dx f dd ds dn dm dp xt l cl l0 t0 st ll : Addr} {ts : Nat → Tok} {so : Obj} {ls : Array Value} {n3 n7 b : Nat} {nm v : Str} {tn t1 tv : Tok} {c : Cf} {Z : List (Addr × Obj)} {W : WS} {S : Lw} {gr gb : Bool} {vT vU : Option Value}
    (es : List.drop 4 turnB = stmts) (B : Below (Ar d u gd env outer) base (env :: outer) g₁) (F : Fr g₁ L h (mS x xt st cl k v t1 tv gr vT (some (.bool gb)) vU)) (X : (K w.params).In g₁) (N : News g₁ L h ((dd, listOf c.its c.n1) :: (l, listOf c.hds c.n2) :: (cl, listOf #[.str nm tn] n3) :: (dx, wrD w ts f dd ds dn dm dp c.seen c.done) :: (dp, listOf c.pI c.n4) :: (ds, listOf c.dsI c.n5) :: (dn, listOf c.nsI c.n6) :: (123, tabObj c.ps) :: (st, so) :: (ll, listOf ls n7) :: Z)) (T : Top topProg LS mean mg mb g₁)
    (hd1 : d ≤ 650) (hu1 : u ≤ 290) (I : InvW w x dx f xt l cl l0 t0 W c Z b) (IL : InvL w st ll S so ls Z b) (hb : b ≤ 59) (A : Agree S W) (hsm : Small W.tab)
    (hQ : ∀ h' gs' dr' tk', (AllBare g → AllBare gs') → Fr g₁ L h' (mS x xt st cl k v t1 tv gr vT (some (.bool gb)) vU) → News g₁ L h' ((dd, listOf c.its c.n1) :: (l, listOf c.hds c.n2) :: (cl, listOf #[.str nm tn] n3) :: (dx, wrD w ts f dd ds dn dm dp c.seen c.done) :: (dp, listOf c.pI c.n4) :: (ds, listOf c.dsI c.n5) :: (dn, listOf c.nsI c.n6) :: (123, tabObj c.ps) :: (st, so) :: (ll, listOf ls n7) :: Z) → Q (if gb then .ret (.bool true) else .next) ⟨h', gs', dr', tk', os⟩) :
    wpAny (model prg w) ((Ar d u gd env outer).deeper (envSm L)) (execs stmts (envSm L)) Q Er ⟨h, g, dr, tk, os⟩ := by
  subst es
  obtain ⟨th2, td2, fr2, hso2⟩ := IL.so
  obtain ⟨c1, c2, o1, o2, c9, oc9, vs9, t9, th, dxt, pm, ctv, q1, q2, q3, q4, q5, q6, q7, q8, q9, q10⟩ := I.hz.is
  have hsum : ((W.tab.map (·.2)).map (·.length)).sum ≤ 16777216 := by
    have h1 := sum_le fun e he => (hsm e he).2
    exact Nat.le_trans h1 (Nat.le_trans (Nat.mul_le_mul_left 1000 (Nat.le_trans I.tabn (Nat.mul_le_mul_left 4 hb))) (by decide))
  have hsum2 : ((S.laid.map (·.2)).map (·.length)).sum ≤ 16777216 := by
    have h3 := A.all; unfold jn at h3; rw [← join_len, h3, join_len]; exact hsum
  have hhs : c.hds.size ≤ 1000 := Nat.le_trans (Nat.le_of_eq (Array.length_toList.symm.trans I.tab.len.symm)) (Nat.le_trans I.tabn (Nat.le_trans (Nat.mul_le_mul_left 4 hb) (by decide)))
  have hls : ls.size ≤ 1000 := Nat.le_trans (Nat.le_of_eq (Array.length_toList.symm.trans IL.la.len.symm)) (Nat.le_trans IL.lan (Nat.le_trans (Nat.mul_le_mul_left 2 hb) (by decide)))
  have inZ2 : ∀ p ∈ Z, p ∈ (((dd, listOf c.its c.n1) :: (l, listOf c.hds c.n2) :: (cl, listOf #[.str nm tn] n3) :: (dx, wrD w ts f dd ds dn dm dp c.seen c.done) :: (dp, listOf c.pI c.n4) :: (ds, listOf c.dsI c.n5) :: (dn, listOf c.nsI c.n6) :: (123, tabObj c.ps) :: (st, so) :: (ll, listOf ls n7) :: Z) : List (Addr × Obj)) := fun p hp => by
    iterate 10 (refine List.mem_cons_of_mem _ ?_)
    exact hp
  have hrow : PySem.Challenge.rw_pe0292_01 = _ := rfl
  revert hrow X; k_fill; w_top on; intro X _
  with_reducible refine gen_tok tokV ?_
  intro tk0 htk0
  k_steps
  refine Or.inl ?_
  refine wpAny_call ?_
  refine values_y (n := c.n2) (l := l) (th := th) (hds := c.hds) ⟨B, by k_asm, X, by k_asm, T, by rfl, by rfl, by k_units, by k_units⟩ (by k_units) (by k_units) (inZ2 _ q9) (inZ2 _ q10) (.tail _ (.head _)) hhs (I.tab.sec.mono inZ2) (fun D5 ys5 hy5 hne5 => ?_)
  intro h5 g5 d5 tk5 hb5 F5 N5
  (try dsimp only)
  k_steps
  refine Or.inl ?_
  refine join_any (by k_asm) (.head _) hy5 hsum (fun t6 k6 => ?_)
  (try dsimp only)
  k_steps
  refine LCp.SrcLP.ledger rfl (by k_asm) (by k_asm) ((.tail _ (.tail _ (.tail _ (.tail _ (.tail _ (.tail _ (.tail _ (.tail _ (.tail _ (.tail _ (List.Mem.head _)))))))))))) (Nat.le_trans hls (by decide)) fun hg => ?_
  refine second_rest rfl rfl (by decide) (.inr ⟨_, (.tail _ (.tail _ (.tail _ (.tail _ (.tail _ (.tail _ (.tail _ (.tail _ (.tail _ (.tail _ (List.Mem.head _))))))))))), rfl, _, rfl⟩) ((LaidAre.sec IL.la).mono fun p hp => .tail _ (inZ2 p hp)) ?_
  intro ys7 hy7 D7 hh7 tk7 F7 N7 o7
  (try dsimp only)
  k_steps
  refine Or.inl ?_
  refine join_any (by k_asm) (.head _) hy7 hsum2 (fun t8 k8 => ?_)
  have h3 := A.all
  unfold jn at h3
  rw [h3]
  (try dsimp only)
  k_steps
  · rename ((_ != _) = true) => hbb
    rw [bne_self_eq_false] at hbb
    cases hbb
  · exact q_t (by with_reducible assumption) (hQ _ _ _ _ (fun hb => hb5 hb) (by k_asm) (news_sub (by k_asm) (fun p hp => .tail _ (.tail _ hp))))
  · exact q_f (by with_reducible assumption) (hQ _ _ _ _ (fun hb => hb5 hb) (by k_asm) (news_sub (by k_asm) (fun p hp => .tail _ (.tail _ hp))))
theorem rowsQ91 : True := by
  k_with "execs cons" => (fail_if_success fail_if_success have q := hereQ9); (k_here; (with_reducible show wpAny _ _ (execs (Stmt.If (Expr.Compare (Expr.Call _ _ _ _) _ _ _) _ _ _ :: _) _) _ _ _); refine hold_it ?_)
  trivial
theorem rest_y (k : Kd) {w : World} {d u : Nat} {gd : Option (List Code)} {base g₁ : Heap} {outer : List Env} {env : Env} {L : Addr} {mean : ExcName → Option Value} {mg mb : Str → Option Value} {h : Heap} {g : Array GenState} {dr : Drawn} {tk : Tok} {os : OsState}
    {Q : Flow → Shared → Prop} {Er : Value → Shared → Prop} {x dx f dd ds dn dm dp xt l cl l0 t0 st ll : Addr} {ts : Nat → Tok} {so : Obj} {ls : Array Value} {n3 n7 b : Nat} {nm v : Str} {tn t1 tv : Tok} {c : Cf} {Z : List (Addr × Obj)} {W : WS} {S : Lw} {gr : Bool} {vT vG vU : Option Value}
    (B : Below (Ar d u gd env outer) base (env :: outer) g₁) (F : Fr g₁ L h (mS x xt st cl k v t1 tv gr vT vG vU)) (X : (K w.params).In g₁) (N : News g₁ L h ((dd, listOf c.its c.n1) :: (l, listOf c.hds c.n2) :: (cl, listOf #[.str nm tn] n3) :: (dx, wrD w ts f dd ds dn dm dp c.seen c.done) :: (dp, listOf c.pI c.n4) :: (ds, listOf c.dsI c.n5) :: (dn, listOf c.nsI c.n6) :: (123, tabObj c.ps) :: (st, so) :: (ll, listOf ls n7) :: Z)) (T : Top topProg LS mean mg mb g₁) (XB : (K w.params).In base) (TB : Top topProg LS mean mg mb base) (D : KtsDicts ((env :: outer).filterMap (·.frame)) g₁)
    (hd1 : d ≤ 650) (hu1 : u ≤ 290) (I : InvW w x dx f xt l cl l0 t0 W c Z b) (IL : InvL w st ll S so ls Z b) (hb : b ≤ 58) (hD : DisjL [dd, l, cl, dx, dp, ds, dn, 123, st, ll] Z) (A : Agree S W) (hv : TxtL v) (hk : match k with | .beg => W.done = false ∧ W.dep < 3 ∧ ValL v | .fin => 0 < W.dep | _ => True)
    (hnm : Txt.lower nm = lowD W.dep ∧ nm.length ≤ 1 ∧ nBad nm = false) (hsm : Small W.tab)
    (hF : ∀ c' Z' so' ls' n7' g₁' h' gs' dr' tk' vT' vG', InvW w x dx f xt l cl l0 t0 (callW k v nm W).2 c' Z' (b + 1) → InvL w st ll (stepL k v S).2 so' ls' Z' (b + 1) → (∀ p ∈ Z, p ∈ Z') → DisjL [dd, l, cl, dx, dp, ds, dn, 123, st, ll] Z' → Agree (stepL k v S).2 (callW k v nm W).2 → Small (callW k v nm W).2.tab → KtsTurn ((env :: outer).filterMap (·.frame)) g₁ g₁' →
      Fr g₁' L h' (mS x xt st cl k v t1 tv gr vT' vG' vU) → News g₁' L h' ((dd, listOf c'.its c'.n1) :: (l, listOf c'.hds c'.n2) :: (cl, listOf #[.str nm tn] n3) :: (dx, wrD w ts f dd ds dn dm dp c'.seen c'.done) :: (dp, listOf c'.pI c'.n4) :: (ds, listOf c'.dsI c'.n5) :: (dn, listOf c'.nsI c'.n6) :: (123, tabObj c'.ps) :: (st, so') :: (ll, listOf ls' n7') :: Z') → Below (Ar d u gd env outer) base (env :: outer) g₁' → (K w.params).In g₁' → Top topProg LS mean mg mb g₁' → KtsDicts ((env :: outer).filterMap (·.frame)) g₁' → (AllBare g → AllBare gs') →
      Q (if (stepL k v S).1 then .ret (.bool true) else .next) ⟨h', gs', dr', tk', os⟩) :
    wpAny (model prg w) ((Ar d u gd env outer).deeper (envSm L)) (execs (List.drop 1 turnB) (envSm L)) Q Er ⟨h, g, dr, tk, os⟩ := by
  have hrow : PySem.Challenge.rw_pe0292_01 = _ := rfl
  have hje : (escC W.t).length ≤ 1000 := Nat.le_trans (escC_len W.t) (Nat.le_trans (Nat.mul_le_mul_left 5 (Nat.le_trans I.tl (Nat.mul_le_mul_left 3 hb))) (by decide))
  obtain ⟨ag1, ag2⟩ := agree_step k A hnm.1 hv hk
  have hsm2 := callW_small k hsm hnm.2.1 hje hv.ok (by cases k <;> first | trivial | exact hk.2.2.ok.len)
  revert hrow X; k_fill; w_top on; intro X _
  with_reducible refine gen_tok tokV ?_
  intro tk0 htk0
  k_steps
  refine Or.inl ?_
  refine wpAny_call ?_
  refine step_u (x := x) (xt := xt) (l0 := l0) (t0 := t0) k ⟨B, by k_asm, X, by k_asm, T, by rfl, by rfl, by k_units, by k_units⟩ (by k_units) (by k_units) IL (by kln_le) hD I.hK hv.ok (fun so1 ls1 n71 Z1 IL1 hs1 hD1 => ?_)
  intro h1 gs1 dr1 tk1 hb1 F1 N1
  (try dsimp only)
  clear F N
  k_steps
  refine Or.inl ?_
  refine wpAny_call ?_
  refine lcall_u k ⟨⟨B, by k_asm, X, by k_asm, T, by rfl, by rfl, by k_units, by k_units⟩, XB, TB, D⟩ (by k_units) (by k_units) (I.mono hs1) (by kln_le) hD1 IL1.odd hv.ok hnm.2.2 (Nat.le_trans hnm.2.1 (by decide)) hje (by cases k <;> first | trivial | exact hk | exact ⟨hk.1, hk.2.2.ok⟩) (fun c' Z2 t' IW2 hs2 hD2 => ?_)
  intro g2 h2 gs2 dr2 tk2 hb2 T2 F2 N2 B2 X2 Tp2 D2
  rw [← ag1]
  (try dsimp only)
  cases hr : (stepL k v S).1
  all_goals rw [hr] at F2
  all_goals simp only [hr, if_true, if_false, Bool.false_eq_true] at hF
  · rw [toldS_f rfl]
    k_steps
    refine Or.inl ?_
    refine rest_tail k (by kernel_rfl!) B2 (fr_mS (by with_reducible assumption)) X2 (by k_asm) Tp2 hd1 hu1 IW2 (IL1.mono hs2) (Nat.succ_le_succ hb) ag2 hsm2 (fun h8 gs8 dr8 tk8 hb8 F8 N8 => ?_)
    exact hF c' Z2 so1 ls1 n71 g2 h8 gs8 dr8 _ _ _ IW2 (IL1.mono hs2) (fun p hp => hs2 p (hs1 p hp)) hD2 ag2 hsm2 T2 F8 N8 B2 X2 Tp2 D2 (fun hb => hb8 (hb2 (hb1 hb)))
  · rw [toldS_t rfl]
    k_steps
    refine Or.inl ?_
    refine rest_tail k (by kernel_rfl!) B2 (fr_mS (by with_reducible assumption)) X2 (by k_asm) Tp2 hd1 hu1 IW2 (IL1.mono hs2) (Nat.succ_le_succ hb) ag2 hsm2 (fun h8 gs8 dr8 tk8 hb8 F8 N8 => ?_)
    exact hF c' Z2 so1 ls1 n71 g2 h8 gs8 dr8 _ _ _ IW2 (IL1.mono hs2) (fun p hp => hs2 p (hs1 p hp)) hD2 ag2 hsm2 T2 F8 N8 B2 X2 Tp2 D2 (fun hb => hb8 (hb2 (hb1 hb)))
end
section
theorem InvW.up {w : World} {x dx f xt l cl l0 t0 : Addr} {W : WS} {c : Cf} {Z : List (Addr × Obj)} {b : Nat} (I : InvW w x dx f xt l cl l0 t0 W c Z b) : InvW w x dx f xt l cl l0 t0 W c Z (b + 1) :=
  ⟨I.hx, I.hz, I.hB, I.hK, I.txts.up, Nat.le_trans I.tl (by kln_le), I.tab, Nat.le_trans I.tabn (by kln_le), I.seen, I.done, I.pz, I.dz, I.nz, Nat.le_succ_of_le I.dep, I.sd⟩
theorem InvL.up {w : World} {st ll : Addr} {S : Lw} {so : Obj} {ls : Array Value} {Z : List (Addr × Obj)} {b : Nat} (I : InvL w st ll S so ls Z b) : InvL w st ll S so ls Z (b + 1) :=
  ⟨I.so, I.la, Nat.le_trans I.lan (by kln_le), Nat.le_trans I.hl (by kln_le), I.ha⟩
section
open PySem.Calls PySem.Spec
variable {w : World} {A : Around} {E : Value → Shared → Prop} {s : Shared} {g : Heap} {L I r : Addr} {m : Str → Option Value} {nz : List (Addr × Obj)}
theorem iter_range_K {n : Int} {t u v : Tok} {Q : Value → Shared → Prop} (F : Fr g L s.heap m) (N : News g L s.heap nz) (hr : IsRange s.heap r 0 n 1 t u v) (hsm : Builtin.Range.small 0 n 1 = true) (hn : Builtin.Range.rangeSize 0 n 1 = n)
    (h : ∀ I h', (∀ p ∈ nz, p.1 < I) → Fr g L h' m → News g L h' ((I, itR 0 n) :: nz) → Q (.ref I) { s with heap := h' }) : wpAny (model prg w) A (pyIter (.ref r)) Q E s := by
  refine wpAny_pyIter_range hr hsm ?_
  rw [hn]
  exact h _ _ (fun p hp => Heap.lt_size (N p hp).1) (F.push _) (News.push F N (itR 0 n) rfl)
theorem next_range_K {x left : Int} {Q : Option Value → Shared → Prop} (F : Fr g L s.heap m) (N : News g L s.heap ((I, itR x left) :: nz)) (off : ∀ p ∈ nz, p.1 ≠ I) (hl : 0 < left)
    (h : ∀ h' t tk', Fr g L h' m → News g L h' ((I, itR (x + 1) (left - 1)) :: nz) → Q (some (.int x t)) { s with heap := h', toks := tk' }) : wpAny (model prg w) A (pyNext (.ref I)) Q E s := by
  have nI := N _ (.head _)
  refine wpAny_pyNext_range_item nI.1 hl fun h' hit hs => h h' _ _ (F.change hs nI.2.1 nI.2.2) fun p hp => ?_
  rcases List.mem_cons.mp hp with rfl | hp
  · exact ⟨hit, nI.2⟩
  · exact ⟨hs.extBut _ _ (off p hp) (N p (.tail _ hp)).1, (N p (.tail _ hp)).2⟩
theorem end_range_K {x left : Int} {Q : Option Value → Shared → Prop} (hh : A.handled = none) (F : Fr g L s.heap m) (N : News g L s.heap ((I, itR x left) :: nz)) (off : ∀ p ∈ nz, p.1 ≠ I) (hl : left ≤ 0)
    (h : ∀ h', Fr g L h' m → News g L h' nz → Q none { s with heap := h' }) : wpAny (model prg w) A (pyNext (.ref I)) Q E s := by
  have nI := N _ (.head _)
  refine wpAny_pyNext_range_end hh nI.1 hl fun h' hs => h h' ?_ fun p hp => ⟨hs _ _ (off p hp) (N p (.tail _ hp)).1, (N p (.tail _ hp)).2⟩
  exact ⟨F.ns.at' fun o e => hs L o (Ne.symm nI.2.1) e, fun b o e => hs b o (fun q => by rw [q, nI.2.2] at e; cases e) (F.keep b o e), F.above⟩
end
noncomputable def sameW (k : Kd) (v nm : Str) (W : WS) : WS := if (callW k v nm W).1 then (callW k v nm W).2 else (callW k v nm (callW k v nm W).2).2
theorem callW_no {k : Kd} {v nm : Str} {W : WS} (h : (callW k v nm W).1 = false) : (callW k v nm W).2.dep = W.dep ∧ (callW k v nm W).2.seen = W.seen := by
  cases k with
  | txt => cases h
  | cmt => exact ⟨rfl, rfl⟩
  | ins => exact ⟨rfl, rfl⟩
  | fin =>
    have h2 : (seqP (flushP W.seen W.t) ([endS], true)).2 = false := h
    refine ⟨?_, rfl⟩
    show (if (seqP (flushP W.seen W.t) ([endS], true)).2 = true then W.dep - 1 else W.dep) = W.dep
    rw [h2, if_neg Bool.false_ne_true]
  | beg =>
    have h2 : (seqP (flushP W.seen W.t) ([Str.ofString "<" ++ Str.ofString "x", attrS v, Str.ofString ">"], true)).2 = false := h
    refine ⟨?_, ?_⟩
    · show (if (seqP (flushP W.seen W.t) ([Str.ofString "<" ++ Str.ofString "x", attrS v, Str.ofString ">"], true)).2 = true then W.dep + 1 else W.dep) = W.dep
      rw [h2, if_neg Bool.false_ne_true]
    · show (if (seqP (flushP W.seen W.t) ([Str.ofString "<" ++ Str.ofString "x", attrS v, Str.ofString ">"], true)).2 = true then true else W.seen) = W.seen
      rw [h2, if_neg Bool.false_ne_true]
noncomputable def HkOk (k : Kd) (v : Str) (W : WS) : Prop := match k with
  | .beg => W.done = false ∧ W.dep < 3 ∧ ValL v
  | .fin => 0 < W.dep
  | _ => True
theorem hk_no {k : Kd} {v nm : Str} {W : WS} (h : (callW k v nm W).1 = false) (hk : HkOk k v W) : HkOk k v (callW k v nm W).2 := by
  obtain ⟨e1, e2⟩ := callW_no h
  cases k with
  | txt => trivial
  | cmt => trivial
  | ins => trivial
  | fin => show 0 < (callW .fin v nm W).2.dep; rw [e1]; exact hk
  | beg =>
    refine ⟨?_, by rw [e1]; exact hk.2.1, hk.2.2⟩
    have := hk.1
    unfold WS.done at this ⊢
    rw [e1, e2]; exact this
theorem turn_ne : Str.ofString "told" ≠ Str.ofString "turn" ∧ Str.ofString "went" ≠ Str.ofString "turn" := by decide +kernel
section
variable {g hp : Heap} {L : Addr} {x xt st cl : Addr} {k : Kd} {v : Str} {t1 tv : Tok} {gr : Bool} {vT vG vU a : Option Value}
theorem fr_turn (F : Fr g L hp (fun y => if y = Str.ofString "turn" then a else mS x xt st cl k v t1 tv gr vT vG vU y)) : Fr g L hp (mS x xt st cl k v t1 tv gr vT vG a) := by
  have e : (fun y => if y = Str.ofString "turn" then a else mS x xt st cl k v t1 tv gr vT vG vU y) = mS x xt st cl k v t1 tv gr vT vG a := by
    funext y
    unfold mS
    by_cases h1 : y = Str.ofString "told"
    · rw [if_neg (fun z => turn_ne.1 (h1.symm.trans z)), if_pos h1, if_pos h1]
    · by_cases h2 : y = Str.ofString "went"
      · rw [if_neg (fun z => turn_ne.2 (h2.symm.trans z)), if_neg h1, if_pos h2, if_neg h1, if_pos h2]
      · by_cases h3 : y = Str.ofString "turn"
        · rw [if_pos h3, if_neg h1, if_neg h2, if_pos h3]
        · rw [if_neg h3, if_neg h1, if_neg h2, if_neg h3, if_neg h1, if_neg h2, if_neg h3]
  rw [e] at F; exact F
theorem fr_m0 (F : Fr g L hp (fun y => List.lookup y ([(Str.ofString "target", .ref x), (Str.ofString "table", .ref xt), (Str.ofString "state", .ref st), (Str.ofString "cell", .ref cl), (Str.ofString "what", .str k.s t1), (Str.ofString "text", .str v tv), (Str.ofString "great", .bool gr)] : List (Str × Value)).reverse)) : Fr g L hp (mS x xt st cl k v t1 tv gr none none none) := by
  have e : (fun y => List.lookup y ([(Str.ofString "target", .ref x), (Str.ofString "table", .ref xt), (Str.ofString "state", .ref st), (Str.ofString "cell", .ref cl), (Str.ofString "what", .str k.s t1), (Str.ofString "text", .str v tv), (Str.ofString "great", .bool gr)] : List (Str × Value)).reverse) = mS x xt st cl k v t1 tv gr none none none := by
    funext y
    unfold mS
    by_cases h1 : y = Str.ofString "told"
    · subst h1; rw [if_pos rfl]; kernel_rfl
    · by_cases h2 : y = Str.ofString "went"
      · subst h2; rw [if_neg h1, if_pos rfl]; kernel_rfl
      · by_cases h3 : y = Str.ofString "turn"
        · subst h3; rw [if_neg h1, if_neg h2, if_pos rfl]; kernel_rfl
        · rw [if_neg h1, if_neg h2, if_neg h3]
  rw [e] at F; exact F
end
theorem nmS_ok {S : Lw} {W : WS} {gr : Bool} (A : Agree S W) : Txt.lower (if gr then upD S.dep else lowD S.dep) = lowD W.dep ∧ (if gr then upD S.dep else lowD S.dep).length ≤ 1 ∧ nBad (if gr then upD S.dep else lowD S.dep) = false := by
  rw [A.dep]
  cases gr with
  | true => exact ⟨low_up _, up_small _⟩
  | false => exact ⟨low_low _, low_small _⟩
theorem turn_y (k : Kd) {w : World} {d u : Nat} {gd : Option (List Code)} {base g₁ : Heap} {outer : List Env} {env : Env} {L : Addr} {mean : ExcName → Option Value} {mg mb : Str → Option Value} {h : Heap} {g : Array GenState} {dr : Drawn} {tk : Tok} {os : OsState}
    {Q : Flow → Shared → Prop} {Er : Value → Shared → Prop} {x dx f dd ds dn dm dp xt l cl l0 t0 st ll : Addr} {ts : Nat → Tok} {so : Obj} {ls : Array Value} {n3 n7 b : Nat} {nm v : Str} {tn t1 tv : Tok} {c : Cf} {Z : List (Addr × Obj)} {W : WS} {S : Lw} {gr : Bool} {vT vG vU : Option Value}
    (B : Below (Ar d u gd env outer) base (env :: outer) g₁) (F : Fr g₁ L h (mS x xt st cl k v t1 tv gr vT vG vU)) (X : (K w.params).In g₁) (N : News g₁ L h ((dd, listOf c.its c.n1) :: (l, listOf c.hds c.n2) :: (cl, listOf #[.str nm tn] n3) :: (dx, wrD w ts f dd ds dn dm dp c.seen c.done) :: (dp, listOf c.pI c.n4) :: (ds, listOf c.dsI c.n5) :: (dn, listOf c.nsI c.n6) :: (123, tabObj c.ps) :: (st, so) :: (ll, listOf ls n7) :: Z)) (T : Top topProg LS mean mg mb g₁) (XB : (K w.params).In base) (TB : Top topProg LS mean mg mb base) (D : KtsDicts ((env :: outer).filterMap (·.frame)) g₁)
    (hd1 : d ≤ 650) (hu1 : u ≤ 290) (I : InvW w x dx f xt l cl l0 t0 W c Z b) (IL : InvL w st ll S so ls Z b) (hb : b ≤ 58) (hD : DisjL [dd, l, cl, dx, dp, ds, dn, 123, st, ll] Z) (A : Agree S W) (hv : TxtL v) (hk : match k with | .beg => W.done = false ∧ W.dep < 3 ∧ ValL v | .fin => 0 < W.dep | _ => True)
    (hsm : Small W.tab)
    (hF : ∀ c' Z' so' ls' n7' tn' g₁' h' gs' dr' tk' vT' vG', InvW w x dx f xt l cl l0 t0 (callW k v (if gr then upD S.dep else lowD S.dep) W).2 c' Z' (b + 1) → InvL w st ll (stepL k v S).2 so' ls' Z' (b + 1) → (∀ p ∈ Z, p ∈ Z') → DisjL [dd, l, cl, dx, dp, ds, dn, 123, st, ll] Z' → Agree (stepL k v S).2 (callW k v (if gr then upD S.dep else lowD S.dep) W).2 → (stepL k v S).1 = (callW k v (if gr then upD S.dep else lowD S.dep) W).1 → Small (callW k v (if gr then upD S.dep else lowD S.dep) W).2.tab → KtsTurn ((env :: outer).filterMap (·.frame)) g₁ g₁' →
      Fr g₁' L h' (mS x xt st cl k v t1 tv gr vT' vG' vU) → News g₁' L h' ((dd, listOf c'.its c'.n1) :: (l, listOf c'.hds c'.n2) :: (cl, listOf #[.str (if gr then upD S.dep else lowD S.dep) tn'] n3) :: (dx, wrD w ts f dd ds dn dm dp c'.seen c'.done) :: (dp, listOf c'.pI c'.n4) :: (ds, listOf c'.dsI c'.n5) :: (dn, listOf c'.nsI c'.n6) :: (123, tabObj c'.ps) :: (st, so') :: (ll, listOf ls' n7') :: Z') → Below (Ar d u gd env outer) base (env :: outer) g₁' → (K w.params).In g₁' → Top topProg LS mean mg mb g₁' → KtsDicts ((env :: outer).filterMap (·.frame)) g₁' → (AllBare g → AllBare gs') →
      Q (if (stepL k v S).1 then .ret (.bool true) else .next) ⟨h', gs', dr', tk', os⟩) :
    wpAny (model prg w) ((Ar d u gd env outer).deeper (envSm L)) (execs turnB (envSm L)) Q Er ⟨h, g, dr, tk, os⟩ := by
  have hnm := nmS_ok (gr := gr) A
  refine cell_y (W := W) (x := x) (xt := xt) (base := base) (l0 := l0) (t0 := t0) k F X N T IL hD (by rw [A.dep]; exact A.d3) fun h' tn' tk' F' N' => ?_
  exact rest_y k B F' X N' T XB TB D hd1 hu1 I IL hb hD A hv hk hnm hsm fun c' Z' so' ls' n7' g₁' h' gs' dr' tk' vT' vG' a1 a2 a3 a4 a5 a6 => hF c' Z' so' ls' n7' tn' g₁' h' gs' dr' tk' vT' vG' a1 a2 a3 a4 a5 (agree_step k A hnm.1 hv hk).1 a6
end
section
namespace NQ11
theorem hereQ11 : True := trivial
end NQ11
open NQ11
theorem odd_itR (x left : Int) : Odd (itR x left) := ⟨by intro h; injection h with h; exact absurd h (by decide), fun vs e t q => by
  have e2 : #[rawInt x, rawInt left, rawInt 1] = vs := by injection e
  subst e2
  simp [rawInt] at q⟩
theorem itR_nl (x left : Int) : (itR x left).cls ≠ .type "list" := by intro h; injection h with h; exact absurd h (by decide)
theorem InvW.cut {w : World} {x dx f xt l cl l0 t0 : Addr} {W : WS} {c : Cf} {Z Z0 : List (Addr × Obj)} {b : Nat} {g hp : Heap} {L : Addr} {led : List (Addr × Obj)} {as : List Addr} (I : InvW w x dx f xt l cl l0 t0 W c Z b)
    (hz0 : HandZ w Z0 f xt l cl) (hx0 : (x, instObj 150 dx) ∈ Z0) (h0 : ∀ p ∈ Z0, p ∈ offL as Z) (N : News g L hp led) (hZ : ∀ p ∈ Z, p ∈ led) (hT : ∀ a ∈ as, ∃ o, (a, o) ∈ led ∧ Odd o) (hL : ∀ a ∈ as, ∃ o, (a, o) ∈ led ∧ o.cls ≠ .type "list") : InvW w x dx f xt l cl l0 t0 W c (offL as Z) b := by
  have lst : ∀ {a : Addr} {its : Array Value} {n : Nat}, (a, listOf its n) ∈ Z → (a, listOf its n) ∈ offL as Z := fun {a its n} hm => offL_mem hm fun hq => by
    obtain ⟨o, ho, od⟩ := hL a hq
    have e := (N _ ho).1.symm.trans (N _ (hZ _ hm)).1
    have e2 : o = listOf its n := Option.some.inj e
    exact od (by rw [e2])
  refine ⟨h0 _ hx0, hz0.mono h0, ⟨?_, I.hB.pos, I.hB.sz, I.hB.at0, fun i a b => ?_⟩, cut_key N hZ hT I.hK, I.txts, I.tl, cut_pair N hZ hT I.tab, I.tabn, I.seen, I.done, I.pz, I.dz, I.nz, I.dep, I.sd⟩
  · obtain ⟨n', tx, tx', h1, h2⟩ := I.hB.is
    exact ⟨n', tx, tx', lst h1, cut_tup N hZ hT h2⟩
  · obtain ⟨a, k, e, hm⟩ := I.hB.more i a b
    exact ⟨a, k, e, lst hm⟩
theorem InvL.cut {w : World} {st ll : Addr} {S : Lw} {so : Obj} {ls : Array Value} {Z : List (Addr × Obj)} {b : Nat} {g hp : Heap} {L : Addr} {led : List (Addr × Obj)} {as : List Addr} (I : InvL w st ll S so ls Z b)
    (N : News g L hp led) (hZ : ∀ p ∈ Z, p ∈ led) (hT : ∀ a ∈ as, ∃ o, (a, o) ∈ led ∧ Odd o) : InvL w st ll S so ls (offL as Z) b := ⟨I.so, cut_laid N hZ hT I.la, I.lan, I.hl, I.ha⟩
theorem rowsQ110 : True := by
  k_with "exec For Name Call cons nil" => (fail_if_success fail_if_success have q := hereQ11); (k_here; refine hold_it ?_)
  k_with "pyIter ref" => (fail_if_success fail_if_success have q := hereQ11); (k_here; refine hold_it ?_)
  trivial
theorem same_binds (a0 a1 a2 a3 a4 a5 a6 : Value) : bindArgs (fnOf (Str.ofString "_law_same") (Str.ofString "_law_same") (fPar (stA 21)) (fBody (stA 21)) (fScope (stA 21)) .none .none .none (.str (Str.ofString "law_pe0292_01") 802) none (.ref 346) .none) ⟨[a0, a1, a2, a3, a4, a5, a6], []⟩ = pure [(Str.ofString "target", a0), (Str.ofString "table", a1), (Str.ofString "state", a2), (Str.ofString "cell", a3), (Str.ofString "what", a4), (Str.ofString "text", a5), (Str.ofString "great", a6)] := by kernel_rfl!
theorem same_y (k : Kd)
    {R : Result → Shared → Prop} {x dx f dd ds dn dm dp xt l cl l0 t0 st ll : Addr} {ts : Nat → Tok} {so : Obj} {ls : Array Value} {n3 n7 b : Nat} {nm v : Str} {tn t1 tv : Tok} {c : Cf} {Z : List (Addr × Obj)} {W : WS} {S : Lw} {gr : Bool}
    (cx : Ct w A₀ base h₀ outer env L m mean mg mb h ((dd, listOf c.its c.n1) :: (l, listOf c.hds c.n2) :: (cl, listOf #[.str nm tn] n3) :: (dx, wrD w ts f dd ds dn dm dp c.seen c.done) :: (dp, listOf c.pI c.n4) :: (ds, listOf c.dsI c.n5) :: (dn, listOf c.nsI c.n6) :: (123, tabObj c.ps) :: (st, so) :: (ll, listOf ls n7) :: Z) d u)
    (hd1 : d ≤ 640) (hu1 : u ≤ 280) (I : InvW w x dx f xt l cl l0 t0 W c Z b) (IL : InvL w st ll S so ls Z b) (hb : b ≤ 56) (hD : DisjL [dd, l, cl, dx, dp, ds, dn, 123, st, ll] Z) (A : Agree S W) (hv : TxtL v) (hk : match k with | .beg => W.done = false ∧ W.dep < 3 ∧ ValL v | .fin => 0 < W.dep | _ => True) (hsm : Small W.tab)
    (hF : ∀ c' Z' so' ls' n7' nm' tn' S', InvW w x dx f xt l cl l0 t0 (sameW k v (if gr then upD S.dep else lowD S.dep) W) c' Z' (b + 2) → InvL w st ll S' so' ls' Z' (b + 2) → DisjL [dd, l, cl, dx, dp, ds, dn, 123, st, ll] Z' → (∀ p ∈ Z, p ∈ Z') → Agree S' (sameW k v (if gr then upD S.dep else lowD S.dep) W) → Small (sameW k v (if gr then upD S.dep else lowD S.dep) W).tab → BackT w A₀ base outer mean mg mb g os h₀ L m ((dd, listOf c'.its c'.n1) :: (l, listOf c'.hds c'.n2) :: (cl, listOf #[.str nm' tn'] n3) :: (dx, wrD w ts f dd ds dn dm dp c'.seen c'.done) :: (dp, listOf c'.pI c'.n4) :: (ds, listOf c'.dsI c'.n5) :: (dn, listOf c'.nsI c'.n6) :: (123, tabObj c'.ps) :: (st, so') :: (ll, listOf ls' n7') :: Z') (.bool true) R) :
    codeAny (model prg w) (Ar d u gd env outer) (.call (.ref 347) ⟨[.ref x, .ref xt, .ref st, .ref cl, .str k.s t1, .str v tv, .bool gr], []⟩) R ⟨h, g, dr, tk, os⟩ := by
  obtain ⟨⟨B, F, X, N, T, hf, hke, hd, hu⟩, XB, TB, D⟩ := cx
  have XBc := XB
  have hrow : PySem.Challenge.rw_pe0292_01 = _ := rfl
  revert hrow X; k_fill; w_top on; intro X _
  refine' code_defT B F X N T XB TB D rfl hf hke ?k6 ?k7 ?k8 (BindsTo.of_eq (same_binds _ _ _ _ _ _ _)) ?kB ?_ ?c2 ?c3 ?c4 ?c5
  case k6 => k_is
  case k7 => k_is
  case k8 => k_room
  case kB => exact locs rfl
  case c5 => decide
  case c2 => exact rfl
  case c3 => exact rfl
  case c4 => exact rfl
  intro g' L' h' FG' F' N' B' X' T' D' l1
  replace F' : Fr g' L' h' (fun y => List.lookup y ([(Str.ofString "target", .ref x), (Str.ofString "table", .ref xt), (Str.ofString "state", .ref st), (Str.ofString "cell", .ref cl), (Str.ofString "what", .str k.s t1), (Str.ofString "text", .str v tv), (Str.ofString "great", .bool gr)] : List (Str × Value)).reverse) := F'
  (try dsimp only); (try ((with_reducible show wpAny _ _ _ _ _ _); k_fold))
  with_reducible refine gen_tok tokV ?_
  intro tk0 htk0
  k_steps
  refine Or.inl ?_
  refine owit_for ?_
  k_steps
  refine Or.inl ?_
  rename (IsRange _ _ _ _ _ _ _ _) => hrr
  refine iter_range_K (by k_asm) (by k_asm) hrr rfl (by decide) fun I1 h1 hI1 F1 N1 => ?_
  refine OwitAt.intro (OwitRest.succ ?_)
  have ofI : ∀ p ∈ ((dd, listOf c.its c.n1) :: (l, listOf c.hds c.n2) :: (cl, listOf #[.str nm tn] n3) :: (dx, wrD w ts f dd ds dn dm dp c.seen c.done) :: (dp, listOf c.pI c.n4) :: (ds, listOf c.dsI c.n5) :: (dn, listOf c.nsI c.n6) :: (123, tabObj c.ps) :: (st, so) :: (ll, listOf ls n7) :: Z : List (Addr × Obj)), p.1 ≠ I1 := fun p hp => Nat.ne_of_lt (hI1 p hp)
  refine next_range_K F1 N1 ofI (by decide) fun h2 t2 tk2 F2 N2 => ?_
  dsimp only [OwitTurn]
  refine storeX_L (fr_m0 F2) N2 (fun h3 F3 N3 => ?_)
  have nIa : ∀ b ∈ ([dd, l, cl, dx, dp, ds, dn, 123, st, ll] : List Addr), b ≠ I1 := List.forall_mem_cons.mpr ⟨(ofI _ (List.Mem.head _)), List.forall_mem_cons.mpr ⟨(ofI _ (.tail _ (List.Mem.head _))), List.forall_mem_cons.mpr ⟨(ofI _ (.tail _ (.tail _ (List.Mem.head _)))), List.forall_mem_cons.mpr ⟨(ofI _ (.tail _ (.tail _ (.tail _ (List.Mem.head _))))), List.forall_mem_cons.mpr ⟨(ofI _ (.tail _ (.tail _ (.tail _ (.tail _ (List.Mem.head _)))))), List.forall_mem_cons.mpr ⟨(ofI _ (.tail _ (.tail _ (.tail _ (.tail _ (.tail _ (List.Mem.head _))))))), List.forall_mem_cons.mpr ⟨(ofI _ (.tail _ (.tail _ (.tail _ (.tail _ (.tail _ (.tail _ (List.Mem.head _)))))))), List.forall_mem_cons.mpr ⟨(ofI _ (.tail _ (.tail _ (.tail _ (.tail _ (.tail _ (.tail _ (.tail _ (List.Mem.head _))))))))), List.forall_mem_cons.mpr ⟨(ofI _ (.tail _ (.tail _ (.tail _ (.tail _ (.tail _ (.tail _ (.tail _ (.tail _ (List.Mem.head _)))))))))), List.forall_mem_cons.mpr ⟨(ofI _ (.tail _ (.tail _ (.tail _ (.tail _ (.tail _ (.tail _ (.tail _ (.tail _ (.tail _ (List.Mem.head _))))))))))), fun _ h => nomatch h⟩⟩⟩⟩⟩⟩⟩⟩⟩⟩
  have offZ : ∀ p ∈ Z, p.1 ∉ ([I1] : List Addr) := fun p hp q => ofI p ((.tail _ (.tail _ (.tail _ (.tail _ (.tail _ (.tail _ (.tail _ (.tail _ (.tail _ (.tail _ hp))))))))))) (List.mem_singleton.mp q)
  refine turn_y (b := b) (base := base) k B' (fr_turn F3) X' (news_sub N3 (List.forall_mem_cons.mpr ⟨(.tail _ (List.Mem.head _)), List.forall_mem_cons.mpr ⟨(.tail _ (.tail _ (List.Mem.head _))), List.forall_mem_cons.mpr ⟨(.tail _ (.tail _ (.tail _ (List.Mem.head _)))), List.forall_mem_cons.mpr ⟨(.tail _ (.tail _ (.tail _ (.tail _ (List.Mem.head _))))), List.forall_mem_cons.mpr ⟨(.tail _ (.tail _ (.tail _ (.tail _ (.tail _ (List.Mem.head _)))))), List.forall_mem_cons.mpr ⟨(.tail _ (.tail _ (.tail _ (.tail _ (.tail _ (.tail _ (List.Mem.head _))))))), List.forall_mem_cons.mpr ⟨(.tail _ (.tail _ (.tail _ (.tail _ (.tail _ (.tail _ (.tail _ (List.Mem.head _)))))))), List.forall_mem_cons.mpr ⟨(.tail _ (.tail _ (.tail _ (.tail _ (.tail _ (.tail _ (.tail _ (.tail _ (List.Mem.head _))))))))), List.forall_mem_cons.mpr ⟨(.tail _ (.tail _ (.tail _ (.tail _ (.tail _ (.tail _ (.tail _ (.tail _ (.tail _ (List.Mem.head _)))))))))), List.forall_mem_cons.mpr ⟨(.tail _ (.tail _ (.tail _ (.tail _ (.tail _ (.tail _ (.tail _ (.tail _ (.tail _ (.tail _ (List.Mem.head _))))))))))), List.forall_mem_cons.mpr ⟨(List.Mem.head _), fun p hp => (.tail _ (.tail _ (.tail _ (.tail _ (.tail _ (.tail _ (.tail _ (.tail _ (.tail _ (.tail _ (.tail _ hp)))))))))))⟩⟩⟩⟩⟩⟩⟩⟩⟩⟩⟩)) T' XB TB D' (by kln_le) (by kln_le) (I.mono fun p hp => .tail _ hp) (IL.mono fun p hp => .tail _ hp) (by kln_le) (hD.cons nIa) A hv hk hsm ?_
  intro c1 Z1 so1 ls1 n71 tn1 g2 h4 gs4 dr4 tk4 vT1 vG1 IW1 IL1 hs1 hD1 A1 e1 sm1 T2 F4 N4 B2 X2 Tp2 D2 hb4
  have inI : (I1, itR (0 + 1) (2 - 1)) ∈ Z1 := hs1 _ (.head _)
  have inZ1 : ∀ p ∈ Z1, p ∈ ((dd, listOf c1.its c1.n1) :: (l, listOf c1.hds c1.n2) :: (cl, listOf #[.str (if gr then upD S.dep else lowD S.dep) tn1] n3) :: (dx, wrD w ts f dd ds dn dm dp c1.seen c1.done) :: (dp, listOf c1.pI c1.n4) :: (ds, listOf c1.dsI c1.n5) :: (dn, listOf c1.nsI c1.n6) :: (123, tabObj c1.ps) :: (st, so1) :: (ll, listOf ls1 n71) :: Z1 : List (Addr × Obj)) := fun p hp => by
    iterate 10 (refine List.mem_cons_of_mem _ ?_)
    exact hp
  have hT1 : ∀ a ∈ ([I1] : List Addr), ∃ o, (a, o) ∈ ((dd, listOf c1.its c1.n1) :: (l, listOf c1.hds c1.n2) :: (cl, listOf #[.str (if gr then upD S.dep else lowD S.dep) tn1] n3) :: (dx, wrD w ts f dd ds dn dm dp c1.seen c1.done) :: (dp, listOf c1.pI c1.n4) :: (ds, listOf c1.dsI c1.n5) :: (dn, listOf c1.nsI c1.n6) :: (123, tabObj c1.ps) :: (st, so1) :: (ll, listOf ls1 n71) :: Z1 : List (Addr × Obj)) ∧ Odd o := List.forall_mem_cons.mpr ⟨⟨_, inZ1 _ inI, odd_itR _ _⟩, fun _ h => nomatch h⟩
  have hL1 : ∀ a ∈ ([I1] : List Addr), ∃ o, (a, o) ∈ ((dd, listOf c1.its c1.n1) :: (l, listOf c1.hds c1.n2) :: (cl, listOf #[.str (if gr then upD S.dep else lowD S.dep) tn1] n3) :: (dx, wrD w ts f dd ds dn dm dp c1.seen c1.done) :: (dp, listOf c1.pI c1.n4) :: (ds, listOf c1.dsI c1.n5) :: (dn, listOf c1.nsI c1.n6) :: (123, tabObj c1.ps) :: (st, so1) :: (ll, listOf ls1 n71) :: Z1 : List (Addr × Obj)) ∧ o.cls ≠ .type "list" := List.forall_mem_cons.mpr ⟨⟨_, inZ1 _ inI, itR_nl _ _⟩, fun _ h => nomatch h⟩
  have off1 : ∀ p ∈ Z, p ∈ offL [I1] Z1 := fun p hp => offL_mem (hs1 p (.tail _ hp)) (offZ p hp)
  have IWc := IW1.cut I.hz I.hx off1 N4 inZ1 hT1 hL1
  have ILc := IL1.cut N4 inZ1 hT1
  have hDc : DisjL [dd, l, cl, dx, dp, ds, dn, 123, st, ll] (offL [I1] Z1) := hD1.swap fun p hp => hD1.off p (offL_sub hp)
  have N5 : News g2 L' h4 ((I1, itR (0 + 1) (2 - 1)) :: (dd, listOf c1.its c1.n1) :: (l, listOf c1.hds c1.n2) :: (cl, listOf #[.str (if gr then upD S.dep else lowD S.dep) tn1] n3) :: (dx, wrD w ts f dd ds dn dm dp c1.seen c1.done) :: (dp, listOf c1.pI c1.n4) :: (ds, listOf c1.dsI c1.n5) :: (dn, listOf c1.nsI c1.n6) :: (123, tabObj c1.ps) :: (st, so1) :: (ll, listOf ls1 n71) :: offL [I1] Z1) := news_sub N4 (List.forall_mem_cons.mpr ⟨(inZ1 _ inI), List.forall_mem_cons.mpr ⟨(List.Mem.head _), List.forall_mem_cons.mpr ⟨(.tail _ (List.Mem.head _)), List.forall_mem_cons.mpr ⟨(.tail _ (.tail _ (List.Mem.head _))), List.forall_mem_cons.mpr ⟨(.tail _ (.tail _ (.tail _ (List.Mem.head _)))), List.forall_mem_cons.mpr ⟨(.tail _ (.tail _ (.tail _ (.tail _ (List.Mem.head _))))), List.forall_mem_cons.mpr ⟨(.tail _ (.tail _ (.tail _ (.tail _ (.tail _ (List.Mem.head _)))))), List.forall_mem_cons.mpr ⟨(.tail _ (.tail _ (.tail _ (.tail _ (.tail _ (.tail _ (List.Mem.head _))))))), List.forall_mem_cons.mpr ⟨(.tail _ (.tail _ (.tail _ (.tail _ (.tail _ (.tail _ (.tail _ (List.Mem.head _)))))))), List.forall_mem_cons.mpr ⟨(.tail _ (.tail _ (.tail _ (.tail _ (.tail _ (.tail _ (.tail _ (.tail _ (List.Mem.head _))))))))), List.forall_mem_cons.mpr ⟨(.tail _ (.tail _ (.tail _ (.tail _ (.tail _ (.tail _ (.tail _ (.tail _ (.tail _ (List.Mem.head _)))))))))), fun p hp => (.tail _ (.tail _ (.tail _ (.tail _ (.tail _ (.tail _ (.tail _ (.tail _ (.tail _ (.tail _ (offL_sub hp)))))))))))⟩⟩⟩⟩⟩⟩⟩⟩⟩⟩⟩)
  cases hr : (stepL k v S).1 with
  | true =>
    rw [hr] at e1
    have H := hF c1 (offL [I1] Z1) so1 ls1 n71 (if gr then upD S.dep else lowD S.dep) tn1 (stepL k v S).2
    unfold sameW at H
    rw [← e1] at H
    rw [if_pos rfl]
    dsimp only [OwitFlow]
    exact leaveT_ F4 N5 T2 fun _ T9 F9 N9 B9 X9 Tp9 D9 => H IWc.up ILc.up hDc off1 A1 sm1 _ _ _ _ _ (fun hb => hb4 hb) T9 F9 (news_sub N9 fun p hp => .tail _ hp) B9 X9 Tp9 D9
  | false =>
    rw [hr] at e1
    rw [if_neg Bool.false_ne_true]
    dsimp only [OwitFlow]
    refine OwitRest.succ ?_
    have ofI1 : ∀ p ∈ ((dd, listOf c1.its c1.n1) :: (l, listOf c1.hds c1.n2) :: (cl, listOf #[.str (if gr then upD S.dep else lowD S.dep) tn1] n3) :: (dx, wrD w ts f dd ds dn dm dp c1.seen c1.done) :: (dp, listOf c1.pI c1.n4) :: (ds, listOf c1.dsI c1.n5) :: (dn, listOf c1.nsI c1.n6) :: (123, tabObj c1.ps) :: (st, so1) :: (ll, listOf ls1 n71) :: offL [I1] Z1 : List (Addr × Obj)), p.1 ≠ I1 := List.forall_mem_cons.mpr ⟨(nIa _ (List.Mem.head _)), List.forall_mem_cons.mpr ⟨(nIa _ (.tail _ (List.Mem.head _))), List.forall_mem_cons.mpr ⟨(nIa _ (.tail _ (.tail _ (List.Mem.head _)))), List.forall_mem_cons.mpr ⟨(nIa _ (.tail _ (.tail _ (.tail _ (List.Mem.head _))))), List.forall_mem_cons.mpr ⟨(nIa _ (.tail _ (.tail _ (.tail _ (.tail _ (List.Mem.head _)))))), List.forall_mem_cons.mpr ⟨(nIa _ (.tail _ (.tail _ (.tail _ (.tail _ (.tail _ (List.Mem.head _))))))), List.forall_mem_cons.mpr ⟨(nIa _ (.tail _ (.tail _ (.tail _ (.tail _ (.tail _ (.tail _ (List.Mem.head _)))))))), List.forall_mem_cons.mpr ⟨(nIa _ (.tail _ (.tail _ (.tail _ (.tail _ (.tail _ (.tail _ (.tail _ (List.Mem.head _))))))))), List.forall_mem_cons.mpr ⟨(nIa _ (.tail _ (.tail _ (.tail _ (.tail _ (.tail _ (.tail _ (.tail _ (.tail _ (List.Mem.head _)))))))))), List.forall_mem_cons.mpr ⟨(nIa _ (.tail _ (.tail _ (.tail _ (.tail _ (.tail _ (.tail _ (.tail _ (.tail _ (.tail _ (List.Mem.head _))))))))))), fun p hp => fun q => offL_not hp (List.mem_singleton.mpr q)⟩⟩⟩⟩⟩⟩⟩⟩⟩⟩
    refine next_range_K F4 N5 ofI1 (by decide) fun h6 t6 tk6 F6 N6 => ?_
    dsimp only [OwitTurn]
    refine storeX_L F6 N6 (fun h7 F7 N7 => ?_)
    have hdp : (stepL k v S).2.dep = S.dep := by rw [A1.dep, (callW_no e1.symm).1, A.dep]
    refine turn_y (b := b + 1) (base := base) k B2 (fr_turn F7) X2 (news_sub N7 (List.forall_mem_cons.mpr ⟨(.tail _ (List.Mem.head _)), List.forall_mem_cons.mpr ⟨(.tail _ (.tail _ (List.Mem.head _))), List.forall_mem_cons.mpr ⟨(.tail _ (.tail _ (.tail _ (List.Mem.head _)))), List.forall_mem_cons.mpr ⟨(.tail _ (.tail _ (.tail _ (.tail _ (List.Mem.head _))))), List.forall_mem_cons.mpr ⟨(.tail _ (.tail _ (.tail _ (.tail _ (.tail _ (List.Mem.head _)))))), List.forall_mem_cons.mpr ⟨(.tail _ (.tail _ (.tail _ (.tail _ (.tail _ (.tail _ (List.Mem.head _))))))), List.forall_mem_cons.mpr ⟨(.tail _ (.tail _ (.tail _ (.tail _ (.tail _ (.tail _ (.tail _ (List.Mem.head _)))))))), List.forall_mem_cons.mpr ⟨(.tail _ (.tail _ (.tail _ (.tail _ (.tail _ (.tail _ (.tail _ (.tail _ (List.Mem.head _))))))))), List.forall_mem_cons.mpr ⟨(.tail _ (.tail _ (.tail _ (.tail _ (.tail _ (.tail _ (.tail _ (.tail _ (.tail _ (List.Mem.head _)))))))))), List.forall_mem_cons.mpr ⟨(.tail _ (.tail _ (.tail _ (.tail _ (.tail _ (.tail _ (.tail _ (.tail _ (.tail _ (.tail _ (List.Mem.head _))))))))))), List.forall_mem_cons.mpr ⟨(List.Mem.head _), fun p hp => (.tail _ (.tail _ (.tail _ (.tail _ (.tail _ (.tail _ (.tail _ (.tail _ (.tail _ (.tail _ (.tail _ hp)))))))))))⟩⟩⟩⟩⟩⟩⟩⟩⟩⟩⟩)) Tp2 XB TB D2 (by kln_le) (by kln_le) (IWc.mono fun p hp => .tail _ hp) (ILc.mono fun p hp => .tail _ hp) (by kln_le) (hDc.cons nIa) A1 hv (hk_no e1.symm hk) sm1 ?_
    rw [hdp]
    intro c2 Z2 so2 ls2 n72 tn2 g3 h8 gs8 dr8 tk8 vT2 vG2 IW2 IL2 hs2 hD2 A2 e2 sm2 T3 F8 N8 B3 X3 Tp3 D3 hb8
    have inI2 : (I1, itR (0 + 1 + 1) (2 - 1 - 1)) ∈ Z2 := hs2 _ (.head _)
    have inZ2 : ∀ p ∈ Z2, p ∈ ((dd, listOf c2.its c2.n1) :: (l, listOf c2.hds c2.n2) :: (cl, listOf #[.str (if gr then upD S.dep else lowD S.dep) tn2] n3) :: (dx, wrD w ts f dd ds dn dm dp c2.seen c2.done) :: (dp, listOf c2.pI c2.n4) :: (ds, listOf c2.dsI c2.n5) :: (dn, listOf c2.nsI c2.n6) :: (123, tabObj c2.ps) :: (st, so2) :: (ll, listOf ls2 n72) :: Z2 : List (Addr × Obj)) := fun p hp => by
      iterate 10 (refine List.mem_cons_of_mem _ ?_)
      exact hp
    have hT2 : ∀ a ∈ ([I1] : List Addr), ∃ o, (a, o) ∈ ((dd, listOf c2.its c2.n1) :: (l, listOf c2.hds c2.n2) :: (cl, listOf #[.str (if gr then upD S.dep else lowD S.dep) tn2] n3) :: (dx, wrD w ts f dd ds dn dm dp c2.seen c2.done) :: (dp, listOf c2.pI c2.n4) :: (ds, listOf c2.dsI c2.n5) :: (dn, listOf c2.nsI c2.n6) :: (123, tabObj c2.ps) :: (st, so2) :: (ll, listOf ls2 n72) :: Z2 : List (Addr × Obj)) ∧ Odd o := List.forall_mem_cons.mpr ⟨⟨_, inZ2 _ inI2, odd_itR _ _⟩, fun _ h => nomatch h⟩
    have hL2 : ∀ a ∈ ([I1] : List Addr), ∃ o, (a, o) ∈ ((dd, listOf c2.its c2.n1) :: (l, listOf c2.hds c2.n2) :: (cl, listOf #[.str (if gr then upD S.dep else lowD S.dep) tn2] n3) :: (dx, wrD w ts f dd ds dn dm dp c2.seen c2.done) :: (dp, listOf c2.pI c2.n4) :: (ds, listOf c2.dsI c2.n5) :: (dn, listOf c2.nsI c2.n6) :: (123, tabObj c2.ps) :: (st, so2) :: (ll, listOf ls2 n72) :: Z2 : List (Addr × Obj)) ∧ o.cls ≠ .type "list" := List.forall_mem_cons.mpr ⟨⟨_, inZ2 _ inI2, itR_nl _ _⟩, fun _ h => nomatch h⟩
    have off2 : ∀ p ∈ Z, p ∈ offL [I1] Z2 := fun p hp => offL_mem (hs2 p (.tail _ (off1 p hp))) (offZ p hp)
    have IWd := IW2.cut I.hz I.hx off2 N8 inZ2 hT2 hL2
    have ILd := IL2.cut N8 inZ2 hT2
    have hDd : DisjL [dd, l, cl, dx, dp, ds, dn, 123, st, ll] (offL [I1] Z2) := hD2.swap fun p hp => hD2.off p (offL_sub hp)
    have N9 : News g3 L' h8 ((I1, itR (0 + 1 + 1) (2 - 1 - 1)) :: (dd, listOf c2.its c2.n1) :: (l, listOf c2.hds c2.n2) :: (cl, listOf #[.str (if gr then upD S.dep else lowD S.dep) tn2] n3) :: (dx, wrD w ts f dd ds dn dm dp c2.seen c2.done) :: (dp, listOf c2.pI c2.n4) :: (ds, listOf c2.dsI c2.n5) :: (dn, listOf c2.nsI c2.n6) :: (123, tabObj c2.ps) :: (st, so2) :: (ll, listOf ls2 n72) :: offL [I1] Z2) := news_sub N8 (List.forall_mem_cons.mpr ⟨(inZ2 _ inI2), List.forall_mem_cons.mpr ⟨(List.Mem.head _), List.forall_mem_cons.mpr ⟨(.tail _ (List.Mem.head _)), List.forall_mem_cons.mpr ⟨(.tail _ (.tail _ (List.Mem.head _))), List.forall_mem_cons.mpr ⟨(.tail _ (.tail _ (.tail _ (List.Mem.head _)))), List.forall_mem_cons.mpr ⟨(.tail _ (.tail _ (.tail _ (.tail _ (List.Mem.head _))))), List.forall_mem_cons.mpr ⟨(.tail _ (.tail _ (.tail _ (.tail _ (.tail _ (List.Mem.head _)))))), List.forall_mem_cons.mpr ⟨(.tail _ (.tail _ (.tail _ (.tail _ (.tail _ (.tail _ (List.Mem.head _))))))), List.forall_mem_cons.mpr ⟨(.tail _ (.tail _ (.tail _ (.tail _ (.tail _ (.tail _ (.tail _ (List.Mem.head _)))))))), List.forall_mem_cons.mpr ⟨(.tail _ (.tail _ (.tail _ (.tail _ (.tail _ (.tail _ (.tail _ (.tail _ (List.Mem.head _))))))))), List.forall_mem_cons.mpr ⟨(.tail _ (.tail _ (.tail _ (.tail _ (.tail _ (.tail _ (.tail _ (.tail _ (.tail _ (List.Mem.head _)))))))))), fun p hp => (.tail _ (.tail _ (.tail _ (.tail _ (.tail _ (.tail _ (.tail _ (.tail _ (.tail _ (.tail _ (offL_sub hp)))))))))))⟩⟩⟩⟩⟩⟩⟩⟩⟩⟩⟩)
    have H := hF c2 (offL [I1] Z2) so2 ls2 n72 (if gr then upD S.dep else lowD S.dep) tn2 (stepL k v (stepL k v S).2).2
    unfold sameW at H
    rw [← e1] at H
    rw [if_neg Bool.false_ne_true] at H
    have T23 := T2.trans T3
    cases hr2 : (stepL k v (stepL k v S).2).1 with
    | true =>
      rw [if_pos rfl]
      dsimp only [OwitFlow]
      exact leaveT_ F8 N9 T23 fun _ T9 F9 N9 B9 X9 Tp9 D9 => H IWd ILd hDd off2 A2 sm2 _ _ _ _ _ (fun hb => hb8 (hb4 hb)) T9 F9 (news_sub N9 fun p hp => .tail _ hp) B9 X9 Tp9 D9
    | false =>
      rw [if_neg Bool.false_ne_true]
      dsimp only [OwitFlow]
      refine OwitRest.succ ?_
      have ofI2 : ∀ p ∈ ((dd, listOf c2.its c2.n1) :: (l, listOf c2.hds c2.n2) :: (cl, listOf #[.str (if gr then upD S.dep else lowD S.dep) tn2] n3) :: (dx, wrD w ts f dd ds dn dm dp c2.seen c2.done) :: (dp, listOf c2.pI c2.n4) :: (ds, listOf c2.dsI c2.n5) :: (dn, listOf c2.nsI c2.n6) :: (123, tabObj c2.ps) :: (st, so2) :: (ll, listOf ls2 n72) :: offL [I1] Z2 : List (Addr × Obj)), p.1 ≠ I1 := List.forall_mem_cons.mpr ⟨(nIa _ (List.Mem.head _)), List.forall_mem_cons.mpr ⟨(nIa _ (.tail _ (List.Mem.head _))), List.forall_mem_cons.mpr ⟨(nIa _ (.tail _ (.tail _ (List.Mem.head _)))), List.forall_mem_cons.mpr ⟨(nIa _ (.tail _ (.tail _ (.tail _ (List.Mem.head _))))), List.forall_mem_cons.mpr ⟨(nIa _ (.tail _ (.tail _ (.tail _ (.tail _ (List.Mem.head _)))))), List.forall_mem_cons.mpr ⟨(nIa _ (.tail _ (.tail _ (.tail _ (.tail _ (.tail _ (List.Mem.head _))))))), List.forall_mem_cons.mpr ⟨(nIa _ (.tail _ (.tail _ (.tail _ (.tail _ (.tail _ (.tail _ (List.Mem.head _)))))))), List.forall_mem_cons.mpr ⟨(nIa _ (.tail _ (.tail _ (.tail _ (.tail _ (.tail _ (.tail _ (.tail _ (List.Mem.head _))))))))), List.forall_mem_cons.mpr ⟨(nIa _ (.tail _ (.tail _ (.tail _ (.tail _ (.tail _ (.tail _ (.tail _ (.tail _ (List.Mem.head _)))))))))), List.forall_mem_cons.mpr ⟨(nIa _ (.tail _ (.tail _ (.tail _ (.tail _ (.tail _ (.tail _ (.tail _ (.tail _ (.tail _ (List.Mem.head _))))))))))), fun p hp => fun q => offL_not hp (List.mem_singleton.mpr q)⟩⟩⟩⟩⟩⟩⟩⟩⟩⟩
      refine end_range_K rfl F8 N9 ofI2 (by decide) fun h10 F10 N10 => ?_
      dsimp only [OwitTurn]
      k_steps
      exact leaveT_ (by k_asm) N10 T23 fun _ T9 F9 N9 B9 X9 Tp9 D9 => H IWd ILd hDd off2 A2 sm2 _ _ _ _ _ (fun hb => hb8 (hb4 hb)) T9 F9 N9 B9 X9 Tp9 D9
end
section
namespace NH1
theorem hereH1 : True := trivial
end NH1
open NH1
theorem rowsH10 : True := by
  k_with "exec For Tuple Name cons nil" => (fail_if_success fail_if_success have q := hereH1); (k_here; k_dflt (refine for_empty (by k_asm) ?_))
  k_with "ForEmpty" => (fail_if_success fail_if_success have q := hereH1); (k_here; k_dflt (refine ⟨_, _, _, _, rfl, rfl, by k_asm, by k_asm, by k_mem, fun h'ₓ tkₓ F'ₓ N'ₓ => ?_⟩))
  trivial
theorem hd_y {news : List (Addr × Obj)}
    {R : Result → Shared → Prop} {x dx : Addr}
    (cx : Cy w A₀ base h₀ outer env L m mean mg mb h ((x, instObj 312 dx) :: (dx, dictOf [] 0) :: news) d u)
    (hne : @LT.lt Nat _ dx x) (hdx : ∀ p ∈ news, p.1 < dx)
    (hF : ∀ l th, @LT.lt Nat _ x l → BackY g os h₀ L m ((l, listOf #[] 0) :: (x, instObj 312 dx) :: (dx, tabD w l th) :: news) .none R) :
    codeAny (model prg w) (Ar d u gd env outer) (.call (.ref 206) ⟨[.ref x], []⟩) R ⟨h, g, dr, tk, os⟩ := by
  obtain ⟨B, F, X, N, T, hf, hke, hd, hu⟩ := cx
  have hrow : PySem.Challenge.rw_pe0292_01 = _ := rfl
  revert hrow X; k_fill; w_top on; intro X _
  refine' code_def B F X N T rfl hf hke ?k6 ?k7 ?k8 (?k9) ?kB ?_ ?c2 ?c3 ?c4 ?c5
  case k6 => k_is
  case k7 => k_is
  case k8 => k_room
  case k9 => exact binds_K (by k_in) rfl (by k_is) rfl rfl rfl
  case kB => exact locs rfl
  case c5 => decide
  case c2 => exact rfl
  case c3 => exact rfl
  case c4 => exact rfl
  intro g' L' h' FG' F' N' B' X' T'
  (try dsimp only); (try ((with_reducible show wpAny _ _ _ _ _ _); k_fold))
  with_reducible refine gen_tok tokV ?_
  intro tk0 htk0
  k_steps
  refine hF _ _ ?_ _ _ _ _ id (by k_asm) (by k_asm)
  kln_le
end
section
namespace NH3
theorem hereH3 : True := trivial
end NH3
open NH3
set_option backward.match.sparseCases false in
noncomputable def whlBody : Stmt → List Stmt
  | .While _ b _ _ => b
  | _ => []
set_option backward.match.sparseCases false in
noncomputable def whlTest : Stmt → Expr
  | .While t _ _ _ => t
  | _ => .Tuple [] 0 ⟨0, 0, 0, 0⟩
noncomputable abbrev runW : Stmt := nth (fBody (stA 22)) 5
noncomputable abbrev runB : List Stmt := whlBody runW
noncomputable abbrev runT : Expr := whlTest runW
noncomputable abbrev envR (L : Addr) : Env := envOfC (Str.ofString "_law_run") (fScope (stA 22)) L 352 (.ref 351)
noncomputable abbrev mR (L st x cs : Addr) (P Wt Tx : Option Value) : Str → Option Value := fun y => if y = Str.ofString "text" then Tx else if y = Str.ofString "what" then Wt else if y = Str.ofString "place" then P else if y = Str.ofString "state" then some (.ref st) else if y = Str.ofString "target" then some (.ref x) else bindL (envR L).kindOf [(Str.ofString "calls", .ref cs)] (fun _ => none) y
noncomputable def CallAre (Z : List (Addr × Obj)) (its : List Value) (ks : List (Kd × Str)) : Prop := All2 (fun (e : Kd × Str) v => ∃ q a u, v = Value.ref q ∧ (q, tupO (.str e.1.s a) (.str e.2 u)) ∈ Z) ks its
structure RunZ (L cs xt cl : Addr) (its : Array Value) (n : Nat) (ks : List (Kd × Str)) (Z : List (Addr × Obj)) : Prop where
  c1 : ∃ o, (L + 1 + 1 + 1, o) ∈ Z ∧ o.data = .cell (some (.ref xt))
  c2 : ∃ o, (L + 1 + 1, o) ∈ Z ∧ o.data = .cell (some (.ref cl))
  c3 : ∃ o, (L + 1, o) ∈ Z ∧ o.data = .cell none
  cs : (cs, listOf its n) ∈ Z
  are : CallAre Z its.toList ks
theorem RunZ.mono {L cs xt cl : Addr} {its : Array Value} {n : Nat} {ks : List (Kd × Str)} {Z Z' : List (Addr × Obj)} (R : RunZ L cs xt cl its n ks Z) (hs : ∀ p ∈ Z, p ∈ Z') : RunZ L cs xt cl its n ks Z' :=
  ⟨let ⟨o, a, b⟩ := R.c1; ⟨o, hs _ a, b⟩, let ⟨o, a, b⟩ := R.c2; ⟨o, hs _ a, b⟩, let ⟨o, a, b⟩ := R.c3; ⟨o, hs _ a, b⟩, hs _ R.cs, forall2_mono (fun _ _ ⟨q, a, u, e, m⟩ => ⟨q, a, u, e, hs _ m⟩) R.are⟩
theorem CallAre.at {Z : List (Addr × Obj)} {its : List Value} {ks : List (Kd × Str)} (H : CallAre Z its ks) {i : Nat} {e : Kd × Str} (h : ks[i]? = some e) : ∃ q a u, its[i]? = some (.ref q) ∧ (q, tupO (.str e.1.s a) (.str e.2 u)) ∈ Z := by
  unfold CallAre at H
  induction H generalizing i with
  | nil => simp at h
  | cons p _ ih =>
    cases i with
    | zero =>
      simp only [List.getElem?_cons_zero, Option.some.injEq] at h
      subst h
      obtain ⟨q, a, u, e, m⟩ := p
      exact ⟨q, a, u, by simp [e], m⟩
    | succ i =>
      simp only [List.getElem?_cons_succ] at h ⊢
      exact ih h
noncomputable def nextK (ks : List (Kd × Str)) (i : Nat) (S : Lw) : Kd × Str := match ks[i]? with
  | some e => e
  | none => if S.seen then (.fin, Str.ofString "") else (.beg, Str.ofString "")
theorem calls_item {w : World} {A : Around} {E : Value → Shared → Prop} {s : Shared} {h₀ : Heap} {L D : Addr} {led : List (Addr × Obj)} {its : Array Value} {n i : Nat} {u : Tok} {v : Value} {Q : Value → Shared → Prop} {value slice : Expr} (N : News h₀ L s.heap led) (hm : (D, listOf its n) ∈ led) (hi : its[i]? = some v) (hfit : i < 1000) (h : Q v s)
    (hs : subscripted slice false (.ref D) (.int (i : Int) u) = operate [.ref D, .int (i : Int) u] (getItem (.ref D) (.int (i : Int) u)) := by with_unfolding_all rfl) :
    wpAny (model prg w) A (subscriptTail value slice (.ref D) (.int (i : Int) u)) Q E s := by
  have hl : s.heap.IsList D its := ⟨_, (N _ hm).1, rfl, n, rfl⟩
  exact tail_any hl.typeIs slot_list_getitem.lookup (wpAny_getItem_list hl (by kln_le) (by kln_le) (x := v) (by simpa using hi) h) hs
theorem fr_of {g hp : Heap} {L : Addr} {m m' : Str → Option Value} (F : Fr g L hp m) (e : ∀ y, m y = m' y) : Fr g L hp m' := by
  have : m = m' := funext e
  subst this; exact F
theorem mr_ne : Str.ofString "text" ≠ Str.ofString "what" ∧ Str.ofString "text" ≠ Str.ofString "place" ∧ Str.ofString "what" ≠ Str.ofString "place" := by decide +kernel
theorem rowsH30 : True := by
  k_with "ke_shaped" => (fail_if_success fail_if_success have q := hereH3); (intro yₓ; dsimp only [mR]; (by_cases q1 : yₓ = Str.ofString "text"); (case pos => ((have q2 : yₓ ≠ Str.ofString "what" := fun zₓ => mr_ne.1 (q1.symm.trans zₓ)); (have q3 : yₓ ≠ Str.ofString "place" := fun zₓ => mr_ne.2.1 (q1.symm.trans zₓ)); ((simp only [if_pos q1, if_neg q2, if_neg q3]); (try rfl)))); (case neg => ((by_cases q2 : yₓ = Str.ofString "what"); (case pos => ((have q3 : yₓ ≠ Str.ofString "place" := fun zₓ => mr_ne.2.2 (q2.symm.trans zₓ)); ((simp only [if_pos q2, if_neg q1, if_neg q3]); (try rfl)))); (case neg => ((by_cases q3 : yₓ = Str.ofString "place"); (case pos => (((simp only [if_pos q3, if_neg q2, if_neg q1]); (try rfl)))); (case neg => (simp only [if_neg q3, if_neg q2, if_neg q1])))))))
  k_with "call builtin:len" => (fail_if_success fail_if_success have q := hereH3); (k_here; (with_reducible show wpAny _ _ (call (Value.builtin "len") [Value.ref _]) _ _ _); (with_reducible refine KM.len_K (by k_asm) (by first | assumption | exact List.mem_cons_of_mem _ (by assumption)) (by assumption) (by kln_le) ?_))
  k_with "subscriptTail Name Name ref int" => (fail_if_success fail_if_success have q := hereH3); (k_here; refine hold_it ?_)
  k_with "execs cons" => (fail_if_success fail_if_success have q := hereH3); (k_here; (with_reducible show wpAny _ _ (execs (Stmt.If (Expr.BoolOp BoolOp.And _ _) _ _ _ :: _) _) _ _ _); refine hold_it ?_)
  trivial
theorem pick_y {w : World} {d u : Nat} {gd : Option (List Code)} {base g₁ : Heap} {outer : List Env} {env : Env} {L : Addr} {mean : ExcName → Option Value} {mg mb : Str → Option Value} {h : Heap} {g : Array GenState} {dr : Drawn} {tk : Tok} {os : OsState}
    {Q : Flow → Shared → Prop} {Er : Value → Shared → Prop} {x dx f dd ds dn dm dp xt l cl l0 t0 st ll cs : Addr} {ts : Nat → Tok} {so : Obj} {its ls : Array Value} {n n3 n7 b i : Nat} {nm : Str} {tn tp : Tok} {c : Cf} {Z : List (Addr × Obj)} {W : WS} {S : Lw} {vW vX : Option Value} {ks : List (Kd × Str)}
    (B : Below (Ar d u gd env outer) base (env :: outer) g₁) (F : Fr g₁ L h (mR L st x cs (some (.int (i : Int) tp)) vW vX)) (X : (K w.params).In g₁) (N : News g₁ L h ((dd, listOf c.its c.n1) :: (l, listOf c.hds c.n2) :: (cl, listOf #[.str nm tn] n3) :: (dx, wrD w ts f dd ds dn dm dp c.seen c.done) :: (dp, listOf c.pI c.n4) :: (ds, listOf c.dsI c.n5) :: (dn, listOf c.nsI c.n6) :: (123, tabObj c.ps) :: (st, so) :: (ll, listOf ls n7) :: Z)) (T : Top topProg LS mean mg mb g₁)
    (IL : InvL w st ll S so ls Z b) (hD : DisjL [dd, l, cl, dx, dp, ds, dn, 123, st, ll] Z) (RZ : RunZ L cs xt cl its n ks Z) (hks : ks.length ≤ 100)
    (hF : ∀ h' tk' t1 tv tp', Fr g₁ L h' (mR L st x cs (some (.int (i : Int) tp')) (some (.str (nextK ks i S).1.s t1)) (some (.str (nextK ks i S).2 tv))) → News g₁ L h' ((dd, listOf c.its c.n1) :: (l, listOf c.hds c.n2) :: (cl, listOf #[.str nm tn] n3) :: (dx, wrD w ts f dd ds dn dm dp c.seen c.done) :: (dp, listOf c.pI c.n4) :: (ds, listOf c.dsI c.n5) :: (dn, listOf c.nsI c.n6) :: (123, tabObj c.ps) :: (st, so) :: (ll, listOf ls n7) :: Z) → wpAny (model prg w) ((Ar d u gd env outer).deeper (envR L)) (execs (List.drop 2 runB) (envR L)) Q Er ⟨h', g, dr, tk', os⟩) :
    wpAny (model prg w) ((Ar d u gd env outer).deeper (envR L)) (execs runB (envR L)) Q Er ⟨h, g, dr, tk, os⟩ := by
  have hrow : PySem.Challenge.rw_pe0292_01 = _ := rfl
  revert hrow X; k_fill; w_top on; intro X _
  with_reducible refine gen_tok tokV ?_
  intro tk0 htk0
  obtain ⟨th, td, frm, hso⟩ := IL.so
  have inZ : ∀ p ∈ Z, p ∈ ((dd, listOf c.its c.n1) :: (l, listOf c.hds c.n2) :: (cl, listOf #[.str nm tn] n3) :: (dx, wrD w ts f dd ds dn dm dp c.seen c.done) :: (dp, listOf c.pI c.n4) :: (ds, listOf c.dsI c.n5) :: (dn, listOf c.nsI c.n6) :: (123, tabObj c.ps) :: (st, so) :: (ll, listOf ls n7) :: Z : List (Addr × Obj)) := fun p hp => by
    iterate 10 (refine List.mem_cons_of_mem _ ?_)
    exact hp
  have hcs := inZ _ RZ.cs
  have hlen : its.size = ks.length := by rw [← Array.length_toList]; exact (All2.len RZ.are).symm
  by_cases hlt : i < ks.length
  · have hn : nextK ks i S = ks[i] := by unfold nextK; rw [List.getElem?_eq_getElem hlt]
    rw [hn] at hF
    obtain ⟨q, a, u, e1, m1⟩ := RZ.are.at (List.getElem?_eq_getElem hlt)
    have m2 := inZ _ m1
    have e2 : its[i]? = some (.ref q) := by simpa using e1
    cases hsn : S.seen
    all_goals rw [hsn] at hso
    all_goals k_steps
    all_goals (try kln_le)
    all_goals refine Or.inl ?_
    all_goals refine calls_item (i := i) (by k_asm) (by first | exact hcs | exact .tail _ hcs) e2 (by kln_le) ?_
    all_goals k_steps
    all_goals refine Or.inl ?_
    all_goals exact hF _ _ _ _ _ (fr_of (by k_asm) (by ke_shaped)) (news_sub (by k_asm) (by k_upd))
  · have hn : nextK ks i S = if S.seen then (.fin, Str.ofString "") else (.beg, Str.ofString "") := by unfold nextK; rw [List.getElem?_eq_none (by kln_le)]
    rw [hn] at hF
    cases hsn : S.seen
    all_goals rw [hsn] at hso
    all_goals simp only [hsn, if_true, if_false, Bool.false_eq_true] at hF
    all_goals k_steps
    all_goals (try kln_le)
    all_goals refine Or.inl ?_
    all_goals exact hF _ _ _ _ _ (fr_of (by k_asm) (by ke_shaped)) (news_sub (by k_asm) (by k_upd))
end
section
namespace NH4
theorem hereH4 : True := trivial
end NH4
open NH4
theorem rowsH40 : True := by
  k_with "ke_shaped" => (fail_if_success fail_if_success have q := hereH4); (intro yₓ; dsimp only [mR]; (by_cases q1 : yₓ = Str.ofString "text"); (case pos => ((have q2 : yₓ ≠ Str.ofString "what" := fun zₓ => mr_ne.1 (q1.symm.trans zₓ)); (have q3 : yₓ ≠ Str.ofString "place" := fun zₓ => mr_ne.2.1 (q1.symm.trans zₓ)); ((simp only [if_pos q1, if_neg q2, if_neg q3]); (try rfl)))); (case neg => ((by_cases q2 : yₓ = Str.ofString "what"); (case pos => ((have q3 : yₓ ≠ Str.ofString "place" := fun zₓ => mr_ne.2.2 (q2.symm.trans zₓ)); ((simp only [if_pos q2, if_neg q1, if_neg q3]); (try rfl)))); (case neg => ((by_cases q3 : yₓ = Str.ofString "place"); (case pos => (((simp only [if_pos q3, if_neg q2, if_neg q1]); (try rfl)))); (case neg => (simp only [if_neg q3, if_neg q2, if_neg q1])))))))
  k_with "execs cons" => (fail_if_success fail_if_success have q := hereH4); (k_here; (with_reducible show wpAny _ _ (execs (Stmt.If (Expr.UnaryOp UnaryOp.Not _ _) _ _ _ :: _) _) _ _ _); refine hold_it ?_)
  trivial
noncomputable def effK (k : Kd) (S : Lw) : Kd := match k with
  | .beg => if S.dep = 3 ∨ (S.dep = 0 ∧ S.seen = true) then .cmt else .beg
  | .fin => if S.dep = 0 then .txt else .fin
  | .txt => .txt
  | .cmt => .cmt
  | .ins => .ins
theorem kd_s : Kd.s .beg = Str.ofString "begin" ∧ Kd.s .fin = Str.ofString "end" ∧ Kd.s .txt = Str.ofString "text" ∧ Kd.s .cmt = Str.ofString "comment" ∧ Kd.s .ins = Str.ofString "instruction" := ⟨rfl, rfl, rfl, rfl, rfl⟩
theorem fix_y (k : Kd) {w : World} {d u : Nat} {gd : Option (List Code)} {base g₁ : Heap} {outer : List Env} {env : Env} {L : Addr} {mean : ExcName → Option Value} {mg mb : Str → Option Value} {h : Heap} {g : Array GenState} {dr : Drawn} {tk : Tok} {os : OsState}
    {Q : Flow → Shared → Prop} {Er : Value → Shared → Prop} {x dx f dd ds dn dm dp xt l cl l0 t0 st ll cs : Addr} {ts : Nat → Tok} {so : Obj} {its ls : Array Value} {n n3 n7 b i : Nat} {nm : Str} {tn tp : Tok} {c : Cf} {Z : List (Addr × Obj)} {W : WS} {S : Lw} {v : Str} {t1 tv : Tok} {ks : List (Kd × Str)}
    (B : Below (Ar d u gd env outer) base (env :: outer) g₁) (F : Fr g₁ L h (mR L st x cs (some (.int (i : Int) tp)) (some (.str k.s t1)) (some (.str v tv)))) (X : (K w.params).In g₁) (N : News g₁ L h ((dd, listOf c.its c.n1) :: (l, listOf c.hds c.n2) :: (cl, listOf #[.str nm tn] n3) :: (dx, wrD w ts f dd ds dn dm dp c.seen c.done) :: (dp, listOf c.pI c.n4) :: (ds, listOf c.dsI c.n5) :: (dn, listOf c.nsI c.n6) :: (123, tabObj c.ps) :: (st, so) :: (ll, listOf ls n7) :: Z)) (T : Top topProg LS mean mg mb g₁)
    (IL : InvL w st ll S so ls Z b) (hD : DisjL [dd, l, cl, dx, dp, ds, dn, 123, st, ll] Z) (RZ : RunZ L cs xt cl its n ks Z) (hks : ks.length ≤ 100)
    (hF : ∀ h' tk' t1', Fr g₁ L h' (mR L st x cs (some (.int (i : Int) tp)) (some (.str (effK k S).s t1')) (some (.str v tv))) → News g₁ L h' ((dd, listOf c.its c.n1) :: (l, listOf c.hds c.n2) :: (cl, listOf #[.str nm tn] n3) :: (dx, wrD w ts f dd ds dn dm dp c.seen c.done) :: (dp, listOf c.pI c.n4) :: (ds, listOf c.dsI c.n5) :: (dn, listOf c.nsI c.n6) :: (123, tabObj c.ps) :: (st, so) :: (ll, listOf ls n7) :: Z) → wpAny (model prg w) ((Ar d u gd env outer).deeper (envR L)) (execs (List.drop 4 runB) (envR L)) Q Er ⟨h', g, dr, tk', os⟩) :
    wpAny (model prg w) ((Ar d u gd env outer).deeper (envR L)) (execs (List.drop 2 runB) (envR L)) Q Er ⟨h, g, dr, tk, os⟩ := by
  have hrow : PySem.Challenge.rw_pe0292_01 = _ := rfl
  revert hrow X; k_fill; w_top on; intro X _
  with_reducible refine gen_tok tokV ?_
  intro tk0 htk0
  obtain ⟨th, td, frm, hso⟩ := IL.so
  cases hsn : S.seen
  all_goals rw [hsn] at hso
  all_goals cases k
  all_goals simp only [kd_s.1, kd_s.2.1, kd_s.2.2.1, kd_s.2.2.2.1, kd_s.2.2.2.2] at F
  all_goals k_steps
  all_goals (try refine Or.inl ?_)
  all_goals first
    | ((have e : effK .beg S = .cmt := if_pos (by first | exact .inl (by kln_le) | exact .inr ⟨by kln_le, hsn⟩)); rw [e] at hF; exact hF _ _ _ (fr_of (by k_asm) (by ke_shaped)) (news_sub (by k_asm) (by k_upd)))
    | ((have e : effK .beg S = .beg := if_neg (by first | kln_le | (rw [hsn]; simp; kln_le))); rw [e] at hF; exact hF _ _ _ (fr_of (by k_asm) (by ke_shaped)) (news_sub (by k_asm) (by k_upd)))
    | ((have e : effK .fin S = .txt := if_pos (by kln_le)); rw [e] at hF; exact hF _ _ _ (fr_of (by k_asm) (by ke_shaped)) (news_sub (by k_asm) (by k_upd)))
    | ((have e : effK .fin S = .fin := if_neg (by kln_le)); rw [e] at hF; exact hF _ _ _ (fr_of (by k_asm) (by ke_shaped)) (news_sub (by k_asm) (by k_upd)))
    | (dsimp only [effK] at hF; exact hF _ _ _ (fr_of (by k_asm) (by ke_shaped)) (news_sub (by k_asm) (by k_upd)))
end
section
namespace NH5
theorem hereH5 : True := trivial
end NH5
open NH5
theorem rowsH50 : True := by
  k_with "ke_shaped" => (fail_if_success fail_if_success have q := hereH5); (intro yₓ; dsimp only [mR]; (by_cases q1 : yₓ = Str.ofString "text"); (case pos => ((have q2 : yₓ ≠ Str.ofString "what" := fun zₓ => mr_ne.1 (q1.symm.trans zₓ)); (have q3 : yₓ ≠ Str.ofString "place" := fun zₓ => mr_ne.2.1 (q1.symm.trans zₓ)); ((simp only [if_pos q1, if_neg q2, if_neg q3]); (try rfl)))); (case neg => ((by_cases q2 : yₓ = Str.ofString "what"); (case pos => ((have q3 : yₓ ≠ Str.ofString "place" := fun zₓ => mr_ne.2.2 (q2.symm.trans zₓ)); ((simp only [if_pos q2, if_neg q1, if_neg q3]); (try rfl)))); (case neg => ((by_cases q3 : yₓ = Str.ofString "place"); (case pos => (((simp only [if_pos q3, if_neg q2, if_neg q1]); (try rfl)))); (case neg => (simp only [if_neg q3, if_neg q2, if_neg q1])))))))
  k_with "call ref" => (fail_if_success fail_if_success have q := hereH5); (k_here; refine hold_it ?_)
  trivial
theorem again_y (k : Kd) {w : World} {d u : Nat} {gd : Option (List Code)} {base g₁ : Heap} {outer : List Env} {env : Env} {L : Addr} {mean : ExcName → Option Value} {mg mb : Str → Option Value} {h : Heap} {g : Array GenState} {dr : Drawn} {tk : Tok} {os : OsState}
    {Q : Flow → Shared → Prop} {Er : Value → Shared → Prop} {x dx f dd ds dn dm dp xt l cl l0 t0 st ll cs : Addr} {ts : Nat → Tok} {so : Obj} {its ls : Array Value} {n n3 n7 b i : Nat} {nm : Str} {tn tp : Tok} {c : Cf} {Z : List (Addr × Obj)} {W : WS} {S : Lw} {v : Str} {t1 tv : Tok} {ks : List (Kd × Str)}
    (B : Below (Ar d u gd env outer) base (env :: outer) g₁) (F : Fr g₁ L h (mR L st x cs (some (.int (i : Int) tp)) (some (.str k.s t1)) (some (.str v tv)))) (X : (K w.params).In g₁) (N : News g₁ L h ((dd, listOf c.its c.n1) :: (l, listOf c.hds c.n2) :: (cl, listOf #[.str nm tn] n3) :: (dx, wrD w ts f dd ds dn dm dp c.seen c.done) :: (dp, listOf c.pI c.n4) :: (ds, listOf c.dsI c.n5) :: (dn, listOf c.nsI c.n6) :: (123, tabObj c.ps) :: (st, so) :: (ll, listOf ls n7) :: Z)) (T : Top topProg LS mean mg mb g₁)
    (IL : InvL w st ll S so ls Z b) (hD : DisjL [dd, l, cl, dx, dp, ds, dn, 123, st, ll] Z) (RZ : RunZ L cs xt cl its n ks Z) (hks : ks.length ≤ 100) (XB : (K w.params).In base) (TB : Top topProg LS mean mg mb base) (D : KtsDicts ((env :: outer).filterMap (·.frame)) g₁) (hd1 : d ≤ 630) (hu1 : u ≤ 270) (I : InvW w x dx f xt l cl l0 t0 W c Z b) (hb : b ≤ 56) (A : Agree S W) (hv : TxtL v) (hk : HkOk k v W) (hsm : Small W.tab) (hi : i ≤ 1000)
    (hF : ∀ (gr : Bool) c' Z' so' ls' n7' nm' tn' S' g₁' h' gs' dr' tk' tp' vW' vX', InvW w x dx f xt l cl l0 t0 (sameW k v (if gr then upD S.dep else lowD S.dep) W) c' Z' (b + 2) → InvL w st ll S' so' ls' Z' (b + 2) → DisjL [dd, l, cl, dx, dp, ds, dn, 123, st, ll] Z' → (∀ p ∈ Z, p ∈ Z') → Agree S' (sameW k v (if gr then upD S.dep else lowD S.dep) W) → Small (sameW k v (if gr then upD S.dep else lowD S.dep) W).tab → KtsTurn ((env :: outer).filterMap (·.frame)) g₁ g₁' →
      Fr g₁' L h' (mR L st x cs (some (.int ((i + 1 : Nat) : Int) tp')) vW' vX') → News g₁' L h' ((dd, listOf c'.its c'.n1) :: (l, listOf c'.hds c'.n2) :: (cl, listOf #[.str nm' tn'] n3) :: (dx, wrD w ts f dd ds dn dm dp c'.seen c'.done) :: (dp, listOf c'.pI c'.n4) :: (ds, listOf c'.dsI c'.n5) :: (dn, listOf c'.nsI c'.n6) :: (123, tabObj c'.ps) :: (st, so') :: (ll, listOf ls' n7') :: Z') → Below (Ar d u gd env outer) base (env :: outer) g₁' → (K w.params).In g₁' → Top topProg LS mean mg mb g₁' → KtsDicts ((env :: outer).filterMap (·.frame)) g₁' → (AllBare g → AllBare gs') →
      Q .next ⟨h', gs', dr', tk', os⟩) :
    wpAny (model prg w) ((Ar d u gd env outer).deeper (envR L)) (execs (List.drop 4 runB) (envR L)) Q Er ⟨h, g, dr, tk, os⟩ := by
  have hrow : PySem.Challenge.rw_pe0292_01 = _ := rfl
  have inZ : ∀ p ∈ Z, p ∈ ((dd, listOf c.its c.n1) :: (l, listOf c.hds c.n2) :: (cl, listOf #[.str nm tn] n3) :: (dx, wrD w ts f dd ds dn dm dp c.seen c.done) :: (dp, listOf c.pI c.n4) :: (ds, listOf c.dsI c.n5) :: (dn, listOf c.nsI c.n6) :: (123, tabObj c.ps) :: (st, so) :: (ll, listOf ls n7) :: Z : List (Addr × Obj)) := fun p hp => by
    iterate 10 (refine List.mem_cons_of_mem _ ?_)
    exact hp
  obtain ⟨o1, k1, k2⟩ := RZ.c1
  obtain ⟨o2, k3, k4⟩ := RZ.c2
  have k5 := inZ _ k1
  have k6 := inZ _ k3
  revert hrow X; k_fill; w_top on; intro X _
  with_reducible refine gen_tok tokV ?_
  intro tk0 htk0
  k_steps
  refine Or.inl ?_
  refine wpAny_call ?_
  refine same_y (l0 := l0) (t0 := t0) (x := x) (xt := xt) k ⟨⟨B, by k_asm, X, by k_asm, T, by rfl, by rfl, by k_units, by k_units⟩, XB, TB, D⟩ (by k_units) (by k_units) I IL hb hD A hv hk hsm (fun c' Z' so' ls' n7' nm' tn' S' IW' IL' hD' hs' A' sm' => ?_)
  intro g2 h2 gs2 dr2 tk2 hb2 T2 F2 N2 B2 X2 Tp2 D2
  clear k5 k6 inZ k1 k3
  (try dsimp only)
  clear F N
  k_steps
  exact hF _ c' Z' so' ls' n7' nm' tn' S' g2 _ gs2 _ _ _ _ _ IW' IL' hD' hs' A' sm' T2 (fr_of (by k_asm) (by ke_shaped)) (by k_asm) B2 X2 Tp2 D2 hb2
end
section
namespace NH6
theorem hereH6 : True := trivial
end NH6
open NH6
theorem rowsH60 : True := by
  k_with "ke_shaped" => (fail_if_success fail_if_success have q := hereH6); (intro yₓ; dsimp only [mR]; (by_cases q1 : yₓ = Str.ofString "text"); (case pos => ((have q2 : yₓ ≠ Str.ofString "what" := fun zₓ => mr_ne.1 (q1.symm.trans zₓ)); (have q3 : yₓ ≠ Str.ofString "place" := fun zₓ => mr_ne.2.1 (q1.symm.trans zₓ)); ((simp only [if_pos q1, if_neg q2, if_neg q3]); (try rfl)))); (case neg => ((by_cases q2 : yₓ = Str.ofString "what"); (case pos => ((have q3 : yₓ ≠ Str.ofString "place" := fun zₓ => mr_ne.2.2 (q2.symm.trans zₓ)); ((simp only [if_pos q2, if_neg q1, if_neg q3]); (try rfl)))); (case neg => ((by_cases q3 : yₓ = Str.ofString "place"); (case pos => (((simp only [if_pos q3, if_neg q2, if_neg q1]); (try rfl)))); (case neg => (simp only [if_neg q3, if_neg q2, if_neg q1])))))))
  k_with "call builtin:len" => (fail_if_success fail_if_success have q := hereH6); (k_here; (with_reducible show wpAny _ _ (call (Value.builtin "len") [Value.ref _]) _ _ _); (with_reducible refine KM.len_K (by k_asm) (by first | assumption | exact List.mem_cons_of_mem _ (by assumption)) (by assumption) (by kln_le) ?_))
  k_with "execs" => (fail_if_success fail_if_success have q := hereH6); (k_here; (with_reducible show wpAny _ _ (execs runB _) _ _ _); refine hold_it ?_)
  trivial
theorem turn_w (m : Nat) {w : World} {d u : Nat} {gd : Option (List Code)} {base g₁ : Heap} {outer : List Env} {env : Env} {L : Addr} {mean : ExcName → Option Value} {mg mb : Str → Option Value} {h : Heap} {g : Array GenState} {dr : Drawn} {tk : Tok} {os : OsState}
    {Q : Flow → Shared → Prop} {Er : Value → Shared → Prop} {x dx f dd ds dn dm dp xt l cl l0 t0 st ll cs : Addr} {ts : Nat → Tok} {so : Obj} {its ls : Array Value} {n n3 n7 b i : Nat} {nm : Str} {tn tp : Tok} {c : Cf} {Z : List (Addr × Obj)} {W : WS} {S : Lw} {vW vX : Option Value} {ks : List (Kd × Str)}
    (B : Below (Ar d u gd env outer) base (env :: outer) g₁) (F : Fr g₁ L h (mR L st x cs (some (.int (i : Int) tp)) vW vX)) (X : (K w.params).In g₁) (N : News g₁ L h ((dd, listOf c.its c.n1) :: (l, listOf c.hds c.n2) :: (cl, listOf #[.str nm tn] n3) :: (dx, wrD w ts f dd ds dn dm dp c.seen c.done) :: (dp, listOf c.pI c.n4) :: (ds, listOf c.dsI c.n5) :: (dn, listOf c.nsI c.n6) :: (123, tabObj c.ps) :: (st, so) :: (ll, listOf ls n7) :: Z)) (T : Top topProg LS mean mg mb g₁)
    (IL : InvL w st ll S so ls Z b) (hD : DisjL [dd, l, cl, dx, dp, ds, dn, 123, st, ll] Z) (RZ : RunZ L cs xt cl its n ks Z) (hks : ks.length ≤ 100)
    (hgo : (i < ks.length ∨ S.seen = false ∨ 0 < S.dep) → ∀ h' tk', Fr g₁ L h' (mR L st x cs (some (.int (i : Int) tp)) vW vX) → News g₁ L h' ((dd, listOf c.its c.n1) :: (l, listOf c.hds c.n2) :: (cl, listOf #[.str nm tn] n3) :: (dx, wrD w ts f dd ds dn dm dp c.seen c.done) :: (dp, listOf c.pI c.n4) :: (ds, listOf c.dsI c.n5) :: (dn, listOf c.nsI c.n6) :: (123, tabObj c.ps) :: (st, so) :: (ll, listOf ls n7) :: Z) → wpAny (model prg w) ((Ar d u gd env outer).deeper (envR L)) (execs runB (envR L)) (WhlPost prg w ((Ar d u gd env outer).deeper (envR L)) Er (envR L) runT runB [] Q m) Er ⟨h', g, dr, tk', os⟩)
    (hend : ¬ (i < ks.length ∨ S.seen = false ∨ 0 < S.dep) → ∀ h' tk', Fr g₁ L h' (mR L st x cs (some (.int (i : Int) tp)) vW vX) → News g₁ L h' ((dd, listOf c.its c.n1) :: (l, listOf c.hds c.n2) :: (cl, listOf #[.str nm tn] n3) :: (dx, wrD w ts f dd ds dn dm dp c.seen c.done) :: (dp, listOf c.pI c.n4) :: (ds, listOf c.dsI c.n5) :: (dn, listOf c.nsI c.n6) :: (123, tabObj c.ps) :: (st, so) :: (ll, listOf ls n7) :: Z) → Q .next ⟨h', g, dr, tk', os⟩) (hE : PassesOwn (model prg w) ((Ar d u gd env outer).deeper (envR L)) (envR L) Er) :
    WhlRest prg w ((Ar d u gd env outer).deeper (envR L)) Er (envR L) runT runB [] Q (m + 1) ⟨h, g, dr, tk, os⟩ := by
  have hrow : PySem.Challenge.rw_pe0292_01 = _ := rfl
  revert hrow X; k_fill; w_top on; intro X _
  obtain ⟨th, td, frm, hso⟩ := IL.so
  have inZ : ∀ p ∈ Z, p ∈ ((dd, listOf c.its c.n1) :: (l, listOf c.hds c.n2) :: (cl, listOf #[.str nm tn] n3) :: (dx, wrD w ts f dd ds dn dm dp c.seen c.done) :: (dp, listOf c.pI c.n4) :: (ds, listOf c.dsI c.n5) :: (dn, listOf c.nsI c.n6) :: (123, tabObj c.ps) :: (st, so) :: (ll, listOf ls n7) :: Z : List (Addr × Obj)) := fun p hp => by
    iterate 10 (refine List.mem_cons_of_mem _ ?_)
    exact hp
  have hcs := inZ _ RZ.cs
  have hlen : its.size = ks.length := by rw [← Array.length_toList]; exact (All2.len RZ.are).symm
  refine whl_turn hE ?_
  with_unfolding_all (conv in PySem.isTrue _ _ _ => (arg 1; whnf))
  with_reducible refine gen_tok tokV ?_
  intro tk0 htk0
  cases hsn : S.seen
  all_goals rw [hsn] at hso
  all_goals k_steps
  all_goals (try refine Or.inl ?_)
  all_goals first
    | exact hgo (by first | (left; kln_le) | (right; left; exact hsn) | (right; right; kln_le)) _ _ (by k_asm) (by k_asm)
    | exact hend (by rintro (z | z | z) <;> first | kln_le | (rw [hsn] at z; cases z)) _ _ (by k_asm) (by k_asm)
end
section
theorem seqP_last (o : Outc) (p : List Str) : (seqP o (p, true)).2 = o.2 := by
  unfold seqP
  split
  · next h => exact h.symm
  · next h => rfl
theorem sameW_fin (v nm : Str) (W : WS) : (sameW .fin v nm W).dep = W.dep - 1 ∧ (sameW .fin v nm W).seen = W.seen := by
  have h0 : ∀ V : WS, (callW .fin v nm V).1 = true → (callW .fin v nm V).2.dep = V.dep - 1 ∧ (callW .fin v nm V).2.seen = V.seen := fun V h => by
    have h2 : (seqP (flushP V.seen V.t) ([endS], true)).2 = true := h
    exact ⟨by show (if (seqP (flushP V.seen V.t) ([endS], true)).2 = true then V.dep - 1 else V.dep) = V.dep - 1; rw [h2, if_pos rfl], rfl⟩
  unfold sameW
  cases hc : (callW .fin v nm W).1 with
  | true => rw [if_pos rfl]; exact h0 W hc
  | false =>
    rw [if_neg Bool.false_ne_true]
    obtain ⟨e1, e2⟩ := callW_no hc
    have h3 := h0 (callW .fin v nm W).2 (by
      show (seqP (flushP W.seen (Str.ofString "")) ([endS], true)).2 = true
      rw [flushP_e, seqP_one])
    rw [e1, e2] at h3; exact h3
theorem sameW_beg (v nm : Str) (W : WS) : (sameW .beg v nm W).dep = W.dep + 1 ∧ (sameW .beg v nm W).seen = true := by
  have h0 : ∀ V : WS, (callW .beg v nm V).1 = true → (callW .beg v nm V).2.dep = V.dep + 1 ∧ (callW .beg v nm V).2.seen = true := fun V h => by
    have h2 : (seqP (flushP V.seen V.t) ([Str.ofString "<" ++ Str.ofString "x", attrS v, Str.ofString ">"], true)).2 = true := h
    exact ⟨by show (if (seqP (flushP V.seen V.t) ([Str.ofString "<" ++ Str.ofString "x", attrS v, Str.ofString ">"], true)).2 = true then V.dep + 1 else V.dep) = V.dep + 1; rw [h2, if_pos rfl],
      by show (if (seqP (flushP V.seen V.t) ([Str.ofString "<" ++ Str.ofString "x", attrS v, Str.ofString ">"], true)).2 = true then true else V.seen) = true; rw [h2, if_pos rfl]⟩
  unfold sameW
  cases hc : (callW .beg v nm W).1 with
  | true => rw [if_pos rfl]; exact h0 W hc
  | false =>
    rw [if_neg Bool.false_ne_true]
    obtain ⟨e1, e2⟩ := callW_no hc
    have h3 := h0 (callW .beg v nm W).2 (by
      show (seqP (flushP (callW .beg v nm W).2.seen (Str.ofString "")) ([Str.ofString "<" ++ Str.ofString "x", attrS v, Str.ofString ">"], true)).2 = true
      rw [flushP_e, seqP_one])
    rw [e1] at h3; exact h3
noncomputable def mu (ks : List (Kd × Str)) (i : Nat) (W : WS) : Nat := if i < ks.length then (ks.length - i) + 4 else if W.seen = true then W.dep else W.dep + 2
theorem mu_step {ks : List (Kd × Str)} {i m : Nat} {W : WS} {S S' : Lw} {nm : Str} (A : Agree S W) (A' : Agree S' (sameW (effK (nextK ks i S).1 S) (nextK ks i S).2 nm W)) (hgo : i < ks.length ∨ S.seen = false ∨ 0 < S.dep) (hm : mu ks i W ≤ m + 1) :
    mu ks (i + 1) (sameW (effK (nextK ks i S).1 S) (nextK ks i S).2 nm W) ≤ m := by
  have d3 := A'.d3
  have sd := A'.sd
  by_cases hlt : i < ks.length
  · unfold mu at hm ⊢
    rw [if_pos hlt] at hm
    by_cases h1 : i + 1 < ks.length
    · rw [if_pos h1]; omega
    · rw [if_neg h1]
      split
      · omega
      · next h2 =>
        have : ¬ 0 < (sameW (effK (nextK ks i S).1 S) (nextK ks i S).2 nm W).dep := fun z => h2 (sd z)
        omega
  · have hn : nextK ks i S = if S.seen then (.fin, Str.ofString "") else (.beg, Str.ofString "") := by unfold nextK; rw [List.getElem?_eq_none (by omega)]
    unfold mu at hm ⊢
    rw [if_neg hlt] at hm
    rw [if_neg (by omega)]
    cases hs : S.seen with
    | true =>
      have hd : 0 < S.dep := by
        rcases hgo with z | z | z
        · exact absurd z hlt
        · rw [hs] at z; cases z
        · exact z
      have hk : effK (nextK ks i S).1 S = .fin := by
        rw [hn, hs, if_pos rfl]; exact if_neg (by omega)
      rw [hk]
      have h5 := sameW_fin (nextK ks i S).2 nm W
      rw [h5.1, h5.2]
      have hw : W.seen = true := A.seen.symm.trans hs
      rw [if_pos hw] at hm ⊢
      have := A.dep
      omega
    | false =>
      have hw : W.seen = false := A.seen.symm.trans hs
      have hd : W.dep = 0 := by
        have := A.sd
        rcases Nat.eq_zero_or_pos W.dep with z | z
        · exact z
        · rw [hw] at this; cases this z
      have hd2 := A.dep
      have hk : effK (nextK ks i S).1 S = .beg := by
        rw [hn, hs, if_neg Bool.false_ne_true]
        exact if_neg (by rw [hs]; simp; omega)
      rw [hk]
      have h5 := sameW_beg (nextK ks i S).2 nm W
      rw [h5.1, h5.2, if_pos rfl]
      rw [hw, if_neg Bool.false_ne_true] at hm
      omega
theorem next_ok {ks : List (Kd × Str)} {i : Nat} {S : Lw} {W : WS} (A : Agree S W) (hall : ∀ e ∈ ks, TxtL e.2 ∧ (e.1 = .beg → ValL e.2)) (he1 : TxtL (Str.ofString "")) (he2 : ValL (Str.ofString "")) :
    TxtL (nextK ks i S).2 ∧ HkOk (effK (nextK ks i S).1 S) (nextK ks i S).2 W := by
  have h : TxtL (nextK ks i S).2 ∧ ((nextK ks i S).1 = .beg → ValL (nextK ks i S).2) := by
    unfold nextK
    split
    · next e h => exact hall _ (List.mem_of_getElem? h)
    · split
      · exact ⟨he1, fun _ => he2⟩
      · exact ⟨he1, fun _ => he2⟩
  refine ⟨h.1, ?_⟩
  have hd := A.dep
  have hd3 := A.d3
  cases hk : (nextK ks i S).1 with
  | txt => trivial
  | cmt => trivial
  | ins => trivial
  | fin =>
    unfold effK
    (try dsimp only)
    by_cases z : S.dep = 0
    · rw [if_pos z]; trivial
    · rw [if_neg z]; show 0 < W.dep; omega
  | beg =>
    unfold effK
    (try dsimp only)
    by_cases z : S.dep = 3 ∨ (S.dep = 0 ∧ S.seen = true)
    · rw [if_pos z]; trivial
    · rw [if_neg z]
      refine ⟨?_, by omega, h.2 hk⟩
      unfold WS.done
      cases hs : W.seen with
      | false => rfl
      | true =>
        have h0 : ¬ W.dep = 0 := fun q => z (.inr ⟨by omega, A.seen.trans hs⟩)
        simp [h0]
theorem loop_y (m : Nat) {w : World} {d u : Nat} {gd : Option (List Code)} {base g₁ : Heap} {outer : List Env} {env : Env} {L : Addr} {mean : ExcName → Option Value} {mg mb : Str → Option Value} {h : Heap} {g : Array GenState} {dr : Drawn} {tk : Tok} {os : OsState}
    {Q : Flow → Shared → Prop} {Er : Value → Shared → Prop} {x dx f dd ds dn dm dp xt l cl l0 t0 st ll cs : Addr} {ts : Nat → Tok} {so : Obj} {its ls : Array Value} {n n3 n7 b i : Nat} {nm : Str} {tn tp : Tok} {c : Cf} {Z : List (Addr × Obj)} {W : WS} {S : Lw} {vW vX : Option Value} {ks : List (Kd × Str)}
    (B : Below (Ar d u gd env outer) base (env :: outer) g₁) (F : Fr g₁ L h (mR L st x cs (some (.int (i : Int) tp)) vW vX)) (X : (K w.params).In g₁) (N : News g₁ L h ((dd, listOf c.its c.n1) :: (l, listOf c.hds c.n2) :: (cl, listOf #[.str nm tn] n3) :: (dx, wrD w ts f dd ds dn dm dp c.seen c.done) :: (dp, listOf c.pI c.n4) :: (ds, listOf c.dsI c.n5) :: (dn, listOf c.nsI c.n6) :: (123, tabObj c.ps) :: (st, so) :: (ll, listOf ls n7) :: Z)) (T : Top topProg LS mean mg mb g₁)
    (IL : InvL w st ll S so ls Z b) (hD : DisjL [dd, l, cl, dx, dp, ds, dn, 123, st, ll] Z) (RZ : RunZ L cs xt cl its n ks Z) (hks : ks.length ≤ 100) (XB : (K w.params).In base) (TB : Top topProg LS mean mg mb base) (D : KtsDicts ((env :: outer).filterMap (·.frame)) g₁) (hd1 : d ≤ 630) (hu1 : u ≤ 270) (I : InvW w x dx f xt l cl l0 t0 W c Z b) (A : Agree S W) (hsm : Small W.tab) (hi : i + m ≤ 900) (hm : mu ks i W ≤ m) (hb : b + 2 * m ≤ 56)
    (hall : ∀ e ∈ ks, TxtL e.2 ∧ (e.1 = .beg → ValL e.2)) (he1 : TxtL (Str.ofString "")) (he2 : ValL (Str.ofString "")) (hE : PassesOwn (model prg w) ((Ar d u gd env outer).deeper (envR L)) (envR L) Er)
    (hF : ∀ c' Z' so' ls' n7' nm' tn' S' W' b' g₁' h' gs' dr' tk' P' vW' vX', W'.dep = 0 → W'.seen = true → InvW w x dx f xt l cl l0 t0 W' c' Z' b' → InvL w st ll S' so' ls' Z' b' → b' ≤ 56 → DisjL [dd, l, cl, dx, dp, ds, dn, 123, st, ll] Z' → (∀ p ∈ Z, p ∈ Z') → Agree S' W' → Small W'.tab → KtsTurn ((env :: outer).filterMap (·.frame)) g₁ g₁' →
      Fr g₁' L h' (mR L st x cs P' vW' vX') → News g₁' L h' ((dd, listOf c'.its c'.n1) :: (l, listOf c'.hds c'.n2) :: (cl, listOf #[.str nm' tn'] n3) :: (dx, wrD w ts f dd ds dn dm dp c'.seen c'.done) :: (dp, listOf c'.pI c'.n4) :: (ds, listOf c'.dsI c'.n5) :: (dn, listOf c'.nsI c'.n6) :: (123, tabObj c'.ps) :: (st, so') :: (ll, listOf ls' n7') :: Z') → Below (Ar d u gd env outer) base (env :: outer) g₁' → (K w.params).In g₁' → Top topProg LS mean mg mb g₁' → KtsDicts ((env :: outer).filterMap (·.frame)) g₁' → (AllBare g → AllBare gs') →
      Q .next ⟨h', gs', dr', tk', os⟩) :
    WhlRest prg w ((Ar d u gd env outer).deeper (envR L)) Er (envR L) runT runB [] Q (m + 1) ⟨h, g, dr, tk, os⟩ := by
  induction m generalizing g₁ h g dr tk so ls n7 b i nm tn tp c Z W S vW vX with
  | zero =>
    refine turn_w (W := W) (l0 := l0) (t0 := t0) 0 B F X N T IL hD RZ hks (fun go => ?_) (fun st h' tk' F' N' => ?_) hE
    · exfalso
      have hd := A.dep
      have hs := A.seen
      unfold mu at hm
      split at hm
      · omega
      · next h1 =>
        split at hm
        · next h2 => rcases go with z | z | z
                     · exact h1 z
                     · rw [hs, h2] at z; cases z
                     · omega
        · omega
    · have hd := A.dep
      have hs := A.seen
      refine hF c Z so ls n7 nm tn S W b g₁ h' g dr tk' _ _ _ (by omega) ?_ I IL (by omega) hD (fun _ z => z) A hsm KtsTurn.refl F' N' B X T D (fun z => z)
      cases h2 : W.seen with
      | true => rfl
      | false => exact absurd (.inr (.inl (hs.trans h2))) st
  | succ m ih =>
    refine turn_w (W := W) (l0 := l0) (t0 := t0) (m + 1) B F X N T IL hD RZ hks (fun go h' tk' F' N' => ?_) (fun st h' tk' F' N' => ?_) hE
    · refine pick_y (W := W) (l0 := l0) (t0 := t0) B F' X N' T IL hD RZ hks (fun h2 tk2 t1 tv tp2 F2 N2 => ?_)
      refine fix_y (W := W) (l0 := l0) (t0 := t0) (nextK ks i S).1 B F2 X N2 T IL hD RZ hks (fun h3 tk3 t3 F3 N3 => ?_)
      obtain ⟨ok1, ok2⟩ := next_ok (i := i) A hall he1 he2
      refine again_y (effK (nextK ks i S).1 S) B F3 X N3 T IL hD RZ hks XB TB D hd1 hu1 I (by omega) A ok1 ok2 hsm (by omega) ?_
      intro gr c' Z' so' ls' n7' nm' tn' S' g4 h4 gs4 dr4 tk4 tp4 vW4 vX4 IW4 IL4 hD4 hs4 A4 sm4 T4 F4 N4 B4 X4 Tp4 D4 hb4
      dsimp only [WhlPost]
      refine ih B4 F4 X4 N4 Tp4 IL4 hD4 (RZ.mono hs4) D4 IW4 A4 sm4 (by omega) (mu_step A A4 go hm) (by omega) ?_
      intro c5 Z5 so5 ls5 n75 nm5 tn5 S5 W5 b5 g5 h5 gs5 dr5 tk5 P5 vW5 vX5 a1 a2 a3 a4 a5 a6 a7 a8 a9 a10 a11 a12 a13 a14 a15 a16 a17
      exact hF c5 Z5 so5 ls5 n75 nm5 tn5 S5 W5 b5 g5 h5 gs5 dr5 tk5 P5 vW5 vX5 a1 a2 a3 a4 a5 a6 (fun p hp => a7 p (hs4 p hp)) a8 a9 (T4.trans a10) a11 a12 a13 a14 a15 a16 (fun z => a17 (hb4 z))
    · have hd := A.dep
      have hs := A.seen
      refine hF c Z so ls n7 nm tn S W b g₁ h' g dr tk' _ _ _ (by omega) ?_ I IL (by omega) hD (fun _ z => z) A hsm KtsTurn.refl F' N' B X T D (fun z => z)
      cases h2 : W.seen with
      | true => rfl
      | false => exact absurd (.inr (.inl (hs.trans h2))) st
end
section
namespace NH8
theorem hereH8 : True := trivial
end NH8
open NH8
theorem rowsH80 : True := by
  k_with "call ref" => (fail_if_success fail_if_success have q := hereH8); (k_here; refine hold_it ?_)
  k_with "call builtin:str.join" => (fail_if_success fail_if_success have q := hereH8); (k_here; refine hold_it ?_)
  k_with "eval ListComp" => (fail_if_success fail_if_success have q := hereH8); (k_here; refine hold_it ?_)
  k_with "subscriptTail Constant Name str int" => (fail_if_success fail_if_success have q := hereH8); (k_here; (with_reducible show wpAny _ _ (subscriptTail _ _ (Value.str _ _) (Value.int _ _)) _ _ _); k_dflt (refine idx_up (by with_reducible assumption) ?_))
  trivial
theorem join_at {w : World} {A : Around} {E : Value → Shared → Prop} {s : Shared} {h₀ : Heap} {L D : Addr} {news : List (Addr × Obj)} {its : Array Value} {k : Nat} {ys : List Str} {tj : Tok} {Q : Value → Shared → Prop} (N : News h₀ L s.heap news) (hm : (D, listOf its k) ∈ news) (hs : StrsAre its.toList ys) (hz : (ys.map (·.length)).sum ≤ 16777216)
    (h : ∀ t' k, Q (.str (Txt.join (Str.ofString "") ys) t') { s with toks := k }) : wpAny (model prg w) A (call (.builtin "str.join") [.str (Str.ofString "") tj, .ref D]) Q E s := by
  obtain ⟨ps, e, rfl⟩ := strs_pairs hs
  have e2 : its = (strValues ps).toArray := by rw [← e]
  subst e2
  have hok' : JoinOk (Str.ofString "") (ps.map (·.1)) = true := joinOk_of (by
    have : (Str.ofString "").length = 0 := by decide
    rw [this, Nat.mul_zero]
    kln_le)
  unfold JoinOk at hok'
  rw [Bool.not_eq_true'] at hok'
  have hl : s.heap.IsList D (strValues ps).toArray := ⟨_, (N _ hm).1, rfl, _, rfl⟩
  exact call_meets PySem.F.slot_str_join (typeIs_str _ _ _) PySem.F.entry_str_join (PySem.F.args_str_join_2 _ _) (meets_str_join_list (Str.ofString "") tj D ps hok') ⟨hl, post_join ps ⟨joinFit_length hok', h⟩⟩
noncomputable abbrev depB : List Stmt := forBody (nth (fBody (stA 22)) 7)
structure DepZ (w : World) (L xt dxt l ll : Addr) (th : Tok) (so : Obj) (hds ls : Array Value) (tab : List (Str × Str)) (laid : List (Int × Str)) (Z : List (Addr × Obj)) : Prop where
  so : ∃ a b c d, so.IsDictOf (strKind prg w) (stK a b c d (.ref ll))
  h1 : (xt, instObj 312 dxt) ∈ Z
  h2 : (dxt, tabD w l th) ∈ Z
  c1 : ∃ o, (L + 1 + 1 + 1, o) ∈ Z ∧ o.data = .cell (some (.ref xt))
  are : PairAre Z hds.toList tab
  lar : LaidAre Z ls.toList laid
  n1 : tab.length ≤ 300
  n2 : laid.length ≤ 300
theorem sum_filt {l : List (Str × Str)} {p : Str × Str → Bool} (h : ∀ e ∈ l, e.2.length ≤ 1000) : (((l.filter p).map (·.2)).map (·.length)).sum ≤ 1000 * l.length :=
  Nat.le_trans (sum_le fun e he => h e (List.mem_filter.mp he).1) (Nat.mul_le_mul_left _ (List.length_filter_le _ _))
theorem depth_y (e : Nat) {w : World} {d u : Nat} {gd : Option (List Code)} {base g₁ : Heap} {outer : List Env} {env : Env} {L : Addr} {mean : ExcName → Option Value} {mg mb : Str → Option Value} {h : Heap} {g : Array GenState} {dr : Drawn} {tk : Tok} {os : OsState}
    {Q : Flow → Shared → Prop} {Er : Value → Shared → Prop} {x dx f dd ds dn dm dp xt l cl l0 t0 st ll cs : Addr} {ts : Nat → Tok} {so : Obj} {its ls : Array Value} {n n3 n7 b i : Nat} {nm : Str} {tn tp : Tok} {c : Cf} {Z : List (Addr × Obj)} {W : WS} {S : Lw} {vW vX : Option Value} {ks : List (Kd × Str)} {oc it : Obj} {I1 dxt : Addr} {te th9 : Tok} {P : Option Value}
    (B : Below (Ar d u gd env outer) base (env :: outer) g₁) (F : Fr g₁ L h (mR L st x cs P vW vX)) (X : (K w.params).In g₁) (N : News g₁ L h ((L + 1, oc) :: (I1, it) :: (dd, listOf c.its c.n1) :: (l, listOf c.hds c.n2) :: (cl, listOf #[.str nm tn] n3) :: (dx, wrD w ts f dd ds dn dm dp c.seen c.done) :: (dp, listOf c.pI c.n4) :: (ds, listOf c.dsI c.n5) :: (dn, listOf c.nsI c.n6) :: (123, tabObj c.ps) :: (st, so) :: (ll, listOf ls n7) :: Z)) (T : Top topProg LS mean mg mb g₁)
    (DZ : DepZ w L xt dxt l ll th9 so c.hds ls W.tab S.laid Z) (A : Agree S W) (hsm : Small W.tab) (hoc : oc.data = .cell (some (.int (e : Int) te))) (he : e < 4) (hd1 : d ≤ 630) (hu1 : u ≤ 270)
    (hF : ∀ h' gs' dr' tk', (AllBare g → AllBare gs') → Fr g₁ L h' (mR L st x cs P vW vX) → News g₁ L h' ((L + 1, oc) :: (I1, it) :: (dd, listOf c.its c.n1) :: (l, listOf c.hds c.n2) :: (cl, listOf #[.str nm tn] n3) :: (dx, wrD w ts f dd ds dn dm dp c.seen c.done) :: (dp, listOf c.pI c.n4) :: (ds, listOf c.dsI c.n5) :: (dn, listOf c.nsI c.n6) :: (123, tabObj c.ps) :: (st, so) :: (ll, listOf ls n7) :: Z) → Q .next ⟨h', gs', dr', tk', os⟩) :
    wpAny (model prg w) ((Ar d u gd env outer).deeper (envR L)) (execs depB (envR L)) Q Er ⟨h, g, dr, tk, os⟩ := by
  have hrow : PySem.Challenge.rw_pe0292_01 = _ := rfl
  have inZ : ∀ p ∈ Z, p ∈ ((L + 1, oc) :: (I1, it) :: (dd, listOf c.its c.n1) :: (l, listOf c.hds c.n2) :: (cl, listOf #[.str nm tn] n3) :: (dx, wrD w ts f dd ds dn dm dp c.seen c.done) :: (dp, listOf c.pI c.n4) :: (ds, listOf c.dsI c.n5) :: (dn, listOf c.nsI c.n6) :: (123, tabObj c.ps) :: (st, so) :: (ll, listOf ls n7) :: Z : List (Addr × Obj)) := fun p hp => by
    iterate 12 (refine List.mem_cons_of_mem _ ?_)
    exact hp
  obtain ⟨th, td, frm, sv, hso⟩ := DZ.so
  obtain ⟨o1, k1, k2⟩ := DZ.c1
  have k5 := inZ _ k1
  have k9 := inZ _ DZ.h1
  have k10 := inZ _ DZ.h2
  have hn1 := DZ.n1
  have hn2 := DZ.n2
  have hhs : c.hds.size ≤ 1000 := by
    have h1 : c.hds.size = W.tab.length := (Array.length_toList.symm.trans DZ.are.len.symm)
    kln_le
  have hls : ls.size ≤ 1000 := by
    have h1 : ls.size = S.laid.length := (Array.length_toList.symm.trans DZ.lar.len.symm)
    kln_le
  have hup := up_small e
  have hlow := low_small e
  revert hrow X; k_fill; w_top on; intro X _
  with_reducible refine gen_tok tokV ?_
  intro tk0 htk0
  k_steps
  rw [item_up he]
  refine Or.inl ?_
  refine wpAny_call ?_
  refine get_all_y (l := l) (hds := c.hds) (n := c.n2) (ps := W.tab) ⟨B, by k_asm, X, by k_asm, T, by rfl, by rfl, by k_units, by k_units⟩ (by k_units) (by k_units) k9 k10 ((.tail _ (.tail _ (.tail _ (List.Mem.head _))))) hhs (DZ.are.mono inZ) (Nat.le_trans hup.1 (by decide)) (by rw [low_up]; exact Nat.le_trans hlow.1 (by decide)) (by rw [low_up]; exact hlow.2) (fun e he => Nat.le_trans (hsm e he).1 (by decide)) (fun D5 ys5 hy5 hne5 => ?_)
  intro h5 g5 d5 tk5 hb5 F5 N5
  (try dsimp only)
  clear F N
  k_steps
  refine Or.inl ?_
  have hs1 := sum_filt (p := fun q => Txt.lower q.1 == Txt.lower (upD e)) fun q hq => (hsm q hq).2
  have hs2 : (((W.tab.filter fun q => Txt.lower q.1 == Txt.lower (upD e)).map (·.2)).map (·.length)).sum ≤ 16777216 := by
    kln_le
  refine join_any (by k_asm) (.head _) hy5 hs2 (fun t6 k6 => ?_)
  (try dsimp only)
  k_steps
  refine Or.inl ?_
  refine pcomp (h₀ := g₁) (L := L) (m := mR L st x cs P vW vX) (by with_unfolding_all rfl) (by decide) (by rfl) (by decide) (by rfl) (by rfl) (by decide) (by decide) ?_
  k_steps
  refine ⟨ll, ls, n7, _, S.laid, fun q => q.1 == (e : Int), rfl, rfl, T.nolimit, by k_asm, by k_asm, (.tail _ (.tail _ (.tail _ (.tail _ (.tail _ (.tail _ (.tail _ (.tail _ (.tail _ (.tail _ (.tail _ (.tail _ (List.Mem.head _))))))))))))), LaidAre.mono DZ.lar (fun p hp => .tail _ (inZ p hp)), hls, ?_, ?_⟩
  · intro q a I oI D oD C oC m₂ h tk E' hC h1 F N
    (try dsimp only)
    k_steps
    exact ⟨_, rfl, rfl⟩
  · intro D9 its9 k9 h9 tk9 hy9 hne9 F9 N9
    (try dsimp only)
    k_steps
    refine Or.inl ?_
    have hj := A.at' e he
    rw [← low_up e] at hj
    unfold jn at hj
    refine join_at (by k_asm) (.head _) hy9 (by rw [← join_len, hj, join_len]; exact hs2) (fun t7 k7 => ?_)
    (try dsimp only)
    rw [hj]
    k_steps
    all_goals first
      | exact hF _ _ _ _ (fun hb => hb5 hb) (by k_asm) (news_sub (by k_asm) (by k_upd))
      | (exfalso; rename_i hc; first | exact hc rfl | (simp at hc))
end
section
theorem turns_y (r k e : Nat) {w : World} {d u : Nat} {gd : Option (List Code)} {base g₁ : Heap} {outer : List Env} {env : Env} {L : Addr} {mean : ExcName → Option Value} {mg mb : Str → Option Value} {h : Heap} {g : Array GenState} {dr : Drawn} {tk : Tok} {os : OsState}
    {Q : Flow → Shared → Prop} {Er : Value → Shared → Prop} {x dx f dd ds dn dm dp xt l cl l0 t0 st ll cs : Addr} {ts : Nat → Tok} {so : Obj} {its ls : Array Value} {n n3 n7 b i : Nat} {nm : Str} {tn tp : Tok} {c : Cf} {Z : List (Addr × Obj)} {W : WS} {S : Lw} {vW vX : Option Value} {ks : List (Kd × Str)} {oc : Obj} {I1 dxt : Addr} {th9 : Tok} {P : Option Value}
    (B : Below (Ar d u gd env outer) base (env :: outer) g₁) (F : Fr g₁ L h (mR L st x cs P vW vX)) (X : (K w.params).In g₁) (N : News g₁ L h ((I1, itR (e : Nat) (r : Nat)) :: (L + 1, oc) :: (dd, listOf c.its c.n1) :: (l, listOf c.hds c.n2) :: (cl, listOf #[.str nm tn] n3) :: (dx, wrD w ts f dd ds dn dm dp c.seen c.done) :: (dp, listOf c.pI c.n4) :: (ds, listOf c.dsI c.n5) :: (dn, listOf c.nsI c.n6) :: (123, tabObj c.ps) :: (st, so) :: (ll, listOf ls n7) :: Z)) (T : Top topProg LS mean mg mb g₁)
    (DZ : DepZ w L xt dxt l ll th9 so c.hds ls W.tab S.laid Z) (A : Agree S W) (hsm : Small W.tab) (hoc : ∃ v, oc.data = .cell v) (her : e + r = 4) (hd1 : d ≤ 630) (hu1 : u ≤ 270)
    (hLI : L + 1 ≠ I1) (hI : ∀ p ∈ ((dd, listOf c.its c.n1) :: (l, listOf c.hds c.n2) :: (cl, listOf #[.str nm tn] n3) :: (dx, wrD w ts f dd ds dn dm dp c.seen c.done) :: (dp, listOf c.pI c.n4) :: (ds, listOf c.dsI c.n5) :: (dn, listOf c.nsI c.n6) :: (123, tabObj c.ps) :: (st, so) :: (ll, listOf ls n7) :: Z : List (Addr × Obj)), p.1 ≠ I1) (hL : ∀ p ∈ ((dd, listOf c.its c.n1) :: (l, listOf c.hds c.n2) :: (cl, listOf #[.str nm tn] n3) :: (dx, wrD w ts f dd ds dn dm dp c.seen c.done) :: (dp, listOf c.pI c.n4) :: (ds, listOf c.dsI c.n5) :: (dn, listOf c.nsI c.n6) :: (123, tabObj c.ps) :: (st, so) :: (ll, listOf ls n7) :: Z : List (Addr × Obj)), p.1 ≠ L + 1)
    (hF : ∀ h' gs' dr' tk', (AllBare g → AllBare gs') → Fr g₁ L h' (mR L st x cs P vW vX) → News g₁ L h' ((dd, listOf c.its c.n1) :: (l, listOf c.hds c.n2) :: (cl, listOf #[.str nm tn] n3) :: (dx, wrD w ts f dd ds dn dm dp c.seen c.done) :: (dp, listOf c.pI c.n4) :: (ds, listOf c.dsI c.n5) :: (dn, listOf c.nsI c.n6) :: (123, tabObj c.ps) :: (st, so) :: (ll, listOf ls n7) :: Z) → Q .next ⟨h', gs', dr', tk', os⟩) :
    OwitRest prg w ((Ar d u gd env outer).deeper (envR L)) Er (envR L) (Str.ofString "depth") depB Q I1 (r + 1 + k) ⟨h, g, dr, tk, os⟩ := by
  induction r generalizing e h g dr tk oc with
  | zero =>
    rw [show 0 + 1 + k = k + 1 from Nat.add_comm 1 k]
    refine OwitRest.succ ?_
    refine end_range_K rfl F N (fun p hp => ?_) (by decide) (fun h' F' N' => ?_)
    · rcases List.mem_cons.mp hp with rfl | hp
      · exact hLI
      · exact hI p hp
    · dsimp only [OwitTurn]
      exact hF _ _ _ _ (fun z => z) F' (news_sub N' fun p hp => .tail _ hp)
  | succ r ih =>
    rw [show r + 1 + 1 + k = (r + 1 + k) + 1 from Nat.add_right_comm (r + 1) 1 k]
    refine OwitRest.succ ?_
    refine next_range_K F N (fun p hp => ?_) (by kln_le) (fun h2 t2 tk2 F2 N2 => ?_)
    · rcases List.mem_cons.mp hp with rfl | hp
      · exact hLI
      · exact hI p hp
    · dsimp only [OwitTurn]
      obtain ⟨v0, hoc⟩ := hoc
      refine storeX_C F2 N2 (by rfl) (.tail (fun z => hLI z.symm) (.head hL)) hoc (fun h3 o3 F3 N3 hd3 => ?_)
      have e1 : ((e : Nat) : Int) + 1 = ((e + 1 : Nat) : Int) := by kln_le
      have e2 : ((r + 1 : Nat) : Int) - 1 = ((r : Nat) : Int) := by kln_le
      rw [e1, e2] at N3
      refine depth_y (b := b) (its := its) (ks := ks) (tp := tp) (i := i) (n := n) (W := W) (l0 := l0) (t0 := t0) e B F3 X (news_sub N3 (List.forall_mem_cons.mpr ⟨.tail _ (.head _), List.forall_mem_cons.mpr ⟨.head _, fun p hp => .tail _ (.tail _ hp)⟩⟩)) T DZ A hsm hd3 (by kln_le) hd1 hu1 (fun h4 g4 d4 tk4 hb4 F4 N4 => ?_)
      dsimp only [OwitFlow]
      refine ih (e + 1) F4 (news_sub N4 (List.forall_mem_cons.mpr ⟨.tail _ (.head _), List.forall_mem_cons.mpr ⟨.head _, fun p hp => .tail _ (.tail _ hp)⟩⟩)) ⟨_, hd3⟩ (by kln_le) (fun h5 g5 d5 tk5 hb5 F5 N5 => hF h5 g5 d5 tk5 (fun z => hb5 (hb4 z)) F5 N5)
end
section
namespace NH10
theorem hereH10 : True := trivial
end NH10
open NH10
theorem rowsH100 : True := by
  k_with "call ref" => (fail_if_success fail_if_success have q := hereH10); (k_here; refine hold_it ?_)
  k_with "exec For Name Call cons nil" => (fail_if_success fail_if_success have q := hereH10); (k_here; refine hold_it ?_)
  k_with "pyIter ref" => (fail_if_success fail_if_success have q := hereH10); (k_here; refine hold_it ?_)
  trivial
theorem cut_data {g hp : Heap} {L a : Addr} {led Z : List (Addr × Obj)} {o : Obj} {v : Option Value} (N : News g L hp led) (hZ : ∀ p ∈ Z, p ∈ led) (ho : (a, o) ∈ led) (hd : o.data = .cell v) {p : Addr × Obj} (hp : p ∈ Z) (hne : ∀ v, p.2.data ≠ .cell v) : p ∈ offL [a] Z := offL_mem hp fun hq => by
  have q1 : p.1 = a := List.mem_singleton.mp hq
  have e1 := (N _ ho).1
  have e2 := (N _ (hZ _ hp)).1
  rw [q1] at e2
  have e3 : o = p.2 := Option.some.inj (e1.symm.trans e2)
  exact hne v (e3 ▸ hd)
theorem last_y {w : World} {d u : Nat} {gd : Option (List Code)} {base g₁ : Heap} {outer : List Env} {env : Env} {L : Addr} {mean : ExcName → Option Value} {mg mb : Str → Option Value} {h : Heap} {g : Array GenState} {dr : Drawn} {tk : Tok} {os : OsState}
    {Q : Flow → Shared → Prop} {Er : Value → Shared → Prop} {x dx f dd ds dn dm dp xt l cl l0 t0 st ll cs : Addr} {ts : Nat → Tok} {so : Obj} {its ls : Array Value} {n n3 n7 b i : Nat} {nm : Str} {tn tp : Tok} {c : Cf} {Z : List (Addr × Obj)} {W : WS} {S : Lw} {vW vX : Option Value} {ks : List (Kd × Str)} {P : Option Value} {ps9 : Array Value} (h9 : (349, tabObj ps9) ∈ Z)
    (B : Below (Ar d u gd env outer) base (env :: outer) g₁) (F : Fr g₁ L h (mR L st x cs P vW vX)) (X : (K w.params).In g₁) (N : News g₁ L h ((dd, listOf c.its c.n1) :: (l, listOf c.hds c.n2) :: (cl, listOf #[.str nm tn] n3) :: (dx, wrD w ts f dd ds dn dm dp c.seen c.done) :: (dp, listOf c.pI c.n4) :: (ds, listOf c.dsI c.n5) :: (dn, listOf c.nsI c.n6) :: (123, tabObj c.ps) :: (st, so) :: (ll, listOf ls n7) :: Z)) (T : Top topProg LS mean mg mb g₁)
    (IL : InvL w st ll S so ls Z b) (hD : DisjL [dd, l, cl, dx, dp, ds, dn, 123, st, ll] Z) (RZ : RunZ L cs xt cl its n ks Z) (XB : (K w.params).In base) (TB : Top topProg LS mean mg mb base) (D : KtsDicts ((env :: outer).filterMap (·.frame)) g₁) (hd1 : d ≤ 630) (hu1 : u ≤ 270) (I : InvW w x dx f xt l cl l0 t0 W c Z b) (hb : b ≤ 56) (A : Agree S W) (hsm : Small W.tab) (htx : TxtL (Str.ofString "t"))
    (hE : PassesOwn (model prg w) ((Ar d u gd env outer).deeper (envR L)) (envR L) Er) (hF : ∀ g₁' h' gs' dr' tk' m' ps', KtsTurn ((env :: outer).filterMap (·.frame)) g₁ g₁' → Fr g₁' L h' m' → News g₁' L h' [(123, tabObj ps'), (349, tabObj ps9)] → (AllBare g → AllBare gs') → Q (.ret (.bool true)) ⟨h', gs', dr', tk', os⟩) :
    wpAny (model prg w) ((Ar d u gd env outer).deeper (envR L)) (execs (List.drop 6 (fBody (stA 22))) (envR L)) Q Er ⟨h, g, dr, tk, os⟩ := by
  have hrow : PySem.Challenge.rw_pe0292_01 = _ := rfl
  have inZ : ∀ p ∈ Z, p ∈ ((dd, listOf c.its c.n1) :: (l, listOf c.hds c.n2) :: (cl, listOf #[.str nm tn] n3) :: (dx, wrD w ts f dd ds dn dm dp c.seen c.done) :: (dp, listOf c.pI c.n4) :: (ds, listOf c.dsI c.n5) :: (dn, listOf c.nsI c.n6) :: (123, tabObj c.ps) :: (st, so) :: (ll, listOf ls n7) :: Z : List (Addr × Obj)) := fun p hp => by
    iterate 10 (refine List.mem_cons_of_mem _ ?_)
    exact hp
  obtain ⟨o1, k1, k2⟩ := RZ.c1
  obtain ⟨o2, k3, k4⟩ := RZ.c2
  have k5 := inZ _ k1
  have k6 := inZ _ k3
  revert hrow X; k_fill; w_top on; intro X _
  with_reducible refine gen_tok tokV ?_
  intro tk0 htk0
  k_steps
  refine Or.inl ?_
  refine wpAny_call ?_
  refine same_y (l0 := l0) (t0 := t0) (x := x) (xt := xt) .cmt ⟨⟨B, by k_asm, X, by k_asm, T, by rfl, by rfl, by k_units, by k_units⟩, XB, TB, D⟩ (by k_units) (by k_units) I IL hb hD A htx trivial hsm (fun c' Z' so' ls' n7' nm' tn' S' IW' IL' hD' hs' A' sm' => ?_)
  intro g2 h2 gs2 dr2 tk2 hb2 T2 F2 N2 B2 X2 Tp2 D2
  clear k5 k6 inZ
  (try dsimp only)
  clear F N
  k_steps
  refine Or.inl ?_
  refine owit_for (hE := hE) ?_
  k_steps
  refine Or.inl ?_
  rename (IsRange _ _ _ _ _ _ _ _) => hrr
  obtain ⟨o3, k7, k8⟩ := (RZ.mono hs').c3
  obtain ⟨o4, k9, k10⟩ := (RZ.mono hs').c1
  have inZ : ∀ p ∈ Z', p ∈ ((dd, listOf c'.its c'.n1) :: (l, listOf c'.hds c'.n2) :: (cl, listOf #[.str nm' tn'] n3) :: (dx, wrD w ts f dd ds dn dm dp c'.seen c'.done) :: (dp, listOf c'.pI c'.n4) :: (ds, listOf c'.dsI c'.n5) :: (dn, listOf c'.nsI c'.n6) :: (123, tabObj c'.ps) :: (st, so') :: (ll, listOf ls' n7') :: Z' : List (Addr × Obj)) := fun p hp => by
    iterate 10 (refine List.mem_cons_of_mem _ ?_)
    exact hp
  have sub : ∀ p ∈ ((dd, listOf c'.its c'.n1) :: (l, listOf c'.hds c'.n2) :: (cl, listOf #[.str nm' tn'] n3) :: (dx, wrD w ts f dd ds dn dm dp c'.seen c'.done) :: (dp, listOf c'.pI c'.n4) :: (ds, listOf c'.dsI c'.n5) :: (dn, listOf c'.nsI c'.n6) :: (123, tabObj c'.ps) :: (st, so') :: (ll, listOf ls' n7') :: (offL [L + 1] Z') : List (Addr × Obj)), p ∈ ((dd, listOf c'.its c'.n1) :: (l, listOf c'.hds c'.n2) :: (cl, listOf #[.str nm' tn'] n3) :: (dx, wrD w ts f dd ds dn dm dp c'.seen c'.done) :: (dp, listOf c'.pI c'.n4) :: (ds, listOf c'.dsI c'.n5) :: (dn, listOf c'.nsI c'.n6) :: (123, tabObj c'.ps) :: (st, so') :: (ll, listOf ls' n7') :: Z' : List (Addr × Obj)) := List.forall_mem_cons.mpr ⟨(List.Mem.head _), List.forall_mem_cons.mpr ⟨(.tail _ (List.Mem.head _)), List.forall_mem_cons.mpr ⟨(.tail _ (.tail _ (List.Mem.head _))), List.forall_mem_cons.mpr ⟨(.tail _ (.tail _ (.tail _ (List.Mem.head _)))), List.forall_mem_cons.mpr ⟨(.tail _ (.tail _ (.tail _ (.tail _ (List.Mem.head _))))), List.forall_mem_cons.mpr ⟨(.tail _ (.tail _ (.tail _ (.tail _ (.tail _ (List.Mem.head _)))))), List.forall_mem_cons.mpr ⟨(.tail _ (.tail _ (.tail _ (.tail _ (.tail _ (.tail _ (List.Mem.head _))))))), List.forall_mem_cons.mpr ⟨(.tail _ (.tail _ (.tail _ (.tail _ (.tail _ (.tail _ (.tail _ (List.Mem.head _)))))))), List.forall_mem_cons.mpr ⟨(.tail _ (.tail _ (.tail _ (.tail _ (.tail _ (.tail _ (.tail _ (.tail _ (List.Mem.head _))))))))), List.forall_mem_cons.mpr ⟨(.tail _ (.tail _ (.tail _ (.tail _ (.tail _ (.tail _ (.tail _ (.tail _ (.tail _ (List.Mem.head _)))))))))), fun p hp => (.tail _ (.tail _ (.tail _ (.tail _ (.tail _ (.tail _ (.tail _ (.tail _ (.tail _ (.tail _ (offL_sub hp)))))))))))⟩⟩⟩⟩⟩⟩⟩⟩⟩⟩
  have hn := hD'.off _ k7
  simp only [List.mem_cons, List.not_mem_nil, not_or, or_false] at hn
  have hL : ∀ p ∈ ((dd, listOf c'.its c'.n1) :: (l, listOf c'.hds c'.n2) :: (cl, listOf #[.str nm' tn'] n3) :: (dx, wrD w ts f dd ds dn dm dp c'.seen c'.done) :: (dp, listOf c'.pI c'.n4) :: (ds, listOf c'.dsI c'.n5) :: (dn, listOf c'.nsI c'.n6) :: (123, tabObj c'.ps) :: (st, so') :: (ll, listOf ls' n7') :: (offL [L + 1] Z') : List (Addr × Obj)), p.1 ≠ L + 1 := List.forall_mem_cons.mpr ⟨(fun z => hn.1 z.symm), List.forall_mem_cons.mpr ⟨(fun z => hn.2.1 z.symm), List.forall_mem_cons.mpr ⟨(fun z => hn.2.2.1 z.symm), List.forall_mem_cons.mpr ⟨(fun z => hn.2.2.2.1 z.symm), List.forall_mem_cons.mpr ⟨(fun z => hn.2.2.2.2.1 z.symm), List.forall_mem_cons.mpr ⟨(fun z => hn.2.2.2.2.2.1 z.symm), List.forall_mem_cons.mpr ⟨(fun z => hn.2.2.2.2.2.2.1 z.symm), List.forall_mem_cons.mpr ⟨(fun z => hn.2.2.2.2.2.2.2.1 z.symm), List.forall_mem_cons.mpr ⟨(fun z => hn.2.2.2.2.2.2.2.2.1 z.symm), List.forall_mem_cons.mpr ⟨(fun z => hn.2.2.2.2.2.2.2.2.2 z.symm), fun p hp z => offL_not hp (by rw [z]; exact List.mem_singleton.mpr rfl)⟩⟩⟩⟩⟩⟩⟩⟩⟩⟩
  obtain ⟨th, td, frm, hso⟩ := IL'.so
  obtain ⟨c1, c2, o5, o6, c9, oc9, vs9, t9, th9, dxt, pm, ctv, q1, q2, q3, q4, q5, q6, q7, q8, q9, q10⟩ := IW'.hz.is
  refine iter_range_K (nz := (dd, listOf c'.its c'.n1) :: (l, listOf c'.hds c'.n2) :: (cl, listOf #[.str nm' tn'] n3) :: (dx, wrD w ts f dd ds dn dm dp c'.seen c'.done) :: (dp, listOf c'.pI c'.n4) :: (ds, listOf c'.dsI c'.n5) :: (dn, listOf c'.nsI c'.n6) :: (123, tabObj c'.ps) :: (st, so') :: (ll, listOf ls' n7') :: Z') (by k_asm) (by k_asm) hrr rfl (by decide) fun I1 h1 hI1 F1 N1 => ?_
  have cd : ∀ {p : Addr × Obj}, p ∈ Z' → (∀ v, p.2.data ≠ .cell v) → p ∈ offL [L + 1] Z' := fun {p} a b => cut_data N1 (fun p hp => .tail _ (inZ p hp)) (.tail _ (inZ _ k7)) k8 a b
  have DZ : DepZ w L xt dxt l ll th9 so' c'.hds ls' _ S'.laid (offL [L + 1] Z') :=
    ⟨⟨_, _, _, _, hso⟩, cd q9 (by intro v h; cases h), cd q10 (by intro v h; cases h), ⟨o4, offL_mem k9 (fun z => absurd (List.mem_singleton.mp z) (Nat.ne_of_gt (Nat.lt_succ_of_lt (Nat.lt_succ_self (L + 1))))), k10⟩,
      forall2_mono (fun _ _ ⟨q, a, u, e, m⟩ => ⟨q, a, u, e, cd m (by intro v h; cases h)⟩) IW'.tab, forall2_mono (fun _ _ ⟨q, a, u, e, m⟩ => ⟨q, a, u, e, cd m (by intro v h; cases h)⟩) IL'.la, Nat.le_trans IW'.tabn (by kln_le), Nat.le_trans IL'.lan (by kln_le)⟩
  refine OwitAt.intro ?_
  have N6 : News g2 L h1 ((I1, itR ((0 : Nat) : Int) ((4 : Nat) : Int)) :: (L + 1, o3) :: (dd, listOf c'.its c'.n1) :: (l, listOf c'.hds c'.n2) :: (cl, listOf #[.str nm' tn'] n3) :: (dx, wrD w ts f dd ds dn dm dp c'.seen c'.done) :: (dp, listOf c'.pI c'.n4) :: (ds, listOf c'.dsI c'.n5) :: (dn, listOf c'.nsI c'.n6) :: (123, tabObj c'.ps) :: (st, so') :: (ll, listOf ls' n7') :: (offL [L + 1] Z')) := news_sub N1 (List.forall_mem_cons.mpr ⟨(List.Mem.head _), List.forall_mem_cons.mpr ⟨(.tail _ (.tail _ (.tail _ (.tail _ (.tail _ (.tail _ (.tail _ (.tail _ (.tail _ (.tail _ (.tail _ k7))))))))))), List.forall_mem_cons.mpr ⟨(.tail _ (List.Mem.head _)), List.forall_mem_cons.mpr ⟨(.tail _ (.tail _ (List.Mem.head _))), List.forall_mem_cons.mpr ⟨(.tail _ (.tail _ (.tail _ (List.Mem.head _)))), List.forall_mem_cons.mpr ⟨(.tail _ (.tail _ (.tail _ (.tail _ (List.Mem.head _))))), List.forall_mem_cons.mpr ⟨(.tail _ (.tail _ (.tail _ (.tail _ (.tail _ (List.Mem.head _)))))), List.forall_mem_cons.mpr ⟨(.tail _ (.tail _ (.tail _ (.tail _ (.tail _ (.tail _ (List.Mem.head _))))))), List.forall_mem_cons.mpr ⟨(.tail _ (.tail _ (.tail _ (.tail _ (.tail _ (.tail _ (.tail _ (List.Mem.head _)))))))), List.forall_mem_cons.mpr ⟨(.tail _ (.tail _ (.tail _ (.tail _ (.tail _ (.tail _ (.tail _ (.tail _ (List.Mem.head _))))))))), List.forall_mem_cons.mpr ⟨(.tail _ (.tail _ (.tail _ (.tail _ (.tail _ (.tail _ (.tail _ (.tail _ (.tail _ (List.Mem.head _)))))))))), List.forall_mem_cons.mpr ⟨(.tail _ (.tail _ (.tail _ (.tail _ (.tail _ (.tail _ (.tail _ (.tail _ (.tail _ (.tail _ (List.Mem.head _))))))))))), fun p hp => (.tail _ (.tail _ (.tail _ (.tail _ (.tail _ (.tail _ (.tail _ (.tail _ (.tail _ (.tail _ (.tail _ (offL_sub hp))))))))))))⟩⟩⟩⟩⟩⟩⟩⟩⟩⟩⟩⟩)
  refine turns_y (b := b) (its := its) (ks := ks) (tp := tp) (i := i) (n := n) (l0 := l0) (t0 := t0) 4 59 0 B2 F1 X2 N6 Tp2 DZ A' sm' ⟨_, k8⟩ rfl (by kln_le) (by kln_le) (Nat.ne_of_lt (hI1 _ (inZ _ k7))) (fun p hp => Nat.ne_of_lt (hI1 p (sub p hp))) hL (fun h5 g5 d5 tk5 hb5 F5 N7 => ?_)
  (try dsimp only)
  have c9 := cd (hs' _ h9) (by intro v h; cases h)
  have N8 : News g2 L h5 [(123, tabObj c'.ps), (349, tabObj ps9)] := news_sub N7 (List.forall_mem_cons.mpr ⟨(.tail _ (.tail _ (.tail _ (.tail _ (.tail _ (.tail _ (.tail _ (List.Mem.head _)))))))), List.forall_mem_cons.mpr ⟨(.tail _ (.tail _ (.tail _ (.tail _ (.tail _ (.tail _ (.tail _ (.tail _ (.tail _ (.tail _ c9)))))))))), (fun _ h => nomatch h)⟩⟩)
  clear N7
  have N5 : News g2 L h5 [] := fun _ h => nomatch h
  k_steps
  exact hF _ _ _ _ _ _ _ T2 (by k_asm) N8 (fun z => hb5 (hb2 z))
end
section
theorem empty_cps : ((Str.ofString "").cps.all (· < 128)) = true := by decide +kernel
theorem filt_e (d : Nat) : jn (([] : List (Int × Str)).filter (fun e => e.1 == (d : Int)) |>.map (·.2)) = jn (([] : List (Str × Str)).filter (fun e => Txt.lower e.1 == lowD d) |>.map (·.2)) := rfl
theorem go_y {w : World} {d u : Nat} {gd : Option (List Code)} {base g₁ : Heap} {outer : List Env} {env : Env} {L : Nat} {mean : ExcName → Option Value} {mg mb : Str → Option Value} {h : Heap} {g : Array GenState} {dr : Drawn} {tk : Tok} {os : OsState}
    {Q Qn : Flow → Shared → Prop} {Er : Value → Shared → Prop} {x dx f dd ds dn dp xt dxt l cl l0 t0 st ll cs c1 n cN : Nat} {dm : Addr} {ts : Nat → Tok} {so o1 o2 o3 oc1 : Obj} {its dnI vs1 ps9 : Array Value} {tx tx' ta tp th t1 : Tok} {pm ctv : Value} {ks : List (Kd × Str)} {news : List (Addr × Obj)}
    (B : Below (Ar d u gd env outer) base (env :: outer) g₁) (F : Fr g₁ L h (mR L st x cs (some (.int 0 tp)) none none)) (X : (K w.params).In g₁) (N : News g₁ L h ((ll, listOf #[] 0) :: (st, so) :: (dx, wrD w ts f dd ds dn dm dp false false) :: (x, instObj 150 dx) :: (dd, listOf #[] 0) :: (ds, listOf #[.ref l0] 0) :: (l0, listOf #[.ref t0] 0) :: (t0, tupO (.str xmlS tx) (.str (Str.ofString "xml") tx')) :: (dn, listOf dnI cN) :: (dp, listOf #[.bool false] 0) :: (f, handO (L + 1 + 1) (L + 1 + 1 + 1) pm ctv c1) :: (c1, oc1) :: (cl, listOf #[.str (Str.ofString "a") ta] 0) :: (l, listOf #[] 0) :: (xt, instObj 312 dxt) :: (dxt, tabD w l th) :: (L + 1 + 1 + 1, o1) :: (L + 1 + 1, o2) :: (L + 1, o3) :: (349, tabObj ps9) :: (123, tabObj #[]) :: (cs, listOf its n) :: news)) (T : Top topProg LS mean mg mb g₁)
    (XB : (K w.params).In base) (TB : Top topProg LS mean mg mb base) (D : KtsDicts ((env :: outer).filterMap (·.frame)) g₁) (hd1 : d ≤ 630) (hu1 : u ≤ 270)
    (hso : ∃ th td frm, so.IsDictOf (strKind prg w) (stK (.str (Str.ofString "") th) (.int 0 td) frm (.bool false) (.ref ll))) (hdn : dnI.size = 2) (hoc1 : oc1.data = .fields vs1) (hvs1 : vs1[1]? = some (.str (Str.ofString "_law_run.<locals>.<lambda>") t1))
    (ho1 : o1.data = .cell (some (.ref xt))) (ho2 : o2.data = .cell (some (.ref cl))) (ho3 : o3.data = .cell none)
    (r1 : L + 1 + 1 + 1 < dxt) (r2 : dxt < xt) (r3 : xt < l) (r4 : l < cl) (r5 : cl < c1) (r6 : c1 < f) (r7 : f < dx) (r8 : dx < x) (r9 : x < dd) (r10 : dd < t0) (r11 : t0 < l0) (r12 : l0 < ds) (r13 : ds < dn) (r14 : dn < dp) (r15 : dp < st) (r16 : st < ll) (r17 : 123 < L) (r18 : cs < L) (r20 : 349 < L) (r19 : cs ≠ 123) (hnw : ∀ p ∈ news, p.1 < L) (hn1 : ∀ p ∈ news, p.1 ≠ 123)
    (H : CallAre news its.toList ks) (hks : ks.length ≤ 14) (hall : ∀ e ∈ ks, TxtL e.2 ∧ (e.1 = .beg → ValL e.2)) (he1 : TxtL (Str.ofString "")) (he2 : ValL (Str.ofString "")) (htx : TxtL (Str.ofString "t")) (hE : PassesOwn (model prg w) ((Ar d u gd env outer).deeper (envR L)) (envR L) Er)
    (hQ : ∀ s', wpAny (model prg w) ((Ar d u gd env outer).deeper (envR L)) (execs (List.drop 6 (fBody (stA 22))) (envR L)) Q Er s' → Qn .next s')
    (hF : ∀ g₁' h' gs' dr' tk' m' ps', KtsTurn ((env :: outer).filterMap (·.frame)) g₁ g₁' → Fr g₁' L h' m' → News g₁' L h' [(123, tabObj ps'), (349, tabObj ps9)] → (AllBare g → AllBare gs') → Q (.ret (.bool true)) ⟨h', gs', dr', tk', os⟩) :
    wpAny (model prg w) ((Ar d u gd env outer).deeper (envR L)) (exec runW (envR L)) Qn Er ⟨h, g, dr, tk, os⟩ := by
  have P0 : ([L + 1, L + 1 + 1, L + 1 + 1 + 1, dxt, xt, l, cl, c1, f, dx, x, dd, t0, l0, ds, dn, dp, st, ll] : List Nat).Pairwise (· < ·) := pw_cons (Nat.lt_succ_self _) (pw_cons (Nat.lt_succ_self _) (pw_cons r1 (pw_cons r2 (pw_cons r3 (pw_cons r4 (pw_cons r5 (pw_cons r6 (pw_cons r7 (pw_cons r8 (pw_cons r9 (pw_cons r10 (pw_cons r11 (pw_cons r12 (pw_cons r13 (pw_cons r14 (pw_cons r15 (pw_cons r16 (pw_one))))))))))))))))))
  have P1 : ([123, 349, L + 1, L + 1 + 1, L + 1 + 1 + 1, dxt, xt, l, cl, c1, f, dx, x, dd, t0, l0, ds, dn, dp, st, ll] : List Nat).Pairwise (· < ·) := pw_cons (by decide) (pw_cons (Nat.lt_succ_of_lt r20) P0)
  have P2 : ([L, L + 1, L + 1 + 1, L + 1 + 1 + 1, dxt, xt, l, cl, c1, f, dx, x, dd, t0, l0, ds, dn, dp, st, ll] : List Nat).Pairwise (· < ·) := pw_cons (Nat.lt_succ_self _) P0
  have h9 : ∀ t ∈ ([dd, l, cl, dx, dp, ds, dn] ++ [st, ll] : List Nat), L < t := List.forall_mem_cons.mpr ⟨pw_lt P2 (i := 0) (j := 12) rfl rfl (by decide), List.forall_mem_cons.mpr ⟨pw_lt P2 (i := 0) (j := 6) rfl rfl (by decide), List.forall_mem_cons.mpr ⟨pw_lt P2 (i := 0) (j := 7) rfl rfl (by decide), List.forall_mem_cons.mpr ⟨pw_lt P2 (i := 0) (j := 10) rfl rfl (by decide), List.forall_mem_cons.mpr ⟨pw_lt P2 (i := 0) (j := 17) rfl rfl (by decide), List.forall_mem_cons.mpr ⟨pw_lt P2 (i := 0) (j := 15) rfl rfl (by decide), List.forall_mem_cons.mpr ⟨pw_lt P2 (i := 0) (j := 16) rfl rfl (by decide), List.forall_mem_cons.mpr ⟨pw_lt P2 (i := 0) (j := 18) rfl rfl (by decide), List.forall_mem_cons.mpr ⟨pw_lt P2 (i := 0) (j := 19) rfl rfl (by decide), (fun _ h => nomatch h)⟩⟩⟩⟩⟩⟩⟩⟩⟩
  have main : ∀ Z : List (Addr × Obj), (x, instObj 150 dx) ∈ Z → (l0, listOf #[.ref t0] 0) ∈ Z → (t0, tupO (.str xmlS tx) (.str (Str.ofString "xml") tx')) ∈ Z → (f, handO (L + 1 + 1) (L + 1 + 1 + 1) pm ctv c1) ∈ Z → (c1, oc1) ∈ Z → (xt, instObj 312 dxt) ∈ Z → (dxt, tabD w l th) ∈ Z → (L + 1 + 1 + 1, o1) ∈ Z → (L + 1 + 1, o2) ∈ Z → (L + 1, o3) ∈ Z → (cs, listOf its n) ∈ Z → (349, tabObj ps9) ∈ Z → (∀ p ∈ news, p ∈ Z) → DisjL [dd, l, cl, dx, dp, ds, dn, 123, st, ll] Z → News g₁ L h ((dd, listOf ({ its := #[], hds := #[], dsI := #[.ref l0], nsI := dnI, pI := #[.bool false], ps := #[], n1 := 0, n2 := 0, n4 := 0, n5 := 0, n6 := cN, seen := false, done := false } : Cf).its ({ its := #[], hds := #[], dsI := #[.ref l0], nsI := dnI, pI := #[.bool false], ps := #[], n1 := 0, n2 := 0, n4 := 0, n5 := 0, n6 := cN, seen := false, done := false } : Cf).n1) :: (l, listOf ({ its := #[], hds := #[], dsI := #[.ref l0], nsI := dnI, pI := #[.bool false], ps := #[], n1 := 0, n2 := 0, n4 := 0, n5 := 0, n6 := cN, seen := false, done := false } : Cf).hds ({ its := #[], hds := #[], dsI := #[.ref l0], nsI := dnI, pI := #[.bool false], ps := #[], n1 := 0, n2 := 0, n4 := 0, n5 := 0, n6 := cN, seen := false, done := false } : Cf).n2) :: (cl, listOf #[.str (Str.ofString "a") ta] 0) :: (dx, wrD w ts f dd ds dn dm dp ({ its := #[], hds := #[], dsI := #[.ref l0], nsI := dnI, pI := #[.bool false], ps := #[], n1 := 0, n2 := 0, n4 := 0, n5 := 0, n6 := cN, seen := false, done := false } : Cf).seen ({ its := #[], hds := #[], dsI := #[.ref l0], nsI := dnI, pI := #[.bool false], ps := #[], n1 := 0, n2 := 0, n4 := 0, n5 := 0, n6 := cN, seen := false, done := false } : Cf).done) :: (dp, listOf ({ its := #[], hds := #[], dsI := #[.ref l0], nsI := dnI, pI := #[.bool false], ps := #[], n1 := 0, n2 := 0, n4 := 0, n5 := 0, n6 := cN, seen := false, done := false } : Cf).pI ({ its := #[], hds := #[], dsI := #[.ref l0], nsI := dnI, pI := #[.bool false], ps := #[], n1 := 0, n2 := 0, n4 := 0, n5 := 0, n6 := cN, seen := false, done := false } : Cf).n4) :: (ds, listOf ({ its := #[], hds := #[], dsI := #[.ref l0], nsI := dnI, pI := #[.bool false], ps := #[], n1 := 0, n2 := 0, n4 := 0, n5 := 0, n6 := cN, seen := false, done := false } : Cf).dsI ({ its := #[], hds := #[], dsI := #[.ref l0], nsI := dnI, pI := #[.bool false], ps := #[], n1 := 0, n2 := 0, n4 := 0, n5 := 0, n6 := cN, seen := false, done := false } : Cf).n5) :: (dn, listOf ({ its := #[], hds := #[], dsI := #[.ref l0], nsI := dnI, pI := #[.bool false], ps := #[], n1 := 0, n2 := 0, n4 := 0, n5 := 0, n6 := cN, seen := false, done := false } : Cf).nsI ({ its := #[], hds := #[], dsI := #[.ref l0], nsI := dnI, pI := #[.bool false], ps := #[], n1 := 0, n2 := 0, n4 := 0, n5 := 0, n6 := cN, seen := false, done := false } : Cf).n6) :: (123, tabObj ({ its := #[], hds := #[], dsI := #[.ref l0], nsI := dnI, pI := #[.bool false], ps := #[], n1 := 0, n2 := 0, n4 := 0, n5 := 0, n6 := cN, seen := false, done := false } : Cf).ps) :: (st, so) :: (ll, listOf #[] 0) :: Z) → wpAny (model prg w) ((Ar d u gd env outer).deeper (envR L)) (exec runW (envR L)) Qn Er ⟨h, g, dr, tk, os⟩ := by
    intro Z mx ml0 mt0 mf mc1 mxt mdxt mo1 mo2 mo3 mcs m9 mn hD N2
    obtain ⟨a1, a2, a3, hso⟩ := hso
    have hz : HandZ w Z f xt l cl := ⟨⟨L + 1 + 1, L + 1 + 1 + 1, o2, o1, c1, oc1, vs1, t1, th, dxt, pm, ctv, mf, mc1, hoc1, hvs1, mo2, ho2, mo1, ho1, mxt, mdxt⟩⟩
    have hB : StkB Z #[.ref l0] l0 t0 := ⟨⟨0, tx, tx', ml0, mt0⟩, Nat.zero_lt_one, (show 1 ≤ 1000 by decide), rfl, fun i a b => absurd b (by simp; kln_le)⟩
    have I : InvW w x dx f xt l cl l0 t0 ⟨Str.ofString "", 0, false, []⟩ ({ its := #[], hds := #[], dsI := #[.ref l0], nsI := dnI, pI := #[.bool false], ps := #[], n1 := 0, n2 := 0, n4 := 0, n5 := 0, n6 := cN, seen := false, done := false } : Cf) Z 0 := ⟨mx, hz, hB, .inl rfl, ⟨[], .nil, join_nil, Nat.le_refl _, Nat.le_refl _⟩, by decide, .nil, Nat.le_refl _, rfl, rfl, rfl, rfl, hdn, Nat.le_refl _, fun z => absurd z (Nat.lt_irrefl _)⟩
    have IL : InvL w st ll ⟨Str.ofString "", 0, false, []⟩ so #[] Z 0 := ⟨⟨a1, a2, a3, hso⟩, .nil, Nat.le_refl _, by decide, empty_cps⟩
    have A : Agree ⟨Str.ofString "", 0, false, []⟩ ⟨Str.ofString "", 0, false, []⟩ := ⟨rfl, rfl, rfl, good_e, by decide, fun z => absurd z (Nat.lt_irrefl _), rfl, fun d _ => rfl⟩
    have RZ : RunZ L cs xt cl its n ks Z := ⟨⟨o1, mo1, ho1⟩, ⟨o2, mo2, ho2⟩, ⟨o3, mo3, ho3⟩, mcs, forall2_mono (fun _ _ ⟨q, a, u, e, m⟩ => ⟨q, a, u, e, mn _ m⟩) H⟩
    have hmu : mu ks 0 ⟨Str.ofString "", 0, false, []⟩ ≤ 18 := by
      unfold mu
      split
      · kln_le
      · decide
    refine whl_start 19 ?_
    refine loop_y (i := 0) (b := 0) 18 B F X N2 T IL hD RZ (by kln_le) XB TB D hd1 hu1 I A (fun e he => nomatch he) (by kln_le) hmu (by kln_le) hall he1 he2 hE ?_
    intro c5 Z5 so5 ls5 n75 nm5 tn5 S5 W5 b5 g5 h5 gs5 dr5 tk5 P5 vW5 vX5 e1 e2 I5 IL5 hb5 hD5 hs5 A5 sm5 T5 F5 N5 B5 X5 Tp5 D5 hb
    refine hQ _ (last_y (i := 0) (tp := 0) (hs5 _ m9) B5 F5 X5 N5 Tp5 IL5 hD5 (RZ.mono hs5) XB TB D5 hd1 hu1 I5 hb5 A5 sm5 htx hE ?_)
    intro g6 h6 gs6 dr6 tk6 m6 ps6 T6 F6 N6 hb6
    exact hF g6 h6 gs6 dr6 tk6 m6 ps6 (T5.trans T6) F6 N6 (fun z => hb6 (hb z))
  exact main ((x, instObj 150 dx) :: (l0, listOf #[.ref t0] 0) :: (t0, tupO (.str xmlS tx) (.str (Str.ofString "xml") tx')) :: (f, handO (L + 1 + 1) (L + 1 + 1 + 1) pm ctv c1) :: (c1, oc1) :: (xt, instObj 312 dxt) :: (dxt, tabD w l th) :: (L + 1 + 1 + 1, o1) :: (L + 1 + 1, o2) :: (L + 1, o3) :: (cs, listOf its n) :: (349, tabObj ps9) :: news) ((List.Mem.head _)) ((.tail _ (List.Mem.head _))) ((.tail _ (.tail _ (List.Mem.head _)))) ((.tail _ (.tail _ (.tail _ (List.Mem.head _))))) ((.tail _ (.tail _ (.tail _ (.tail _ (List.Mem.head _)))))) ((.tail _ (.tail _ (.tail _ (.tail _ (.tail _ (List.Mem.head _))))))) ((.tail _ (.tail _ (.tail _ (.tail _ (.tail _ (.tail _ (List.Mem.head _)))))))) ((.tail _ (.tail _ (.tail _ (.tail _ (.tail _ (.tail _ (.tail _ (List.Mem.head _))))))))) ((.tail _ (.tail _ (.tail _ (.tail _ (.tail _ (.tail _ (.tail _ (.tail _ (List.Mem.head _)))))))))) ((.tail _ (.tail _ (.tail _ (.tail _ (.tail _ (.tail _ (.tail _ (.tail _ (.tail _ (List.Mem.head _))))))))))) ((.tail _ (.tail _ (.tail _ (.tail _ (.tail _ (.tail _ (.tail _ (.tail _ (.tail _ (.tail _ (List.Mem.head _)))))))))))) ((.tail _ (.tail _ (.tail _ (.tail _ (.tail _ (.tail _ (.tail _ (.tail _ (.tail _ (.tail _ (.tail _ (List.Mem.head _))))))))))))) (fun p hp => (.tail _ (.tail _ (.tail _ (.tail _ (.tail _ (.tail _ (.tail _ (.tail _ (.tail _ (.tail _ (.tail _ (.tail _ hp))))))))))))) (disj_pw P1 [13, 7, 8, 11, 18, 16, 17, 0, 19, 20] rfl (by decide) (List.forall_mem_cons.mpr ⟨pw_nm P1 12 [13, 7, 8, 11, 18, 16, 17, 0, 19, 20] rfl rfl rfl, List.forall_mem_cons.mpr ⟨pw_nm P1 15 [13, 7, 8, 11, 18, 16, 17, 0, 19, 20] rfl rfl rfl, List.forall_mem_cons.mpr ⟨pw_nm P1 14 [13, 7, 8, 11, 18, 16, 17, 0, 19, 20] rfl rfl rfl, List.forall_mem_cons.mpr ⟨pw_nm P1 10 [13, 7, 8, 11, 18, 16, 17, 0, 19, 20] rfl rfl rfl, List.forall_mem_cons.mpr ⟨pw_nm P1 9 [13, 7, 8, 11, 18, 16, 17, 0, 19, 20] rfl rfl rfl, List.forall_mem_cons.mpr ⟨pw_nm P1 6 [13, 7, 8, 11, 18, 16, 17, 0, 19, 20] rfl rfl rfl, List.forall_mem_cons.mpr ⟨pw_nm P1 5 [13, 7, 8, 11, 18, 16, 17, 0, 19, 20] rfl rfl rfl, List.forall_mem_cons.mpr ⟨pw_nm P1 4 [13, 7, 8, 11, 18, 16, 17, 0, 19, 20] rfl rfl rfl, List.forall_mem_cons.mpr ⟨pw_nm P1 3 [13, 7, 8, 11, 18, 16, 17, 0, 19, 20] rfl rfl rfl, List.forall_mem_cons.mpr ⟨pw_nm P1 2 [13, 7, 8, 11, 18, 16, 17, 0, 19, 20] rfl rfl rfl, List.forall_mem_cons.mpr ⟨nm_ins (l := [dd, l, cl, dx, dp, ds, dn]) (low_nm r18 h9) r19, List.forall_mem_cons.mpr ⟨pw_nm P1 1 [13, 7, 8, 11, 18, 16, 17, 0, 19, 20] rfl rfl rfl, fun p hp => nm_ins (l := [dd, l, cl, dx, dp, ds, dn]) (low_nm (hnw p hp) h9) (hn1 p hp)⟩⟩⟩⟩⟩⟩⟩⟩⟩⟩⟩⟩)) (news_sub N (List.forall_mem_cons.mpr ⟨(.tail _ (.tail _ (.tail _ (.tail _ (List.Mem.head _))))), List.forall_mem_cons.mpr ⟨(.tail _ (.tail _ (.tail _ (.tail _ (.tail _ (.tail _ (.tail _ (.tail _ (.tail _ (.tail _ (.tail _ (.tail _ (.tail _ (List.Mem.head _)))))))))))))), List.forall_mem_cons.mpr ⟨(.tail _ (.tail _ (.tail _ (.tail _ (.tail _ (.tail _ (.tail _ (.tail _ (.tail _ (.tail _ (.tail _ (.tail _ (List.Mem.head _))))))))))))), List.forall_mem_cons.mpr ⟨(.tail _ (.tail _ (List.Mem.head _))), List.forall_mem_cons.mpr ⟨(.tail _ (.tail _ (.tail _ (.tail _ (.tail _ (.tail _ (.tail _ (.tail _ (.tail _ (List.Mem.head _)))))))))), List.forall_mem_cons.mpr ⟨(.tail _ (.tail _ (.tail _ (.tail _ (.tail _ (List.Mem.head _)))))), List.forall_mem_cons.mpr ⟨(.tail _ (.tail _ (.tail _ (.tail _ (.tail _ (.tail _ (.tail _ (.tail _ (List.Mem.head _))))))))), List.forall_mem_cons.mpr ⟨(.tail _ (.tail _ (.tail _ (.tail _ (.tail _ (.tail _ (.tail _ (.tail _ (.tail _ (.tail _ (.tail _ (.tail _ (.tail _ (.tail _ (.tail _ (.tail _ (.tail _ (.tail _ (.tail _ (.tail _ (List.Mem.head _))))))))))))))))))))), List.forall_mem_cons.mpr ⟨(.tail _ (List.Mem.head _)), List.forall_mem_cons.mpr ⟨(List.Mem.head _), List.forall_mem_cons.mpr ⟨(.tail _ (.tail _ (.tail _ (List.Mem.head _)))), List.forall_mem_cons.mpr ⟨(.tail _ (.tail _ (.tail _ (.tail _ (.tail _ (.tail _ (List.Mem.head _))))))), List.forall_mem_cons.mpr ⟨(.tail _ (.tail _ (.tail _ (.tail _ (.tail _ (.tail _ (.tail _ (List.Mem.head _)))))))), List.forall_mem_cons.mpr ⟨(.tail _ (.tail _ (.tail _ (.tail _ (.tail _ (.tail _ (.tail _ (.tail _ (.tail _ (.tail _ (List.Mem.head _))))))))))), List.forall_mem_cons.mpr ⟨(.tail _ (.tail _ (.tail _ (.tail _ (.tail _ (.tail _ (.tail _ (.tail _ (.tail _ (.tail _ (.tail _ (List.Mem.head _)))))))))))), List.forall_mem_cons.mpr ⟨(.tail _ (.tail _ (.tail _ (.tail _ (.tail _ (.tail _ (.tail _ (.tail _ (.tail _ (.tail _ (.tail _ (.tail _ (.tail _ (.tail _ (List.Mem.head _))))))))))))))), List.forall_mem_cons.mpr ⟨(.tail _ (.tail _ (.tail _ (.tail _ (.tail _ (.tail _ (.tail _ (.tail _ (.tail _ (.tail _ (.tail _ (.tail _ (.tail _ (.tail _ (.tail _ (List.Mem.head _)))))))))))))))), List.forall_mem_cons.mpr ⟨(.tail _ (.tail _ (.tail _ (.tail _ (.tail _ (.tail _ (.tail _ (.tail _ (.tail _ (.tail _ (.tail _ (.tail _ (.tail _ (.tail _ (.tail _ (.tail _ (List.Mem.head _))))))))))))))))), List.forall_mem_cons.mpr ⟨(.tail _ (.tail _ (.tail _ (.tail _ (.tail _ (.tail _ (.tail _ (.tail _ (.tail _ (.tail _ (.tail _ (.tail _ (.tail _ (.tail _ (.tail _ (.tail _ (.tail _ (List.Mem.head _)))))))))))))))))), List.forall_mem_cons.mpr ⟨(.tail _ (.tail _ (.tail _ (.tail _ (.tail _ (.tail _ (.tail _ (.tail _ (.tail _ (.tail _ (.tail _ (.tail _ (.tail _ (.tail _ (.tail _ (.tail _ (.tail _ (.tail _ (List.Mem.head _))))))))))))))))))), List.forall_mem_cons.mpr ⟨(.tail _ (.tail _ (.tail _ (.tail _ (.tail _ (.tail _ (.tail _ (.tail _ (.tail _ (.tail _ (.tail _ (.tail _ (.tail _ (.tail _ (.tail _ (.tail _ (.tail _ (.tail _ (.tail _ (.tail _ (.tail _ (List.Mem.head _)))))))))))))))))))))), List.forall_mem_cons.mpr ⟨(.tail _ (.tail _ (.tail _ (.tail _ (.tail _ (.tail _ (.tail _ (.tail _ (.tail _ (.tail _ (.tail _ (.tail _ (.tail _ (.tail _ (.tail _ (.tail _ (.tail _ (.tail _ (.tail _ (List.Mem.head _)))))))))))))))))))), fun p hp => (.tail _ (.tail _ (.tail _ (.tail _ (.tail _ (.tail _ (.tail _ (.tail _ (.tail _ (.tail _ (.tail _ (.tail _ (.tail _ (.tail _ (.tail _ (.tail _ (.tail _ (.tail _ (.tail _ (.tail _ (.tail _ (.tail _ hp))))))))))))))))))))))⟩⟩⟩⟩⟩⟩⟩⟩⟩⟩⟩⟩⟩⟩⟩⟩⟩⟩⟩⟩⟩⟩))
end
section
namespace NH2
theorem hereH2 : True := trivial
end NH2
open NH2
theorem fr_r0 {g hp : Heap} {L st x cs : Addr} {v : Value} (F : Fr g L hp (fun y => if y = Str.ofString "place" then some v else if y = Str.ofString "state" then some (.ref st) else if y = Str.ofString "target" then some (.ref x) else bindL (envR L).kindOf [(Str.ofString "calls", .ref cs)] (fun _ => none) y)) : Fr g L hp (mR L st x cs (some v) none none) := by
  refine fr_of F fun y => ?_
  dsimp only [mR]
  by_cases q1 : y = Str.ofString "text"
  · have q2 : y ≠ Str.ofString "place" := fun z => (by decide +kernel : Str.ofString "text" ≠ Str.ofString "place") (q1.symm.trans z)
    have q3 : y ≠ Str.ofString "state" := fun z => (by decide +kernel : Str.ofString "text" ≠ Str.ofString "state") (q1.symm.trans z)
    have q4 : y ≠ Str.ofString "target" := fun z => (by decide +kernel : Str.ofString "text" ≠ Str.ofString "target") (q1.symm.trans z)
    rw [if_neg q2, if_neg q3, if_neg q4, if_pos q1, q1]; kernel_rfl
  · by_cases q5 : y = Str.ofString "what"
    · have q2 : y ≠ Str.ofString "place" := fun z => (by decide +kernel : Str.ofString "what" ≠ Str.ofString "place") (q5.symm.trans z)
      have q3 : y ≠ Str.ofString "state" := fun z => (by decide +kernel : Str.ofString "what" ≠ Str.ofString "state") (q5.symm.trans z)
      have q4 : y ≠ Str.ofString "target" := fun z => (by decide +kernel : Str.ofString "what" ≠ Str.ofString "target") (q5.symm.trans z)
      rw [if_neg q2, if_neg q3, if_neg q4, if_neg q1, if_pos q5, q5]; kernel_rfl
    · rw [if_neg q1, if_neg q5]
theorem tyW (C : Addr) (vals : List Value) (kw : List (Str × Value)) : (Code.builtin "type.__call__" ⟨.ref C :: vals, kw⟩).weight = 1 := rfl
theorem tyU (C : Addr) (vals : List Value) (kw : List (Str × Value)) : (Code.builtin "type.__call__" ⟨.ref C :: vals, kw⟩).cUnits = 1 := rfl
theorem rowsH20 : True := by
  k_with "InitBack" => (fail_if_success fail_if_success have q := hereH2); (k_here; (dsimp only [InitBack]); refine ⟨rfl, ?_⟩; (try dsimp only))
  k_with "k_units" => (fail_if_success fail_if_success have q := hereH2); ((simp only [tyW, tyU, depth_deeper, units_deeper, units_in1, depth_in1, Around.mark_units, cLine]); kln_le)
  k_with "k_enter" => (fail_if_success fail_if_success have q := hereH2); ((try dsimp only [List.nil_append, List.cons_append, List.append_nil]); first | (refine hd_y ⟨by k_asm, by k_asm, by k_asm, by k_asm, by k_asm, rfl, rfl, by k_units, by k_units⟩ (by assumption) (fun pₓ hpₓ => allLt_mem (by assumption) pₓ hpₓ) ?_) | (refine init_y ⟨by k_asm, by k_asm, by k_asm, by k_asm, by k_asm, rfl, rfl, by k_units, by k_units⟩ (by assumption) (fun pₓ hpₓ => allLt_mem (by assumption) pₓ hpₓ) ?_))
  k_with "exec While" => (fail_if_success fail_if_success have q := hereH2); (k_here; refine hold_it ?_)
  trivial
theorem run_binds (a0 : Value) : bindArgs (fnOf (Str.ofString "_law_run") (Str.ofString "_law_run") (fPar (stA 22)) (fBody (stA 22)) (fScope (stA 22)) .none .none .none (.str (Str.ofString "law_pe0292_01") 802) none (.ref 351) .none) ⟨[a0], []⟩ = pure [(Str.ofString "calls", a0)] := by kernel_rfl!
theorem run_y {news : List (Addr × Obj)}
    {R : Result → Shared → Prop} {cs : Addr} {its : Array Value} {n : Nat} {ks : List (Kd × Str)}
    (cx : Ct w A₀ base h₀ outer env L m mean mg mb h ((349, tabObj #[]) :: (123, tabObj #[]) :: (cs, listOf its n) :: news) d u)
    (hd1 : d ≤ 620) (hu1 : u ≤ 260) (h9a : cs ≠ 349) (h9b : cs ≠ 123) (hn9 : ∀ p ∈ news, p.1 ≠ 349) (hn1 : ∀ p ∈ news, p.1 ≠ 123)
    (H : CallAre news its.toList ks) (hks : ks.length ≤ 14) (hall : ∀ e ∈ ks, TxtL e.2 ∧ (e.1 = .beg → ValL e.2)) (he1 : TxtL (Str.ofString "")) (he2 : ValL (Str.ofString "")) (htx : TxtL (Str.ofString "t"))
    (hF : ∀ ps1 ps2, BackT w A₀ base outer mean mg mb g os h₀ L m [(123, tabObj ps1), (349, tabObj ps2)] (.bool true) R) :
    codeAny (model prg w) (Ar d u gd env outer) (.call (.ref 352) ⟨[.ref cs], []⟩) R ⟨h, g, dr, tk, os⟩ := by
  obtain ⟨⟨B, F, X, N, T, hf, hke, hd, hu⟩, XB, TB, D⟩ := cx
  have XBc := XB
  have hrow : PySem.Challenge.rw_pe0292_01 = _ := rfl
  revert hrow X; k_fill; w_top on; intro X _
  refine' code_defCT B F X N T XB TB D rfl hf hke ?k6 ?k7 ?k8 (BindsTo.of_eq (run_binds _)) ?kB ?kD ?_ ?c2 ?c3 ?c4
  case k6 => k_is
  case k7 => k_is
  case k8 => k_room
  case kB => exact rfl
  case kD => decide +kernel
  case c2 => exact rfl
  case c3 => exact rfl
  case c4 => exact rfl
  intro g' L' h' tk' cells' FG' F' N' Y' B' X' T' D' l1
  (try k_lt l1); k_cells Y'; (try simp only [List.cons_append, List.nil_append] at N')
  (try dsimp only); (try ((with_reducible show wpAny _ _ _ _ _ _); k_fold))
  with_reducible refine gen_tok tokV ?_
  intro tk0 htk0
  have hl0 : ∀ p ∈ news, p.1 < L' := allLt_mem l1.2.2.2
  k_steps
  refine' kla_eval ?d0 ?_
  case d0 => exact rfl
  refine kla_nest (P := 349) (ps := #[]) (by k_asm) (by k_asm) T' (codeHd_of_K X' (by kernel_rfl)) rfl (by k_updF) (by kn_triples) (by kn_among) rfl ?_
  intro f1 c1 oc1 vs1 t1 ctv1 h1 tk1 F1 N1 hoc1 hvs1 lc1 lf1
  dsimp only at N1
  k_steps
  refine Or.inl ?_
  rename News g' L' _ _ => N9
  have hq : (envR L').qual ++ Str.ofString "<lambda>" = Str.ofString "_law_run.<locals>.<lambda>" := by
    show (Str.ofString "_law_run" ++ Str.ofString ".<locals>.") ++ Str.ofString "<lambda>" = _
    decide +kernel
  have hvs2 := hvs1
  rw [hq] at hvs2
  have N8 := N9
  rw [hq] at N8
  refine go_y (B := B') (F := fr_r0 (by k_asm)) X' N8 T' XB TB D' (by kln_le) (by kln_le) ⟨_, _, _, by assumption⟩ (by with_reducible assumption) hoc1 hvs2 (by with_reducible assumption) (by with_reducible assumption) ?o3 ?r1 ?r2 ?r3 ?r4 (lc1 _ (.head _)) lf1 ?r7 ?r8 ?r9 ?r10 ?r11 ?r12 ?r13 ?r14 ?r15 ?r16 ?r17 ?r18 ?r20 h9b hl0 hn1 H hks hall he1 he2 htx (by first | passes_own | with_unfolding_all passes_own) (fun s' z => z) ?fin
  case fin =>
    intro g9 h9 gs9 dr9 tk9 m9 ps9 T9 F9 N9 hb9
    exact leaveT_ F9 N9 T9 fun _ T10 F10 N10 B10 X10 Tp10 D10 => hF _ _ _ _ _ _ _ (fun hb => hb9 (by solve_by_elim)) T10 F10 N10 B10 X10 Tp10 D10
  all_goals first | assumption | kln_le
end
section
theorem good_of {t : Str} (h : t.cps.toList.all okc = true) : Good t := fun c hc => List.all_eq_true.mp h c hc
noncomputable def txtB (v : Str) : Bool := decide (v.length ≤ 3) && decide ((escC v).length ≤ 900) && decide ((cmS v).length ≤ 1000) && decide ((piS v).length ≤ 1000) && (v.cps.all (· < 128)) && decide ((spell psC v).length ≤ 900) && decide ((spell psA v).length ≤ 900) && v.cps.toList.all okc
theorem txtL_of {v : Str} (h : txtB v = true) : TxtL v := by
  unfold txtB at h
  simp only [Bool.and_eq_true, decide_eq_true_eq] at h
  obtain ⟨⟨⟨⟨⟨⟨⟨h1, h2⟩, h3⟩, h4⟩, h5⟩, h6⟩, h7⟩, h8⟩ := h
  exact ⟨⟨h1, h2, h3, h4, h5, h6, h7⟩, good_of h8⟩
noncomputable def valB (v : Str) : Bool := !vBad (attrS v) && decide ((attrS v).length ≤ 1000) && decide (Str.ofString "<" ++ Str.ofString "x" ++ (attrS v ++ Str.ofString ">") = pieceL .beg v) && decide (layP (pieceL .beg v) = ([pieceL .beg v], true))
theorem valL_of {v : Str} (h : valB v = true) : ValL v := by
  unfold valB at h
  simp only [Bool.and_eq_true, decide_eq_true_eq, Bool.not_eq_true'] at h
  obtain ⟨⟨⟨h1, h2⟩, h3⟩, h4⟩ := h
  exact ⟨⟨h1, h2⟩, h3, h4⟩
noncomputable abbrev textsL : List Str := [Str.ofString "t", Str.ofString "&<>", Str.ofString "\t", Str.ofString "\n", Str.ofString "\r", Str.ofString "\x7f", Str.ofString "\"", Str.ofString ""]
noncomputable abbrev valuesL : List Str := [Str.ofString "t", Str.ofString "&<>", Str.ofString "\t\n", Str.ofString "\"\r", Str.ofString ""]
theorem texts_ok : textsL.all txtB = true := by decide +kernel
theorem values_ok : valuesL.all (fun v => txtB v && valB v) = true := by decide +kernel
theorem texts_L {v : Str} (h : v ∈ textsL) : TxtL v := txtL_of (List.all_eq_true.mp texts_ok v h)
theorem values_L {v : Str} (h : v ∈ valuesL) : TxtL v ∧ ValL v := by
  have := List.all_eq_true.mp values_ok v h
  simp only [Bool.and_eq_true] at this
  exact ⟨txtL_of this.1, valL_of this.2⟩
end
section
namespace NZ1
theorem hereZ1 : True := trivial
end NZ1
open NZ1
noncomputable abbrev envL (L fa : Addr) (cd : Value) : Env := envOf (Str.ofString "law") (fScope (stA 23)) L fa cd
noncomputable abbrev itemB : List Stmt := forBody (nth (fBody (stA 23)) 3)
noncomputable abbrev mL (vl tl cl sc : Addr) (W P K X : Option Value) : Str → Option Value := fun y => if y = Str.ofString "what" then W else if y = Str.ofString "pick" then P else if y = Str.ofString "kind" then K else if y = Str.ofString "x" then X else if y = Str.ofString "calls" then some (.ref cl) else if y = Str.ofString "values" then some (.ref vl) else if y = Str.ofString "texts" then some (.ref tl) else List.lookup y ([(Str.ofString "script", .ref sc)] : List (Str × Value))
theorem ml_up {vl tl cl sc : Addr} {W P K X a b c : Option Value} (y : Str) : (if y = Str.ofString "what" then a else if y = Str.ofString "pick" then b else if y = Str.ofString "kind" then c else mL vl tl cl sc W P K X y) = mL vl tl cl sc a b c X y := by
  dsimp only [mL]
  by_cases q1 : y = Str.ofString "what"
  · simp only [if_pos q1]
  · simp only [if_neg q1]
    by_cases q2 : y = Str.ofString "pick"
    · simp only [if_pos q2]
    · simp only [if_neg q2]
      by_cases q3 : y = Str.ofString "kind"
      · simp only [if_pos q3]
      · simp only [if_neg q3]
theorem getD_mem {l : List Str} {n : Nat} (h : n < l.length) : l.getD n Str.empty ∈ l := by
  rw [List.getD_eq_getElem?_getD, List.getElem?_eq_getElem h]
  exact List.getElem_mem h
theorem table_item {w : World} {A : Around} {E : Value → Shared → Prop} {s : Shared} {h₀ : Heap} {L D : Addr} {led : List (Addr × Obj)} {its : Array Value} {n : Nat} {ws : List Str} {i : Int} {u : Tok} {Q : Value → Shared → Prop} {value slice : Expr} (N : News h₀ L s.heap led) (hm : (D, listOf its n) ∈ led) (hw : StrsAre its.toList ws) (h0 : 0 ≤ i) (h1 : i < (ws.length : Int)) (hfit : i < 1000) (h : ∀ v t', v ∈ ws → Q (.str v t') s)
    (hs : subscripted slice false (.ref D) (.int i u) = operate [.ref D, .int i u] (getItem (.ref D) (.int i u)) := by with_unfolding_all rfl) :
    wpAny (model prg w) A (subscriptTail value slice (.ref D) (.int i u)) Q E s := by
  have hl : s.heap.IsList D its.toList.toArray := ⟨_, (N _ hm).1, rfl, n, by simp⟩
  exact PySem.W.KTb.item_list hl hw h0 h1 (by kln_le) (fun t' hlt => h _ t' (getD_mem hlt)) hs
theorem rowsZ10 : True := by
  k_with "subscriptTail Name BinOp ref int" => (fail_if_success fail_if_success have q := hereZ1); (k_here; refine hold_it ?_)
  trivial
theorem item2_y (k : Kd) {w : World} {g₁ : Heap} {L fa : Addr} {cd : Value} {mean : ExcName → Option Value} {mg mb : Str → Option Value} {h : Heap} {g : Array GenState} {dr : Drawn} {tk : Tok} {os : OsState}
    {Q : Flow → Shared → Prop} {Er : Value → Shared → Prop} {vl tl cl sc : Addr} {its vals txs : Array Value} {n nv nt : Nat} {Z : List (Addr × Obj)} {t1 tp tkd : Tok} {p kd : Int} {Xv : Option Value}
    (F : Fr g₁ L h (mL vl tl cl sc (some (.str k.s t1)) (some (.int p tp)) (some (.int kd tkd)) Xv)) (X : (K w.params).In g₁) (N : News g₁ L h ((cl, listOf its n) :: (vl, listOf vals nv) :: (tl, listOf txs nt) :: Z)) (T : Top topProg LS mean mg mb g₁)
    (hv : StrsAre vals.toList valuesL) (ht : StrsAre txs.toList textsL) (hp0 : 0 ≤ p) (hp1 : p < 40) (hk : (kd = 0 ∧ k = .beg) ∨ (kd ≠ 0 ∧ k ≠ .beg)) (hs : its.size ≤ 100) (n1 : vl ≠ cl) (n2 : tl ≠ cl) (hZ : ∀ q ∈ Z, q.1 ≠ cl)
    (hF : ∀ h' tk' tp' tkd' q a u v, (TxtL v ∧ (k = .beg → ValL v)) → @LT.lt Nat _ cl q → @LT.lt Nat _ vl q → @LT.lt Nat _ tl q → AllLt q Z → Fr g₁ L h' (mL vl tl cl sc (some (.str k.s t1)) (some (.int p tp')) (some (.int kd tkd')) Xv) → News g₁ L h' ((cl, listOf (its.push (.ref q)) (n + 1)) :: (vl, listOf vals nv) :: (tl, listOf txs nt) :: (q, tupO (.str k.s a) (.str v u)) :: Z) → Q .next ⟨h', g, dr, tk', os⟩) :
    wpAny (model prg w) (callerA.deeper (envL L fa cd)) (execs (List.drop 3 itemB) (envL L fa cd)) Q Er ⟨h, g, dr, tk, os⟩ := by
  have hrow : PySem.Challenge.rw_pe0292_01 = _ := rfl
  revert hrow X; k_fill; w_top on; intro X _
  with_reducible refine gen_tok tokV ?_
  intro tk0 htk0
  rcases hk with ⟨rfl, rfl⟩ | ⟨hk0, hk1⟩
  · k_steps
    all_goals (try kln_le)
    refine Or.inl ?_
    refine table_item (by k_asm) (.tail _ (.head _)) hv (Int.fmod_nonneg_of_pos _ (by decide)) (Int.fmod_lt_of_pos _ (by decide)) (by have := Int.fmod_lt_of_pos p (show (0 : Int) < 5 by decide); kln_le) (fun v t' hm => ?_)
    k_steps
    with_reducible rename (_ ∧ _ ∧ _ ∧ AllLt _ Z) => hh
    obtain ⟨r1, r2, r3, r4⟩ := hh
    exact hF _ _ _ _ _ _ _ _ (let z := values_L hm; ⟨z.1, fun _ => z.2⟩) r1 r2 r3 r4 (by with_reducible assumption) (news_sub (by k_asm) (by k_upd))
  · k_steps
    all_goals (try kln_le)
    refine Or.inl ?_
    refine table_item (by k_asm) (.tail _ (.tail _ (.head _))) ht (Int.fmod_nonneg_of_pos _ (by decide)) (Int.fmod_lt_of_pos _ (by decide)) (by have := Int.fmod_lt_of_pos p (show (0 : Int) < 8 by decide); kln_le) (fun v t' hm => ?_)
    k_steps
    with_reducible rename (_ ∧ _ ∧ _ ∧ AllLt _ Z) => hh
    obtain ⟨r1, r2, r3, r4⟩ := hh
    exact hF _ _ _ _ _ _ _ _ ⟨texts_L hm, fun z => absurd z hk1⟩ r1 r2 r3 r4 (by with_reducible assumption) (news_sub (by k_asm) (by k_upd))
theorem kinds_item {its : List Value} {a0 a1 a2 a3 a4 a5 : Tok} {i : Int} (h0 : 0 ≤ i) (h1 : i < 6) (e : its = [.str (Str.ofString "begin") a0, .str (Str.ofString "end") a1, .str (Str.ofString "text") a2, .str (Str.ofString "text") a3, .str (Str.ofString "comment") a4, .str (Str.ofString "instruction") a5]) : ∃ (k : Kd) (t : Tok), its[i.toNat]? = some (.str k.s t) ∧ ((i = 0 ∧ k = .beg) ∨ (i ≠ 0 ∧ k ≠ .beg)) := by
  subst e
  have h := i6 h0 h1
  rcases h with rfl | rfl | rfl | rfl | rfl | rfl
  · exact ⟨.beg, _, rfl, .inl ⟨rfl, rfl⟩⟩
  · exact ⟨.fin, _, rfl, .inr ⟨by decide, fun z => nomatch z⟩⟩
  · exact ⟨.txt, _, rfl, .inr ⟨by decide, fun z => nomatch z⟩⟩
  · exact ⟨.txt, _, rfl, .inr ⟨by decide, fun z => nomatch z⟩⟩
  · exact ⟨.cmt, _, rfl, .inr ⟨by decide, fun z => nomatch z⟩⟩
  · exact ⟨.ins, _, rfl, .inr ⟨by decide, fun z => nomatch z⟩⟩
theorem any_item {w : World} {A : Around} {E : Value → Shared → Prop} {s : Shared} {h₀ : Heap} {L D : Addr} {led : List (Addr × Obj)} {its : List Value} {n : Nat} {i : Int} {u : Tok} {v : Value} {Q : Value → Shared → Prop} {value slice : Expr} (N : News h₀ L s.heap led) (hm : (D, listOf its.toArray n) ∈ led) (h0 : 0 ≤ i) (hi : its[i.toNat]? = some v) (hfit : i < 1000) (h : Q v s)
    (hs : subscripted slice false (.ref D) (.int i u) = operate [.ref D, .int i u] (getItem (.ref D) (.int i u)) := by with_unfolding_all rfl) :
    wpAny (model prg w) A (subscriptTail value slice (.ref D) (.int i u)) Q E s := by
  have hl : s.heap.IsList D its.toArray := ⟨_, (N _ hm).1, rfl, n, rfl⟩
  exact tail_any hl.typeIs slot_list_getitem.lookup (wpAny_getItem_list hl h0 (by kln_le) (x := v) (by simpa using hi) h) hs
end
section
namespace NZ2
theorem hereZ2 : True := trivial
end NZ2
open NZ2
theorem rowsZ20 : True := by
  k_with "subscriptTail Name Name ref int" => (fail_if_success fail_if_success have q := hereZ2); (k_here; refine hold_it ?_)
  k_with "execs cons" => (fail_if_success fail_if_success have q := hereZ2); (k_here; (with_reducible show wpAny _ _ (execs (Stmt.Expr _ _ :: _) _) _ _ _); refine hold_it ?_)
  trivial
theorem kind_item {w : World} {A : Around} {E : Value → Shared → Prop} {s : Shared} {h₀ : Heap} {L D : Addr} {led : List (Addr × Obj)} {a0 a1 a2 a3 a4 a5 : Tok} {n : Nat} {i : Int} {u : Tok} {Q : Value → Shared → Prop} {value slice : Expr} (N : News h₀ L s.heap led) (hm : (D, listOf [Value.str (Str.ofString "begin") a0, .str (Str.ofString "end") a1, .str (Str.ofString "text") a2, .str (Str.ofString "text") a3, .str (Str.ofString "comment") a4, .str (Str.ofString "instruction") a5].toArray n) ∈ led) (h0 : 0 ≤ i) (h1 : i < 6) (h : ∀ (k : Kd) t, ((i = 0 ∧ k = .beg) ∨ (i ≠ 0 ∧ k ≠ .beg)) → Q (.str k.s t) s)
    (hs : subscripted slice false (.ref D) (.int i u) = operate [.ref D, .int i u] (getItem (.ref D) (.int i u)) := by with_unfolding_all rfl) :
    wpAny (model prg w) A (subscriptTail value slice (.ref D) (.int i u)) Q E s := by
  obtain ⟨k, t, e1, e2⟩ := kinds_item h0 h1 (rfl : _ = _)
  exact any_item N hm h0 e1 (by kln_le) (h k t e2) hs
theorem item_y {w : World} {g₁ : Heap} {L fa : Addr} {cd : Value} {mean : ExcName → Option Value} {mg mb : Str → Option Value} {h : Heap} {g : Array GenState} {dr : Drawn} {tk : Tok} {os : OsState}
    {Q : Flow → Shared → Prop} {Er : Value → Shared → Prop} {vl tl cl sc : Addr} {its vals txs : Array Value} {n nv nt : Nat} {Z : List (Addr × Obj)} {tx : Tok} {x : Int} {Wv Pv Kv : Option Value}
    (F : Fr g₁ L h (mL vl tl cl sc Wv Pv Kv (some (.int x tx)))) (X : (K w.params).In g₁) (N : News g₁ L h ((cl, listOf its n) :: (vl, listOf vals nv) :: (tl, listOf txs nt) :: Z)) (T : Top topProg LS mean mg mb g₁)
    (hv : StrsAre vals.toList valuesL) (ht : StrsAre txs.toList textsL) (hs : its.size ≤ 100) (n1 : vl ≠ cl) (n2 : tl ≠ cl) (hZ : ∀ q ∈ Z, q.1 ≠ cl)
    (hF : ∀ (k : Kd) h' tk' W' P' K' X' q a u v, (TxtL v ∧ (k = .beg → ValL v)) → @LT.lt Nat _ cl q → @LT.lt Nat _ vl q → @LT.lt Nat _ tl q → AllLt q Z → Fr g₁ L h' (mL vl tl cl sc W' P' K' X') → News g₁ L h' ((cl, listOf (its.push (.ref q)) (n + 1)) :: (vl, listOf vals nv) :: (tl, listOf txs nt) :: (q, tupO (.str k.s a) (.str v u)) :: Z) → Q .next ⟨h', g, dr, tk', os⟩) :
    wpAny (model prg w) (callerA.deeper (envL L fa cd)) (execs itemB (envL L fa cd)) Q Er ⟨h, g, dr, tk, os⟩ := by
  have hrow : PySem.Challenge.rw_pe0292_01 = _ := rfl
  revert hrow X; k_fill; w_top on; intro X _
  with_reducible refine gen_tok tokV ?_
  intro tk0 htk0
  k_steps
  refine Or.inl ?_
  refine kind_item (by k_asm) (.head _) (Int.fmod_nonneg_of_pos x (show (0 : Int) < 6 by decide)) (Int.fmod_lt_of_pos x (show (0 : Int) < 6 by decide)) (fun k t e2 => ?_)
  k_steps
  refine Or.inl ?_
  refine item2_y k (sc := sc) (Xv := some (.int x tx)) (fr_of (by k_asm) ml_up) X (news_sub (by k_asm) (by k_upd)) T hv ht (Int.fmod_nonneg_of_pos _ (by decide)) (Int.fmod_lt_of_pos _ (by decide)) e2 hs n1 n2 hZ ?_
  intro h5 tk5 tp5 tkd5 q a u v a1 a2 a3 a4 a5 F5 N5
  exact hF k h5 tk5 _ _ _ _ q a u v a1 a2 a3 a4 a5 F5 N5
end
section
theorem ml_x {vl tl cl sc : Addr} {W P K X d : Option Value} (y : Str) : (if y = Str.ofString "x" then d else mL vl tl cl sc W P K X y) = mL vl tl cl sc W P K d y := by
  dsimp only [mL]
  by_cases q4 : y = Str.ofString "x"
  · subst q4
    rw [if_pos rfl, if_neg (by decide +kernel), if_neg (by decide +kernel), if_neg (by decide +kernel), if_pos rfl]
  · simp only [if_neg q4]
theorem build_y (r k : Nat) {w : World} {g₁ : Heap} {L fa : Addr} {cd : Value} {mean : ExcName → Option Value} {mg mb : Str → Option Value} {h : Heap} {g : Array GenState} {dr : Drawn} {tk : Tok} {os : OsState}
    {Q : Flow → Shared → Prop} {Er : Value → Shared → Prop} {vl tl cl sc D I : Addr} {oI : Obj} {its vals txs : Array Value} {n nv nt nd i : Nat} {ws : List Value} {xs : List Int} {Z : List (Addr × Obj)} {ks : List (Kd × Str)} {Wv Pv Kv Xv : Option Value}
    (F : Fr g₁ L h (mL vl tl cl sc Wv Pv Kv Xv)) (X : (K w.params).In g₁) (N : News g₁ L h ((I, oI) :: (cl, listOf its n) :: (vl, listOf vals nv) :: (tl, listOf txs nt) :: Z)) (T : Top topProg LS mean mg mb g₁)
    (hD : (D, listOf ws.toArray nd) ∈ Z) (hI : IntsAre ws xs) (hit : ItAt oI D i) (hir : i + r = ws.length) (hw : ws.length ≤ 14)
    (hv : StrsAre vals.toList valuesL) (ht : StrsAre txs.toList textsL) (hs : its.size = i) (n1 : vl ≠ cl) (n2 : tl ≠ cl) (hZ : ∀ q ∈ Z, q.1 ≠ cl) (i1 : I ≠ cl) (i2 : vl ≠ I) (i3 : tl ≠ I) (hIZ : ∀ q ∈ Z, q.1 ≠ I)
    (H : CallAre Z its.toList ks) (hk : ks.length = i) (hall : ∀ e ∈ ks, TxtL e.2 ∧ (e.1 = .beg → ValL e.2))
    (hF : ∀ h' tk' its' n' ks' Z' W' P' K' X', Fr g₁ L h' (mL vl tl cl sc W' P' K' X') → News g₁ L h' ((cl, listOf its' n') :: (vl, listOf vals nv) :: (tl, listOf txs nt) :: Z') → (∀ q ∈ Z', q.1 ≠ cl) → (∀ p ∈ Z, p ∈ Z') → CallAre Z' its'.toList ks' → ks'.length ≤ 14 → (∀ e ∈ ks', TxtL e.2 ∧ (e.1 = .beg → ValL e.2)) → Q .next ⟨h', g, dr, tk', os⟩) :
    OwitRest prg w (callerA.deeper (envL L fa cd)) Er (envL L fa cd) (Str.ofString "x") itemB Q I (r + 1 + k) ⟨h, g, dr, tk, os⟩ := by
  induction r generalizing i h tk its n ks Z oI Wv Pv Kv Xv with
  | zero =>
    rw [show 0 + 1 + k = k + 1 from Nat.add_comm 1 k]
    refine OwitRest.succ ?_
    refine next_end rfl F N (List.forall_mem_cons.mpr ⟨i1.symm, List.forall_mem_cons.mpr ⟨i2, List.forall_mem_cons.mpr ⟨i3, hIZ⟩⟩⟩) hit (.tail _ (.tail _ (.tail _ hD))) (Array.getElem?_eq_none (by simp; kln_le)) fun h' F' N' => ?_
    dsimp only [OwitTurn]
    exact hF _ _ _ _ _ _ _ _ _ _ F' N' hZ (fun _ z => z) H (by kln_le) hall
  | succ r ih =>
    rw [show r + 1 + 1 + k = (r + 1 + k) + 1 from Nat.add_right_comm (r + 1) 1 k]
    refine OwitRest.succ ?_
    have hlt : i < xs.length := by have := hI.length; kln_le
    obtain ⟨t, hx⟩ := hI.get i xs[i] (by simp [hlt])
    refine next_K F N (UpdF.head (List.forall_mem_cons.mpr ⟨i1.symm, List.forall_mem_cons.mpr ⟨i2, List.forall_mem_cons.mpr ⟨i3, hIZ⟩⟩⟩)) hit (.tail _ (.tail _ (.tail _ (.tail _ hD)))) (by simpa using hx) fun h2 o2 F2 N2 hit2 => ?_
    dsimp only [OwitTurn]
    refine storeX_L F2 N2 (fun h3 F3 N3 => ?_) rfl (by rfl)
    refine item_y (fr_of F3 ml_x) X (Z := (I, o2) :: Z) (news_sub N3 (List.forall_mem_cons.mpr ⟨.tail _ (.head _), List.forall_mem_cons.mpr ⟨.tail _ (.tail _ (.head _)), List.forall_mem_cons.mpr ⟨.tail _ (.tail _ (.tail _ (.head _))), List.forall_mem_cons.mpr ⟨.head _, fun p hp => .tail _ (.tail _ (.tail _ (.tail _ hp)))⟩⟩⟩⟩)) T hv ht (by kln_le) n1 n2 (List.forall_mem_cons.mpr ⟨i1, hZ⟩) ?_
    intro k4 h4 tk4 W4 P4 K4 X4 q a u v a1 b1 b2 b3 b4 F4 N4
    dsimp only [OwitFlow]
    have e1 : @LT.lt Nat _ I q := allLt_mem b4 (I, o2) (.head _)
    have e2 : ∀ p ∈ Z, @LT.lt Nat _ p.1 q := fun p hp => allLt_mem b4 p (.tail _ hp)
    refine ih (Z := (q, tupO (.str k4.s a) (.str v u)) :: Z) (ks := ks ++ [(k4, v)]) F4 (news_sub N4 (List.forall_mem_cons.mpr ⟨.tail _ (.tail _ (.tail _ (.tail _ (.head _)))), List.forall_mem_cons.mpr ⟨.head _, List.forall_mem_cons.mpr ⟨.tail _ (.head _), List.forall_mem_cons.mpr ⟨.tail _ (.tail _ (.head _)), List.forall_mem_cons.mpr ⟨.tail _ (.tail _ (.tail _ (.head _))), fun p hp => .tail _ (.tail _ (.tail _ (.tail _ (.tail _ hp))))⟩⟩⟩⟩⟩)) (.tail _ hD) hit2 (by kln_le) (by rw [Array.size_push]; kln_le) (List.forall_mem_cons.mpr ⟨Nat.ne_of_gt b1, hZ⟩) (List.forall_mem_cons.mpr ⟨Nat.ne_of_gt e1, hIZ⟩) ?_ (by rw [List.length_append]; simp; kln_le) ?_ ?_
    · rw [Array.toList_push]
      exact forall2_append (forall2_mono (fun _ _ ⟨q, a, u, e, m⟩ => ⟨q, a, u, e, .tail _ m⟩) H) (.cons ⟨q, a, u, rfl, .head _⟩ .nil)
    · intro e he
      rcases List.mem_append.mp he with he | he
      · exact hall e he
      · rw [List.mem_singleton.mp he]; exact a1
    · intro h' tk' its' n' ks' Z' W' P' K' X' f1 f2 f3 f4 f5 f6 f7
      exact hF h' tk' its' n' ks' Z' W' P' K' X' f1 f2 f3 (fun p hp => f4 p (.tail _ hp)) f5 f6 f7
theorem iterD_y {w : World} {g₁ : Heap} {L fa : Addr} {cd : Value} {mean : ExcName → Option Value} {mg mb : Str → Option Value} {h : Heap} {g : Array GenState} {dr : Drawn} {tk : Tok} {os : OsState}
    {Q : Flow → Shared → Prop} {Er : Value → Shared → Prop} {vl tl cl sc D : Addr} {vals txs : Array Value} {n nv nt nd : Nat} {ws : List Value} {xs : List Int} {Z : List (Addr × Obj)}
    (F : Fr g₁ L h (mL vl tl cl sc none none none none)) (X : (K w.params).In g₁) (N : News g₁ L h ((cl, listOf #[] n) :: (vl, listOf vals nv) :: (tl, listOf txs nt) :: Z)) (T : Top topProg LS mean mg mb g₁)
    (hD : (D, listOf ws.toArray nd) ∈ Z) (hI : IntsAre ws xs) (hw : ws.length ≤ 14)
    (hv : StrsAre vals.toList valuesL) (ht : StrsAre txs.toList textsL) (n1 : vl ≠ cl) (n2 : tl ≠ cl) (hZ : ∀ q ∈ Z, q.1 ≠ cl)
    (hF : ∀ h' tk' its' n' ks' Z' W' P' K' X', Fr g₁ L h' (mL vl tl cl sc W' P' K' X') → News g₁ L h' ((cl, listOf its' n') :: (vl, listOf vals nv) :: (tl, listOf txs nt) :: Z') → (∀ q ∈ Z', q.1 ≠ cl) → (∀ p ∈ Z, p ∈ Z') → CallAre Z' its'.toList ks' → ks'.length ≤ 14 → (∀ e ∈ ks', TxtL e.2 ∧ (e.1 = .beg → ValL e.2)) → Q .next ⟨h', g, dr, tk', os⟩) :
    wpAny (model prg w) (callerA.deeper (envL L fa cd)) (pyIter (.ref D)) (OwitAt prg w (callerA.deeper (envL L fa cd)) Er (envL L fa cd) (Str.ofString "x") itemB Q) Er ⟨h, g, dr, tk, os⟩ := by
  refine wpAny_pyIter_list (News.isList N (.tail _ (.tail _ (.tail _ hD)))) ?_
  refine OwitAt.intro ?_
  have hlt : ∀ p ∈ ((cl, listOf #[] n) :: (vl, listOf vals nv) :: (tl, listOf txs nt) :: Z), p.1 ≠ h.objs.size := fun p hp => Nat.ne_of_lt (Heap.lt_size (N p hp).1)
  have F1 := F.push ({ cls := .type "list_iterator", data := .fields #[.ref D, .int 0 0] } : Obj)
  have N1 := News.push F N ({ cls := .type "list_iterator", data := .fields #[.ref D, .int 0 0] } : Obj) rfl
  rw [show 64 = ws.length + 1 + (63 - ws.length) by kln_le]
  exact build_y ws.length (63 - ws.length) (i := 0) (ks := []) F1 X N1 T hD hI ⟨rfl, rfl⟩ (by kln_le) hw hv ht rfl n1 n2 hZ (Ne.symm (hlt _ (.head _))) (hlt _ (.tail _ (.head _))) (hlt _ (.tail _ (.tail _ (.head _)))) (fun q hq => hlt q (.tail _ (.tail _ (.tail _ hq)))) .nil rfl (fun _ z => nomatch z) hF
end
section
namespace NZ4
theorem hereZ4 : True := trivial
end NZ4
open NZ4
theorem rowsZ40 : True := by
  k_with "call ref" => (fail_if_success fail_if_success have q := hereZ4); (k_here; refine hold_it ?_)
  trivial
theorem fin_y {w : World} {g₁ : Heap} {L fa : Addr} {cd : Value} {mean : ExcName → Option Value} {mg mb : Str → Option Value} {h : Heap} {g : Array GenState} {dr : Drawn} {tk : Tok} {os : OsState}
    {Q : Flow → Shared → Prop} {Er : Value → Shared → Prop} {vl tl cl sc : Addr} {its vals txs : Array Value} {n nv nt : Nat} {Z : List (Addr × Obj)} {ks : List (Kd × Str)} {Wv Pv Kv Xv : Option Value}
    (B : Below callerA g₁ [] g₁) (F : Fr g₁ L h (mL vl tl cl sc Wv Pv Kv Xv)) (X : (K w.params).In g₁) (N : News g₁ L h ((cl, listOf its n) :: (vl, listOf vals nv) :: (tl, listOf txs nt) :: Z)) (T : Top topProg LS mean mg mb g₁)
    (hZ : ∀ q ∈ Z, q.1 ≠ cl) (t1 : (123, tabObj #[]) ∈ Z) (t2 : (349, tabObj #[]) ∈ Z) (H : CallAre Z its.toList ks) (hk : ks.length ≤ 14) (hall : ∀ e ∈ ks, TxtL e.2 ∧ (e.1 = .beg → ValL e.2))
    (hF : ∀ h' g' dr' tk', (AllBare g → AllBare g') → (∀ b o, g₁.get? b = some o → h'.get? b = some o) → GrownAll [(125, 123), (351, 349)] h' → Q (.ret (.bool true)) ⟨h', g', dr', tk', os⟩) :
    wpAny (model prg w) (callerA.deeper (envL L fa cd)) (execs (List.drop 4 (fBody (stA 23))) (envL L fa cd)) Q Er ⟨h, g, dr, tk, os⟩ := by
  have XB := X
  have e3 : TxtL (Str.ofString "") := (values_L (v := Str.ofString "") (by simp [valuesL])).1
  have e4 : ValL (Str.ofString "") := (values_L (v := Str.ofString "") (by simp [valuesL])).2
  have e5 : TxtL (Str.ofString "t") := (values_L (v := Str.ofString "t") (by simp [valuesL])).1
  have hrow : PySem.Challenge.rw_pe0292_01 = _ := rfl
  revert hrow X; k_fill; w_top on; intro X _
  with_reducible refine gen_tok tokV ?_
  intro tk0 htk0
  k_steps
  refine Or.inl ?_
  refine wpAny_call ?_
  have sub : ∀ p ∈ Z, p ∈ ((cl, listOf its n) :: (vl, listOf vals nv) :: (tl, listOf txs nt) :: Z : List (Addr × Obj)) := fun p hp => .tail _ (.tail _ (.tail _ hp))
  have odd : ∀ a ∈ [349, 123], ∃ o, (a, o) ∈ ((cl, listOf its n) :: (vl, listOf vals nv) :: (tl, listOf txs nt) :: Z : List (Addr × Obj)) ∧ Odd o := by
    intro a ha
    rcases List.mem_cons.mp ha with rfl | ha
    · exact ⟨_, sub _ t2, odd_tab (Z := []) (.inl rfl)⟩
    · rw [List.mem_singleton.mp ha]; exact ⟨_, sub _ t1, odd_tab (Z := []) (.inl rfl)⟩
  refine run_y (ks := ks) (news := offL [349, 123] Z) ⟨⟨B, by k_asm, XB, news_sub N (List.forall_mem_cons.mpr ⟨sub _ t2, List.forall_mem_cons.mpr ⟨sub _ t1, List.forall_mem_cons.mpr ⟨.head _, fun p hp => sub p (offL_sub hp)⟩⟩⟩), T, rfl, rfl, ?_, ?_⟩, XB, T, ktsDicts_nil⟩ ?_ ?_ (Ne.symm (hZ _ t2)) (Ne.symm (hZ _ t1)) (fun p hp z => offL_not hp (by rw [z]; exact .head _)) (fun p hp z => offL_not hp (by rw [z]; exact .tail _ (.head _)))
    (forall2_mono (fun _ _ ⟨q, a, u, e, m⟩ => ⟨q, a, u, e, cut_tup N sub odd m⟩) H) hk hall e3 e4 e5 ?_
  all_goals first
    | decide
    | (intro ps1 ps2 h₀' h' g' d' tk' b1 T9 F9 N9 _ _ _ _
       exact hF h' g' d' tk' b1 (fun b o e => F9.keep b o (T9.other b o e (by simp))) ⟨GrownAt.of N9 (.head _), GrownAt.of N9 (.tail _ (.head _)), trivial⟩)
   
end
section
namespace NK2
theorem hereK2 : True := trivial
end NK2
open NK2
set_option maxHeartbeats 8000000
theorem kn_postB {M : Model} {A : Around} {cd : Code} {s s₁ : Shared} {cw : ClaimW} {cl : Str → Option Addr} {mean : ExcName → Option Value} {args : List WData} {tabs : List (Addr × Addr)} (hT : TabsAt tabs s₁.heap) (hr : ∀ x, cw.raises args x = false) (hp : cw.post args (.bool true) args = true)
    (h : codeAny M A cd (fun r s' => r = .ok (.ret (.bool true)) ∧ (∀ b o, (ghostOf s₁.heap tabs).get? b = some o → s'.heap.get? b = some o) ∧ s'.os = s₁.os ∧ AllBare s'.gens ∧ GrownAll tabs s'.heap) s) : codeAny M A cd (GoodWG cw cl mean args s₁) s :=
  codeAny_mono h fun r s' ⟨hr0, hk, hos, hg, hgr⟩ => by
    subst hr0
    have keep : ∀ b o, b ∉ tabs.map (·.2) → s₁.heap.get? b = some o → s'.heap.get? b = some o := fun b o hb e => hk b o (ghost_ne e hb)
    have grown : ∀ b o, b ∈ tabs.map (·.2) → s₁.heap.get? b = some o → isCodeTable s₁.heap b ∧ o = tabObj #[] ∧ ∃ ps, s'.heap.get? b = some (tabObj ps) := fun b o hb e => by
      obtain ⟨q, hq, rfl⟩ := List.mem_map.mp hb
      have e2 := (hT q hq).2
      rw [e] at e2
      exact ⟨((hT q hq).1.tab (hT q hq).2).isCodeTable, Option.some.inj e2, hgr.get q hq⟩
    refine ⟨.inl ⟨_, _, [], rfl, hr, ReadsW.bool true, hp, fun _ => ⟨List.nodup_nil, fun _ hm => (nomatch hm)⟩⟩, ⟨fun b o e => ?_, fun b o e => ?_⟩, hos, hg⟩
    · by_cases hb : b ∈ tabs.map (·.2)
      · obtain ⟨ht, rfl, ps, hP⟩ := grown b o hb e
        exact .inr (.inl ⟨ht, rfl, #[], ps, rfl, by rw [Array.empty_append]; exact hP⟩)
      · exact .inl (keep b o hb e)
    · by_cases hb : b ∈ tabs.map (·.2)
      · obtain ⟨_, _, ps, hP⟩ := grown b o hb e
        exact ⟨_, hP⟩
      · exact ⟨o, keep b o hb e⟩
theorem rowsK20 : True := by
  k_with "exec For" => (fail_if_success fail_if_success have q := hereK2); (k_here; refine hold_it ?_)
  k_with "exec For Name Subscript cons nil" => (fail_if_success fail_if_success have q := hereK2); (k_here; refine hold_it ?_)
  k_with "pyIter ref" => (fail_if_success fail_if_success have q := hereK2); (k_here; refine hold_it ?_)
  k_with "subscriptTail Name Slice ref ref" => (fail_if_success fail_if_success have q := hereK2); (k_here; refine hold_it ?_)
  trivial
theorem slice_at {prog : Program} {w : World} {A : Around} {E : Value → Shared → Prop} {h₀ h : Heap} {g : Array GenState} {dr : Drawn} {tk t14 : Tok} {os : OsState} {L l : Addr} {m : Str → Option Value} {news : List (Addr × Obj)} {vs : List Value} {ns : List Int} {Q : Value → Shared → Prop} {value slice : Expr}
    (F : Fr h₀ L h m) (N : News h₀ L h news) (hl : h.IsList l vs.toArray) (hi : IntsAre vs ns)
    (hF : ∀ D ws h', Fr h₀ L h' m → News h₀ L h' ((D, listOf (List.toArray ws) 0) :: news) → (∀ p ∈ news, p.1 < D) → IntsAre ws (ns.take 14) → Q (.ref D) ⟨h', g, dr, tk, os⟩)
    (hs : subscripted slice false (.ref l) (.ref h.objs.size) = operate [.ref h.objs.size, .ref l] (getItem (.ref l) (.ref h.objs.size))) (ht : ∀ r, letTemporaryGo value (.ref l) r = pure ()) (hz : vs.toArray.size ≤ sizeLine) :
    wpAny (model prog w) A (subscriptTail value slice (.ref l) (.ref h.objs.size)) Q E ⟨h.push { cls := .type "slice", data := .fields #[.none, .int 14 t14, .none] }, g, dr, tk, os⟩ :=
  kmk_slice_ints (s := ⟨h, g, dr, tk, os⟩) F N hl (by kmk_part) (by kmk_part) hi (kmk_upto (y := 14) hi (by decide)) rfl (fun D ws h' F' N' l1 hI' _ _ => hF D ws h' F' N' l1 hI') hs ht hz
theorem ml_0 {vl tl cl sc : Addr} (y : Str) : (if y = Str.ofString "calls" then some (.ref cl) else if y = Str.ofString "values" then some (.ref vl) else if y = Str.ofString "texts" then some (.ref tl) else List.lookup y ([(Str.ofString "script", .ref sc)] : List (Str × Value))) = mL vl tl cl sc none none none none y := by
  dsimp only [mL]
  by_cases q1 : y = Str.ofString "what"
  · subst q1; kernel_rfl
  · by_cases q2 : y = Str.ofString "pick"
    · subst q2; kernel_rfl
    · by_cases q3 : y = Str.ofString "kind"
      · subst q3; kernel_rfl
      · by_cases q4 : y = Str.ofString "x"
        · subst q4; kernel_rfl
        · rw [if_neg q1, if_neg q2, if_neg q3, if_neg q4]
theorem law_y : PySem.Challenge.rw_pe0292_01.Holds := by
  refine hd2 ?_
  k_fill
  intro w s₀ s₁ mg mb G Y fa o pm cd doc dV kV ho hd hcd hD hmg hg args vals as hpre hlay hrd hwl hlo
  have KX := km_in_of Y
  km_tabs Y
  have X := (Ground.X G).1
  have V := (Ground.X G).2
  refine Ground.open G ?_
  intro T B D TE TW
  try (refine guard_noD D (by decide +kernel) ?_; clear D)
  km_lay T hmg ho hd cd
  clear hmg
  wrow_args hpre hlay hrd hwl hlo
  all_goals first | refine callC_kw (enter_call ?_) | refine enter_call ?_
  all_goals w_top on
  refine kn_postB hT9 (fun _ => rfl) ?hp ?_
  case hp => first | rfl | wrow_post
  w_call any ho hd hcd hD T F
  clear hd
  kn_ghosts F T
  k_drop
  k_steps
  refine Or.inl ?_
  refine owit_for (hE := by first | passes_own | with_unfolding_all passes_own) ?_
  k_steps
  refine Or.inl ?_
  rename (IntsAre _ _) => hI
  refine slice_at (by k_asm) (by k_asm) (by kmk_list) hI (fun D ws h2 F2 N2 lD hI2 => ?_) (by with_unfolding_all rfl) (by kmk_pure) (by kmk_size)
  rename (_ ∧ _ ∧ _ ∧ _) => hlt
  have hlen := hI2.length
  rw [List.length_take] at hlen
  refine iterD_y (fr_of F2 ml_0) (by k_asm) (news_sub N2 (List.forall_mem_cons.mpr ⟨.tail _ (.head _), List.forall_mem_cons.mpr ⟨.tail _ (.tail _ (.head _)), List.forall_mem_cons.mpr ⟨.tail _ (.tail _ (.tail _ (.head _))), List.forall_mem_cons.mpr ⟨.head _, fun p hp => .tail _ (.tail _ (.tail _ (.tail _ hp)))⟩⟩⟩⟩)) (by k_asm) (.head _) hI2 (by kln_le) (.cons _ _ (.cons _ _ (.cons _ _ (.cons _ _ (.cons _ _ .nil))))) (.cons _ _ (.cons _ _ (.cons _ _ (.cons _ _ (.cons _ _ (.cons _ _ (.cons _ _ (.cons _ _ .nil)))))))) ?_ ?_ ?_ ?_
  · exact Nat.ne_of_lt hlt.1
  · exact Nat.ne_of_lt hlt.2.1
  · exact List.forall_mem_cons.mpr ⟨Nat.ne_of_gt (lD _ (.head _)), List.forall_mem_cons.mpr ⟨Nat.ne_of_lt hlt.2.2.1, List.forall_mem_cons.mpr ⟨Nat.ne_of_lt hlt.2.2.2, fun p hp => nomatch hp⟩⟩⟩
  · intro h5 tk5 its' n' ks' Z' W' P' K' X' F5 N5 f3 f4 f5 f6 f7
    (try dsimp only)
    refine fin_y (by k_asm) F5 (by k_asm) N5 (by k_asm) f3 (f4 _ (.tail _ (.head _))) (f4 _ (.tail _ (.tail _ (.head _)))) f5 f6 f7 ?_
    intro h' g' dr' tk' b1 k1 g1
    exact ⟨rfl, k1, rfl, b1 (AllBare.of_eq hg), g1⟩
end
end
end Mine
set_option maxRecDepth 100000 in
set_option maxHeartbeats 8000000 in
theorem PySem.Challenge.cw_pe0292_01_holds : PySem.Challenge.rw_pe0292_01.Holds := by
  exact Mine.law_y
