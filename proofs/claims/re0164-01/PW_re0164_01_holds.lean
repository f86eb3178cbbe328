import PyProof.Rows.All
import Wide.All
import OpenK.AllK
import Wide.FinOn
import PyProof.Gen
import PyProof.EvalArms
import KE.KUnrMore
import PySem.Builtin.Sre.Common
import PySem.Challenge.RW_re0164_01
set_option Elab.async false
set_option compiler.extract_closed false
section
open PySem PySem.W PyProof.Rows
set_option Elab.async false
set_option maxRecDepth 100000
namespace Mine
/-! the written part of the heap behind the top (printed by a program of ours out of the row) -/
noncomputable def stAt : Nat → List Stmt → Stmt
  | _, [] => .Pass default
  | 0, s :: _ => s
  | n + 1, _ :: r => stAt n r
noncomputable def sAt (n : Nat) : Stmt := stAt n PySem.Challenge.pw_re0164_01.main.body
noncomputable def clsBody : Stmt → List Stmt
  | .ClassDef _ _ _ b _ _ _ _ _ _ _ => b
  | _ => []
noncomputable def mAt (n : Nat) : Stmt := stAt n (clsBody (sAt 3))
noncomputable def fdParts : Stmt → Option (Arguments × List Stmt × Scope)
  | .FunctionDef _ a b _ _ _ sc _ _ _ => some (a, b, sc)
  | _ => none
noncomputable def mkFn {a : Arguments} {b : List Stmt} {sc : Scope} (name qual : Str) (pm cd : Value) (st : Stmt) (_ : fdParts st = some (a, b, sc)) : FuncData :=
  fnOf name qual a b sc .none .none .none pm none cd .none
noncomputable def fn_Whitespace___init__ : FuncData := by
  refine' mkFn (PySem.Str.ofString "__init__") (PySem.Str.ofString "Whitespace.__init__") (.str (PySem.Str.ofString "cpy313.tabnanny") 289) (.ref 54) (mAt 1) ?h
  case h => exact rfl
noncomputable def fn_Whitespace_indent_level : FuncData := by
  refine' mkFn (PySem.Str.ofString "indent_level") (PySem.Str.ofString "Whitespace.indent_level") (.str (PySem.Str.ofString "cpy313.tabnanny") 289) (.ref 68) (mAt 3) ?h
  case h => exact rfl
noncomputable def fn_quotedata : FuncData := by
  refine' mkFn (PySem.Str.ofString "quotedata") (PySem.Str.ofString "quotedata") (.str (PySem.Str.ofString "cpy313.smtplib") 387) (.ref 120) (sAt 8) ?h
  case h => exact rfl
noncomputable def fn__fix_eols : FuncData := by
  refine' mkFn (PySem.Str.ofString "_fix_eols") (PySem.Str.ofString "_fix_eols") (.str (PySem.Str.ofString "cpy313.smtplib") 387) (.ref 127) (sAt 9) ?h
  case h => exact rfl
noncomputable def fn_in_table_b1 : FuncData := by
  refine' mkFn (PySem.Str.ofString "in_table_b1") (PySem.Str.ofString "in_table_b1") (.str (PySem.Str.ofString "cpy313.stringprep") 463) (.ref 145) (sAt 12) ?h
  case h => exact rfl
noncomputable def fn_map_table_b3 : FuncData := by
  refine' mkFn (PySem.Str.ofString "map_table_b3") (PySem.Str.ofString "map_table_b3") (.str (PySem.Str.ofString "cpy313.stringprep") 463) (.ref 191) (sAt 14) ?h
  case h => exact rfl
noncomputable def fn_in_table_c8 : FuncData := by
  refine' mkFn (PySem.Str.ofString "in_table_c8") (PySem.Str.ofString "in_table_c8") (.str (PySem.Str.ofString "cpy313.stringprep") 463) (.ref 215) (sAt 16) ?h
  case h => exact rfl
noncomputable def fn__law_cells : FuncData := by
  refine' mkFn (PySem.Str.ofString "_law_cells") (PySem.Str.ofString "_law_cells") (.str (PySem.Str.ofString "law_re0164_01") 2539) (.ref 222) (sAt 18) ?h
  case h => exact rfl
noncomputable def fn__law_mail : FuncData := by
  refine' mkFn (PySem.Str.ofString "_law_mail") (PySem.Str.ofString "_law_mail") (.str (PySem.Str.ofString "law_re0164_01") 2539) (.ref 227) (sAt 19) ?h
  case h => exact rfl
noncomputable def fn__law_column : FuncData := by
  refine' mkFn (PySem.Str.ofString "_law_column") (PySem.Str.ofString "_law_column") (.str (PySem.Str.ofString "law_re0164_01") 2539) (.ref 232) (sAt 20) ?h
  case h => exact rfl
noncomputable def fn__law_lead : FuncData := by
  refine' mkFn (PySem.Str.ofString "_law_lead") (PySem.Str.ofString "_law_lead") (.str (PySem.Str.ofString "law_re0164_01") 2539) (.ref 237) (sAt 21) ?h
  case h => exact rfl
noncomputable def fn__law_relay : FuncData := by
  refine' mkFn (PySem.Str.ofString "_law_relay") (PySem.Str.ofString "_law_relay") (.str (PySem.Str.ofString "law_re0164_01") 2539) (.ref 242) (sAt 22) ?h
  case h => exact rfl
noncomputable def fn__law_counts : FuncData := by
  refine' mkFn (PySem.Str.ofString "_law_counts") (PySem.Str.ofString "_law_counts") (.str (PySem.Str.ofString "law_re0164_01") 2539) (.ref 247) (sAt 23) ?h
  case h => exact rfl
noncomputable def fn_law : FuncData := by
  refine' mkFn (PySem.Str.ofString "law") (PySem.Str.ofString "law") (.str (PySem.Str.ofString "law_re0164_01") 2539) (.ref 252) (sAt 24) ?h
  case h => exact rfl

noncomputable def K (P : Params) : Frag :=
    (nat_lit 2, ⟨.none, none, (.dict (List.toArray [⟨PyData.keyHash P (PySem.Str.ofString "\x69mport.loaded._sre"), (.str (PySem.Str.ofString "\x69mport.loaded._sre") 183), (.bool true)⟩, ⟨PyData.keyHash P (PySem.Str.ofString "class._frozen_importlib.BuiltinImporter"), (.str (PySem.Str.ofString "class._frozen_importlib.BuiltinImporter") 185), (.ref 14)⟩, ⟨PyData.keyHash P (PySem.Str.ofString "watched.\x69mport"), (.str (PySem.Str.ofString "watched.\x69mport") 206), (.ref 18)⟩, ⟨PyData.keyHash P (PySem.Str.ofString "class._frozen_importlib.ModuleSpec"), (.str (PySem.Str.ofString "class._frozen_importlib.ModuleSpec") 216), (.ref 22)⟩, ⟨PyData.keyHash P (PySem.Str.ofString "sys.modules.booked-epoch"), (.str (PySem.Str.ofString "sys.modules.booked-epoch") 245), (.int (3) 0)⟩, ⟨PyData.keyHash P (PySem.Str.ofString "\x69mport.later-laid._sre"), (.str (PySem.Str.ofString "\x69mport.later-laid._sre") 270), (.bool true)⟩, ⟨PyData.keyHash P (PySem.Str.ofString "watched.library"), (.str (PySem.Str.ofString "watched.library") 272), (.ref 27)⟩, ⟨PyData.keyHash P (PySem.Str.ofString "watched.library-objects"), (.str (PySem.Str.ofString "watched.library-objects") 0), (.str (PySem.Str.ofString "\x0c") 0)⟩, ⟨PyData.keyHash P (PySem.Str.ofString "watched.library-deep._sre"), (.str (PySem.Str.ofString "watched.library-deep._sre") 273), (.str (PySem.Str.ofString "\x04\x00\x00\x0b\x04\x00\x00\x0b\x04\x00\x00\x03\x04\x00\x00\x0b\x08\x04dict\x02") 0)⟩]) 9), List.toArray []⟩) ::
    (nat_lit 3, ⟨(.type "dict"), none, (.dict (List.toArray [⟨PyData.keyHash P (PySem.Str.ofString "__name__"), (.str (PySem.Str.ofString "__name__") 165), (.str (PySem.Str.ofString "law_re0164_01") 2539)⟩, ⟨PyData.keyHash P (PySem.Str.ofString "__doc__"), (.str (PySem.Str.ofString "__doc__") 166), .none⟩, ⟨PyData.keyHash P (PySem.Str.ofString "__package__"), (.str (PySem.Str.ofString "__package__") 167), .none⟩, ⟨PyData.keyHash P (PySem.Str.ofString "__loader__"), (.str (PySem.Str.ofString "__loader__") 168), (.builtin "__main__.__loader__#opaque")⟩, ⟨PyData.keyHash P (PySem.Str.ofString "__spec__"), (.str (PySem.Str.ofString "__spec__") 169), .none⟩, ⟨PyData.keyHash P (PySem.Str.ofString "__annotations__"), (.str (PySem.Str.ofString "__annotations__") 170), (.ref 6)⟩, ⟨PyData.keyHash P (PySem.Str.ofString "__builtins__"), (.str (PySem.Str.ofString "__builtins__") 171), (.ref 4)⟩, ⟨PyData.keyHash P (PySem.Str.ofString "__file__"), (.str (PySem.Str.ofString "__file__") 173), (.str (PySem.Str.ofString "/claim/cut.py") 172)⟩, ⟨PyData.keyHash P (PySem.Str.ofString "__cached__"), (.str (PySem.Str.ofString "__cached__") 174), .none⟩, ⟨PyData.keyHash P (PySem.Str.ofString "_sre"), (.str (PySem.Str.ofString "_sre") 275), (.ref 12)⟩, ⟨PyData.keyHash P (PySem.Str.ofString "_wall"), (.str (PySem.Str.ofString "_wall") 288), (.ref 38)⟩, ⟨PyData.keyHash P (PySem.Str.ofString "Whitespace"), (.str (PySem.Str.ofString "Whitespace") 386), (.ref 100)⟩, ⟨PyData.keyHash P (PySem.Str.ofString "_twin_re_1"), (.str (PySem.Str.ofString "_twin_re_1") 404), (.ref 109)⟩, ⟨PyData.keyHash P (PySem.Str.ofString "_twin_re_2"), (.str (PySem.Str.ofString "_twin_re_2") 446), (.ref 114)⟩, ⟨PyData.keyHash P (PySem.Str.ofString "CRLF"), (.str (PySem.Str.ofString "CRLF") 448), (.str (PySem.Str.ofString "\x0d\n") 447)⟩, ⟨PyData.keyHash P (PySem.Str.ofString "quotedata"), (.str (PySem.Str.ofString "quotedata") 455), (.ref 121)⟩, ⟨PyData.keyHash P (PySem.Str.ofString "_fix_eols"), (.str (PySem.Str.ofString "_fix_eols") 462), (.ref 128)⟩, ⟨PyData.keyHash P (PySem.Str.ofString "b1_set"), (.str (PySem.Str.ofString "b1_set") 524), (.ref 136)⟩, ⟨PyData.keyHash P (PySem.Str.ofString "in_table_b1"), (.str (PySem.Str.ofString "in_table_b1") 531), (.ref 146)⟩, ⟨PyData.keyHash P (PySem.Str.ofString "b3_exceptions"), (.str (PySem.Str.ofString "b3_exceptions") 2482), (.ref 147)⟩, ⟨PyData.keyHash P (PySem.Str.ofString "map_table_b3"), (.str (PySem.Str.ofString "map_table_b3") 2490), (.ref 192)⟩, ⟨PyData.keyHash P (PySem.Str.ofString "c8_set"), (.str (PySem.Str.ofString "c8_set") 2531), (.ref 206)⟩, ⟨PyData.keyHash P (PySem.Str.ofString "in_table_c8"), (.str (PySem.Str.ofString "in_table_c8") 2538), (.ref 216)⟩, ⟨PyData.keyHash P (PySem.Str.ofString "_law_cells"), (.str (PySem.Str.ofString "_law_cells") 2549), (.ref 223)⟩, ⟨PyData.keyHash P (PySem.Str.ofString "_law_mail"), (.str (PySem.Str.ofString "_law_mail") 2555), (.ref 228)⟩, ⟨PyData.keyHash P (PySem.Str.ofString "_law_column"), (.str (PySem.Str.ofString "_law_column") 2561), (.ref 233)⟩, ⟨PyData.keyHash P (PySem.Str.ofString "_law_lead"), (.str (PySem.Str.ofString "_law_lead") 2567), (.ref 238)⟩, ⟨PyData.keyHash P (PySem.Str.ofString "_law_relay"), (.str (PySem.Str.ofString "_law_relay") 2573), (.ref 243)⟩, ⟨PyData.keyHash P (PySem.Str.ofString "_law_counts"), (.str (PySem.Str.ofString "_law_counts") 2579), (.ref 248)⟩, ⟨PyData.keyHash P (PySem.Str.ofString "law"), (.str (PySem.Str.ofString "law") 2585), (.ref 253)⟩]) 30), List.toArray []⟩) ::
    (nat_lit 32, ⟨(.type "tuple"), none, (.seq (List.toArray []) 0), List.toArray []⟩) ::
    (nat_lit 34, ⟨(.type "tuple"), none, (.seq (List.toArray [(.str (PySem.Str.ofString "k") 285)]) 0), List.toArray []⟩) ::
    (nat_lit 35, ⟨(.type "tuple"), none, (.seq (List.toArray []) 0), List.toArray []⟩) ::
    (nat_lit 49, ⟨(.type "tuple"), none, (.seq (List.toArray []) 0), List.toArray []⟩) ::
    (nat_lit 51, ⟨(.type "tuple"), none, (.seq (List.toArray [(.str (PySem.Str.ofString "self") 311), (.str (PySem.Str.ofString "ws") 312), (.str (PySem.Str.ofString "S") 313), (.str (PySem.Str.ofString "T") 314), (.str (PySem.Str.ofString "count") 315), (.str (PySem.Str.ofString "b") 316), (.str (PySem.Str.ofString "n") 317), (.str (PySem.Str.ofString "nt") 318), (.str (PySem.Str.ofString "ch") 319)]) 0), List.toArray []⟩) ::
    (nat_lit 52, ⟨(.type "tuple"), none, (.seq (List.toArray []) 0), List.toArray []⟩) ::
    (nat_lit 54, ⟨(.type "code"), none, (.fields (List.toArray [(.str (PySem.Str.ofString "__init__") 308), (.str (PySem.Str.ofString "Whitespace.__init__") 309), (.str (PySem.Str.ofString "/claim/cut.py") 310), (.int (9) 0), (.int (2) 0), (.int (0) 0), (.int (0) 0), (.int (3) 0), (.ref 49), (.bool true), (.int (276) 0), (.ref 50), .none, (.ref 51), (.ref 52), (.ref 53), (.int (320) 0), (.int (9) 0), (.str (PySem.Str.ofString "/claim/cut.py") 321)])), List.toArray []⟩) ::
    (nat_lit 55, ⟨(.type "function"), none, (.func fn_Whitespace___init__), List.toArray []⟩) ::
    (nat_lit 56, ⟨(.type "tuple"), none, (.seq (List.toArray []) 0), List.toArray []⟩) ::
    (nat_lit 58, ⟨(.type "tuple"), none, (.seq (List.toArray [(.str (PySem.Str.ofString "self") 326)]) 0), List.toArray []⟩) ::
    (nat_lit 59, ⟨(.type "tuple"), none, (.seq (List.toArray []) 0), List.toArray []⟩) ::
    (nat_lit 63, ⟨(.type "tuple"), none, (.seq (List.toArray []) 0), List.toArray []⟩) ::
    (nat_lit 65, ⟨(.type "tuple"), none, (.seq (List.toArray [(.str (PySem.Str.ofString "self") 333), (.str (PySem.Str.ofString "tabsize") 334), (.str (PySem.Str.ofString "count") 335), (.str (PySem.Str.ofString "trailing") 336), (.str (PySem.Str.ofString "il") 337), (.str (PySem.Str.ofString "i") 338)]) 0), List.toArray []⟩) ::
    (nat_lit 66, ⟨(.type "tuple"), none, (.seq (List.toArray []) 0), List.toArray []⟩) ::
    (nat_lit 68, ⟨(.type "code"), none, (.fields (List.toArray [(.str (PySem.Str.ofString "indent_level") 330), (.str (PySem.Str.ofString "Whitespace.indent_level") 331), (.str (PySem.Str.ofString "/claim/cut.py") 332), (.int (35) 0), (.int (2) 0), (.int (0) 0), (.int (0) 0), (.int (3) 0), (.ref 63), (.bool true), (.int (276) 0), (.ref 64), .none, (.ref 65), (.ref 66), (.ref 67), (.int (339) 0), (.int (35) 0), (.str (PySem.Str.ofString "/claim/cut.py") 340)])), List.toArray []⟩) ::
    (nat_lit 69, ⟨(.type "function"), none, (.func fn_Whitespace_indent_level), List.toArray []⟩) ::
    (nat_lit 70, ⟨(.type "tuple"), none, (.seq (List.toArray []) 0), List.toArray []⟩) ::
    (nat_lit 72, ⟨(.type "tuple"), none, (.seq (List.toArray [(.str (PySem.Str.ofString "self") 345), (.str (PySem.Str.ofString "other") 346)]) 0), List.toArray []⟩) ::
    (nat_lit 73, ⟨(.type "tuple"), none, (.seq (List.toArray []) 0), List.toArray []⟩) ::
    (nat_lit 77, ⟨(.type "tuple"), none, (.seq (List.toArray []) 0), List.toArray []⟩) ::
    (nat_lit 79, ⟨(.type "tuple"), none, (.seq (List.toArray [(.str (PySem.Str.ofString "self") 353), (.str (PySem.Str.ofString "other") 354)]) 0), List.toArray []⟩) ::
    (nat_lit 80, ⟨(.type "tuple"), none, (.seq (List.toArray []) 0), List.toArray []⟩) ::
    (nat_lit 84, ⟨(.type "tuple"), none, (.seq (List.toArray []) 0), List.toArray []⟩) ::
    (nat_lit 86, ⟨(.type "tuple"), none, (.seq (List.toArray [(.str (PySem.Str.ofString "self") 361), (.str (PySem.Str.ofString "other") 362)]) 0), List.toArray []⟩) ::
    (nat_lit 87, ⟨(.type "tuple"), none, (.seq (List.toArray []) 0), List.toArray []⟩) ::
    (nat_lit 91, ⟨(.type "tuple"), none, (.seq (List.toArray []) 0), List.toArray []⟩) ::
    (nat_lit 93, ⟨(.type "tuple"), none, (.seq (List.toArray [(.str (PySem.Str.ofString "self") 369), (.str (PySem.Str.ofString "other") 370)]) 0), List.toArray []⟩) ::
    (nat_lit 94, ⟨(.type "tuple"), none, (.seq (List.toArray []) 0), List.toArray []⟩) ::
    (nat_lit 98, ⟨(.type "tuple"), none, (.seq (List.toArray [(.str (PySem.Str.ofString "is_simple") 374), (.str (PySem.Str.ofString "n") 375), (.str (PySem.Str.ofString "norm") 376), (.str (PySem.Str.ofString "nt") 377), (.str (PySem.Str.ofString "raw") 378)]) 0), List.toArray []⟩) ::
    (nat_lit 99, ⟨(.type "dict"), none, (.dict (List.toArray [⟨PyData.keyHash P (PySem.Str.ofString "__module__"), (.str (PySem.Str.ofString "__module__") 298), (.str (PySem.Str.ofString "cpy313.tabnanny") 289)⟩, ⟨PyData.keyHash P (PySem.Str.ofString "__firstlineno__"), (.str (PySem.Str.ofString "__firstlineno__") 302), (.int (6) 301)⟩, ⟨PyData.keyHash P (PySem.Str.ofString "S"), (.str (PySem.Str.ofString "S") 306), (.str (PySem.Str.ofString " ") 304)⟩, ⟨PyData.keyHash P (PySem.Str.ofString "T"), (.str (PySem.Str.ofString "T") 307), (.str (PySem.Str.ofString "\t") 305)⟩, ⟨PyData.keyHash P (PySem.Str.ofString "__init__"), (.str (PySem.Str.ofString "__init__") 322), (.ref 55)⟩, ⟨PyData.keyHash P (PySem.Str.ofString "longest_run_of_spaces"), (.str (PySem.Str.ofString "longest_run_of_spaces") 329), (.ref 62)⟩, ⟨PyData.keyHash P (PySem.Str.ofString "indent_level"), (.str (PySem.Str.ofString "indent_level") 341), (.ref 69)⟩, ⟨PyData.keyHash P (PySem.Str.ofString "equal"), (.str (PySem.Str.ofString "equal") 349), (.ref 76)⟩, ⟨PyData.keyHash P (PySem.Str.ofString "not_equal_witness"), (.str (PySem.Str.ofString "not_equal_witness") 357), (.ref 83)⟩, ⟨PyData.keyHash P (PySem.Str.ofString "less"), (.str (PySem.Str.ofString "less") 365), (.ref 90)⟩, ⟨PyData.keyHash P (PySem.Str.ofString "not_less_witness"), (.str (PySem.Str.ofString "not_less_witness") 373), (.ref 97)⟩, ⟨PyData.keyHash P (PySem.Str.ofString "__static_attributes__"), (.str (PySem.Str.ofString "__static_attributes__") 379), (.ref 98)⟩, ⟨PyData.keyHash P (PySem.Str.ofString "__dict__"), (.str (PySem.Str.ofString "__dict__") 381), (.ref 101)⟩, ⟨PyData.keyHash P (PySem.Str.ofString "__weakref__"), (.str (PySem.Str.ofString "__weakref__") 383), (.ref 102)⟩, ⟨PyData.keyHash P (PySem.Str.ofString "__doc__"), (.str (PySem.Str.ofString "__doc__") 384), .none⟩]) 4), List.toArray []⟩) ::
    (nat_lit 100, ⟨(.type "type"), none, (.cls { name := (PySem.Str.ofString "Whitespace"), bases := [(.type "object")], mro := [(.ref 100), (.type "object")], ns := 99, qualname := (PySem.Str.ofString "Whitespace"), hasDict := true, slotNames := [], subclasses := [], abstract := false, collection := none, hasDel := false }), List.toArray [none, none, (some (.str (PySem.Str.ofString "Whitespace") 291)), (some (.str (PySem.Str.ofString "Whitespace") 299)), (some (.builtin "object.__new__")), (some (.bool true))]⟩) ::
    (nat_lit 101, ⟨(.type "getset_descriptor"), none, (.fields (List.toArray [(.str (PySem.Str.ofString "__dict__") 380), (.ref 100), (.builtin "function.__dict__"), (.builtin "function.__dict__#set")])), List.toArray []⟩) ::
    (nat_lit 102, ⟨(.type "getset_descriptor"), none, (.fields (List.toArray [(.str (PySem.Str.ofString "__weakref__") 382), (.ref 100), (.builtin "ExceptionGroup.__weakref__"), .none])), List.toArray []⟩) ::
    (nat_lit 108, ⟨(.type "tuple"), none, (.seq (List.toArray [(.int (14) 0), (.int (4) 0), (.int (0) 0), (.int (1) 0), (.int (1) 0), (.int (6) 0), (.int (1) 0), (.int (16) 0), (.int (46) 0), (.int (1) 0)]) 0), List.toArray []⟩) ::
    (nat_lit 109, ⟨(.type "re.Pattern"), none, (.fields (List.toArray [(.str (PySem.Str.ofString "(?m)^\\.") 390), (.int (40) 403), (.int (0) 0), .none, .none, (.ref 108), (.int (0) 0)])), List.toArray []⟩) ::
    (nat_lit 113, ⟨(.type "tuple"), none, (.seq (List.toArray [(.int (14) 0), (.int (9) 0), (.int (4) 0), (.int (1) 0), (.int (2) 0), (.int (16) 0), (.int (10) 0), (.int (16) 0), (.int (13) 0), (.int (0) 0), (.int (7) 0), (.int (7) 0), (.int (16) 0), (.int (13) 0), (.int (16) 0), (.int (10) 0), (.int (15) 0), (.int (18) 0), (.int (5) 0), (.int (16) 0), (.int (10) 0), (.int (15) 0), (.int (13) 0), (.int (11) 0), (.int (16) 0), (.int (13) 0), (.int (5) 0), (.int (5) 0), (.int (0) 0), (.int (16) 0), (.int (10) 0), (.int (1) 0), (.int (15) 0), (.int (2) 0), (.int (0) 0), (.int (1) 0)]) 0), List.toArray []⟩) ::
    (nat_lit 114, ⟨(.type "re.Pattern"), none, (.fields (List.toArray [(.str (PySem.Str.ofString "(?:\\r\\n|\\n|\\r(?!\\n))") 406), (.int (32) 445), (.int (0) 0), .none, .none, (.ref 113), (.int (0) 0)])), List.toArray []⟩) ::
    (nat_lit 115, ⟨(.type "tuple"), none, (.seq (List.toArray []) 0), List.toArray []⟩) ::
    (nat_lit 117, ⟨(.type "tuple"), none, (.seq (List.toArray [(.str (PySem.Str.ofString "data") 452)]) 0), List.toArray []⟩) ::
    (nat_lit 118, ⟨(.type "tuple"), none, (.seq (List.toArray []) 0), List.toArray []⟩) ::
    (nat_lit 120, ⟨(.type "code"), none, (.fields (List.toArray [(.str (PySem.Str.ofString "quotedata") 449), (.str (PySem.Str.ofString "quotedata") 450), (.str (PySem.Str.ofString "/claim/cut.py") 451), (.int (57) 0), (.int (1) 0), (.int (0) 0), (.int (0) 0), (.int (3) 0), (.ref 115), (.bool true), (.int (276) 0), (.ref 116), .none, (.ref 117), (.ref 118), (.ref 119), (.int (453) 0), (.int (57) 0), (.str (PySem.Str.ofString "/claim/cut.py") 454)])), List.toArray []⟩) ::
    (nat_lit 121, ⟨(.type "function"), none, (.func fn_quotedata), List.toArray []⟩) ::
    (nat_lit 122, ⟨(.type "tuple"), none, (.seq (List.toArray []) 0), List.toArray []⟩) ::
    (nat_lit 124, ⟨(.type "tuple"), none, (.seq (List.toArray [(.str (PySem.Str.ofString "data") 459)]) 0), List.toArray []⟩) ::
    (nat_lit 125, ⟨(.type "tuple"), none, (.seq (List.toArray []) 0), List.toArray []⟩) ::
    (nat_lit 127, ⟨(.type "code"), none, (.fields (List.toArray [(.str (PySem.Str.ofString "_fix_eols") 456), (.str (PySem.Str.ofString "_fix_eols") 457), (.str (PySem.Str.ofString "/claim/cut.py") 458), (.int (59) 0), (.int (1) 0), (.int (0) 0), (.int (0) 0), (.int (3) 0), (.ref 122), (.bool true), (.int (276) 0), (.ref 123), .none, (.ref 124), (.ref 125), (.ref 126), (.int (460) 0), (.int (59) 0), (.str (PySem.Str.ofString "/claim/cut.py") 461)])), List.toArray []⟩) ::
    (nat_lit 128, ⟨(.type "function"), none, (.func fn__fix_eols), List.toArray []⟩) ::
    (nat_lit 140, ⟨(.type "tuple"), none, (.seq (List.toArray []) 0), List.toArray []⟩) ::
    (nat_lit 142, ⟨(.type "tuple"), none, (.seq (List.toArray [(.str (PySem.Str.ofString "code") 528)]) 0), List.toArray []⟩) ::
    (nat_lit 143, ⟨(.type "tuple"), none, (.seq (List.toArray []) 0), List.toArray []⟩) ::
    (nat_lit 145, ⟨(.type "code"), none, (.fields (List.toArray [(.str (PySem.Str.ofString "in_table_b1") 525), (.str (PySem.Str.ofString "in_table_b1") 526), (.str (PySem.Str.ofString "/claim/cut.py") 527), (.int (63) 0), (.int (1) 0), (.int (0) 0), (.int (0) 0), (.int (3) 0), (.ref 140), (.bool true), (.int (276) 0), (.ref 141), .none, (.ref 142), (.ref 143), (.ref 144), (.int (529) 0), (.int (63) 0), (.str (PySem.Str.ofString "/claim/cut.py") 530)])), List.toArray []⟩) ::
    (nat_lit 146, ⟨(.type "function"), none, (.func fn_in_table_b1), List.toArray []⟩) ::
    (nat_lit 186, ⟨(.type "tuple"), none, (.seq (List.toArray []) 0), List.toArray []⟩) ::
    (nat_lit 188, ⟨(.type "tuple"), none, (.seq (List.toArray [(.str (PySem.Str.ofString "code") 2486), (.str (PySem.Str.ofString "r") 2487)]) 0), List.toArray []⟩) ::
    (nat_lit 189, ⟨(.type "tuple"), none, (.seq (List.toArray []) 0), List.toArray []⟩) ::
    (nat_lit 191, ⟨(.type "code"), none, (.fields (List.toArray [(.str (PySem.Str.ofString "map_table_b3") 2483), (.str (PySem.Str.ofString "map_table_b3") 2484), (.str (PySem.Str.ofString "/claim/cut.py") 2485), (.int (66) 0), (.int (1) 0), (.int (0) 0), (.int (0) 0), (.int (3) 0), (.ref 186), (.bool true), (.int (276) 0), (.ref 187), .none, (.ref 188), (.ref 189), (.ref 190), (.int (2488) 0), (.int (66) 0), (.str (PySem.Str.ofString "/claim/cut.py") 2489)])), List.toArray []⟩) ::
    (nat_lit 192, ⟨(.type "function"), none, (.func fn_map_table_b3), List.toArray []⟩) ::
    (nat_lit 210, ⟨(.type "tuple"), none, (.seq (List.toArray []) 0), List.toArray []⟩) ::
    (nat_lit 212, ⟨(.type "tuple"), none, (.seq (List.toArray [(.str (PySem.Str.ofString "code") 2535)]) 0), List.toArray []⟩) ::
    (nat_lit 213, ⟨(.type "tuple"), none, (.seq (List.toArray []) 0), List.toArray []⟩) ::
    (nat_lit 215, ⟨(.type "code"), none, (.fields (List.toArray [(.str (PySem.Str.ofString "in_table_c8") 2532), (.str (PySem.Str.ofString "in_table_c8") 2533), (.str (PySem.Str.ofString "/claim/cut.py") 2534), (.int (72) 0), (.int (1) 0), (.int (0) 0), (.int (0) 0), (.int (3) 0), (.ref 210), (.bool true), (.int (276) 0), (.ref 211), .none, (.ref 212), (.ref 213), (.ref 214), (.int (2536) 0), (.int (72) 0), (.str (PySem.Str.ofString "/claim/cut.py") 2537)])), List.toArray []⟩) ::
    (nat_lit 216, ⟨(.type "function"), none, (.func fn_in_table_c8), List.toArray []⟩) ::
    (nat_lit 217, ⟨(.type "tuple"), none, (.seq (List.toArray []) 0), List.toArray []⟩) ::
    (nat_lit 219, ⟨(.type "tuple"), none, (.seq (List.toArray [(.str (PySem.Str.ofString "script") 2544), (.str (PySem.Str.ofString "cells") 2545), (.str (PySem.Str.ofString "place") 2546)]) 0), List.toArray []⟩) ::
    (nat_lit 220, ⟨(.type "tuple"), none, (.seq (List.toArray []) 0), List.toArray []⟩) ::
    (nat_lit 222, ⟨(.type "code"), none, (.fields (List.toArray [(.str (PySem.Str.ofString "_law_cells") 2541), (.str (PySem.Str.ofString "_law_cells") 2542), (.str (PySem.Str.ofString "/claim/cut.py") 2543), (.int (75) 0), (.int (1) 0), (.int (0) 0), (.int (0) 0), (.int (3) 0), (.ref 217), (.bool true), (.int (276) 0), (.ref 218), .none, (.ref 219), (.ref 220), (.ref 221), (.int (2547) 0), (.int (75) 0), (.str (PySem.Str.ofString "/claim/cut.py") 2548)])), List.toArray []⟩) ::
    (nat_lit 223, ⟨(.type "function"), none, (.func fn__law_cells), List.toArray []⟩) ::
    (nat_lit 224, ⟨(.type "tuple"), none, (.seq (List.toArray []) 0), List.toArray []⟩) ::
    (nat_lit 227, ⟨(.type "code"), none, (.fields (List.toArray [(.str (PySem.Str.ofString "_law_mail") 2550), (.str (PySem.Str.ofString "_law_mail") 2551), (.str (PySem.Str.ofString "/claim/cut.py") 2552), (.int (80) 0), (.int (1) 0), (.int (0) 0), (.int (0) 0), (.int (3) 0), (.ref 224), (.bool true), (.int (276) 0), (.ref 225), .none, .none, .none, (.ref 226), (.int (2553) 0), (.int (80) 0), (.str (PySem.Str.ofString "/claim/cut.py") 2554)])), List.toArray []⟩) ::
    (nat_lit 228, ⟨(.type "function"), none, (.func fn__law_mail), List.toArray []⟩) ::
    (nat_lit 229, ⟨(.type "tuple"), none, (.seq (List.toArray []) 0), List.toArray []⟩) ::
    (nat_lit 232, ⟨(.type "code"), none, (.fields (List.toArray [(.str (PySem.Str.ofString "_law_column") 2556), (.str (PySem.Str.ofString "_law_column") 2557), (.str (PySem.Str.ofString "/claim/cut.py") 2558), (.int (90) 0), (.int (2) 0), (.int (0) 0), (.int (0) 0), (.int (3) 0), (.ref 229), (.bool true), (.int (276) 0), (.ref 230), .none, .none, .none, (.ref 231), (.int (2559) 0), (.int (90) 0), (.str (PySem.Str.ofString "/claim/cut.py") 2560)])), List.toArray []⟩) ::
    (nat_lit 233, ⟨(.type "function"), none, (.func fn__law_column), List.toArray []⟩) ::
    (nat_lit 234, ⟨(.type "tuple"), none, (.seq (List.toArray []) 0), List.toArray []⟩) ::
    (nat_lit 237, ⟨(.type "code"), none, (.fields (List.toArray [(.str (PySem.Str.ofString "_law_lead") 2562), (.str (PySem.Str.ofString "_law_lead") 2563), (.str (PySem.Str.ofString "/claim/cut.py") 2564), (.int (95) 0), (.int (1) 0), (.int (0) 0), (.int (0) 0), (.int (3) 0), (.ref 234), (.bool true), (.int (276) 0), (.ref 235), .none, .none, .none, (.ref 236), (.int (2565) 0), (.int (95) 0), (.str (PySem.Str.ofString "/claim/cut.py") 2566)])), List.toArray []⟩) ::
    (nat_lit 238, ⟨(.type "function"), none, (.func fn__law_lead), List.toArray []⟩) ::
    (nat_lit 239, ⟨(.type "tuple"), none, (.seq (List.toArray []) 0), List.toArray []⟩) ::
    (nat_lit 242, ⟨(.type "code"), none, (.fields (List.toArray [(.str (PySem.Str.ofString "_law_relay") 2568), (.str (PySem.Str.ofString "_law_relay") 2569), (.str (PySem.Str.ofString "/claim/cut.py") 2570), (.int (98) 0), (.int (2) 0), (.int (0) 0), (.int (0) 0), (.int (3) 0), (.ref 239), (.bool true), (.int (276) 0), (.ref 240), .none, .none, .none, (.ref 241), (.int (2571) 0), (.int (98) 0), (.str (PySem.Str.ofString "/claim/cut.py") 2572)])), List.toArray []⟩) ::
    (nat_lit 243, ⟨(.type "function"), none, (.func fn__law_relay), List.toArray []⟩) ::
    (nat_lit 244, ⟨(.type "tuple"), none, (.seq (List.toArray []) 0), List.toArray []⟩) ::
    (nat_lit 247, ⟨(.type "code"), none, (.fields (List.toArray [(.str (PySem.Str.ofString "_law_counts") 2574), (.str (PySem.Str.ofString "_law_counts") 2575), (.str (PySem.Str.ofString "/claim/cut.py") 2576), (.int (102) 0), (.int (1) 0), (.int (0) 0), (.int (0) 0), (.int (3) 0), (.ref 244), (.bool true), (.int (276) 0), (.ref 245), .none, .none, .none, (.ref 246), (.int (2577) 0), (.int (102) 0), (.str (PySem.Str.ofString "/claim/cut.py") 2578)])), List.toArray []⟩) ::
    (nat_lit 248, ⟨(.type "function"), none, (.func fn__law_counts), List.toArray []⟩) ::
    (nat_lit 249, ⟨(.type "tuple"), none, (.seq (List.toArray []) 0), List.toArray []⟩) ::
    (nat_lit 252, ⟨(.type "code"), none, (.fields (List.toArray [(.str (PySem.Str.ofString "law") 2580), (.str (PySem.Str.ofString "law") 2581), (.str (PySem.Str.ofString "/claim/cut.py") 2582), (.int (107) 0), (.int (1) 0), (.int (0) 0), (.int (0) 0), (.int (3) 0), (.ref 249), (.bool true), (.int (276) 0), (.ref 250), .none, .none, .none, (.ref 251), (.int (2583) 0), (.int (107) 0), (.str (PySem.Str.ofString "/claim/cut.py") 2584)])), List.toArray []⟩) ::
    (nat_lit 253, ⟨(.type "function"), none, (.func fn_law), List.toArray []⟩) :: []
noncomputable def Kas : List Addr := [nat_lit 2, nat_lit 3, nat_lit 32, nat_lit 34, nat_lit 35, nat_lit 49, nat_lit 51, nat_lit 52, nat_lit 54, nat_lit 55, nat_lit 56, nat_lit 58, nat_lit 59, nat_lit 63, nat_lit 65, nat_lit 66, nat_lit 68, nat_lit 69, nat_lit 70, nat_lit 72, nat_lit 73, nat_lit 77, nat_lit 79, nat_lit 80, nat_lit 84, nat_lit 86, nat_lit 87, nat_lit 91, nat_lit 93, nat_lit 94, nat_lit 98, nat_lit 99, nat_lit 100, nat_lit 101, nat_lit 102, nat_lit 108, nat_lit 109, nat_lit 113, nat_lit 114, nat_lit 115, nat_lit 117, nat_lit 118, nat_lit 120, nat_lit 121, nat_lit 122, nat_lit 124, nat_lit 125, nat_lit 127, nat_lit 128, nat_lit 140, nat_lit 142, nat_lit 143, nat_lit 145, nat_lit 146, nat_lit 186, nat_lit 188, nat_lit 189, nat_lit 191, nat_lit 192, nat_lit 210, nat_lit 212, nat_lit 213, nat_lit 215, nat_lit 216, nat_lit 217, nat_lit 219, nat_lit 220, nat_lit 222, nat_lit 223, nat_lit 224, nat_lit 227, nat_lit 228, nat_lit 229, nat_lit 232, nat_lit 233, nat_lit 234, nat_lit 237, nat_lit 238, nat_lit 239, nat_lit 242, nat_lit 243, nat_lit 244, nat_lit 247, nat_lit 248, nat_lit 249, nat_lit 252, nat_lit 253]
end Mine
end
section
open PySem PySem.W PyProof.Rows PySem.Calls
set_option Elab.async false
set_option maxRecDepth 100000
set_option linter.unusedVariables false
namespace Mine
noncomputable abbrev pw' : Program := PySem.Challenge.pw_re0164_01
section
variable {w : World} {n₀ : Nat} {ann : Option Value}
/-- some steps lead from here to there, each of them let by the top's check -/
noncomputable def Reach (w : World) (n₀ : Nat) (ann : Option Value) (k : Nat) (s : Shared) (t : Thread) (s' : Shared) (t' : Thread) : Prop := ∃ n, n ≤ k ∧ segGo treeTable pw' w n₀ ann 1 n s t = some (s', t')
theorem Reach.refl {s : Shared} {t : Thread} : Reach w n₀ ann 0 s t s t := ⟨0, Nat.le_refl 0, rfl⟩
theorem Reach.step {k : Nat} {s s₂ s' : Shared} {t t₂ t' : Thread} (he : endAt 1 t = none) (hk : stepOk n₀ ann t = true) (hs : step (denote treeTable) pw' w s t = .go s₂ t₂) (r : Reach w n₀ ann k s₂ t₂ s' t') : Reach w n₀ ann (k + 1) s t s' t' := by
  obtain ⟨n, hn, h⟩ := r
  refine ⟨n + 1, Nat.succ_le_succ hn, ?_⟩
  unfold segGo
  rw [he, hk, hs]; exact h
theorem segGo_app : ∀ {n m : Nat} {s s₂ s' : Shared} {t t₂ t' : Thread}, segGo treeTable pw' w n₀ ann 1 n s t = some (s₂, t₂) → segGo treeTable pw' w n₀ ann 1 m s₂ t₂ = some (s', t') → segGo treeTable pw' w n₀ ann 1 (n + m) s t = some (s', t')
  | 0, m, s, s₂, s', t, t₂, t', h, k => by
    obtain ⟨rfl, rfl⟩ : s = s₂ ∧ t = t₂ := by simpa [segGo] using h
    rw [Nat.zero_add]; exact k
  | n + 1, m, s, s₂, s', t, t₂, t', h, k => by
    rw [show n + 1 + m = n + m + 1 by omega]
    unfold segGo at h ⊢
    cases he : endAt 1 t with
    | some f => rw [he] at h; cases h
    | none =>
      rw [he] at h
      cases hk : stepOk n₀ ann t with
      | false => rw [hk] at h; cases h
      | true =>
        rw [hk] at h
        cases hs : step (denote treeTable) pw' w s t with
        | halt o s₂ => rw [hs] at h; cases h
        | go s₃ t₃ => rw [hs] at h; exact segGo_app h k
theorem Reach.trans {k k₂ : Nat} {s s₂ s' : Shared} {t t₂ t' : Thread} (a : Reach w n₀ ann k s t s₂ t₂) (b : Reach w n₀ ann k₂ s₂ t₂ s' t') : Reach w n₀ ann (k + k₂) s t s' t' := by
  obtain ⟨n, hn, a⟩ := a; obtain ⟨m, hm, b⟩ := b
  exact ⟨n + m, Nat.add_le_add hn hm, segGo_app a b⟩
theorem segRun_mono (k : Nat) : ∀ (n : Nat) (s : Shared) (t : Thread) (r : Flow × Shared × Code × Pos), segRun treeTable pw' w n₀ ann 1 n s t = some r → segRun treeTable pw' w n₀ ann 1 (n + k) s t = some r
  | 0, _, _, _, h => by simp [segRun] at h
  | n + 1, s, t, r, h => by
    rw [show n + 1 + k = n + k + 1 by omega]
    unfold segRun at h ⊢
    cases he : endAt 1 t with
    | some f => rw [he] at h; exact h
    | none =>
      rw [he] at h
      cases hk : stepOk n₀ ann t with
      | false => rw [hk] at h; cases h
      | true =>
        rw [hk] at h
        cases hs : step (denote treeTable) pw' w s t with
        | halt o s' => rw [hs] at h; cases h
        | go s' t' => rw [hs] at h; exact segRun_mono k n s' t' r h
theorem Reach.run {k : Nat} {s s₂ : Shared} {t t₂ : Thread} {N : Nat} {r : Flow × Shared × Code × Pos} (a : Reach w n₀ ann k s t s₂ t₂) (b : segRun treeTable pw' w n₀ ann 1 N s₂ t₂ = some r) : segRun treeTable pw' w n₀ ann 1 (k + N) s t = some r := by
  obtain ⟨n, hn, a⟩ := a
  have := segRun_mono (k - n) _ _ _ _ (seg_go a b)
  rwa [show n + N + (k - n) = k + N by omega] at this

/-- a tree that ends by itself: its steps, whatever waits behind it -/
noncomputable def Ok {α : Type} (w : World) (n₀ : Nat) (ann : Option Value) (k : Nat) (x : Sem α) (s : Shared) (p : Pos) (a : α) (s' : Shared) (p' : Pos) : Prop :=
  ∀ (K : α → Sem Fin) (H : Value → Sem Fin) (gd : Bool → Bool) (lv : List Value → List Value) (code : Code) (st : List Frame), 1 ≤ st.length →
    Reach w n₀ ann k s ⟨x.wrap K H gd lv, code, p, st⟩ s' ⟨K a, code, p', st⟩
variable {α β : Type} {kk kk₂ : Nat} {s s' s₂ : Shared} {p p' p₂ : Pos} {a : α} {b : β}
theorem ok_le {k k' : Nat} {x : Sem α} (hx : Ok w n₀ ann k x s p a s' p') (h : k ≤ k') : Ok w n₀ ann k' x s p a s' p' := fun K H gd lv code st hs => by
  obtain ⟨n, hn, e⟩ := hx K H gd lv code st hs
  exact ⟨n, Nat.le_trans hn h, e⟩
theorem ok_pure (a : α) : Ok w n₀ ann kk (Sem.pure a) s p a s p := fun K H gd lv code st hs => ⟨0, Nat.zero_le _, rfl⟩
theorem ok_pure' (a : α) : Ok w n₀ ann kk (Pure.pure a) s p a s p := fun K H gd lv code st hs => ⟨0, Nat.zero_le _, rfl⟩
theorem ok_bind (kk : Nat) {x : Sem α} {f : α → Sem β} (hx : Ok w n₀ ann kk x s p a s₂ p₂) (hf : Ok w n₀ ann kk₂ (f a) s₂ p₂ b s' p') : Ok w n₀ ann (kk₂ + kk) (x >>= f) s p b s' p' := fun K H gd lv code st hs => by
  have e : (x >>= f).wrap K H gd lv = x.wrap (fun a => (f a).wrap K H gd lv) H gd lv := by
    rw [Sem.bind_eq_wrap', Sem.wrap_wrap]; rfl
  rw [e]
  rw [Nat.add_comm]
  exact (hx _ _ _ _ _ _ hs).trans (hf _ _ _ _ _ _ hs)
theorem ok_keep {x : Sem α} {vs : List Value} (hx : Ok w n₀ ann kk x s p a s' p') : Ok w n₀ ann kk (x.keep vs) s p a s' p' := fun K H gd lv code st hs => by
  rw [Sem.keep_eq_wrap, Sem.wrap_wrap]
  exact hx _ _ _ _ _ _ hs
theorem ok_holding {x : Sem α} {vs : List Value} (hx : Ok w n₀ ann kk x s p a s' p') : Ok w n₀ ann kk (holding vs x) s p a s' p' := by
  unfold PySem.holding
  split
  · exact hx
  · exact ok_keep hx
theorem ok_tryCatch {x : Sem α} {h : Value → Sem α} (hx : Ok w n₀ ann kk x s p a s' p') : Ok w n₀ ann kk (MonadExcept.tryCatch x h) s p a s' p' := fun K H gd lv code st hs => by
  show Reach w n₀ ann kk s ⟨(x.tryCatch h).wrap K H gd lv, code, p, st⟩ s' _
  rw [Sem.tryCatch_eq_wrap, Sem.wrap_wrap]
  exact hx _ _ _ _ _ _ hs
theorem ok_onRaise {x : Sem α} {h : Value → Sem Unit} (hx : Ok w n₀ ann kk x s p a s' p') : Ok w n₀ ann kk (x.onRaise h) s p a s' p' := fun K H gd lv code st hs => by
  rw [Sem.onRaise_eq_wrap, Sem.wrap_wrap]
  exact hx _ _ _ _ _ _ hs
theorem ok_eq {x y : Sem α} (e : y = x) (hx : Ok w n₀ ann kk x s p a s' p') : Ok w n₀ ann kk y s p a s' p' := e ▸ hx
theorem ok_rule {tag : String} {k : Unit → Sem α} (hx : Ok w n₀ ann kk (k ()) s p a s' p') : Ok w n₀ ann (kk + 1) (.rule tag k) s p a s' p' := fun K H gd lv code st hs => by
  refine .step ?_ rfl rfl (hx K H gd lv code st hs)
  simp [endAt, Sem.wrap]
theorem ok_at {q : Pos} {k : Unit → Sem α} (hx : Ok w n₀ ann kk (k ()) s q a s' p') : Ok w n₀ ann (kk + 1) (.at q k) s p a s' p' := fun K H gd lv code st hs => by
  refine .step ?_ rfl rfl (hx K H gd lv code st hs)
  simp [endAt, Sem.wrap]
theorem ok_point {l : List Value} {k : Unit → Sem α} (hx : Ok w n₀ ann kk (k ()) s p a s' p') : Ok w n₀ ann (kk + 1) (.point l k) s p a s' p' := fun K H gd lv code st hs => by
  refine .step ?_ rfl rfl (hx K H gd lv code st hs)
  simp [endAt, Sem.wrap]
theorem ok_fresh {k : Tok → Sem α} (hx : Ok w n₀ ann kk (k s.toks) { s with toks := s.toks + 1 } p a s' p') : Ok w n₀ ann (kk + 1) (.fresh k) s p a s' p' := fun K H gd lv code st hs => by
  refine .step ?_ rfl rfl (hx K H gd lv code st hs)
  simp [endAt, Sem.wrap]
theorem ok_ask {k : Setting → Sem α} (hx : Ok w n₀ ann kk (k ⟨pw', w.params⟩) s p a s' p') : Ok w n₀ ann (kk + 1) (.ask k) s p a s' p' := fun K H gd lv code st hs => by
  refine .step ?_ rfl rfl (hx K H gd lv code st hs)
  simp [endAt, Sem.wrap]
theorem ok_alloc {o : Obj} {k : Addr → Sem α} (hx : Ok w n₀ ann kk (k s.heap.objs.size) { s with heap := s.heap.push o } p a s' p') : Ok w n₀ ann (kk + 1) (.alloc o k) s p a s' p' := fun K H gd lv code st hs => by
  refine .step ?_ rfl rfl (hx K H gd lv code st hs)
  simp [endAt, Sem.wrap]
theorem ok_load {ad : Addr} {o : Obj} {part : Option Value} {k : Obj → Sem α} (ho : s.heap.get? ad = some o) (hx : Ok w n₀ ann kk (k o) s p a s' p') : Ok w n₀ ann (kk + 1) (.load ad part k) s p a s' p' := fun K H gd lv code st hs => by
  obtain ⟨heap, gens, drawn, toks, os⟩ := s
  have ho : heap.get? ad = some o := ho
  refine .step ?_ rfl ?_ (hx K H gd lv code st hs)
  · simp [endAt, Sem.wrap]
  · show step _ _ _ _ ⟨Sem.load ad part _, _, _, _⟩ = _
    simp only [step, ho]
theorem ok_update {ad : Addr} {part : Option Value} {f : Obj → Obj} {k : Unit → Sem α} (ho : (s.heap.get? ad).isSome = true) (hn : n₀ ≤ ad) (hx : Ok w n₀ ann kk (k ()) { s with heap := s.heap.update ad f } p a s' p') : Ok w n₀ ann (kk + 1) (.update ad part f k) s p a s' p' := fun K H gd lv code st hs => by
  obtain ⟨heap, gens, drawn, toks, os⟩ := s
  have ho : (heap.get? ad).isSome = true := ho
  refine .step ?_ ?_ ?_ (hx K H gd lv code st hs)
  · simp [endAt, Sem.wrap]
  · simp [stepOk, Sem.wrap, Thread.calm, Thread.atCollectorCode, Thread.yieldsInsideHandler, Nat.ble_eq, hn]
  · show step _ _ _ _ ⟨Sem.update ad part f _, _, _, _⟩ = _
    simp only [step, ho, if_true]
theorem wrap_id {α : Type} (x : Sem α) : x.wrap .pure .raise id id = x := by
  induction x <;> simp only [Sem.wrap, id, *]
/-- a call of a builtin that answers: its check does nothing, its body ends -/
theorem ok_call {id : String} {args : Args} {bi : PySem.Builtin} {hd : Option Value} {g : Bool} {l : List Value} {k : Result → Sem α} {f : Flow} {q : Pos} (hc : checkBuiltinCall id args = Pure.pure ()) (hq : id.startsWith "lifetime." = false) (hb : entryFor treeTable id = some bi)
    (hbi : Ok w n₀ ann 2 (bi args) s p (Fin.done f) s₂ q) (hx : Ok w n₀ ann kk (k (.ok f)) s₂ p a s' p') : Ok w n₀ ann (kk + 5) (.call (.call (.builtin id) args) hd g l k) s p a s' p' := fun K H gd lv code st hs => by
  obtain ⟨heap, gens, drawn, toks, os⟩ := s
  rw [show kk + 5 = 2 + (kk + 1) + 1 + 1 by omega]
  have e1 : denote treeTable (.call (.builtin id) args) = Sem.pure (Fin.again (.builtin id args)) := by
    show (do checkBuiltinCall id args; again (.builtin id args) : Sem Fin) = _
    rw [hc]; rfl
  have e2 : denote treeTable (.builtin id args) = bi args := by
    show (match entryFor treeTable id with | some b => b args | none => _) = _
    rw [hb]
  refine .step ?_ rfl rfl ?_
  · simp [endAt, Sem.wrap]
  rw [e1]
  refine .step ?_ ?_ W.step_again ?_
  · have : ((st.length + 1 == 1) = false) := beq_eq_false_iff_ne.mpr (by omega)
    simp [endAt, this]
  · simp [stepOk, Thread.calm, Thread.atCollectorCode, Thread.yieldsInsideHandler, hq]
  rw [e2, ← wrap_id (bi args)]
  refine (hbi _ _ _ _ _ _ (by simp)).trans ?_
  obtain ⟨heap, gens, drawn, toks, os⟩ := s₂
  refine .step ?_ rfl rfl (hx K H gd lv code st hs)
  have : ((st.length + 1 == 1) = false) := beq_eq_false_iff_ne.mpr (by omega)
  simp [endAt, this]
end
end Mine
end
section
open PySem PySem.W PyProof.Rows PySem.Calls
set_option Elab.async false
set_option maxRecDepth 100000
set_option linter.unusedVariables false
namespace Mine
section
variable {w : World} {n₀ : Nat} {ann : Option Value} {α β : Type} {s s' s₂ : Shared} {p p' p₂ : Pos} {a : α} {b : β}
theorem check_int_hash (k : Int) (t : Tok) : checkBuiltinCall "int.__hash__" ⟨[.int k t], []⟩ = Pure.pure () := by
  have hk : builtinKind "int.__hash__" = some .slot := by decide +kernel
  have hs : splitId "int.__hash__" = some ("int", "__hash__") := by decide +kernel
  have ha := args_int_hash (.int k t)
  unfold argsOk at ha
  unfold checkBuiltinCall
  simp only [hk, hs, isInstance, typeOf, pure_bind, isSubtype_int_int, Bool.not_true, Bool.false_eq_true, if_false]
  cases hsig : Manifest.signature? "int.__hash__" with
  | none => rfl
  | some sig => rw [hsig] at ha; exact ha
theorem entry_hashT : entryFor treeTable "int.__hash__" = some Builtin.«int.__hash__» := by rw [← table_eq_tree]; exact entry_int_hash
theorem small_hash {k : Int} (h0 : 0 ≤ k) (h1 : k < 2000000) : rawHash k = k := by
  unfold rawHash
  obtain ⟨n, rfl⟩ : ∃ n : Nat, k = (n : Int) := ⟨k.toNat, by omega⟩
  have h3 : n < 2000000 := by omega
  have h4 : n % (2 ^ 61 - 1 : Nat) = n := Nat.mod_eq_of_lt (Nat.lt_of_lt_of_le h3 (by decide))
  have e : (((n : Int).natAbs % (2 ^ 61 - 1 : Nat) : Nat) : Int) = (n : Int) := by rw [Int.natAbs_natCast, h4]
  show (let h : Int := (((n : Int).natAbs % (2 ^ 61 - 1 : Nat) : Nat) : Int); let h := if (n : Int) < 0 then -h else h; if (h == -1) = true then (-2 : Int) else h) = _
  rw [e]
  have h5 : ¬ ((n : Int) < 0) := by omega
  have h6 : ((n : Int) == -1) = false := beq_eq_false_iff_ne.mpr (by omega)
  simp only [h5, if_false, h6, Bool.false_eq_true]
theorem ok_pyHash_int {k : Int} {t : Tok} (h0 : 0 ≤ k) (h1 : k < 2000000) : Ok w n₀ ann 20 (pyHash (.int k t)) s p k { s with toks := s.toks + 1 } p := by
  have hsp : specialOf (.int k t) "__hash__" = Pure.pure (some (.builtin "int.__hash__")) := by
    simp only [specialOf, typeOf, pure_bind]; exact slot_int_hash.lookup
  have hb : bindSpecial (.builtin "int.__hash__") (.int k t) = Pure.pure (.builtin "int.__hash__", [.int k t]) := slot_int_hash.bind _
  have hcall : Ok w n₀ ann 8 (call (.builtin "int.__hash__") [.int k t]) s p (.int k s.toks) { s with toks := s.toks + 1 } p := by
    show Ok w n₀ ann _ (Sem.bind (.call (.call (.builtin "int.__hash__") ⟨[.int k t], []⟩) none false [] fun | .ok f => .pure f | .error e => .raise e) _) s p _ _ p
    refine ok_call (k := _) (check_int_hash k t) (by decide +kernel) entry_hashT (f := .ret (.int k s.toks)) (s₂ := { s with toks := s.toks + 1 }) (q := p) ?_ ?_
    · show Ok w n₀ ann _ (do ret (← mkInt (rawHash k))) s p _ _ p
      rw [small_hash h0 h1]
      exact ok_fresh (ok_pure _)
    · exact ok_pure _
  unfold pyHash pyHashByItsType
  refine ok_bind 0 (a := ()) (ok_eq (if_neg (by rw [show [Value.int k t].any Value.onHeap = false from rfl]; exact Bool.false_ne_true)) (ok_pure' ())) ?_
  rw [hsp]
  simp only [pure_bind]
  refine ok_eq (if_neg (by decide)) ?_
  refine ok_eq (if_neg (by decide)) ?_
  refine ok_bind 14 (a := some (.int k s.toks)) (s₂ := { s with toks := s.toks + 1 }) (p₂ := p) ?_ ?_
  · unfold callSpecialIfBoundUnlessNone? bindSpecialIfBound?
    refine ok_holding ?_
    rw [hsp]
    simp only [pure_bind, hb]
    refine ok_bind 3 (a := some (.builtin "int.__hash__", [.int k t])) (s₂ := s) (p₂ := p) ?_ ?_
    · refine ok_ask ?_
      show Ok w n₀ ann _ (if w.params.followText "special-get-raises" = true then _ else _) s p _ s p
      split
      · exact ok_pure _
      · exact ok_tryCatch (ok_pure _)
    · show Ok w n₀ ann _ (if (Value.builtin "int.__hash__" == Value.none) = true then _ else _) s p _ _ p
      rw [if_neg (by rw [builtin_beq_none]; exact Bool.false_ne_true)]
      exact ok_bind 8 hcall (ok_pure _)
  · show Ok w n₀ ann _ (if (decide (-(2 : Int) ^ 63 ≤ k) && decide (k < 2 ^ 63)) = true then _ else _) _ _ _ _ _
    rw [if_pos (by simp; omega)]
    have : (if (k == -1) = true then -2 else k) = k := if_neg (by simp; omega)
    show Ok w n₀ ann _ (Pure.pure (if (k == -1) = true then -2 else k)) _ _ _ _ _
    rw [this]; exact ok_pure _
theorem ok_dictEntries {d : Addr} {o : Obj} {es : Array DictEntry} {ep : Nat} {part : Option Value} (ho : s.heap.get? d = some o) (hd : o.data = .dict es ep) : Ok w n₀ ann 1 (dictEntries d part) s p es s p := by
  unfold PySem.dictEntries
  refine ok_load ho ?_
  show Ok w n₀ ann _ (match o.data with | .dict es _ => Pure.pure es | _ => unsupported _) s p es s p
  rw [hd]; exact ok_pure _
theorem ok_dictEpoch {d : Addr} {o : Obj} {es : Array DictEntry} {ep : Nat} {part : Option Value} (ho : s.heap.get? d = some o) (hd : o.data = .dict es ep) : Ok w n₀ ann 1 (dictEpoch d part) s p ep s p := by
  unfold PySem.dictEpoch
  refine ok_load ho ?_
  show Ok w n₀ ann _ (match o.data with | .dict _ n => Pure.pure n | _ => unsupported _) s p ep s p
  rw [hd]; exact ok_pure _
theorem ok_dictFind_miss {d : Addr} {o : Obj} {es : Array DictEntry} {ep : Nat} {k h : Int} {t : Tok} (ho : s.heap.get? d = some o) (hd : o.data = .dict es ep) (hm : ∀ e ∈ es, e.hash ≠ h) :
    Ok w n₀ ann 1 (dictFind d (.int k t) h) s p none s p := by
  have hp : placesWithHash es.size (fun i => es[i]?.map (·.hash)) h = [] := by
    unfold placesWithHash
    rw [List.filter_eq_nil_iff]
    intro i _ q
    dsimp only at q
    cases he : es[i]? with
    | none => rw [he] at q; simp at q
    | some e =>
      rw [he] at q
      exact hm e (Array.mem_of_getElem? he) (by simpa using q)
  unfold dictFind
  refine ok_holding (ok_bind 1 (ok_dictEntries ho hd) ?_)
  dsimp only
  rw [hp]
  exact ok_pure _
theorem ok_updateDictKeys {d : Addr} {o : Obj} {es : Array DictEntry} {ep : Nat} {part : Option Value} {f : Array DictEntry → Array DictEntry} (ho : s.heap.get? d = some o) (hd : o.data = .dict es ep) (hn : n₀ ≤ d) (hf : (f es).size ≤ sizeLine)  :
    Ok w n₀ ann 3 (updateDictKeys d f part) s p () { s with heap := s.heap.update d (Obj.mapDictKeys f) } p := by
  unfold PySem.updateDictKeys
  refine ok_load ho ?_
  show Ok w n₀ ann _ (match o.data with | .dict _ _ => _ | _ => unsupported _) s p () _ p
  rw [hd]
  refine ok_update (by rw [ho]; rfl) hn ?_
  unfold lookBehind
  refine ok_load (o := Obj.mapDictKeys f o) (Heap.get?_update_self _ ho (Obj.isFreed_of_dict (Obj.data_mapDictKeys hd _))) ?_
  have e : (Obj.mapDictKeys f o).data.pastItsLine = none := by
    rw [Obj.data_mapDictKeys hd]
    show (if (f es).size > sizeLine + 1 then some _ else none) = none
    rw [if_neg (by omega)]
  refine ok_bind 0 (ok_pure _) ?_
  rw [e]
  exact ok_pure _
end
end Mine
end
section
open PySem PySem.W PyProof.Rows PySem.Calls
set_option Elab.async false
set_option maxRecDepth 100000
set_option linter.unusedVariables false
namespace Mine
noncomputable def dO (es : Array DictEntry) (ep : Nat) : Obj := { cls := .type "dict", data := .dict es ep }
noncomputable def hp (base : Array Obj) (l : Life) (L : List Obj) : Heap := ⟨base ++ L.toArray, l⟩
theorem hp_get {base : Array Obj} {l : Life} {L : List Obj} {i : Nat} {es : Array DictEntry} {ep : Nat} (h : L[i]? = some (dO es ep)) : (hp base l L).get? (base.size + i) = some (dO es ep) := by
  unfold Heap.get? hp
  have : (base ++ L.toArray)[base.size + i]? = some (dO es ep) := by
    rw [Array.getElem?_append_right (by omega)]
    simpa using h
  simp only [this]
  rfl
theorem hp_push {base : Array Obj} {l : Life} {L : List Obj} {o : Obj} : (hp base l L).push o = hp base l (L ++ [o]) := by
  unfold hp Heap.push
  simp
theorem hp_size {base : Array Obj} {l : Life} {L : List Obj} : (hp base l L).objs.size = base.size + L.length := by
  unfold hp
  simp
theorem hp_update {base : Array Obj} {l : Life} {L : List Obj} {i : Nat} {f : Obj → Obj} : (hp base l L).update (base.size + i) f = hp base l (L.modify i f) := by
  show Heap.mk ((base ++ L.toArray).modify (base.size + i) f) l = Heap.mk (base ++ (L.modify i f).toArray) l
  refine congrArg (Heap.mk · l) ?_
  apply Array.ext_getElem?
  intro j
  rw [Array.getElem?_modify]
  by_cases h : j < base.size
  · rw [Array.getElem?_append_left h, Array.getElem?_append_left h, if_neg (by omega)]
  · rw [Array.getElem?_append_right (by omega), Array.getElem?_append_right (by omega)]
    simp only [List.getElem?_toArray, List.getElem?_modify]
    by_cases e : base.size + i = j
    · subst e
      simp
    · rw [if_neg e]
      have : i ≠ j - base.size := by omega
      simp [this]
theorem modify_last (L : List Obj) (x : Obj) (f : Obj → Obj) : (L ++ [x]).modify L.length f = L ++ [f x] := by
  induction L with
  | nil => rfl
  | cons a r ih => simp [List.modify_succ_cons, ih]
section
variable {w : World} {n₀ : Nat} {ann : Option Value} {α β : Type} {s : Shared} {p : Pos} {base : Array Obj} {l : Life} {L : List Obj} {es : Array DictEntry} {ep i : Nat}
theorem ok_put {s : Shared} {k h : Int} {t : Tok} {v : Value} {part : Option Value} (hs : s.heap = hp base l L) (hi : L[i]? = some (dO es ep)) (hn : n₀ ≤ base.size) (hz : es.size + 1 ≤ sizeLine) :
    Ok w n₀ ann 3 (updateDictKeys (base.size + i) (·.push ⟨h, .int k t, v⟩) part) s p () { s with heap := hp base l (L.modify i (Obj.mapDictKeys (·.push ⟨h, .int k t, v⟩))) } p := by
  have := ok_updateDictKeys (w := w) (n₀ := n₀) (ann := ann) (p := p) (s := s) (d := base.size + i) (part := part) (f := (·.push ⟨h, .int k t, v⟩)) (o := dO es ep) (by rw [hs]; exact hp_get hi) rfl (by omega) (by simpa using hz)
  rw [show s.heap.update (base.size + i) (Obj.mapDictKeys (·.push ⟨h, .int k t, v⟩)) = hp base l (L.modify i (Obj.mapDictKeys (·.push ⟨h, .int k t, v⟩))) by rw [hs]; exact hp_update] at this
  exact this
theorem ok_setHashed {s : Shared} {k h : Int} {t : Tok} {v : Value} (hs : s.heap = hp base l L) (hi : L[i]? = some (dO es ep)) (hn : n₀ ≤ base.size) (hz : es.size + 1 ≤ sizeLine) (hm : ∀ e ∈ es, e.hash ≠ h) :
    Ok w n₀ ann 5 (dictSetHashed (base.size + i) (.int k t) h v) s p () { s with heap := hp base l (L.modify i (Obj.mapDictKeys (·.push ⟨h, .int k t, v⟩))) } p := by
  unfold dictSetHashed
  refine ok_holding (ok_bind 1 (ok_dictFind_miss (o := dO es ep) (by rw [hs]; exact hp_get hi) rfl hm) ?_)
  exact ok_rule (ok_put hs hi hn hz)
theorem ok_dictSet {s : Shared} {k : Int} {t : Tok} {v : Value} (h0 : 0 ≤ k) (h1 : k < 2000000) (hs : s.heap = hp base l L) (hi : L[i]? = some (dO es ep)) (hn : n₀ ≤ base.size) (hz : es.size + 1 ≤ sizeLine) (hm : ∀ e ∈ es, e.hash ≠ k) :
    Ok w n₀ ann 25 (dictSet (base.size + i) (.int k t) v) s p () { s with heap := hp base l (L.modify i (Obj.mapDictKeys (·.push ⟨k, .int k t, v⟩))), toks := s.toks + 1 } p := by
  unfold dictSet
  refine ok_holding (ok_bind 20 (ok_pyHash_int h0 h1) ?_)
  exact ok_setHashed (s := { s with toks := s.toks + 1 }) hs hi hn hz hm
theorem ok_dictPut {s : Shared} {k h : Int} {t : Tok} {v : Value} (hs : s.heap = hp base l L) (hi : L[i]? = some (dO es ep)) (hn : n₀ ≤ base.size) (hz : es.size + 1 ≤ sizeLine) (hm : ∀ e ∈ es, e.hash ≠ h) :
    Ok w n₀ ann 5 (dictPut (base.size + i) h (.int k t) v) s p () { s with heap := hp base l (L.modify i (Obj.mapDictKeys (·.push ⟨h, .int k t, v⟩))) } p := by
  unfold dictPut
  refine ok_bind 1 (ok_dictFind_miss (o := dO es ep) (by rw [hs]; exact hp_get hi) rfl hm) ?_
  exact ok_le (ok_put hs hi hn hz) (by decide)
noncomputable def pr (pos : Pos) (x : Int × Str) : Sem Value × Sem Value := (mkInt x.1, do let y ← mkText x.2; standAt pos; Pure.pure y)
/-- entries with their tokens, in the long display's order -/
noncomputable def entsN (st : Nat) : Nat → List (Int × Str) → List DictEntry
  | _, [] => []
  | T, (k, x) :: r => ⟨k, .int k T, .str x (T + 1)⟩ :: entsN st (T + st) r
theorem ents_len {st : Nat} : ∀ T l, (entsN st T l).length = l.length
  | _, [] => rfl
  | T, (k, x) :: r => by rw [entsN, List.length_cons, List.length_cons, ents_len]
theorem ents_hash {st : Nat} : ∀ T l, (entsN st T l).map (·.hash) = l.map (·.1)
  | _, [] => rfl
  | T, (k, x) :: r => by rw [entsN, List.map_cons, List.map_cons, ents_hash]
theorem ents_shape {st : Nat} : ∀ T l, ∀ e ∈ entsN st T l, ∃ t, e.key = .int e.hash t
  | _, [] => by simp [entsN]
  | T, (k, x) :: r => by
    rw [entsN]; intro e he
    rcases List.mem_cons.mp he with rfl | he
    · exact ⟨_, rfl⟩
    · exact ents_shape _ _ e he
noncomputable def GoodKeys (items : List (Int × Str)) : Prop := ∀ x ∈ items, 0 ≤ x.1 ∧ x.1 < 2000000
theorem ok_fill (pos : Pos) {L₀ : List Obj} : ∀ (items : List (Int × Str)) (es : Array DictEntry) (ep : Nat) (s : Shared), GoodKeys items → (items.map (·.1)).Nodup → (∀ e ∈ es, ∀ x ∈ items, e.hash ≠ x.1) → es.size + items.length ≤ sizeLine → n₀ ≤ base.size →
    s.heap = hp base l (L₀ ++ [dO es ep]) →
    Ok w n₀ ann (40 * items.length) (forIn (items.map (pr pos)) PUnit.unit fun (x : Sem Value × Sem Value) (_ : PUnit) => (do let kv ← x.1; let vv ← holding [kv] x.2; holding [kv, vv] (dictSet (base.size + L₀.length) kv vv); Pure.pure (ForInStep.yield PUnit.unit) : Sem (ForInStep PUnit)))
      s pos PUnit.unit { s with heap := hp base l (L₀ ++ [dO (es ++ (entsN 3 s.toks items).toArray) (ep + items.length)]), toks := s.toks + 3 * items.length } pos
  | [], es, ep, s, _, _, _, _, _, hs => by
    rw [List.map_nil, List.forIn_nil]
    have : s = { s with heap := hp base l (L₀ ++ [dO (es ++ (entsN 3 s.toks []).toArray) (ep + 0)]), toks := s.toks + 3 * 0 } := by
      obtain ⟨heap, gens, drawn, toks, os⟩ := s
      have hs : heap = hp base l (L₀ ++ [dO es ep]) := hs
      subst hs
      simp [entsN]
    exact this ▸ ok_pure' (s := s) _
  | (k, x) :: r, es, ep, s, hg, hnd, hm, hz, hn, hs => by
    obtain ⟨h0, h1⟩ := hg (k, x) List.mem_cons_self
    rw [List.length_cons] at hz
    rw [List.map_cons, List.forIn_cons]
    rw [List.map_cons, List.nodup_cons] at hnd
    have hset := ok_dictSet (w := w) (ann := ann) (p := pos) (s := { s with toks := s.toks + 1 + 1 }) (base := base) (l := l) (L := L₀ ++ [dO es ep]) (i := L₀.length) (es := es) (ep := ep) (k := k) (t := s.toks) (v := .str x (s.toks + 1)) h0 h1 hs (by simp) hn (by omega)
      (fun e he => hm e he _ List.mem_cons_self)
    rw [modify_last] at hset
    rw [List.length_cons, Nat.mul_succ]
    refine ok_bind 40 (a := ForInStep.yield PUnit.unit) (p₂ := pos) (s₂ := { s with heap := hp base l (L₀ ++ [dO (es.push ⟨k, .int k s.toks, .str x (s.toks + 1)⟩) (ep + 1)]), toks := s.toks + 3 }) ?_ ?_
    · refine ok_bind 1 (a := Value.int k s.toks) (s₂ := { s with toks := s.toks + 1 }) (p₂ := pos) (ok_fresh (ok_pure _)) ?_
      refine ok_bind 2 (a := Value.str x (s.toks + 1)) (s₂ := { s with toks := s.toks + 1 + 1 }) (p₂ := pos) (ok_holding ?_) ?_
      · exact ok_fresh (ok_at (ok_pure _))
      · exact ok_bind 25 (ok_holding hset) (ok_pure' _)
    · have ih := ok_fill pos (L₀ := L₀) r (es.push ⟨k, .int k s.toks, .str x (s.toks + 1)⟩) (ep + 1) { s with heap := hp base l (L₀ ++ [dO (es.push ⟨k, .int k s.toks, .str x (s.toks + 1)⟩) (ep + 1)]), toks := s.toks + 3 }
        (fun y hy => hg y (List.mem_cons_of_mem _ hy)) hnd.2 (fun e he y hy => by
          rcases Array.mem_push.mp he with he | rfl
          · exact hm e he y (List.mem_cons_of_mem _ hy)
          · exact fun q => hnd.1 (List.mem_map.mpr ⟨y, hy, q.symm⟩)) (by simp; omega) hn rfl
      have e1 : (es.push ⟨k, .int k s.toks, .str x (s.toks + 1)⟩) ++ (entsN 3 (s.toks + 3) r).toArray = es ++ (entsN 3 s.toks ((k, x) :: r)).toArray := by
        apply Array.toList_inj.mp
        simp [entsN]
      have e2 : ep + 1 + r.length = ep + ((k, x) :: r).length := by simp; omega
      have e3 : s.toks + 3 + 3 * r.length = s.toks + 3 * ((k, x) :: r).length := by simp; omega
      dsimp only at ih
      rw [e1, e2, e3] at ih
      exact ih
end
end Mine
end
section
open PySem PySem.W PyProof.Rows PySem.Calls
set_option Elab.async false
set_option maxRecDepth 100000
set_option linter.unusedVariables false
namespace Mine
section
variable {w : World} {n₀ : Nat} {ann : Option Value} {α β : Type} {s : Shared} {p : Pos} {base : Array Obj} {l : Life} {L : List Obj} {es : Array DictEntry} {ep i : Nat}
theorem ok_subDict_long {pos : Pos} {items : List (Int × Str)} (hg : GoodKeys items) (hnd : (items.map (·.1)).Nodup) (hl : 15 < items.length) (hz : items.length ≤ sizeLine) (hn : n₀ ≤ base.size) (hs : s.heap = hp base l L) :
    Ok w n₀ ann (40 * items.length + 10) (subDict (items.map (pr pos))) s pos (base.size + L.length) { s with heap := hp base l (L ++ [dO (entsN 3 s.toks items).toArray items.length]), toks := s.toks + 3 * items.length } pos := by
  unfold subDict
  refine ok_bind 1 (a := base.size + L.length) (s₂ := { s with heap := hp base l (L ++ [dO #[] 0]) }) (p₂ := pos) ?_ ?_
  · refine ok_alloc ?_
    have e : s.heap.objs.size = base.size + L.length := by rw [hs, hp_size]
    rw [e]
    have e2 : s.heap.push { cls := .type "dict", data := .dict #[] } = hp base l (L ++ [dO #[] 0]) := by rw [hs, hp_push]; rfl
    rw [e2]
    exact ok_pure _
  refine ok_le (k := 4 + (40 * items.length + 5)) (ok_bind (40 * items.length + 5) (kk₂ := 4) (a := ()) (p₂ := pos) (s₂ := { s with heap := hp base l (L ++ [dO (entsN 3 s.toks items).toArray items.length]), toks := s.toks + 3 * items.length }) (ok_holding ?_) (ok_pure' _)) (by omega)
  rw [if_neg (by rw [List.length_map]; omega)]
  have := ok_fill (w := w) (n₀ := n₀) (ann := ann) (base := base) (l := l) pos (L₀ := L) items #[] 0 { s with heap := hp base l (L ++ [dO #[] 0]) } hg hnd (by simp) (by simpa using hz) hn rfl
  simp only [Nat.zero_add, Array.empty_append] at this
  exact ok_rule (ok_bind 0 (ok_pure ()) (ok_le (ok_bind (40 * items.length) this (ok_pure' (kk := 0) _)) (by omega)))
noncomputable def vals : Nat → List (Int × Str) → List (Value × Value)
  | _, [] => []
  | T, (k, x) :: r => (.int k T, .str x (T + 1)) :: vals (T + 2) r
theorem ok_evalPairs (pos : Pos) : ∀ (items : List (Int × Str)) (s : Shared), Ok w n₀ ann (5 * items.length) (evalPairs (items.map (pr pos))) s pos (vals s.toks items) { s with toks := s.toks + 2 * items.length } pos
  | [], s => ok_pure' _
  | (k, x) :: r, s => by
    rw [List.map_cons]
    unfold pr
    rw [evalPairs, List.length_cons, Nat.mul_succ]
    refine ok_bind 1 (a := Value.int k s.toks) (s₂ := { s with toks := s.toks + 1 }) (p₂ := pos) (ok_fresh (ok_pure _)) ?_
    refine ok_bind 2 (a := Value.str x (s.toks + 1)) (s₂ := { s with toks := s.toks + 1 + 1 }) (p₂ := pos) (ok_holding (ok_fresh (ok_at (ok_pure _)))) ?_
    have ih := ok_evalPairs pos r { s with toks := s.toks + 1 + 1 }
    have e : s.toks + 1 + 1 + 2 * r.length = s.toks + 2 * ((k, x) :: r).length := by simp; omega
    dsimp only at ih
    rw [e] at ih
    exact ok_le (ok_bind (5 * r.length) (ok_holding ih) (ok_pure' (kk := 0) _)) (by omega)
theorem ok_fill2 (pos : Pos) {L₀ : List Obj} : ∀ (items : List (Int × Str)) (T : Nat) (es : Array DictEntry) (ep : Nat) (s : Shared), GoodKeys items → (items.map (·.1)).Nodup → (∀ e ∈ es, ∀ x ∈ items, e.hash ≠ x.1) → es.size + items.length ≤ sizeLine → n₀ ≤ base.size →
    s.heap = hp base l (L₀ ++ [dO es ep]) →
    Ok w n₀ ann (30 * items.length) (forIn (vals T items) PUnit.unit fun (x : Value × Value) (_ : PUnit) => (do dictSet (base.size + L₀.length) x.1 x.2; Pure.pure (ForInStep.yield PUnit.unit) : Sem (ForInStep PUnit)))
      s pos PUnit.unit { s with heap := hp base l (L₀ ++ [dO (es ++ (entsN 2 T items).toArray) (ep + items.length)]), toks := s.toks + items.length } pos
  | [], T, es, ep, s, _, _, _, _, _, hs => by
    rw [vals, List.forIn_nil]
    have : s = { s with heap := hp base l (L₀ ++ [dO (es ++ (entsN 2 T []).toArray) (ep + 0)]), toks := s.toks + 0 } := by
      obtain ⟨heap, gens, drawn, toks, os⟩ := s
      have hs : heap = hp base l (L₀ ++ [dO es ep]) := hs
      subst hs
      simp [entsN]
    exact this ▸ ok_pure' (s := s) _
  | (k, x) :: r, T, es, ep, s, hg, hnd, hm, hz, hn, hs => by
    obtain ⟨h0, h1⟩ := hg (k, x) List.mem_cons_self
    rw [List.length_cons] at hz
    rw [vals, List.forIn_cons]
    rw [List.map_cons, List.nodup_cons] at hnd
    have hset := ok_dictSet (w := w) (ann := ann) (p := pos) (s := s) (base := base) (l := l) (L := L₀ ++ [dO es ep]) (i := L₀.length) (es := es) (ep := ep) (k := k) (t := T) (v := .str x (T + 1)) h0 h1 hs (by simp) hn (by omega)
      (fun e he => hm e he _ List.mem_cons_self)
    rw [modify_last] at hset
    rw [List.length_cons, Nat.mul_succ]
    refine ok_bind 30 (a := ForInStep.yield PUnit.unit) (p₂ := pos) (s₂ := { s with heap := hp base l (L₀ ++ [dO (es.push ⟨k, .int k T, .str x (T + 1)⟩) (ep + 1)]), toks := s.toks + 1 }) ?_ ?_
    · exact ok_bind 25 hset (ok_pure' _)
    · have ih := ok_fill2 pos (L₀ := L₀) r (T + 2) (es.push ⟨k, .int k T, .str x (T + 1)⟩) (ep + 1) { s with heap := hp base l (L₀ ++ [dO (es.push ⟨k, .int k T, .str x (T + 1)⟩) (ep + 1)]), toks := s.toks + 1 }
        (fun y hy => hg y (List.mem_cons_of_mem _ hy)) hnd.2 (fun e he y hy => by
          rcases Array.mem_push.mp he with he | rfl
          · exact hm e he y (List.mem_cons_of_mem _ hy)
          · exact fun q => hnd.1 (List.mem_map.mpr ⟨y, hy, q.symm⟩)) (by simp; omega) hn rfl
      have e1 : (es.push ⟨k, .int k T, .str x (T + 1)⟩) ++ (entsN 2 (T + 2) r).toArray = es ++ (entsN 2 T ((k, x) :: r)).toArray := by
        apply Array.toList_inj.mp
        simp [entsN]
      have e2 : ep + 1 + r.length = ep + ((k, x) :: r).length := by simp; omega
      have e3 : s.toks + 1 + r.length = s.toks + ((k, x) :: r).length := by simp; omega
      dsimp only at ih
      rw [e1, e2, e3] at ih
      exact ih
theorem ok_subDict_short {pos : Pos} {items : List (Int × Str)} (hg : GoodKeys items) (hnd : (items.map (·.1)).Nodup) (hl : items.length ≤ 15) (hn : n₀ ≤ base.size) (hs : s.heap = hp base l L) :
    Ok w n₀ ann (40 * items.length + 10) (subDict (items.map (pr pos))) s pos (base.size + L.length) { s with heap := hp base l (L ++ [dO (entsN 2 s.toks items).toArray items.length]), toks := s.toks + 3 * items.length } pos := by
  unfold subDict
  refine ok_bind 1 (a := base.size + L.length) (s₂ := { s with heap := hp base l (L ++ [dO #[] 0]) }) (p₂ := pos) ?_ ?_
  · refine ok_alloc ?_
    have e : s.heap.objs.size = base.size + L.length := by rw [hs, hp_size]
    rw [e]
    have e2 : s.heap.push { cls := .type "dict", data := .dict #[] } = hp base l (L ++ [dO #[] 0]) := by rw [hs, hp_push]; rfl
    rw [e2]
    exact ok_pure _
  refine ok_le (k := 4 + (40 * items.length + 5)) (ok_bind (40 * items.length + 5) (kk₂ := 4) (a := ()) (p₂ := pos) (s₂ := { s with heap := hp base l (L ++ [dO (entsN 2 s.toks items).toArray items.length]), toks := s.toks + 3 * items.length }) (ok_holding ?_) (ok_pure' _)) (by omega)
  rw [if_pos (by rw [List.length_map]; omega)]
  refine ok_le (k := 30 * items.length + 5 * items.length) (ok_bind (5 * items.length) (ok_evalPairs pos items _) ?_) (by omega)
  have := ok_fill2 (w := w) (n₀ := n₀) (ann := ann) (base := base) (l := l) pos (L₀ := L) items s.toks #[] 0 { s with heap := hp base l (L ++ [dO #[] 0]), toks := s.toks + 2 * items.length } hg hnd (by simp) (by rw [sizeLine_eq]; simp; omega) hn rfl
  simp only [Nat.zero_add, Array.empty_append] at this
  rw [show s.toks + 2 * items.length + items.length = s.toks + 3 * items.length by omega] at this
  exact ok_holding (ok_le (ok_bind (30 * items.length) this (ok_pure' (kk := 0) _)) (by omega))
end
end Mine
end
section
open PySem PySem.W PyProof.Rows PySem.Calls
set_option Elab.async false
set_option maxRecDepth 100000
set_option linter.unusedVariables false
namespace Mine
theorem take_push (es : Array DictEntry) (A : List DictEntry) (j : Nat) (hj : j < A.length) : (es ++ (A.take j).toArray).push A[j] = es ++ (A.take (j + 1)).toArray := by
  apply Array.toList_inj.mp
  rw [List.take_add_one, List.getElem?_eq_getElem hj]
  simp
section
variable {w : World} {n₀ : Nat} {ann : Option Value} {α β : Type} {s : Shared} {p : Pos} {base : Array Obj} {l : Life} {L : List Obj} {es : Array DictEntry} {ep i : Nat}
theorem ok_forIn {f : Nat → PUnit → Sem (ForInStep PUnit)} (S : Nat → Shared) {n : Nat} : ∀ (m j : Nat), j + m = n → (∀ i, i < n → Ok w n₀ ann 20 (f i PUnit.unit) (S i) p (ForInStep.yield PUnit.unit) (S (i + 1)) p) →
    Ok w n₀ ann (20 * m) (forIn (List.range' j m) PUnit.unit f) (S j) p PUnit.unit (S n) p
  | 0, j, h, hf => by
    obtain rfl : j = n := by omega
    exact ok_pure' _
  | m + 1, j, h, hf => by
    rw [List.range'_succ, List.forIn_cons, Nat.mul_succ]
    exact ok_bind 20 (hf j (by omega)) (ok_forIn S m (j + 1) (by omega) hf)
theorem ok_merge {A : List DictEntry} {rest : List Obj} {i : Nat} {ep2 : Nat} (hi : rest[i]? = some (dO A.toArray ep2)) (hs : s.heap = hp base l (dO es ep :: rest)) (hn : n₀ ≤ base.size) (hb : 2 ≤ base.size) (hne : es.size ≠ 0) (hz : es.size + A.length ≤ sizeLine)
    (hm : ∀ e ∈ es, ∀ x ∈ A, e.hash ≠ x.hash) (hnd : (A.map (·.hash)).Nodup) (hsh : ∀ e ∈ A, ∃ t, e.key = .int e.hash t) :
    Ok w n₀ ann (20 * A.length + 10) (mergeMapping (base.size) (.ref (base.size + (i + 1))) false) s p () { s with heap := hp base l (dO (es ++ A.toArray) (ep + A.length) :: rest) } p := by
  have hg : s.heap.get? (base.size + (i + 1)) = some (dO A.toArray ep2) := by rw [hs]; exact hp_get (by simpa using hi)
  have hd : s.heap.get? base.size = some (dO es ep) := by rw [hs]; exact hp_get (i := 0) (by simp)
  have hT : Ok w n₀ ann 1 (typeOf (.ref (base.size + (i + 1)))) s p (.type "dict") s p := by
    unfold typeOf
    exact ok_load hg (ok_pure _)
  unfold mergeMapping
  refine ok_bind 1 (a := true) (s₂ := s) (p₂ := p) (ok_bind 1 hT (ok_eq isSubtype_dict_dict (ok_pure' _))) ?_
  rw [if_pos rfl]
  refine ok_bind 1 (a := some (.builtin "dict.__iter__")) (s₂ := s) (p₂ := p) (ok_bind 1 hT (ok_eq F.slot_dict_iter.lookup (ok_pure' _))) ?_
  refine ok_bind 0 (a := true) (s₂ := s) (p₂ := p) (ok_eq (congrArg Pure.pure (beq_self_eq_true _)) (ok_pure' _)) ?_
  dsimp only
  have hsy : (base.size + (i + 1) == sysModules) = false := beq_eq_false_iff_ne.mpr (by show base.size + (i + 1) ≠ 1; omega)
  rw [hsy, if_neg Bool.false_ne_true]
  refine ok_bind 1 (ok_dictEntries hd rfl) ?_
  rw [if_neg (by simpa using hne)]
  refine ok_bind 1 (ok_dictEntries hg rfl) ?_
  refine ok_bind 1 (ok_dictEpoch hg rfl) ?_
  refine ok_le (k := 0 + 20 * A.length) (ok_bind (20 * A.length) (a := PUnit.unit) (p₂ := p) ?_ (ok_pure' _)) (by omega)
  rw [List.range_eq_range', List.size_toArray]
  have e0 : s = { s with heap := hp base l (dO (es ++ (A.take 0).toArray) (ep + 0) :: rest) } := by
    obtain ⟨heap, gens, drawn, toks, os⟩ := s
    have hs : heap = _ := hs
    subst hs
    simp
  have key2 : ∀ f : Nat → PUnit → Sem (ForInStep PUnit), (∀ j, j < A.length → Ok w n₀ ann 20 (f j PUnit.unit) { s with heap := hp base l (dO (es ++ (A.take j).toArray) (ep + j) :: rest) } p (ForInStep.yield PUnit.unit) { s with heap := hp base l (dO (es ++ (A.take (j + 1)).toArray) (ep + (j + 1)) :: rest) } p) →
      Ok w n₀ ann (20 * A.length) (forIn (List.range' 0 A.length) PUnit.unit f) s p PUnit.unit { s with heap := hp base l (dO (es ++ A.toArray) (ep + A.length) :: rest) } p := fun f hf => by
    have k := ok_forIn (w := w) (n₀ := n₀) (ann := ann) (p := p) (f := f) (fun j => { s with heap := hp base l (dO (es ++ (A.take j).toArray) (ep + j) :: rest) }) (n := A.length) A.length 0 (by omega) hf
    rw [List.take_length, ← e0] at k
    exact k
  refine key2 _ ?_
  intro j hj
  have hg' : (hp base l (dO (es ++ (A.take j).toArray) (ep + j) :: rest)).get? (base.size + (i + 1)) = some (dO A.toArray ep2) := hp_get (by simpa using hi)
  refine ok_bind 1 (ok_dictEntries (s := { s with heap := hp base l (dO (es ++ (A.take j).toArray) (ep + j) :: rest) }) hg' rfl) ?_
  have hx : A.toArray[j]? = some A[j] := by simp [hj]
  obtain ⟨t, ht⟩ := hsh A[j] (List.getElem_mem hj)
  have hA : (⟨A[j].hash, .int A[j].hash t, A[j].val⟩ : DictEntry) = A[j] := by rw [← ht]
  rw [hx]
  dsimp only
  have hput := ok_dictPut (w := w) (n₀ := n₀) (ann := ann) (p := p) (s := { s with heap := hp base l (dO (es ++ (A.take j).toArray) (ep + j) :: rest) }) (base := base) (l := l) (L := dO (es ++ (A.take j).toArray) (ep + j) :: rest) (i := 0) (k := A[j].hash) (h := A[j].hash) (t := t) (v := A[j].val) rfl rfl hn
    (by simp; omega) (by
      intro e he
      rcases Array.mem_append.mp he with he | he
      · exact hm e he _ (List.getElem_mem hj)
      · rw [List.mem_toArray] at he
        intro q
        obtain ⟨k, hk, rfl⟩ := List.mem_iff_getElem.mp he
        rw [List.length_take] at hk
        rw [List.getElem_take] at q
        have h1 := (List.pairwise_iff_getElem.mp hnd) k j (by simp; omega) (by simp; omega) (by omega)
        simp only [List.getElem_map] at h1
        exact h1 q)
  rw [hA] at hput
  have e2 : (dO (es ++ (A.take j).toArray) (ep + j) :: rest).modify 0 (Obj.mapDictKeys (·.push A[j])) = dO (es ++ (A.take (j + 1)).toArray) (ep + (j + 1)) :: rest := by
    show dO ((es ++ (A.take j).toArray).push A[j]) (ep + j + 1) :: rest = _
    rw [take_push es A j hj]
    rfl
  rw [e2] at hput
  have hg2 : (hp base l (dO (es ++ (A.take (j + 1)).toArray) (ep + (j + 1)) :: rest)).get? (base.size + (i + 1)) = some (dO A.toArray ep2) := hp_get (by simpa using hi)
  refine ok_bind 5 (a := ()) (p₂ := p) (s₂ := { s with heap := hp base l (dO (es ++ (A.take (j + 1)).toArray) (ep + (j + 1)) :: rest) }) (ok_holding ?_) ?_
  · rw [if_neg Bool.false_ne_true, ht]
    exact hput
  · refine ok_bind 1 (ok_dictEpoch (s := { s with heap := hp base l (dO (es ++ (A.take (j + 1)).toArray) (ep + (j + 1)) :: rest) }) hg2 rfl) ?_
    rw [if_neg (by simp)]
    exact ok_pure' _
end
end Mine
end
section
open PySem PySem.W PyProof.Rows PySem.Calls
set_option Elab.async false
set_option maxRecDepth 100000
set_option linter.unusedVariables false
namespace Mine
noncomputable def gq (pos : Pos) (x : Int × Str) : Option (Sem Value) × Sem Value := (some (pr pos x).1, (pr pos x).2)
noncomputable abbrev DSt := Option Addr × List (Sem Value × Sem Value)
theorem gather (pos : Pos) (f : (Option (Sem Value) × Sem Value) → DSt → Sem (ForInStep DSt))
    (hA : ∀ (m : Option Addr) (run : List (Sem Value × Sem Value)) (x : Int × Str), run.length + 1 < 17 → f (gq pos x) (m, run) = Pure.pure (.yield (m, run ++ [pr pos x]))) :
    ∀ (items : List (Int × Str)) (run : List (Sem Value × Sem Value)) (rest : List (Option (Sem Value) × Sem Value)) (m : Option Addr), run.length + items.length < 17 → forIn (items.map (gq pos) ++ rest) (m, run) f = forIn rest (m, run ++ items.map (pr pos)) f
  | [], run, rest, m, h => by simp
  | x :: r, run, rest, m, h => by
    rw [List.map_cons, List.cons_append, List.forIn_cons, hA m run x (by simp at h; omega), pure_bind]
    have := gather pos f hA r (run ++ [pr pos x]) rest m (by simp at h ⊢; omega)
    simpa using this
theorem split_last {α : Type} : ∀ (c : List α) (n : Nat), c.length = n + 1 → ∃ c₀ x, c = c₀ ++ [x] ∧ c₀.length = n := fun c n h => by
  refine ⟨c.dropLast, c.getLast (by intro q; rw [q] at h; simp at h), (List.dropLast_concat_getLast _).symm, by simp; omega⟩
theorem ents_app {st : Nat} : ∀ (a b : List (Int × Str)) (T : Nat), entsN st T (a ++ b) = entsN st T a ++ entsN st (T + st * a.length) b
  | [], b, T => by simp [entsN]
  | (k, x) :: a, b, T => by
    rw [List.cons_append, entsN, entsN, ents_app a b, List.cons_append]
    congr 3
    rw [List.length_cons, Nat.mul_succ]; omega
noncomputable def subsOf : Nat → List (List (Int × Str)) → List Obj
  | _, [] => []
  | T, c :: r => dO (entsN 3 T c).toArray c.length :: subsOf (T + 3 * c.length) r
section
variable {w : World} {n₀ : Nat} {ann : Option Value} {s : Shared} {base : Array Obj} {l : Life}
/-- one flush upon a dict that stands -/
theorem ok_flush {pos : Pos} {c : List (Int × Str)} {A : List DictEntry} {L : List Obj} {es : Array DictEntry} {ep : Nat} {s : Shared} {s' : Shared} {kq : Nat} (hsub : Ok w n₀ ann kq (subDict (c.map (pr pos))) s pos (base.size + (dO es ep :: L).length) s' pos)
    (hs' : s'.heap = hp base l ((dO es ep :: L) ++ [dO A.toArray c.length])) (hn : n₀ ≤ base.size) (hb : 2 ≤ base.size) (hne : es.size ≠ 0) (hz : es.size + A.length ≤ sizeLine)
    (hm : ∀ e ∈ es, ∀ x ∈ A, e.hash ≠ x.hash) (hnd : (A.map (·.hash)).Nodup) (hsh : ∀ e ∈ A, ∃ t, e.key = .int e.hash t) :
    Ok w n₀ ann (20 * A.length + 10 + kq) (do let sub ← holding [.ref base.size] (subDict (c.map (pr pos))); (holding [.ref base.size, .ref sub] (mergeMapping base.size (.ref sub) false)).onRaise fun x => do { let _ ← holding [.ref base.size, x] (runValue (.builtin "proto.let_go" {})) }; Pure.pure (some base.size) : Sem (Option Addr))
      s pos (some base.size) { s' with heap := hp base l (dO (es ++ A.toArray) (ep + A.length) :: (L ++ [dO A.toArray c.length])) } pos := by
  refine ok_bind kq (ok_holding hsub) ?_
  rw [List.length_cons]
  refine ok_le (k := 0 + (20 * A.length + 10)) (ok_bind (20 * A.length + 10) (a := ()) (p₂ := pos) (s₂ := { s' with heap := hp base l (dO (es ++ A.toArray) (ep + A.length) :: (L ++ [dO A.toArray c.length])) }) (ok_onRaise (ok_holding ?_)) (ok_pure' _)) (by omega)
  exact ok_merge (i := L.length) (ep2 := c.length) (by simp) hs' hn hb hne hz hm hnd hsh

noncomputable def flushT (run : List (Sem Value × Sem Value)) (main : Option Addr) : Sem (Option Addr) := do
    if run.isEmpty then return main
    match main with
    | none => return some (← subDict run)
    | some d =>
      let sub ← holding [.ref d] (subDict run)
      (holding [.ref d, .ref sub] (mergeMapping d (.ref sub) false)).onRaise fun x => do { let _ ← holding [.ref d, x] (runValue (.builtin "proto.let_go" {})) }
      return some d
theorem flushT_some {run : List (Sem Value × Sem Value)} {d : Addr} (h : run ≠ []) : flushT run (some d) = (do let sub ← holding [.ref d] (subDict run); (holding [.ref d, .ref sub] (mergeMapping d (.ref sub) false)).onRaise fun x => do { let _ ← holding [.ref d, x] (runValue (.builtin "proto.let_go" {})) }; Pure.pure (some d) : Sem (Option Addr)) := by
  cases run with
  | nil => exact absurd rfl h
  | cons a r => rfl
theorem flushT_none {run : List (Sem Value × Sem Value)} (h : run ≠ []) : flushT run none = (do return some (← subDict run) : Sem (Option Addr)) := by
  cases run with
  | nil => exact absurd rfl h
  | cons a r => rfl
theorem nodup_parts {a b c : List Int} (h : (a ++ (b ++ c)).Nodup) : b.Nodup ∧ (a ++ b ++ c).Nodup ∧ (∀ x ∈ a, ∀ y ∈ b, x ≠ y) := by
  rw [List.nodup_append] at h
  obtain ⟨h1, h2, h3⟩ := h
  refine ⟨(List.nodup_append.mp h2).1, ?_, fun x hx y hy => h3 x hx y (List.mem_append_left _ hy)⟩
  rw [List.append_assoc]
  exact List.nodup_append.mpr ⟨h1, h2, h3⟩
/-- the turns of the display behind its first chunk -/
theorem ok_turns (pos : Pos) (f : (Option (Sem Value) × Sem Value) → DSt → Sem (ForInStep DSt)) (last : List (Int × Str)) (hlast : last.length < 17) (hn : n₀ ≤ base.size) (hb : 2 ≤ base.size)
    (hA : ∀ (m : Option Addr) (run : List (Sem Value × Sem Value)) (x : Int × Str), run.length + 1 < 17 → f (gq pos x) (m, run) = Pure.pure (.yield (m, run ++ [pr pos x])))
    (hB : ∀ (m : Option Addr) (run : List (Sem Value × Sem Value)) (x : Int × Str), run.length + 1 = 17 → f (gq pos x) (m, run) = (flushT (run ++ [pr pos x]) m >>= fun m' => Pure.pure (.yield (m', [])))) :
    ∀ (cs : List (List (Int × Str))) (es : Array DictEntry) (ep : Nat) (L : List Obj) (s : Shared), (∀ c ∈ cs, c.length = 17) → GoodKeys cs.flatten → (es.toList.map (·.hash) ++ (cs.flatten.map (·.1) ++ last.map (·.1))).Nodup → es.size ≠ 0 → es.size + (cs.flatten).length + last.length ≤ sizeLine → s.heap = hp base l (dO es ep :: L) →
    Ok w n₀ ann (2000 * cs.length) (forIn (cs.flatten.map (gq pos) ++ last.map (gq pos)) ((some base.size, []) : DSt) f) s pos (some base.size, last.map (pr pos))
      { s with heap := hp base l (dO (es ++ (entsN 3 s.toks cs.flatten).toArray) (ep + cs.flatten.length) :: (L ++ subsOf s.toks cs)), toks := s.toks + 3 * cs.flatten.length } pos
  | [], es, ep, L, s, _, _, _, _, _, hs => by
    rw [List.flatten_nil, List.map_nil, List.nil_append]
    have := gather pos f hA last [] [] (some base.size) (by simpa using hlast)
    rw [List.append_nil, List.forIn_nil, List.nil_append] at this
    rw [this]
    have : s = { s with heap := hp base l (dO (es ++ (entsN 3 s.toks []).toArray) (ep + 0) :: (L ++ subsOf s.toks [])), toks := s.toks + 3 * 0 } := by
      obtain ⟨heap, gens, drawn, toks, os⟩ := s
      have hs : heap = _ := hs
      subst hs
      simp [entsN, subsOf]
    exact this ▸ ok_pure' (s := s) _
  | c :: cs, es, ep, L, s, hlen, hg, hnd, hne, hz, hs => by
    have hc : c.length = 17 := hlen c List.mem_cons_self
    obtain ⟨c₀, x, hcx, hc₀⟩ := split_last c 16 hc
    rw [List.flatten_cons] at hg hnd hz ⊢
    rw [List.map_append, List.append_assoc] at hnd
    obtain ⟨n1, n2, n3⟩ := nodup_parts hnd
    have hgc : GoodKeys c := fun y hy => hg y (List.mem_append_left _ hy)
    have hzl : c.length ≤ sizeLine := by rw [sizeLine_eq, hc]; decide
    have hsub := ok_subDict_long (w := w) (n₀ := n₀) (ann := ann) (pos := pos) hgc n1 (by omega) hzl hn hs
    rw [List.length_append] at hz
    have hfl := ok_flush (w := w) (n₀ := n₀) (ann := ann) (A := entsN 3 s.toks c) hsub rfl hn hb hne (by rw [ents_len]; omega) (fun e he y hy => by
      refine n3 _ (List.mem_map.mpr ⟨e, by simpa using he, rfl⟩) _ ?_
      rw [← ents_hash (st := 3) s.toks c]
      exact List.mem_map.mpr ⟨y, hy, rfl⟩) (by rw [ents_hash]; exact n1) (ents_shape _ _)
    have hform : forIn ((c ++ cs.flatten).map (gq pos) ++ last.map (gq pos)) ((some base.size, []) : DSt) f = (flushT (c.map (pr pos)) (some base.size) >>= fun m' => forIn (cs.flatten.map (gq pos) ++ last.map (gq pos)) ((m', []) : DSt) f) := by
      rw [hcx, List.map_append, List.map_append, List.append_assoc, List.append_assoc]
      rw [gather pos f hA c₀ [] _ _ (by simp; omega)]
      rw [List.map_cons, List.map_nil, List.cons_append, List.nil_append, List.forIn_cons, hB _ _ _ (by simp [hc₀])]
      rw [List.map_append, List.nil_append]
      simp only [bind_assoc, pure_bind, List.map_cons, List.map_nil]
    rw [hform]
    rw [flushT_some (by intro q; have := congrArg List.length q; simp [hc] at this)]
    rw [List.length_cons, Nat.mul_succ]
    refine ok_bind 2000 (ok_le hfl (by rw [ents_len, hc]; omega)) ?_
    have e5 : (es ++ (entsN 3 s.toks c).toArray).size = es.size + c.length := by simp [ents_len]
    have ih := ok_turns pos f last hlast hn hb hA hB cs (es ++ (entsN 3 s.toks c).toArray) (ep + c.length) (L ++ [dO (entsN 3 s.toks c).toArray c.length]) { s with heap := hp base l (dO (es ++ (entsN 3 s.toks c).toArray) (ep + c.length) :: (L ++ [dO (entsN 3 s.toks c).toArray c.length])), toks := s.toks + 3 * c.length }
      (fun c' hc' => hlen c' (List.mem_cons_of_mem _ hc')) (fun y hy => hg y (List.mem_append_right _ hy)) (by
        rw [Array.toList_append, List.map_append, ents_hash]
        simpa [List.append_assoc] using n2) (by rw [e5]; omega) (by rw [e5]; omega) rfl
    dsimp only at ih
    rw [ents_len]
    have e1 : (es ++ (entsN 3 s.toks c).toArray) ++ (entsN 3 (s.toks + 3 * c.length) cs.flatten).toArray = es ++ (entsN 3 s.toks (c ++ cs.flatten)).toArray := by
      rw [ents_app]
      apply Array.toList_inj.mp
      simp
    have e2 : ep + c.length + cs.flatten.length = ep + (c ++ cs.flatten).length := by rw [List.length_append]; omega
    have e3 : s.toks + 3 * c.length + 3 * cs.flatten.length = s.toks + 3 * (c ++ cs.flatten).length := by rw [List.length_append]; omega
    have e4 : (L ++ [dO (entsN 3 s.toks c).toArray c.length]) ++ subsOf (s.toks + 3 * c.length) cs = L ++ subsOf s.toks (c :: cs) := by
      rw [List.append_assoc]; rfl
    rw [e1, e2, e3, e4] at ih
    exact ih
end
end Mine
end
section
open PySem PySem.W PyProof.Rows PySem.Calls
set_option Elab.async false
set_option maxRecDepth 100000
set_option linter.unusedVariables false
namespace Mine
section
variable {w : World} {n₀ : Nat} {ann : Option Value} {base : Array Obj} {l : Life}
theorem ok_display (pos : Pos) (c : List (Int × Str)) (cs : List (List (Int × Str))) (last : List (Int × Str)) (s : Shared) (hc : c.length = 17) (hcs : ∀ d ∈ cs, d.length = 17) (hl0 : last ≠ []) (hl : last.length ≤ 15) (hg : GoodKeys (c ++ cs.flatten ++ last)) (hnd : ((c ++ cs.flatten ++ last).map (·.1)).Nodup)
    (hz : (c ++ cs.flatten ++ last).length ≤ sizeLine) (hn : n₀ ≤ base.size) (hb : 2 ≤ base.size) (hs : s.heap = hp base l []) :
    Ok w n₀ ann (2000 * cs.length + 3000) (dictDisplay ((c ++ cs.flatten ++ last).map (gq pos))) s pos (.ref base.size)
      { s with heap := hp base l (dO (entsN 3 s.toks (c ++ cs.flatten) ++ entsN 2 (s.toks + 3 * (c ++ cs.flatten).length) last).toArray (c ++ cs.flatten ++ last).length :: (subsOf (s.toks + 3 * c.length) cs ++ [dO (entsN 2 (s.toks + 3 * (c ++ cs.flatten).length) last).toArray last.length])), toks := s.toks + 3 * (c ++ cs.flatten ++ last).length } pos := by
  obtain ⟨c₀, x, hcx, hc₀⟩ := split_last c 16 hc
  have hgc : GoodKeys c := fun y hy => hg y (List.mem_append_left _ (List.mem_append_left _ hy))
  have hzl : c.length ≤ sizeLine := by rw [sizeLine_eq, hc]; decide
  have hnd' := hnd
  rw [List.map_append, List.map_append, List.append_assoc] at hnd'
  have n1 : (c.map (·.1)).Nodup := (List.nodup_append.mp hnd').1
  have hsub := ok_subDict_long (w := w) (n₀ := n₀) (ann := ann) (pos := pos) hgc n1 (by omega) hzl hn hs
  unfold dictDisplay
  dsimp only
  have key : ∀ f : (Option (Sem Value) × Sem Value) → DSt → Sem (ForInStep DSt),
      (∀ (m : Option Addr) (run : List (Sem Value × Sem Value)) (x : Int × Str), run.length + 1 < 17 → f (gq pos x) (m, run) = Pure.pure (.yield (m, run ++ [pr pos x]))) →
      (∀ (m : Option Addr) (run : List (Sem Value × Sem Value)) (x : Int × Str), run.length + 1 = 17 → f (gq pos x) (m, run) = (flushT (run ++ [pr pos x]) m >>= fun m' => Pure.pure (.yield (m', [])))) →
      Ok w n₀ ann (2000 * cs.length + 1000) (forIn ((c ++ cs.flatten ++ last).map (gq pos)) ((none, []) : DSt) f) s pos (some base.size, last.map (pr pos))
        { s with heap := hp base l (dO (entsN 3 s.toks (c ++ cs.flatten)).toArray (c ++ cs.flatten).length :: subsOf (s.toks + 3 * c.length) cs), toks := s.toks + 3 * (c ++ cs.flatten).length } pos := fun f hA hB => by
    have hform : forIn ((c ++ cs.flatten ++ last).map (gq pos)) ((none, []) : DSt) f = (flushT (c.map (pr pos)) none >>= fun m' => forIn (cs.flatten.map (gq pos) ++ last.map (gq pos)) ((m', []) : DSt) f) := by
      rw [hcx, List.map_append, List.map_append, List.map_append, List.append_assoc, List.append_assoc]
      rw [gather pos f hA c₀ [] _ _ (by simp; omega)]
      rw [List.map_cons, List.map_nil, List.cons_append, List.nil_append, List.forIn_cons, hB _ _ _ (by simp [hc₀])]
      rw [List.map_append, List.nil_append]
      simp only [bind_assoc, pure_bind, List.map_cons, List.map_nil]
    rw [hform, flushT_none (by intro q; have := congrArg List.length q; simp [hc] at this)]
    refine ok_bind 1000 (a := some base.size) (ok_le (ok_bind (40 * c.length + 10) hsub (ok_pure' (kk := 0) _)) (by omega)) ?_
    have ih := ok_turns (w := w) (n₀ := n₀) (ann := ann) (base := base) (l := l) pos f last (by omega) hn hb hA hB cs (entsN 3 s.toks c).toArray c.length [] { s with heap := hp base l ([] ++ [dO (entsN 3 s.toks c).toArray c.length]), toks := s.toks + 3 * c.length } hcs
      (fun y hy => hg y (List.mem_append_left _ (List.mem_append_right _ hy))) (by
        show ((entsN 3 s.toks c).map (·.hash) ++ _).Nodup
        rw [ents_hash]; exact hnd') (by rw [List.size_toArray, ents_len]; omega) (by rw [List.size_toArray, ents_len]; rw [List.length_append, List.length_append] at hz; exact hz) rfl
    dsimp only at ih
    have e1 : (entsN 3 s.toks c).toArray ++ (entsN 3 (s.toks + 3 * c.length) cs.flatten).toArray = (entsN 3 s.toks (c ++ cs.flatten)).toArray := by
      rw [ents_app]
      apply Array.toList_inj.mp
      simp
    have e2 : c.length + cs.flatten.length = (c ++ cs.flatten).length := by rw [List.length_append]
    have e3 : s.toks + 3 * c.length + 3 * cs.flatten.length = s.toks + 3 * (c ++ cs.flatten).length := by rw [List.length_append]; omega
    rw [e1, e2, e3] at ih
    exact ih
  have hnl : GoodKeys last := fun y hy => hg y (List.mem_append_right _ hy)
  have n2 : (last.map (·.1)).Nodup := by
    rw [List.map_append] at hnd
    exact (List.nodup_append.mp hnd).2.1
  have n3 : ∀ a ∈ (c ++ cs.flatten).map (·.1), ∀ b ∈ last.map (·.1), a ≠ b := by
    rw [List.map_append] at hnd
    exact (List.nodup_append.mp hnd).2.2
  have hsub2 := ok_subDict_short (w := w) (n₀ := n₀) (ann := ann) (pos := pos) (items := last) (base := base) (l := l) (L := dO (entsN 3 s.toks (c ++ cs.flatten)).toArray (c ++ cs.flatten).length :: subsOf (s.toks + 3 * c.length) cs)
    (s := { s with heap := hp base l (dO (entsN 3 s.toks (c ++ cs.flatten)).toArray (c ++ cs.flatten).length :: subsOf (s.toks + 3 * c.length) cs), toks := s.toks + 3 * (c ++ cs.flatten).length }) hnl n2 hl hn rfl
  have hsz : (entsN 3 s.toks (c ++ cs.flatten)).toArray.size = (c ++ cs.flatten).length := by rw [List.size_toArray, ents_len]
  have hcl : 17 ≤ (c ++ cs.flatten).length := by rw [List.length_append]; omega
  have hfl := ok_flush (w := w) (n₀ := n₀) (ann := ann) (A := entsN 2 (s.toks + 3 * (c ++ cs.flatten).length) last) hsub2 rfl hn hb (by rw [hsz]; omega) (by rw [hsz, ents_len]; rw [List.length_append] at hz; exact hz) (fun e he y hy => by
    refine n3 _ ?_ _ ?_
    · rw [← ents_hash (st := 3) s.toks]
      exact List.mem_map.mpr ⟨e, by simpa using he, rfl⟩
    · rw [← ents_hash (st := 2) (s.toks + 3 * (c ++ cs.flatten).length) last]
      exact List.mem_map.mpr ⟨y, hy, rfl⟩) (by rw [ents_hash]; exact n2) (ents_shape _ _)
  refine ok_le (k := 2000 + (2000 * cs.length + 1000)) (ok_bind (2000 * cs.length + 1000) (key _ ?_ ?_) ?_) (by omega)
  · intro m run x h
    have : ((run ++ [pr pos x]).length == 17) = false := beq_eq_false_iff_ne.mpr (by simp; omega)
    show (if ((run ++ [pr pos x]).length == 17) = true then _ else _) = _
    rw [this]; rfl
  · intro m run x h
    have : ((run ++ [pr pos x]).length == 17) = true := beq_iff_eq.mpr (by simp; omega)
    show (if ((run ++ [pr pos x]).length == 17) = true then _ else _) = _
    rw [if_pos this]
    rfl
  · have hne : last.map (pr pos) ≠ [] := by simpa using hl0
    have e6 : (entsN 3 s.toks (c ++ cs.flatten)).toArray ++ (entsN 2 (s.toks + 3 * (c ++ cs.flatten).length) last).toArray = (entsN 3 s.toks (c ++ cs.flatten) ++ entsN 2 (s.toks + 3 * (c ++ cs.flatten).length) last).toArray := by
      apply Array.toList_inj.mp; simp
    have e7 : (c ++ cs.flatten).length + (entsN 2 (s.toks + 3 * (c ++ cs.flatten).length) last).length = (c ++ cs.flatten ++ last).length := by rw [ents_len, List.length_append (as := c ++ cs.flatten)]
    have e8 : s.toks + 3 * (c ++ cs.flatten).length + 3 * last.length = s.toks + 3 * (c ++ cs.flatten ++ last).length := by rw [List.length_append (as := c ++ cs.flatten)]; omega
    dsimp only at hfl
    rw [e6, e7, e8] at hfl
    rw [← flushT_some hne] at hfl
    exact ok_bind 2000 (kk₂ := 0) (x := flushT (last.map (pr pos)) (some base.size)) (ok_le hfl (by rw [ents_len]; omega)) (ok_pure' _)
end
end Mine
end
section
open PySem PySem.W PyProof.Rows PySem.Calls
set_option Elab.async false
set_option maxRecDepth 100000
set_option linter.unusedVariables false
namespace Mine
/-! the heap at some statements' ends, printed by a program of ours from a run of the row's text -/
noncomputable def mkFn0 {a : Arguments} {b : List Stmt} {sc : Scope} (name qual : Str) (st : Stmt) (_ : fdParts st = some (a, b, sc)) : FuncData :=
  { name := name, qualname := qual, params := a, body := .stmts b, scope := sc, globals := 0, closure := [], defaults := .none, kwdefaults := .none }
noncomputable def fn0__wall : FuncData := by
  refine' mkFn0 (PySem.Str.ofString "_wall") (PySem.Str.ofString "_wall") (sAt 1) ?h
  case h => exact rfl
noncomputable def fn__wall : FuncData := by
  refine' mkFn (PySem.Str.ofString "_wall") (PySem.Str.ofString "_wall") (.str (PySem.Str.ofString "__main__") 164) (.ref 37) (sAt 1) ?h
  case h => exact rfl
noncomputable def fn0_Whitespace___init__ : FuncData := by
  refine' mkFn0 (PySem.Str.ofString "__init__") (PySem.Str.ofString "Whitespace.__init__") (mAt 1) ?h
  case h => exact rfl
noncomputable def fn0_Whitespace_longest_run_of_spaces : FuncData := by
  refine' mkFn0 (PySem.Str.ofString "longest_run_of_spaces") (PySem.Str.ofString "Whitespace.longest_run_of_spaces") (mAt 2) ?h
  case h => exact rfl
noncomputable def fn_Whitespace_longest_run_of_spaces : FuncData := by
  refine' mkFn (PySem.Str.ofString "longest_run_of_spaces") (PySem.Str.ofString "Whitespace.longest_run_of_spaces") (.str (PySem.Str.ofString "cpy313.tabnanny") 289) (.ref 61) (mAt 2) ?h
  case h => exact rfl
noncomputable def fn0_Whitespace_indent_level : FuncData := by
  refine' mkFn0 (PySem.Str.ofString "indent_level") (PySem.Str.ofString "Whitespace.indent_level") (mAt 3) ?h
  case h => exact rfl
noncomputable def fn0_Whitespace_equal : FuncData := by
  refine' mkFn0 (PySem.Str.ofString "equal") (PySem.Str.ofString "Whitespace.equal") (mAt 4) ?h
  case h => exact rfl
noncomputable def fn_Whitespace_equal : FuncData := by
  refine' mkFn (PySem.Str.ofString "equal") (PySem.Str.ofString "Whitespace.equal") (.str (PySem.Str.ofString "cpy313.tabnanny") 289) (.ref 75) (mAt 4) ?h
  case h => exact rfl
noncomputable def fn0_Whitespace_not_equal_witness : FuncData := by
  refine' mkFn0 (PySem.Str.ofString "not_equal_witness") (PySem.Str.ofString "Whitespace.not_equal_witness") (mAt 5) ?h
  case h => exact rfl
noncomputable def fn_Whitespace_not_equal_witness : FuncData := by
  refine' mkFn (PySem.Str.ofString "not_equal_witness") (PySem.Str.ofString "Whitespace.not_equal_witness") (.str (PySem.Str.ofString "cpy313.tabnanny") 289) (.ref 82) (mAt 5) ?h
  case h => exact rfl
noncomputable def fn0_Whitespace_less : FuncData := by
  refine' mkFn0 (PySem.Str.ofString "less") (PySem.Str.ofString "Whitespace.less") (mAt 6) ?h
  case h => exact rfl
noncomputable def fn_Whitespace_less : FuncData := by
  refine' mkFn (PySem.Str.ofString "less") (PySem.Str.ofString "Whitespace.less") (.str (PySem.Str.ofString "cpy313.tabnanny") 289) (.ref 89) (mAt 6) ?h
  case h => exact rfl
noncomputable def fn0_Whitespace_not_less_witness : FuncData := by
  refine' mkFn0 (PySem.Str.ofString "not_less_witness") (PySem.Str.ofString "Whitespace.not_less_witness") (mAt 7) ?h
  case h => exact rfl
noncomputable def fn_Whitespace_not_less_witness : FuncData := by
  refine' mkFn (PySem.Str.ofString "not_less_witness") (PySem.Str.ofString "Whitespace.not_less_witness") (.str (PySem.Str.ofString "cpy313.tabnanny") 289) (.ref 96) (mAt 7) ?h
  case h => exact rfl
noncomputable def fn0_quotedata : FuncData := by
  refine' mkFn0 (PySem.Str.ofString "quotedata") (PySem.Str.ofString "quotedata") (sAt 8) ?h
  case h => exact rfl
noncomputable def fn0__fix_eols : FuncData := by
  refine' mkFn0 (PySem.Str.ofString "_fix_eols") (PySem.Str.ofString "_fix_eols") (sAt 9) ?h
  case h => exact rfl
noncomputable def fn0_in_table_b1 : FuncData := by
  refine' mkFn0 (PySem.Str.ofString "in_table_b1") (PySem.Str.ofString "in_table_b1") (sAt 12) ?h
  case h => exact rfl
noncomputable def fn0_map_table_b3 : FuncData := by
  refine' mkFn0 (PySem.Str.ofString "map_table_b3") (PySem.Str.ofString "map_table_b3") (sAt 14) ?h
  case h => exact rfl
noncomputable def fn0_in_table_c8 : FuncData := by
  refine' mkFn0 (PySem.Str.ofString "in_table_c8") (PySem.Str.ofString "in_table_c8") (sAt 16) ?h
  case h => exact rfl
noncomputable def fn0__law_cells : FuncData := by
  refine' mkFn0 (PySem.Str.ofString "_law_cells") (PySem.Str.ofString "_law_cells") (sAt 18) ?h
  case h => exact rfl
noncomputable def fn0__law_mail : FuncData := by
  refine' mkFn0 (PySem.Str.ofString "_law_mail") (PySem.Str.ofString "_law_mail") (sAt 19) ?h
  case h => exact rfl
noncomputable def fn0__law_column : FuncData := by
  refine' mkFn0 (PySem.Str.ofString "_law_column") (PySem.Str.ofString "_law_column") (sAt 20) ?h
  case h => exact rfl
noncomputable def fn0__law_lead : FuncData := by
  refine' mkFn0 (PySem.Str.ofString "_law_lead") (PySem.Str.ofString "_law_lead") (sAt 21) ?h
  case h => exact rfl
noncomputable def fn0__law_relay : FuncData := by
  refine' mkFn0 (PySem.Str.ofString "_law_relay") (PySem.Str.ofString "_law_relay") (sAt 22) ?h
  case h => exact rfl
noncomputable def fn0__law_counts : FuncData := by
  refine' mkFn0 (PySem.Str.ofString "_law_counts") (PySem.Str.ofString "_law_counts") (sAt 23) ?h
  case h => exact rfl
noncomputable def fn0_law : FuncData := by
  refine' mkFn0 (PySem.Str.ofString "law") (PySem.Str.ofString "law") (sAt 24) ?h
  case h => exact rfl
noncomputable def dItemsOf : Stmt → List (Int × Str)
  | .Assign _ (.Dict ks vs _) _ => (ks.zip vs).filterMap fun
    | (some (.Constant (.int k) _ _), .Constant (.str x) _ _) => some (k, x)
    | _ => none
  | _ => []
noncomputable def items : List (Int × Str) := dItemsOf (sAt 13)
noncomputable def c0s : List (Int × Str) := items.take 17
noncomputable def chunkAt (i : Nat) : List (Int × Str) := (items.drop (17 * i)).take 17
noncomputable def css : List (List (Int × Str)) := (List.range' 1 37).map chunkAt
noncomputable def lasts : List (Int × Str) := items.drop 646
noncomputable def mainD : Obj := dO (entsN 3 532 (c0s ++ css.flatten) ++ entsN 2 (532 + 3 * (c0s ++ css.flatten).length) lasts).toArray (c0s ++ css.flatten ++ lasts).length
noncomputable def subD : List Obj := subsOf (532 + 3 * c0s.length) css ++ [dO (entsN 2 (532 + 3 * (c0s ++ css.flatten).length) lasts).toArray lasts.length]
noncomputable def o147 (P : Params) : Obj := mainD
noncomputable def o148 (P : Params) : Obj := subD.getD 0 mainD
noncomputable def o149 (P : Params) : Obj := subD.getD 1 mainD
noncomputable def o150 (P : Params) : Obj := subD.getD 2 mainD
noncomputable def o151 (P : Params) : Obj := subD.getD 3 mainD
noncomputable def o152 (P : Params) : Obj := subD.getD 4 mainD
noncomputable def o153 (P : Params) : Obj := subD.getD 5 mainD
noncomputable def o154 (P : Params) : Obj := subD.getD 6 mainD
noncomputable def o155 (P : Params) : Obj := subD.getD 7 mainD
noncomputable def o156 (P : Params) : Obj := subD.getD 8 mainD
noncomputable def o157 (P : Params) : Obj := subD.getD 9 mainD
noncomputable def o158 (P : Params) : Obj := subD.getD 10 mainD
noncomputable def o159 (P : Params) : Obj := subD.getD 11 mainD
noncomputable def o160 (P : Params) : Obj := subD.getD 12 mainD
noncomputable def o161 (P : Params) : Obj := subD.getD 13 mainD
noncomputable def o162 (P : Params) : Obj := subD.getD 14 mainD
noncomputable def o163 (P : Params) : Obj := subD.getD 15 mainD
noncomputable def o164 (P : Params) : Obj := subD.getD 16 mainD
noncomputable def o165 (P : Params) : Obj := subD.getD 17 mainD
noncomputable def o166 (P : Params) : Obj := subD.getD 18 mainD
noncomputable def o167 (P : Params) : Obj := subD.getD 19 mainD
noncomputable def o168 (P : Params) : Obj := subD.getD 20 mainD
noncomputable def o169 (P : Params) : Obj := subD.getD 21 mainD
noncomputable def o170 (P : Params) : Obj := subD.getD 22 mainD
noncomputable def o171 (P : Params) : Obj := subD.getD 23 mainD
noncomputable def o172 (P : Params) : Obj := subD.getD 24 mainD
noncomputable def o173 (P : Params) : Obj := subD.getD 25 mainD
noncomputable def o174 (P : Params) : Obj := subD.getD 26 mainD
noncomputable def o175 (P : Params) : Obj := subD.getD 27 mainD
noncomputable def o176 (P : Params) : Obj := subD.getD 28 mainD
noncomputable def o177 (P : Params) : Obj := subD.getD 29 mainD
noncomputable def o178 (P : Params) : Obj := subD.getD 30 mainD
noncomputable def o179 (P : Params) : Obj := subD.getD 31 mainD
noncomputable def o180 (P : Params) : Obj := subD.getD 32 mainD
noncomputable def o181 (P : Params) : Obj := subD.getD 33 mainD
noncomputable def o182 (P : Params) : Obj := subD.getD 34 mainD
noncomputable def o183 (P : Params) : Obj := subD.getD 35 mainD
noncomputable def o184 (P : Params) : Obj := subD.getD 36 mainD
noncomputable def o185 (P : Params) : Obj := subD.getD 37 mainD
noncomputable def o0 (P : Params) : Obj := ⟨(.type "dict"), none, (.dict (List.toArray [⟨PyData.keyHash P (PySem.Str.ofString "__name__"), (.str (PySem.Str.ofString "__name__") 1), (.str (PySem.Str.ofString "builtins") 160)⟩, ⟨PyData.keyHash P (PySem.Str.ofString "__doc__"), (.str (PySem.Str.ofString "__doc__") 2), (.builtin "builtins.__doc__:str#opaque")⟩, ⟨PyData.keyHash P (PySem.Str.ofString "__package__"), (.str (PySem.Str.ofString "__package__") 3), (.builtin "builtins.__package__:str#opaque")⟩, ⟨PyData.keyHash P (PySem.Str.ofString "__loader__"), (.str (PySem.Str.ofString "__loader__") 4), (.builtin "builtins.__loader__:shared#opaque")⟩, ⟨PyData.keyHash P (PySem.Str.ofString "__spec__"), (.str (PySem.Str.ofString "__spec__") 5), (.builtin "builtins.__spec__#opaque")⟩, ⟨PyData.keyHash P (PySem.Str.ofString "__build_class__"), (.str (PySem.Str.ofString "__build_class__") 6), (.builtin "__build_class__")⟩, ⟨PyData.keyHash P (PySem.Str.ofString "__import__"), (.str (PySem.Str.ofString "__import__") 7), (.builtin "__import__")⟩, ⟨PyData.keyHash P (PySem.Str.ofString "abs"), (.str (PySem.Str.ofString "abs") 8), (.builtin "abs")⟩, ⟨PyData.keyHash P (PySem.Str.ofString "all"), (.str (PySem.Str.ofString "all") 9), (.builtin "all")⟩, ⟨PyData.keyHash P (PySem.Str.ofString "any"), (.str (PySem.Str.ofString "any") 10), (.builtin "any")⟩, ⟨PyData.keyHash P (PySem.Str.ofString "ascii"), (.str (PySem.Str.ofString "ascii") 11), (.builtin "ascii")⟩, ⟨PyData.keyHash P (PySem.Str.ofString "bin"), (.str (PySem.Str.ofString "bin") 12), (.builtin "bin")⟩, ⟨PyData.keyHash P (PySem.Str.ofString "breakpoint"), (.str (PySem.Str.ofString "breakpoint") 13), (.builtin "breakpoint")⟩, ⟨PyData.keyHash P (PySem.Str.ofString "callable"), (.str (PySem.Str.ofString "callable") 14), (.builtin "callable")⟩, ⟨PyData.keyHash P (PySem.Str.ofString "chr"), (.str (PySem.Str.ofString "chr") 15), (.builtin "chr")⟩, ⟨PyData.keyHash P (PySem.Str.ofString "compile"), (.str (PySem.Str.ofString "compile") 16), (.builtin "compile")⟩, ⟨PyData.keyHash P (PySem.Str.ofString "delattr"), (.str (PySem.Str.ofString "delattr") 17), (.builtin "delattr")⟩, ⟨PyData.keyHash P (PySem.Str.ofString "dir"), (.str (PySem.Str.ofString "dir") 18), (.builtin "dir")⟩, ⟨PyData.keyHash P (PySem.Str.ofString "divmod"), (.str (PySem.Str.ofString "divmod") 19), (.builtin "divmod")⟩, ⟨PyData.keyHash P (PySem.Str.ofString "eval"), (.str (PySem.Str.ofString "eval") 20), (.builtin "eval")⟩, ⟨PyData.keyHash P (PySem.Str.ofString "exec"), (.str (PySem.Str.ofString "exec") 21), (.builtin "exec")⟩, ⟨PyData.keyHash P (PySem.Str.ofString "format"), (.str (PySem.Str.ofString "format") 22), (.builtin "format")⟩, ⟨PyData.keyHash P (PySem.Str.ofString "getattr"), (.str (PySem.Str.ofString "getattr") 23), (.builtin "getattr")⟩, ⟨PyData.keyHash P (PySem.Str.ofString "globals"), (.str (PySem.Str.ofString "globals") 24), (.builtin "globals")⟩, ⟨PyData.keyHash P (PySem.Str.ofString "hasattr"), (.str (PySem.Str.ofString "hasattr") 25), (.builtin "hasattr")⟩, ⟨PyData.keyHash P (PySem.Str.ofString "hash"), (.str (PySem.Str.ofString "hash") 26), (.builtin "hash")⟩, ⟨PyData.keyHash P (PySem.Str.ofString "hex"), (.str (PySem.Str.ofString "hex") 27), (.builtin "hex")⟩, ⟨PyData.keyHash P (PySem.Str.ofString "id"), (.str (PySem.Str.ofString "id") 28), (.builtin "id")⟩, ⟨PyData.keyHash P (PySem.Str.ofString "input"), (.str (PySem.Str.ofString "input") 29), (.builtin "input")⟩, ⟨PyData.keyHash P (PySem.Str.ofString "isinstance"), (.str (PySem.Str.ofString "isinstance") 30), (.builtin "isinstance")⟩, ⟨PyData.keyHash P (PySem.Str.ofString "issubclass"), (.str (PySem.Str.ofString "issubclass") 31), (.builtin "issubclass")⟩, ⟨PyData.keyHash P (PySem.Str.ofString "iter"), (.str (PySem.Str.ofString "iter") 32), (.builtin "iter")⟩, ⟨PyData.keyHash P (PySem.Str.ofString "aiter"), (.str (PySem.Str.ofString "aiter") 33), (.builtin "aiter")⟩, ⟨PyData.keyHash P (PySem.Str.ofString "len"), (.str (PySem.Str.ofString "len") 34), (.builtin "len")⟩, ⟨PyData.keyHash P (PySem.Str.ofString "locals"), (.str (PySem.Str.ofString "locals") 35), (.builtin "locals")⟩, ⟨PyData.keyHash P (PySem.Str.ofString "max"), (.str (PySem.Str.ofString "max") 36), (.builtin "max")⟩, ⟨PyData.keyHash P (PySem.Str.ofString "min"), (.str (PySem.Str.ofString "min") 37), (.builtin "min")⟩, ⟨PyData.keyHash P (PySem.Str.ofString "next"), (.str (PySem.Str.ofString "next") 38), (.builtin "next")⟩, ⟨PyData.keyHash P (PySem.Str.ofString "anext"), (.str (PySem.Str.ofString "anext") 39), (.builtin "anext")⟩, ⟨PyData.keyHash P (PySem.Str.ofString "oct"), (.str (PySem.Str.ofString "oct") 40), (.builtin "oct")⟩, ⟨PyData.keyHash P (PySem.Str.ofString "ord"), (.str (PySem.Str.ofString "ord") 41), (.builtin "ord")⟩, ⟨PyData.keyHash P (PySem.Str.ofString "pow"), (.str (PySem.Str.ofString "pow") 42), (.builtin "pow")⟩, ⟨PyData.keyHash P (PySem.Str.ofString "print"), (.str (PySem.Str.ofString "print") 43), (.builtin "print")⟩, ⟨PyData.keyHash P (PySem.Str.ofString "repr"), (.str (PySem.Str.ofString "repr") 44), (.builtin "repr")⟩, ⟨PyData.keyHash P (PySem.Str.ofString "round"), (.str (PySem.Str.ofString "round") 45), (.builtin "round")⟩, ⟨PyData.keyHash P (PySem.Str.ofString "setattr"), (.str (PySem.Str.ofString "setattr") 46), (.builtin "setattr")⟩, ⟨PyData.keyHash P (PySem.Str.ofString "sorted"), (.str (PySem.Str.ofString "sorted") 47), (.builtin "sorted")⟩, ⟨PyData.keyHash P (PySem.Str.ofString "sum"), (.str (PySem.Str.ofString "sum") 48), (.builtin "sum")⟩, ⟨PyData.keyHash P (PySem.Str.ofString "vars"), (.str (PySem.Str.ofString "vars") 49), (.builtin "vars")⟩, ⟨PyData.keyHash P (PySem.Str.ofString "None"), (.str (PySem.Str.ofString "None") 50), .none⟩, ⟨PyData.keyHash P (PySem.Str.ofString "Ellipsis"), (.str (PySem.Str.ofString "Ellipsis") 51), .ellipsis⟩, ⟨PyData.keyHash P (PySem.Str.ofString "NotImplemented"), (.str (PySem.Str.ofString "NotImplemented") 52), .notImplemented⟩, ⟨PyData.keyHash P (PySem.Str.ofString "False"), (.str (PySem.Str.ofString "False") 53), (.bool false)⟩, ⟨PyData.keyHash P (PySem.Str.ofString "True"), (.str (PySem.Str.ofString "True") 54), (.bool true)⟩, ⟨PyData.keyHash P (PySem.Str.ofString "bool"), (.str (PySem.Str.ofString "bool") 55), (.type "bool")⟩, ⟨PyData.keyHash P (PySem.Str.ofString "memoryview"), (.str (PySem.Str.ofString "memoryview") 56), (.type "memoryview")⟩, ⟨PyData.keyHash P (PySem.Str.ofString "bytearray"), (.str (PySem.Str.ofString "bytearray") 57), (.type "bytearray")⟩, ⟨PyData.keyHash P (PySem.Str.ofString "bytes"), (.str (PySem.Str.ofString "bytes") 58), (.type "bytes")⟩, ⟨PyData.keyHash P (PySem.Str.ofString "classmethod"), (.str (PySem.Str.ofString "classmethod") 59), (.type "classmethod")⟩, ⟨PyData.keyHash P (PySem.Str.ofString "complex"), (.str (PySem.Str.ofString "complex") 60), (.type "complex")⟩, ⟨PyData.keyHash P (PySem.Str.ofString "dict"), (.str (PySem.Str.ofString "dict") 61), (.type "dict")⟩, ⟨PyData.keyHash P (PySem.Str.ofString "enumerate"), (.str (PySem.Str.ofString "enumerate") 62), (.type "enumerate")⟩, ⟨PyData.keyHash P (PySem.Str.ofString "filter"), (.str (PySem.Str.ofString "filter") 63), (.type "filter")⟩, ⟨PyData.keyHash P (PySem.Str.ofString "float"), (.str (PySem.Str.ofString "float") 64), (.type "float")⟩, ⟨PyData.keyHash P (PySem.Str.ofString "frozenset"), (.str (PySem.Str.ofString "frozenset") 65), (.type "frozenset")⟩, ⟨PyData.keyHash P (PySem.Str.ofString "property"), (.str (PySem.Str.ofString "property") 66), (.type "property")⟩, ⟨PyData.keyHash P (PySem.Str.ofString "int"), (.str (PySem.Str.ofString "int") 67), (.type "int")⟩, ⟨PyData.keyHash P (PySem.Str.ofString "list"), (.str (PySem.Str.ofString "list") 68), (.type "list")⟩, ⟨PyData.keyHash P (PySem.Str.ofString "map"), (.str (PySem.Str.ofString "map") 69), (.type "map")⟩, ⟨PyData.keyHash P (PySem.Str.ofString "object"), (.str (PySem.Str.ofString "object") 70), (.type "object")⟩, ⟨PyData.keyHash P (PySem.Str.ofString "range"), (.str (PySem.Str.ofString "range") 71), (.type "range")⟩, ⟨PyData.keyHash P (PySem.Str.ofString "reversed"), (.str (PySem.Str.ofString "reversed") 72), (.type "reversed")⟩, ⟨PyData.keyHash P (PySem.Str.ofString "set"), (.str (PySem.Str.ofString "set") 73), (.type "set")⟩, ⟨PyData.keyHash P (PySem.Str.ofString "slice"), (.str (PySem.Str.ofString "slice") 74), (.type "slice")⟩, ⟨PyData.keyHash P (PySem.Str.ofString "staticmethod"), (.str (PySem.Str.ofString "staticmethod") 75), (.type "staticmethod")⟩, ⟨PyData.keyHash P (PySem.Str.ofString "str"), (.str (PySem.Str.ofString "str") 76), (.type "str")⟩, ⟨PyData.keyHash P (PySem.Str.ofString "super"), (.str (PySem.Str.ofString "super") 77), (.type "super")⟩, ⟨PyData.keyHash P (PySem.Str.ofString "tuple"), (.str (PySem.Str.ofString "tuple") 78), (.type "tuple")⟩, ⟨PyData.keyHash P (PySem.Str.ofString "type"), (.str (PySem.Str.ofString "type") 79), (.type "type")⟩, ⟨PyData.keyHash P (PySem.Str.ofString "zip"), (.str (PySem.Str.ofString "zip") 80), (.type "zip")⟩, ⟨PyData.keyHash P (PySem.Str.ofString "__debug__"), (.str (PySem.Str.ofString "__debug__") 81), (.bool true)⟩, ⟨PyData.keyHash P (PySem.Str.ofString "BaseException"), (.str (PySem.Str.ofString "BaseException") 82), (.type "BaseException")⟩, ⟨PyData.keyHash P (PySem.Str.ofString "BaseExceptionGroup"), (.str (PySem.Str.ofString "BaseExceptionGroup") 83), (.type "BaseExceptionGroup")⟩, ⟨PyData.keyHash P (PySem.Str.ofString "Exception"), (.str (PySem.Str.ofString "Exception") 84), (.type "Exception")⟩, ⟨PyData.keyHash P (PySem.Str.ofString "GeneratorExit"), (.str (PySem.Str.ofString "GeneratorExit") 85), (.type "GeneratorExit")⟩, ⟨PyData.keyHash P (PySem.Str.ofString "KeyboardInterrupt"), (.str (PySem.Str.ofString "KeyboardInterrupt") 86), (.type "KeyboardInterrupt")⟩, ⟨PyData.keyHash P (PySem.Str.ofString "SystemExit"), (.str (PySem.Str.ofString "SystemExit") 87), (.type "SystemExit")⟩, ⟨PyData.keyHash P (PySem.Str.ofString "ArithmeticError"), (.str (PySem.Str.ofString "ArithmeticError") 88), (.type "ArithmeticError")⟩, ⟨PyData.keyHash P (PySem.Str.ofString "AssertionError"), (.str (PySem.Str.ofString "AssertionError") 89), (.type "AssertionError")⟩, ⟨PyData.keyHash P (PySem.Str.ofString "AttributeError"), (.str (PySem.Str.ofString "AttributeError") 90), (.type "AttributeError")⟩, ⟨PyData.keyHash P (PySem.Str.ofString "BufferError"), (.str (PySem.Str.ofString "BufferError") 91), (.type "BufferError")⟩, ⟨PyData.keyHash P (PySem.Str.ofString "EOFError"), (.str (PySem.Str.ofString "EOFError") 92), (.type "EOFError")⟩, ⟨PyData.keyHash P (PySem.Str.ofString "ImportError"), (.str (PySem.Str.ofString "ImportError") 93), (.type "ImportError")⟩, ⟨PyData.keyHash P (PySem.Str.ofString "LookupError"), (.str (PySem.Str.ofString "LookupError") 94), (.type "LookupError")⟩, ⟨PyData.keyHash P (PySem.Str.ofString "MemoryError"), (.str (PySem.Str.ofString "MemoryError") 95), (.type "MemoryError")⟩, ⟨PyData.keyHash P (PySem.Str.ofString "NameError"), (.str (PySem.Str.ofString "NameError") 96), (.type "NameError")⟩, ⟨PyData.keyHash P (PySem.Str.ofString "OSError"), (.str (PySem.Str.ofString "OSError") 97), (.type "OSError")⟩, ⟨PyData.keyHash P (PySem.Str.ofString "ReferenceError"), (.str (PySem.Str.ofString "ReferenceError") 98), (.type "ReferenceError")⟩, ⟨PyData.keyHash P (PySem.Str.ofString "RuntimeError"), (.str (PySem.Str.ofString "RuntimeError") 99), (.type "RuntimeError")⟩, ⟨PyData.keyHash P (PySem.Str.ofString "StopAsyncIteration"), (.str (PySem.Str.ofString "StopAsyncIteration") 100), (.type "StopAsyncIteration")⟩, ⟨PyData.keyHash P (PySem.Str.ofString "StopIteration"), (.str (PySem.Str.ofString "StopIteration") 101), (.type "StopIteration")⟩, ⟨PyData.keyHash P (PySem.Str.ofString "SyntaxError"), (.str (PySem.Str.ofString "SyntaxError") 102), (.type "SyntaxError")⟩, ⟨PyData.keyHash P (PySem.Str.ofString "SystemError"), (.str (PySem.Str.ofString "SystemError") 103), (.type "SystemError")⟩, ⟨PyData.keyHash P (PySem.Str.ofString "TypeError"), (.str (PySem.Str.ofString "TypeError") 104), (.type "TypeError")⟩, ⟨PyData.keyHash P (PySem.Str.ofString "ValueError"), (.str (PySem.Str.ofString "ValueError") 105), (.type "ValueError")⟩, ⟨PyData.keyHash P (PySem.Str.ofString "Warning"), (.str (PySem.Str.ofString "Warning") 106), (.type "Warning")⟩, ⟨PyData.keyHash P (PySem.Str.ofString "FloatingPointError"), (.str (PySem.Str.ofString "FloatingPointError") 107), (.type "FloatingPointError")⟩, ⟨PyData.keyHash P (PySem.Str.ofString "OverflowError"), (.str (PySem.Str.ofString "OverflowError") 108), (.type "OverflowError")⟩, ⟨PyData.keyHash P (PySem.Str.ofString "ZeroDivisionError"), (.str (PySem.Str.ofString "ZeroDivisionError") 109), (.type "ZeroDivisionError")⟩, ⟨PyData.keyHash P (PySem.Str.ofString "BytesWarning"), (.str (PySem.Str.ofString "BytesWarning") 110), (.type "BytesWarning")⟩, ⟨PyData.keyHash P (PySem.Str.ofString "DeprecationWarning"), (.str (PySem.Str.ofString "DeprecationWarning") 111), (.type "DeprecationWarning")⟩, ⟨PyData.keyHash P (PySem.Str.ofString "EncodingWarning"), (.str (PySem.Str.ofString "EncodingWarning") 112), (.type "EncodingWarning")⟩, ⟨PyData.keyHash P (PySem.Str.ofString "FutureWarning"), (.str (PySem.Str.ofString "FutureWarning") 113), (.type "FutureWarning")⟩, ⟨PyData.keyHash P (PySem.Str.ofString "ImportWarning"), (.str (PySem.Str.ofString "ImportWarning") 114), (.type "ImportWarning")⟩, ⟨PyData.keyHash P (PySem.Str.ofString "PendingDeprecationWarning"), (.str (PySem.Str.ofString "PendingDeprecationWarning") 115), (.type "PendingDeprecationWarning")⟩, ⟨PyData.keyHash P (PySem.Str.ofString "ResourceWarning"), (.str (PySem.Str.ofString "ResourceWarning") 116), (.type "ResourceWarning")⟩, ⟨PyData.keyHash P (PySem.Str.ofString "RuntimeWarning"), (.str (PySem.Str.ofString "RuntimeWarning") 117), (.type "RuntimeWarning")⟩, ⟨PyData.keyHash P (PySem.Str.ofString "SyntaxWarning"), (.str (PySem.Str.ofString "SyntaxWarning") 118), (.type "SyntaxWarning")⟩, ⟨PyData.keyHash P (PySem.Str.ofString "UnicodeWarning"), (.str (PySem.Str.ofString "UnicodeWarning") 119), (.type "UnicodeWarning")⟩, ⟨PyData.keyHash P (PySem.Str.ofString "UserWarning"), (.str (PySem.Str.ofString "UserWarning") 120), (.type "UserWarning")⟩, ⟨PyData.keyHash P (PySem.Str.ofString "BlockingIOError"), (.str (PySem.Str.ofString "BlockingIOError") 121), (.type "BlockingIOError")⟩, ⟨PyData.keyHash P (PySem.Str.ofString "ChildProcessError"), (.str (PySem.Str.ofString "ChildProcessError") 122), (.type "ChildProcessError")⟩, ⟨PyData.keyHash P (PySem.Str.ofString "ConnectionError"), (.str (PySem.Str.ofString "ConnectionError") 123), (.type "ConnectionError")⟩, ⟨PyData.keyHash P (PySem.Str.ofString "FileExistsError"), (.str (PySem.Str.ofString "FileExistsError") 124), (.type "FileExistsError")⟩, ⟨PyData.keyHash P (PySem.Str.ofString "FileNotFoundError"), (.str (PySem.Str.ofString "FileNotFoundError") 125), (.type "FileNotFoundError")⟩, ⟨PyData.keyHash P (PySem.Str.ofString "InterruptedError"), (.str (PySem.Str.ofString "InterruptedError") 126), (.type "InterruptedError")⟩, ⟨PyData.keyHash P (PySem.Str.ofString "IsADirectoryError"), (.str (PySem.Str.ofString "IsADirectoryError") 127), (.type "IsADirectoryError")⟩, ⟨PyData.keyHash P (PySem.Str.ofString "NotADirectoryError"), (.str (PySem.Str.ofString "NotADirectoryError") 128), (.type "NotADirectoryError")⟩, ⟨PyData.keyHash P (PySem.Str.ofString "PermissionError"), (.str (PySem.Str.ofString "PermissionError") 129), (.type "PermissionError")⟩, ⟨PyData.keyHash P (PySem.Str.ofString "ProcessLookupError"), (.str (PySem.Str.ofString "ProcessLookupError") 130), (.type "ProcessLookupError")⟩, ⟨PyData.keyHash P (PySem.Str.ofString "TimeoutError"), (.str (PySem.Str.ofString "TimeoutError") 131), (.type "TimeoutError")⟩, ⟨PyData.keyHash P (PySem.Str.ofString "IndentationError"), (.str (PySem.Str.ofString "IndentationError") 132), (.type "IndentationError")⟩, ⟨PyData.keyHash P (PySem.Str.ofString "_IncompleteInputError"), (.str (PySem.Str.ofString "_IncompleteInputError") 133), (.type "_IncompleteInputError")⟩, ⟨PyData.keyHash P (PySem.Str.ofString "IndexError"), (.str (PySem.Str.ofString "IndexError") 134), (.type "IndexError")⟩, ⟨PyData.keyHash P (PySem.Str.ofString "KeyError"), (.str (PySem.Str.ofString "KeyError") 135), (.type "KeyError")⟩, ⟨PyData.keyHash P (PySem.Str.ofString "ModuleNotFoundError"), (.str (PySem.Str.ofString "ModuleNotFoundError") 136), (.type "ModuleNotFoundError")⟩, ⟨PyData.keyHash P (PySem.Str.ofString "NotImplementedError"), (.str (PySem.Str.ofString "NotImplementedError") 137), (.type "NotImplementedError")⟩, ⟨PyData.keyHash P (PySem.Str.ofString "PythonFinalizationError"), (.str (PySem.Str.ofString "PythonFinalizationError") 138), (.type "PythonFinalizationError")⟩, ⟨PyData.keyHash P (PySem.Str.ofString "RecursionError"), (.str (PySem.Str.ofString "RecursionError") 139), (.type "RecursionError")⟩, ⟨PyData.keyHash P (PySem.Str.ofString "UnboundLocalError"), (.str (PySem.Str.ofString "UnboundLocalError") 140), (.type "UnboundLocalError")⟩, ⟨PyData.keyHash P (PySem.Str.ofString "UnicodeError"), (.str (PySem.Str.ofString "UnicodeError") 141), (.type "UnicodeError")⟩, ⟨PyData.keyHash P (PySem.Str.ofString "BrokenPipeError"), (.str (PySem.Str.ofString "BrokenPipeError") 142), (.type "BrokenPipeError")⟩, ⟨PyData.keyHash P (PySem.Str.ofString "ConnectionAbortedError"), (.str (PySem.Str.ofString "ConnectionAbortedError") 143), (.type "ConnectionAbortedError")⟩, ⟨PyData.keyHash P (PySem.Str.ofString "ConnectionRefusedError"), (.str (PySem.Str.ofString "ConnectionRefusedError") 144), (.type "ConnectionRefusedError")⟩, ⟨PyData.keyHash P (PySem.Str.ofString "ConnectionResetError"), (.str (PySem.Str.ofString "ConnectionResetError") 145), (.type "ConnectionResetError")⟩, ⟨PyData.keyHash P (PySem.Str.ofString "TabError"), (.str (PySem.Str.ofString "TabError") 146), (.type "TabError")⟩, ⟨PyData.keyHash P (PySem.Str.ofString "UnicodeDecodeError"), (.str (PySem.Str.ofString "UnicodeDecodeError") 147), (.type "UnicodeDecodeError")⟩, ⟨PyData.keyHash P (PySem.Str.ofString "UnicodeEncodeError"), (.str (PySem.Str.ofString "UnicodeEncodeError") 148), (.type "UnicodeEncodeError")⟩, ⟨PyData.keyHash P (PySem.Str.ofString "UnicodeTranslateError"), (.str (PySem.Str.ofString "UnicodeTranslateError") 149), (.type "UnicodeTranslateError")⟩, ⟨PyData.keyHash P (PySem.Str.ofString "ExceptionGroup"), (.str (PySem.Str.ofString "ExceptionGroup") 150), (.type "ExceptionGroup")⟩, ⟨PyData.keyHash P (PySem.Str.ofString "EnvironmentError"), (.str (PySem.Str.ofString "EnvironmentError") 151), (.type "OSError")⟩, ⟨PyData.keyHash P (PySem.Str.ofString "IOError"), (.str (PySem.Str.ofString "IOError") 152), (.type "OSError")⟩, ⟨PyData.keyHash P (PySem.Str.ofString "open"), (.str (PySem.Str.ofString "open") 153), (.builtin "open")⟩, ⟨PyData.keyHash P (PySem.Str.ofString "quit"), (.str (PySem.Str.ofString "quit") 154), (.builtin "builtins.quit#opaque")⟩, ⟨PyData.keyHash P (PySem.Str.ofString "exit"), (.str (PySem.Str.ofString "exit") 155), (.builtin "builtins.exit#opaque")⟩, ⟨PyData.keyHash P (PySem.Str.ofString "copyright"), (.str (PySem.Str.ofString "copyright") 156), (.builtin "builtins.copyright#opaque")⟩, ⟨PyData.keyHash P (PySem.Str.ofString "credits"), (.str (PySem.Str.ofString "credits") 157), (.builtin "builtins.credits#opaque")⟩, ⟨PyData.keyHash P (PySem.Str.ofString "license"), (.str (PySem.Str.ofString "license") 158), (.builtin "builtins.license#opaque")⟩, ⟨PyData.keyHash P (PySem.Str.ofString "help"), (.str (PySem.Str.ofString "help") 159), (.builtin "builtins.help#opaque")⟩]) 159), List.toArray []⟩
noncomputable def o1 (P : Params) : Obj := ⟨(.type "dict"), none, (.dict (List.toArray [⟨PyData.keyHash P (PySem.Str.ofString "builtins"), (.str (PySem.Str.ofString "builtins") 162), (.ref 4)⟩, ⟨PyData.keyHash P (PySem.Str.ofString "__main__"), (.str (PySem.Str.ofString "__main__") 163), (.ref 5)⟩, ⟨PyData.keyHash P (PySem.Str.ofString "_sre"), (.str (PySem.Str.ofString "_sre") 244), (.ref 12)⟩]) 3), List.toArray []⟩
noncomputable def o2 (P : Params) : Obj := ⟨.none, none, (.dict (List.toArray [⟨PyData.keyHash P (PySem.Str.ofString "\x69mport.loaded._sre"), (.str (PySem.Str.ofString "\x69mport.loaded._sre") 183), (.bool true)⟩, ⟨PyData.keyHash P (PySem.Str.ofString "class._frozen_importlib.BuiltinImporter"), (.str (PySem.Str.ofString "class._frozen_importlib.BuiltinImporter") 185), (.ref 14)⟩, ⟨PyData.keyHash P (PySem.Str.ofString "watched.\x69mport"), (.str (PySem.Str.ofString "watched.\x69mport") 206), (.ref 18)⟩, ⟨PyData.keyHash P (PySem.Str.ofString "class._frozen_importlib.ModuleSpec"), (.str (PySem.Str.ofString "class._frozen_importlib.ModuleSpec") 216), (.ref 22)⟩, ⟨PyData.keyHash P (PySem.Str.ofString "sys.modules.booked-epoch"), (.str (PySem.Str.ofString "sys.modules.booked-epoch") 245), (.int (3) 0)⟩, ⟨PyData.keyHash P (PySem.Str.ofString "\x69mport.later-laid._sre"), (.str (PySem.Str.ofString "\x69mport.later-laid._sre") 270), (.bool true)⟩, ⟨PyData.keyHash P (PySem.Str.ofString "watched.library"), (.str (PySem.Str.ofString "watched.library") 272), (.ref 27)⟩, ⟨PyData.keyHash P (PySem.Str.ofString "watched.library-objects"), (.str (PySem.Str.ofString "watched.library-objects") 0), (.str (PySem.Str.mk (Array.mk [nat_lit 12])) 0)⟩, ⟨PyData.keyHash P (PySem.Str.ofString "watched.library-deep._sre"), (.str (PySem.Str.ofString "watched.library-deep._sre") 273), (.str (PySem.Str.mk (Array.mk [nat_lit 4, nat_lit 0, nat_lit 0, nat_lit 11, nat_lit 4, nat_lit 0, nat_lit 0, nat_lit 11, nat_lit 4, nat_lit 0, nat_lit 0, nat_lit 3, nat_lit 4, nat_lit 0, nat_lit 0, nat_lit 11, nat_lit 8, nat_lit 4, nat_lit 100, nat_lit 105, nat_lit 99, nat_lit 116, nat_lit 2])) 0)⟩]) 9), List.toArray []⟩
noncomputable def o3 (P : Params) : Obj := ⟨(.type "dict"), none, (.dict (List.toArray [⟨PyData.keyHash P (PySem.Str.ofString "__name__"), (.str (PySem.Str.ofString "__name__") 165), (.str (PySem.Str.ofString "__main__") 164)⟩, ⟨PyData.keyHash P (PySem.Str.ofString "__doc__"), (.str (PySem.Str.ofString "__doc__") 166), .none⟩, ⟨PyData.keyHash P (PySem.Str.ofString "__package__"), (.str (PySem.Str.ofString "__package__") 167), .none⟩, ⟨PyData.keyHash P (PySem.Str.ofString "__loader__"), (.str (PySem.Str.ofString "__loader__") 168), (.builtin "__main__.__loader__#opaque")⟩, ⟨PyData.keyHash P (PySem.Str.ofString "__spec__"), (.str (PySem.Str.ofString "__spec__") 169), .none⟩, ⟨PyData.keyHash P (PySem.Str.ofString "__annotations__"), (.str (PySem.Str.ofString "__annotations__") 170), (.ref 6)⟩, ⟨PyData.keyHash P (PySem.Str.ofString "__builtins__"), (.str (PySem.Str.ofString "__builtins__") 171), (.ref 4)⟩, ⟨PyData.keyHash P (PySem.Str.ofString "__file__"), (.str (PySem.Str.ofString "__file__") 173), (.str (PySem.Str.ofString "/claim/cut.py") 172)⟩, ⟨PyData.keyHash P (PySem.Str.ofString "__cached__"), (.str (PySem.Str.ofString "__cached__") 174), .none⟩, ⟨PyData.keyHash P (PySem.Str.ofString "_sre"), (.str (PySem.Str.ofString "_sre") 275), (.ref 12)⟩]) 10), List.toArray []⟩
noncomputable def o4 (P : Params) : Obj := ⟨(.type "module"), some 0, .plain, List.toArray []⟩
noncomputable def o5 (P : Params) : Obj := ⟨(.type "module"), some 3, .plain, List.toArray []⟩
noncomputable def o6 (P : Params) : Obj := ⟨(.type "dict"), none, (.dict (List.toArray []) 0), List.toArray []⟩
noncomputable def o7 (P : Params) : Obj := ⟨(.type "tuple"), none, (.seq (List.toArray []) 0), List.toArray []⟩
noncomputable def o8 (P : Params) : Obj := ⟨.none, none, (.fields (List.toArray [])), List.toArray []⟩
noncomputable def o9 (P : Params) : Obj := ⟨(.type "code"), none, (.fields (List.toArray [(.str (PySem.Str.ofString "<module>") 176), (.str (PySem.Str.ofString "<module>") 177), (.str (PySem.Str.ofString "/claim/cut.py") 178), (.int (1) 0), (.int (0) 0), (.int (0) 0), (.int (0) 0), (.int (0) 0), (.ref 7), (.bool false), (.int (175) 0), (.ref 8), .none, .none, .none, .none, (.int (179) 0), (.int (1) 0), (.str (PySem.Str.ofString "/claim/cut.py") 180)])), List.toArray []⟩
noncomputable def o10 (P : Params) : Obj := ⟨(.type "frame"), none, .plain, List.toArray [(some (.ref 9)), (some (.ref 3)), (some (.ref 3)), none, (some (.str (PySem.Str.ofString "__main__") 164)), none, (some (.ref 0))]⟩
noncomputable def o11 (P : Params) : Obj := ⟨(.type "dict"), none, (.dict (List.toArray [⟨PyData.keyHash P (PySem.Str.ofString "__name__"), (.str (PySem.Str.ofString "__name__") 247), (.str (PySem.Str.ofString "_sre") 246)⟩, ⟨PyData.keyHash P (PySem.Str.ofString "__doc__"), (.str (PySem.Str.ofString "__doc__") 248), .none⟩, ⟨PyData.keyHash P (PySem.Str.ofString "__package__"), (.str (PySem.Str.ofString "__package__") 250), (.str (PySem.Str.ofString "") 249)⟩, ⟨PyData.keyHash P (PySem.Str.ofString "__loader__"), (.str (PySem.Str.ofString "__loader__") 251), (.ref 14)⟩, ⟨PyData.keyHash P (PySem.Str.ofString "__spec__"), (.str (PySem.Str.ofString "__spec__") 252), (.ref 26)⟩, ⟨PyData.keyHash P (PySem.Str.ofString "compile"), (.str (PySem.Str.ofString "compile") 253), (.builtin "_sre.compile")⟩, ⟨PyData.keyHash P (PySem.Str.ofString "template"), (.str (PySem.Str.ofString "template") 254), (.builtin "_sre.template")⟩, ⟨PyData.keyHash P (PySem.Str.ofString "getcodesize"), (.str (PySem.Str.ofString "getcodesize") 255), (.builtin "_sre.getcodesize")⟩, ⟨PyData.keyHash P (PySem.Str.ofString "ascii_iscased"), (.str (PySem.Str.ofString "ascii_iscased") 256), (.builtin "_sre.ascii_iscased")⟩, ⟨PyData.keyHash P (PySem.Str.ofString "unicode_iscased"), (.str (PySem.Str.ofString "unicode_iscased") 257), (.builtin "_sre.unicode_iscased")⟩, ⟨PyData.keyHash P (PySem.Str.ofString "ascii_tolower"), (.str (PySem.Str.ofString "ascii_tolower") 258), (.builtin "_sre.ascii_tolower")⟩, ⟨PyData.keyHash P (PySem.Str.ofString "unicode_tolower"), (.str (PySem.Str.ofString "unicode_tolower") 259), (.builtin "_sre.unicode_tolower")⟩, ⟨PyData.keyHash P (PySem.Str.ofString "MAGIC"), (.str (PySem.Str.ofString "MAGIC") 261), (.int (20230612) 260)⟩, ⟨PyData.keyHash P (PySem.Str.ofString "CODESIZE"), (.str (PySem.Str.ofString "CODESIZE") 263), (.int (4) 262)⟩, ⟨PyData.keyHash P (PySem.Str.ofString "MAXREPEAT"), (.str (PySem.Str.ofString "MAXREPEAT") 265), (.int (4294967295) 264)⟩, ⟨PyData.keyHash P (PySem.Str.ofString "MAXGROUPS"), (.str (PySem.Str.ofString "MAXGROUPS") 267), (.int (1073741823) 266)⟩, ⟨PyData.keyHash P (PySem.Str.ofString "copyright"), (.str (PySem.Str.ofString "copyright") 269), (.str (PySem.Str.ofString " SRE 2.2.2 Copyright (c) 1997-2002 by Secret Labs AB ") 268)⟩]) 17), List.toArray []⟩
noncomputable def o12 (P : Params) : Obj := ⟨(.type "module"), some 11, .plain, List.toArray []⟩
noncomputable def o13 (P : Params) : Obj := ⟨(.type "dict"), none, (.dict (List.toArray [⟨PyData.keyHash P (PySem.Str.ofString "__module__"), (.str (PySem.Str.ofString "__module__") 189), (.str (PySem.Str.ofString "_frozen_importlib") 186)⟩, ⟨PyData.keyHash P (PySem.Str.ofString "__firstlineno__"), (.str (PySem.Str.ofString "__firstlineno__") 190), (.int (971) 187)⟩, ⟨PyData.keyHash P (PySem.Str.ofString "__doc__"), (.str (PySem.Str.ofString "__doc__") 191), (.builtin "_frozen_importlib.BuiltinImporter.__doc__:str#opaque")⟩, ⟨PyData.keyHash P (PySem.Str.ofString "_ORIGIN"), (.str (PySem.Str.ofString "_ORIGIN") 192), (.str (PySem.Str.ofString "built-in") 188)⟩, ⟨PyData.keyHash P (PySem.Str.ofString "find_spec"), (.str (PySem.Str.ofString "find_spec") 193), (.builtin "_frozen_importlib.BuiltinImporter.find_spec#opaque")⟩, ⟨PyData.keyHash P (PySem.Str.ofString "create_module"), (.str (PySem.Str.ofString "create_module") 194), (.builtin "_frozen_importlib.BuiltinImporter.create_module#opaque")⟩, ⟨PyData.keyHash P (PySem.Str.ofString "exec_module"), (.str (PySem.Str.ofString "exec_module") 195), (.builtin "_frozen_importlib.BuiltinImporter.exec_module#opaque")⟩, ⟨PyData.keyHash P (PySem.Str.ofString "get_code"), (.str (PySem.Str.ofString "get_code") 196), (.builtin "_frozen_importlib.BuiltinImporter.get_code#opaque")⟩, ⟨PyData.keyHash P (PySem.Str.ofString "get_source"), (.str (PySem.Str.ofString "get_source") 197), (.builtin "_frozen_importlib.BuiltinImporter.get_source#opaque")⟩, ⟨PyData.keyHash P (PySem.Str.ofString "is_package"), (.str (PySem.Str.ofString "is_package") 198), (.builtin "_frozen_importlib.BuiltinImporter.is_package#opaque")⟩, ⟨PyData.keyHash P (PySem.Str.ofString "load_module"), (.str (PySem.Str.ofString "load_module") 199), (.builtin "_frozen_importlib.BuiltinImporter.load_module#opaque")⟩, ⟨PyData.keyHash P (PySem.Str.ofString "__static_attributes__"), (.str (PySem.Str.ofString "__static_attributes__") 200), (.ref 15)⟩, ⟨PyData.keyHash P (PySem.Str.ofString "__dict__"), (.str (PySem.Str.ofString "__dict__") 202), (.ref 16)⟩, ⟨PyData.keyHash P (PySem.Str.ofString "__weakref__"), (.str (PySem.Str.ofString "__weakref__") 204), (.ref 17)⟩]) 14), List.toArray []⟩
noncomputable def o14 (P : Params) : Obj := ⟨(.type "type"), none, (.cls { name := (PySem.Str.ofString "BuiltinImporter"), bases := [(.type "object")], mro := [(.ref 14), (.type "object")], ns := 13, qualname := (PySem.Str.ofString "BuiltinImporter"), hasDict := true, slotNames := [], subclasses := [], abstract := false, collection := none, hasDel := false }), List.toArray []⟩
noncomputable def o15 (P : Params) : Obj := ⟨(.type "tuple"), none, (.seq (List.toArray []) 0), List.toArray []⟩
noncomputable def o16 (P : Params) : Obj := ⟨(.type "getset_descriptor"), none, (.fields (List.toArray [(.str (PySem.Str.ofString "__dict__") 201), (.ref 14), (.builtin "function.__dict__"), (.builtin "function.__dict__#set")])), List.toArray []⟩
noncomputable def o17 (P : Params) : Obj := ⟨(.type "getset_descriptor"), none, (.fields (List.toArray [(.str (PySem.Str.ofString "__weakref__") 203), (.ref 14), (.builtin "ExceptionGroup.__weakref__"), .none])), List.toArray []⟩
noncomputable def o18 (P : Params) : Obj := ⟨.none, none, (.seq (List.toArray [(.int (13) 0), (.str (PySem.Str.mk (Array.mk [nat_lit 6, nat_lit 189, nat_lit 10, nat_lit 95, nat_lit 95, nat_lit 109, nat_lit 111, nat_lit 100, nat_lit 117, nat_lit 108, nat_lit 101, nat_lit 95, nat_lit 95, nat_lit 6, nat_lit 186, nat_lit 17, nat_lit 95, nat_lit 102, nat_lit 114, nat_lit 111, nat_lit 122, nat_lit 101, nat_lit 110, nat_lit 95, nat_lit 105, nat_lit 109, nat_lit 112, nat_lit 111, nat_lit 114, nat_lit 116, nat_lit 108, nat_lit 105, nat_lit 98, nat_lit 6, nat_lit 190, nat_lit 15, nat_lit 95, nat_lit 95, nat_lit 102, nat_lit 105, nat_lit 114, nat_lit 115, nat_lit 116, nat_lit 108, nat_lit 105, nat_lit 110, nat_lit 101, nat_lit 110, nat_lit 111, nat_lit 95, nat_lit 95, nat_lit 4, nat_lit 187, nat_lit 0, nat_lit 971, nat_lit 6, nat_lit 191, nat_lit 7, nat_lit 95, nat_lit 95, nat_lit 100, nat_lit 111, nat_lit 99, nat_lit 95, nat_lit 95, nat_lit 9, nat_lit 52, nat_lit 95, nat_lit 102, nat_lit 114, nat_lit 111, nat_lit 122, nat_lit 101, nat_lit 110, nat_lit 95, nat_lit 105, nat_lit 109, nat_lit 112, nat_lit 111, nat_lit 114, nat_lit 116, nat_lit 108, nat_lit 105, nat_lit 98, nat_lit 46, nat_lit 66, nat_lit 117, nat_lit 105, nat_lit 108, nat_lit 116, nat_lit 105, nat_lit 110, nat_lit 73, nat_lit 109, nat_lit 112, nat_lit 111, nat_lit 114, nat_lit 116, nat_lit 101, nat_lit 114, nat_lit 46, nat_lit 95, nat_lit 95, nat_lit 100, nat_lit 111, nat_lit 99, nat_lit 95, nat_lit 95, nat_lit 58, nat_lit 115, nat_lit 116, nat_lit 114, nat_lit 35, nat_lit 111, nat_lit 112, nat_lit 97, nat_lit 113, nat_lit 117, nat_lit 101, nat_lit 6, nat_lit 192, nat_lit 7, nat_lit 95, nat_lit 79, nat_lit 82, nat_lit 73, nat_lit 71, nat_lit 73, nat_lit 78, nat_lit 6, nat_lit 188, nat_lit 8, nat_lit 98, nat_lit 117, nat_lit 105, nat_lit 108, nat_lit 116, nat_lit 45, nat_lit 105, nat_lit 110, nat_lit 6, nat_lit 193, nat_lit 9, nat_lit 102, nat_lit 105, nat_lit 110, nat_lit 100, nat_lit 95, nat_lit 115, nat_lit 112, nat_lit 101, nat_lit 99, nat_lit 9, nat_lit 50, nat_lit 95, nat_lit 102, nat_lit 114, nat_lit 111, nat_lit 122, nat_lit 101, nat_lit 110, nat_lit 95, nat_lit 105, nat_lit 109, nat_lit 112, nat_lit 111, nat_lit 114, nat_lit 116, nat_lit 108, nat_lit 105, nat_lit 98, nat_lit 46, nat_lit 66, nat_lit 117, nat_lit 105, nat_lit 108, nat_lit 116, nat_lit 105, nat_lit 110, nat_lit 73, nat_lit 109, nat_lit 112, nat_lit 111, nat_lit 114, nat_lit 116, nat_lit 101, nat_lit 114, nat_lit 46, nat_lit 102, nat_lit 105, nat_lit 110, nat_lit 100, nat_lit 95, nat_lit 115, nat_lit 112, nat_lit 101, nat_lit 99, nat_lit 35, nat_lit 111, nat_lit 112, nat_lit 97, nat_lit 113, nat_lit 117, nat_lit 101, nat_lit 6, nat_lit 194, nat_lit 13, nat_lit 99, nat_lit 114, nat_lit 101, nat_lit 97, nat_lit 116, nat_lit 101, nat_lit 95, nat_lit 109, nat_lit 111, nat_lit 100, nat_lit 117, nat_lit 108, nat_lit 101, nat_lit 9, nat_lit 54, nat_lit 95, nat_lit 102, nat_lit 114, nat_lit 111, nat_lit 122, nat_lit 101, nat_lit 110, nat_lit 95, nat_lit 105, nat_lit 109, nat_lit 112, nat_lit 111, nat_lit 114, nat_lit 116, nat_lit 108, nat_lit 105, nat_lit 98, nat_lit 46, nat_lit 66, nat_lit 117, nat_lit 105, nat_lit 108, nat_lit 116, nat_lit 105, nat_lit 110, nat_lit 73, nat_lit 109, nat_lit 112, nat_lit 111, nat_lit 114, nat_lit 116, nat_lit 101, nat_lit 114, nat_lit 46, nat_lit 99, nat_lit 114, nat_lit 101, nat_lit 97, nat_lit 116, nat_lit 101, nat_lit 95, nat_lit 109, nat_lit 111, nat_lit 100, nat_lit 117, nat_lit 108, nat_lit 101, nat_lit 35, nat_lit 111, nat_lit 112, nat_lit 97, nat_lit 113, nat_lit 117, nat_lit 101, nat_lit 6, nat_lit 195, nat_lit 11, nat_lit 101, nat_lit 120, nat_lit 101, nat_lit 99, nat_lit 95, nat_lit 109, nat_lit 111, nat_lit 100, nat_lit 117, nat_lit 108, nat_lit 101, nat_lit 9, nat_lit 52, nat_lit 95, nat_lit 102, nat_lit 114, nat_lit 111, nat_lit 122, nat_lit 101, nat_lit 110, nat_lit 95, nat_lit 105, nat_lit 109, nat_lit 112, nat_lit 111, nat_lit 114, nat_lit 116, nat_lit 108, nat_lit 105, nat_lit 98, nat_lit 46, nat_lit 66, nat_lit 117, nat_lit 105, nat_lit 108, nat_lit 116, nat_lit 105, nat_lit 110, nat_lit 73, nat_lit 109, nat_lit 112, nat_lit 111, nat_lit 114, nat_lit 116, nat_lit 101, nat_lit 114, nat_lit 46, nat_lit 101, nat_lit 120, nat_lit 101, nat_lit 99, nat_lit 95, nat_lit 109, nat_lit 111, nat_lit 100, nat_lit 117, nat_lit 108, nat_lit 101, nat_lit 35, nat_lit 111, nat_lit 112, nat_lit 97, nat_lit 113, nat_lit 117, nat_lit 101, nat_lit 6, nat_lit 196, nat_lit 8, nat_lit 103, nat_lit 101, nat_lit 116, nat_lit 95, nat_lit 99, nat_lit 111, nat_lit 100, nat_lit 101, nat_lit 9, nat_lit 49, nat_lit 95, nat_lit 102, nat_lit 114, nat_lit 111, nat_lit 122, nat_lit 101, nat_lit 110, nat_lit 95, nat_lit 105, nat_lit 109, nat_lit 112, nat_lit 111, nat_lit 114, nat_lit 116, nat_lit 108, nat_lit 105, nat_lit 98, nat_lit 46, nat_lit 66, nat_lit 117, nat_lit 105, nat_lit 108, nat_lit 116, nat_lit 105, nat_lit 110, nat_lit 73, nat_lit 109, nat_lit 112, nat_lit 111, nat_lit 114, nat_lit 116, nat_lit 101, nat_lit 114, nat_lit 46, nat_lit 103, nat_lit 101, nat_lit 116, nat_lit 95, nat_lit 99, nat_lit 111, nat_lit 100, nat_lit 101, nat_lit 35, nat_lit 111, nat_lit 112, nat_lit 97, nat_lit 113, nat_lit 117, nat_lit 101, nat_lit 6, nat_lit 197, nat_lit 10, nat_lit 103, nat_lit 101, nat_lit 116, nat_lit 95, nat_lit 115, nat_lit 111, nat_lit 117, nat_lit 114, nat_lit 99, nat_lit 101, nat_lit 9, nat_lit 51, nat_lit 95, nat_lit 102, nat_lit 114, nat_lit 111, nat_lit 122, nat_lit 101, nat_lit 110, nat_lit 95, nat_lit 105, nat_lit 109, nat_lit 112, nat_lit 111, nat_lit 114, nat_lit 116, nat_lit 108, nat_lit 105, nat_lit 98, nat_lit 46, nat_lit 66, nat_lit 117, nat_lit 105, nat_lit 108, nat_lit 116, nat_lit 105, nat_lit 110, nat_lit 73, nat_lit 109, nat_lit 112, nat_lit 111, nat_lit 114, nat_lit 116, nat_lit 101, nat_lit 114, nat_lit 46, nat_lit 103, nat_lit 101, nat_lit 116, nat_lit 95, nat_lit 115, nat_lit 111, nat_lit 117, nat_lit 114, nat_lit 99, nat_lit 101, nat_lit 35, nat_lit 111, nat_lit 112, nat_lit 97, nat_lit 113, nat_lit 117, nat_lit 101, nat_lit 6, nat_lit 198, nat_lit 10, nat_lit 105, nat_lit 115, nat_lit 95, nat_lit 112, nat_lit 97, nat_lit 99, nat_lit 107, nat_lit 97, nat_lit 103, nat_lit 101, nat_lit 9, nat_lit 51, nat_lit 95, nat_lit 102, nat_lit 114, nat_lit 111, nat_lit 122, nat_lit 101, nat_lit 110, nat_lit 95, nat_lit 105, nat_lit 109, nat_lit 112, nat_lit 111, nat_lit 114, nat_lit 116, nat_lit 108, nat_lit 105, nat_lit 98, nat_lit 46, nat_lit 66, nat_lit 117, nat_lit 105, nat_lit 108, nat_lit 116, nat_lit 105, nat_lit 110, nat_lit 73, nat_lit 109, nat_lit 112, nat_lit 111, nat_lit 114, nat_lit 116, nat_lit 101, nat_lit 114, nat_lit 46, nat_lit 105, nat_lit 115, nat_lit 95, nat_lit 112, nat_lit 97, nat_lit 99, nat_lit 107, nat_lit 97, nat_lit 103, nat_lit 101, nat_lit 35, nat_lit 111, nat_lit 112, nat_lit 97, nat_lit 113, nat_lit 117, nat_lit 101, nat_lit 6, nat_lit 199, nat_lit 11, nat_lit 108, nat_lit 111, nat_lit 97, nat_lit 100, nat_lit 95, nat_lit 109, nat_lit 111, nat_lit 100, nat_lit 117, nat_lit 108, nat_lit 101, nat_lit 9, nat_lit 52, nat_lit 95, nat_lit 102, nat_lit 114, nat_lit 111, nat_lit 122, nat_lit 101, nat_lit 110, nat_lit 95, nat_lit 105, nat_lit 109, nat_lit 112, nat_lit 111, nat_lit 114, nat_lit 116, nat_lit 108, nat_lit 105, nat_lit 98, nat_lit 46, nat_lit 66, nat_lit 117, nat_lit 105, nat_lit 108, nat_lit 116, nat_lit 105, nat_lit 110, nat_lit 73, nat_lit 109, nat_lit 112, nat_lit 111, nat_lit 114, nat_lit 116, nat_lit 101, nat_lit 114, nat_lit 46, nat_lit 108, nat_lit 111, nat_lit 97, nat_lit 100, nat_lit 95, nat_lit 109, nat_lit 111, nat_lit 100, nat_lit 117, nat_lit 108, nat_lit 101, nat_lit 35, nat_lit 111, nat_lit 112, nat_lit 97, nat_lit 113, nat_lit 117, nat_lit 101, nat_lit 6, nat_lit 200, nat_lit 21, nat_lit 95, nat_lit 95, nat_lit 115, nat_lit 116, nat_lit 97, nat_lit 116, nat_lit 105, nat_lit 99, nat_lit 95, nat_lit 97, nat_lit 116, nat_lit 116, nat_lit 114, nat_lit 105, nat_lit 98, nat_lit 117, nat_lit 116, nat_lit 101, nat_lit 115, nat_lit 95, nat_lit 95, nat_lit 4, nat_lit 0, nat_lit 0, nat_lit 15, nat_lit 6, nat_lit 202, nat_lit 8, nat_lit 95, nat_lit 95, nat_lit 100, nat_lit 105, nat_lit 99, nat_lit 116, nat_lit 95, nat_lit 95, nat_lit 4, nat_lit 0, nat_lit 0, nat_lit 16, nat_lit 6, nat_lit 204, nat_lit 11, nat_lit 95, nat_lit 95, nat_lit 119, nat_lit 101, nat_lit 97, nat_lit 107, nat_lit 114, nat_lit 101, nat_lit 102, nat_lit 95, nat_lit 95, nat_lit 4, nat_lit 0, nat_lit 0, nat_lit 17])) 0), (.bool true), (.bool true), (.str (PySem.Str.ofString "") 205), (.int (21) 0), (.str (PySem.Str.mk (Array.mk [nat_lit 6, nat_lit 227, nat_lit 10, nat_lit 95, nat_lit 95, nat_lit 109, nat_lit 111, nat_lit 100, nat_lit 117, nat_lit 108, nat_lit 101, nat_lit 95, nat_lit 95, nat_lit 6, nat_lit 217, nat_lit 17, nat_lit 95, nat_lit 102, nat_lit 114, nat_lit 111, nat_lit 122, nat_lit 101, nat_lit 110, nat_lit 95, nat_lit 105, nat_lit 109, nat_lit 112, nat_lit 111, nat_lit 114, nat_lit 116, nat_lit 108, nat_lit 105, nat_lit 98, nat_lit 6, nat_lit 228, nat_lit 15, nat_lit 95, nat_lit 95, nat_lit 102, nat_lit 105, nat_lit 114, nat_lit 115, nat_lit 116, nat_lit 108, nat_lit 105, nat_lit 110, nat_lit 101, nat_lit 110, nat_lit 111, nat_lit 95, nat_lit 95, nat_lit 4, nat_lit 218, nat_lit 0, nat_lit 562, nat_lit 6, nat_lit 229, nat_lit 7, nat_lit 95, nat_lit 95, nat_lit 100, nat_lit 111, nat_lit 99, nat_lit 95, nat_lit 95, nat_lit 9, nat_lit 47, nat_lit 95, nat_lit 102, nat_lit 114, nat_lit 111, nat_lit 122, nat_lit 101, nat_lit 110, nat_lit 95, nat_lit 105, nat_lit 109, nat_lit 112, nat_lit 111, nat_lit 114, nat_lit 116, nat_lit 108, nat_lit 105, nat_lit 98, nat_lit 46, nat_lit 77, nat_lit 111, nat_lit 100, nat_lit 117, nat_lit 108, nat_lit 101, nat_lit 83, nat_lit 112, nat_lit 101, nat_lit 99, nat_lit 46, nat_lit 95, nat_lit 95, nat_lit 100, nat_lit 111, nat_lit 99, nat_lit 95, nat_lit 95, nat_lit 58, nat_lit 115, nat_lit 116, nat_lit 114, nat_lit 35, nat_lit 111, nat_lit 112, nat_lit 97, nat_lit 113, nat_lit 117, nat_lit 101, nat_lit 6, nat_lit 230, nat_lit 8, nat_lit 95, nat_lit 95, nat_lit 105, nat_lit 110, nat_lit 105, nat_lit 116, nat_lit 95, nat_lit 95, nat_lit 9, nat_lit 44, nat_lit 95, nat_lit 102, nat_lit 114, nat_lit 111, nat_lit 122, nat_lit 101, nat_lit 110, nat_lit 95, nat_lit 105, nat_lit 109, nat_lit 112, nat_lit 111, nat_lit 114, nat_lit 116, nat_lit 108, nat_lit 105, nat_lit 98, nat_lit 46, nat_lit 77, nat_lit 111, nat_lit 100, nat_lit 117, nat_lit 108, nat_lit 101, nat_lit 83, nat_lit 112, nat_lit 101, nat_lit 99, nat_lit 46, nat_lit 95, nat_lit 95, nat_lit 105, nat_lit 110, nat_lit 105, nat_lit 116, nat_lit 95, nat_lit 95, nat_lit 35, nat_lit 111, nat_lit 112, nat_lit 97, nat_lit 113, nat_lit 117, nat_lit 101, nat_lit 6, nat_lit 231, nat_lit 8, nat_lit 95, nat_lit 95, nat_lit 114, nat_lit 101, nat_lit 112, nat_lit 114, nat_lit 95, nat_lit 95, nat_lit 9, nat_lit 44, nat_lit 95, nat_lit 102, nat_lit 114, nat_lit 111, nat_lit 122, nat_lit 101, nat_lit 110, nat_lit 95, nat_lit 105, nat_lit 109, nat_lit 112, nat_lit 111, nat_lit 114, nat_lit 116, nat_lit 108, nat_lit 105, nat_lit 98, nat_lit 46, nat_lit 77, nat_lit 111, nat_lit 100, nat_lit 117, nat_lit 108, nat_lit 101, nat_lit 83, nat_lit 112, nat_lit 101, nat_lit 99, nat_lit 46, nat_lit 95, nat_lit 95, nat_lit 114, nat_lit 101, nat_lit 112, nat_lit 114, nat_lit 95, nat_lit 95, nat_lit 35, nat_lit 111, nat_lit 112, nat_lit 97, nat_lit 113, nat_lit 117, nat_lit 101, nat_lit 6, nat_lit 232, nat_lit 6, nat_lit 95, nat_lit 95, nat_lit 101, nat_lit 113, nat_lit 95, nat_lit 95, nat_lit 9, nat_lit 42, nat_lit 95, nat_lit 102, nat_lit 114, nat_lit 111, nat_lit 122, nat_lit 101, nat_lit 110, nat_lit 95, nat_lit 105, nat_lit 109, nat_lit 112, nat_lit 111, nat_lit 114, nat_lit 116, nat_lit 108, nat_lit 105, nat_lit 98, nat_lit 46, nat_lit 77, nat_lit 111, nat_lit 100, nat_lit 117, nat_lit 108, nat_lit 101, nat_lit 83, nat_lit 112, nat_lit 101, nat_lit 99, nat_lit 46, nat_lit 95, nat_lit 95, nat_lit 101, nat_lit 113, nat_lit 95, nat_lit 95, nat_lit 35, nat_lit 111, nat_lit 112, nat_lit 97, nat_lit 113, nat_lit 117, nat_lit 101, nat_lit 6, nat_lit 233, nat_lit 6, nat_lit 99, nat_lit 97, nat_lit 99, nat_lit 104, nat_lit 101, nat_lit 100, nat_lit 9, nat_lit 42, nat_lit 95, nat_lit 102, nat_lit 114, nat_lit 111, nat_lit 122, nat_lit 101, nat_lit 110, nat_lit 95, nat_lit 105, nat_lit 109, nat_lit 112, nat_lit 111, nat_lit 114, nat_lit 116, nat_lit 108, nat_lit 105, nat_lit 98, nat_lit 46, nat_lit 77, nat_lit 111, nat_lit 100, nat_lit 117, nat_lit 108, nat_lit 101, nat_lit 83, nat_lit 112, nat_lit 101, nat_lit 99, nat_lit 46, nat_lit 99, nat_lit 97, nat_lit 99, nat_lit 104, nat_lit 101, nat_lit 100, nat_lit 35, nat_lit 111, nat_lit 112, nat_lit 97, nat_lit 113, nat_lit 117, nat_lit 101, nat_lit 6, nat_lit 234, nat_lit 6, nat_lit 112, nat_lit 97, nat_lit 114, nat_lit 101, nat_lit 110, nat_lit 116, nat_lit 9, nat_lit 42, nat_lit 95, nat_lit 102, nat_lit 114, nat_lit 111, nat_lit 122, nat_lit 101, nat_lit 110, nat_lit 95, nat_lit 105, nat_lit 109, nat_lit 112, nat_lit 111, nat_lit 114, nat_lit 116, nat_lit 108, nat_lit 105, nat_lit 98, nat_lit 46, nat_lit 77, nat_lit 111, nat_lit 100, nat_lit 117, nat_lit 108, nat_lit 101, nat_lit 83, nat_lit 112, nat_lit 101, nat_lit 99, nat_lit 46, nat_lit 112, nat_lit 97, nat_lit 114, nat_lit 101, nat_lit 110, nat_lit 116, nat_lit 35, nat_lit 111, nat_lit 112, nat_lit 97, nat_lit 113, nat_lit 117, nat_lit 101, nat_lit 6, nat_lit 235, nat_lit 12, nat_lit 104, nat_lit 97, nat_lit 115, nat_lit 95, nat_lit 108, nat_lit 111, nat_lit 99, nat_lit 97, nat_lit 116, nat_lit 105, nat_lit 111, nat_lit 110, nat_lit 9, nat_lit 48, nat_lit 95, nat_lit 102, nat_lit 114, nat_lit 111, nat_lit 122, nat_lit 101, nat_lit 110, nat_lit 95, nat_lit 105, nat_lit 109, nat_lit 112, nat_lit 111, nat_lit 114, nat_lit 116, nat_lit 108, nat_lit 105, nat_lit 98, nat_lit 46, nat_lit 77, nat_lit 111, nat_lit 100, nat_lit 117, nat_lit 108, nat_lit 101, nat_lit 83, nat_lit 112, nat_lit 101, nat_lit 99, nat_lit 46, nat_lit 104, nat_lit 97, nat_lit 115, nat_lit 95, nat_lit 108, nat_lit 111, nat_lit 99, nat_lit 97, nat_lit 116, nat_lit 105, nat_lit 111, nat_lit 110, nat_lit 35, nat_lit 111, nat_lit 112, nat_lit 97, nat_lit 113, nat_lit 117, nat_lit 101, nat_lit 6, nat_lit 236, nat_lit 21, nat_lit 95, nat_lit 95, nat_lit 115, nat_lit 116, nat_lit 97, nat_lit 116, nat_lit 105, nat_lit 99, nat_lit 95, nat_lit 97, nat_lit 116, nat_lit 116, nat_lit 114, nat_lit 105, nat_lit 98, nat_lit 117, nat_lit 116, nat_lit 101, nat_lit 115, nat_lit 95, nat_lit 95, nat_lit 4, nat_lit 0, nat_lit 0, nat_lit 23, nat_lit 6, nat_lit 238, nat_lit 8, nat_lit 95, nat_lit 95, nat_lit 100, nat_lit 105, nat_lit 99, nat_lit 116, nat_lit 95, nat_lit 95, nat_lit 4, nat_lit 0, nat_lit 0, nat_lit 24, nat_lit 6, nat_lit 240, nat_lit 11, nat_lit 95, nat_lit 95, nat_lit 119, nat_lit 101, nat_lit 97, nat_lit 107, nat_lit 114, nat_lit 101, nat_lit 102, nat_lit 95, nat_lit 95, nat_lit 4, nat_lit 0, nat_lit 0, nat_lit 25, nat_lit 6, nat_lit 241, nat_lit 8, nat_lit 95, nat_lit 95, nat_lit 104, nat_lit 97, nat_lit 115, nat_lit 104, nat_lit 95, nat_lit 95, nat_lit 0])) 0), (.bool true), (.bool true), (.str (PySem.Str.ofString "") 242)]) 1), List.toArray []⟩
noncomputable def o19 (P : Params) : Obj := ⟨(.type "list"), none, (.seq (List.toArray []) 0), List.toArray []⟩
noncomputable def o20 (P : Params) : Obj := ⟨(.type "dict"), none, (.dict (List.toArray [⟨PyData.keyHash P (PySem.Str.ofString "name"), (.str (PySem.Str.ofString "name") 208), (.str (PySem.Str.ofString "_sre") 207)⟩, ⟨PyData.keyHash P (PySem.Str.ofString "loader"), (.str (PySem.Str.ofString "loader") 209), (.ref 14)⟩, ⟨PyData.keyHash P (PySem.Str.ofString "origin"), (.str (PySem.Str.ofString "origin") 210), (.str (PySem.Str.ofString "built-in") 184)⟩, ⟨PyData.keyHash P (PySem.Str.ofString "loader_state"), (.str (PySem.Str.ofString "loader_state") 211), .none⟩, ⟨PyData.keyHash P (PySem.Str.ofString "submodule_search_locations"), (.str (PySem.Str.ofString "submodule_search_locations") 212), .none⟩, ⟨PyData.keyHash P (PySem.Str.ofString "_uninitialized_submodules"), (.str (PySem.Str.ofString "_uninitialized_submodules") 213), (.ref 19)⟩, ⟨PyData.keyHash P (PySem.Str.ofString "_set_fileattr"), (.str (PySem.Str.ofString "_set_fileattr") 214), (.bool false)⟩, ⟨PyData.keyHash P (PySem.Str.ofString "_cached"), (.str (PySem.Str.ofString "_cached") 215), .none⟩, ⟨PyData.keyHash P (PySem.Str.ofString "_initializing"), (.str (PySem.Str.ofString "_initializing") 243), (.bool false)⟩]) 9), List.toArray []⟩
noncomputable def o21 (P : Params) : Obj := ⟨(.type "dict"), none, (.dict (List.toArray [⟨PyData.keyHash P (PySem.Str.ofString "__module__"), (.str (PySem.Str.ofString "__module__") 227), (.str (PySem.Str.ofString "_frozen_importlib") 217)⟩, ⟨PyData.keyHash P (PySem.Str.ofString "__firstlineno__"), (.str (PySem.Str.ofString "__firstlineno__") 228), (.int (562) 218)⟩, ⟨PyData.keyHash P (PySem.Str.ofString "__doc__"), (.str (PySem.Str.ofString "__doc__") 229), (.builtin "_frozen_importlib.ModuleSpec.__doc__:str#opaque")⟩, ⟨PyData.keyHash P (PySem.Str.ofString "__init__"), (.str (PySem.Str.ofString "__init__") 230), (.builtin "_frozen_importlib.ModuleSpec.__init__#opaque")⟩, ⟨PyData.keyHash P (PySem.Str.ofString "__repr__"), (.str (PySem.Str.ofString "__repr__") 231), (.builtin "_frozen_importlib.ModuleSpec.__repr__#opaque")⟩, ⟨PyData.keyHash P (PySem.Str.ofString "__eq__"), (.str (PySem.Str.ofString "__eq__") 232), (.builtin "_frozen_importlib.ModuleSpec.__eq__#opaque")⟩, ⟨PyData.keyHash P (PySem.Str.ofString "cached"), (.str (PySem.Str.ofString "cached") 233), (.builtin "_frozen_importlib.ModuleSpec.cached#opaque")⟩, ⟨PyData.keyHash P (PySem.Str.ofString "parent"), (.str (PySem.Str.ofString "parent") 234), (.builtin "_frozen_importlib.ModuleSpec.parent#opaque")⟩, ⟨PyData.keyHash P (PySem.Str.ofString "has_location"), (.str (PySem.Str.ofString "has_location") 235), (.builtin "_frozen_importlib.ModuleSpec.has_location#opaque")⟩, ⟨PyData.keyHash P (PySem.Str.ofString "__static_attributes__"), (.str (PySem.Str.ofString "__static_attributes__") 236), (.ref 23)⟩, ⟨PyData.keyHash P (PySem.Str.ofString "__dict__"), (.str (PySem.Str.ofString "__dict__") 238), (.ref 24)⟩, ⟨PyData.keyHash P (PySem.Str.ofString "__weakref__"), (.str (PySem.Str.ofString "__weakref__") 240), (.ref 25)⟩, ⟨PyData.keyHash P (PySem.Str.ofString "__hash__"), (.str (PySem.Str.ofString "__hash__") 241), .none⟩]) 13), List.toArray []⟩
noncomputable def o22 (P : Params) : Obj := ⟨(.type "type"), none, (.cls { name := (PySem.Str.ofString "ModuleSpec"), bases := [(.type "object")], mro := [(.ref 22), (.type "object")], ns := 21, qualname := (PySem.Str.ofString "ModuleSpec"), hasDict := true, slotNames := [], subclasses := [], abstract := false, collection := none, hasDel := false }), List.toArray []⟩
noncomputable def o23 (P : Params) : Obj := ⟨(.type "tuple"), none, (.seq (List.toArray [(.str (PySem.Str.ofString "_cached") 219), (.str (PySem.Str.ofString "_set_fileattr") 220), (.str (PySem.Str.ofString "_uninitialized_submodules") 221), (.str (PySem.Str.ofString "loader") 222), (.str (PySem.Str.ofString "loader_state") 223), (.str (PySem.Str.ofString "name") 224), (.str (PySem.Str.ofString "origin") 225), (.str (PySem.Str.ofString "submodule_search_locations") 226)]) 0), List.toArray []⟩
noncomputable def o24 (P : Params) : Obj := ⟨(.type "getset_descriptor"), none, (.fields (List.toArray [(.str (PySem.Str.ofString "__dict__") 237), (.ref 22), (.builtin "function.__dict__"), (.builtin "function.__dict__#set")])), List.toArray []⟩
noncomputable def o25 (P : Params) : Obj := ⟨(.type "getset_descriptor"), none, (.fields (List.toArray [(.str (PySem.Str.ofString "__weakref__") 239), (.ref 22), (.builtin "ExceptionGroup.__weakref__"), .none])), List.toArray []⟩
noncomputable def o26 (P : Params) : Obj := ⟨(.ref 22), some 20, .plain, List.toArray []⟩
noncomputable def o27 (P : Params) : Obj := ⟨.none, none, (.seq (List.toArray [(.int (11) 0), (.str (PySem.Str.mk (Array.mk [nat_lit 6, nat_lit 247, nat_lit 8, nat_lit 95, nat_lit 95, nat_lit 110, nat_lit 97, nat_lit 109, nat_lit 101, nat_lit 95, nat_lit 95, nat_lit 6, nat_lit 246, nat_lit 4, nat_lit 95, nat_lit 115, nat_lit 114, nat_lit 101, nat_lit 6, nat_lit 248, nat_lit 7, nat_lit 95, nat_lit 95, nat_lit 100, nat_lit 111, nat_lit 99, nat_lit 95, nat_lit 95, nat_lit 0, nat_lit 6, nat_lit 250, nat_lit 11, nat_lit 95, nat_lit 95, nat_lit 112, nat_lit 97, nat_lit 99, nat_lit 107, nat_lit 97, nat_lit 103, nat_lit 101, nat_lit 95, nat_lit 95, nat_lit 6, nat_lit 249, nat_lit 0, nat_lit 6, nat_lit 251, nat_lit 10, nat_lit 95, nat_lit 95, nat_lit 108, nat_lit 111, nat_lit 97, nat_lit 100, nat_lit 101, nat_lit 114, nat_lit 95, nat_lit 95, nat_lit 4, nat_lit 0, nat_lit 0, nat_lit 14, nat_lit 6, nat_lit 252, nat_lit 8, nat_lit 95, nat_lit 95, nat_lit 115, nat_lit 112, nat_lit 101, nat_lit 99, nat_lit 95, nat_lit 95, nat_lit 4, nat_lit 0, nat_lit 0, nat_lit 26, nat_lit 6, nat_lit 253, nat_lit 7, nat_lit 99, nat_lit 111, nat_lit 109, nat_lit 112, nat_lit 105, nat_lit 108, nat_lit 101, nat_lit 9, nat_lit 12, nat_lit 95, nat_lit 115, nat_lit 114, nat_lit 101, nat_lit 46, nat_lit 99, nat_lit 111, nat_lit 109, nat_lit 112, nat_lit 105, nat_lit 108, nat_lit 101, nat_lit 6, nat_lit 254, nat_lit 8, nat_lit 116, nat_lit 101, nat_lit 109, nat_lit 112, nat_lit 108, nat_lit 97, nat_lit 116, nat_lit 101, nat_lit 9, nat_lit 13, nat_lit 95, nat_lit 115, nat_lit 114, nat_lit 101, nat_lit 46, nat_lit 116, nat_lit 101, nat_lit 109, nat_lit 112, nat_lit 108, nat_lit 97, nat_lit 116, nat_lit 101, nat_lit 6, nat_lit 255, nat_lit 11, nat_lit 103, nat_lit 101, nat_lit 116, nat_lit 99, nat_lit 111, nat_lit 100, nat_lit 101, nat_lit 115, nat_lit 105, nat_lit 122, nat_lit 101, nat_lit 9, nat_lit 16, nat_lit 95, nat_lit 115, nat_lit 114, nat_lit 101, nat_lit 46, nat_lit 103, nat_lit 101, nat_lit 116, nat_lit 99, nat_lit 111, nat_lit 100, nat_lit 101, nat_lit 115, nat_lit 105, nat_lit 122, nat_lit 101, nat_lit 6, nat_lit 256, nat_lit 13, nat_lit 97, nat_lit 115, nat_lit 99, nat_lit 105, nat_lit 105, nat_lit 95, nat_lit 105, nat_lit 115, nat_lit 99, nat_lit 97, nat_lit 115, nat_lit 101, nat_lit 100, nat_lit 9, nat_lit 18, nat_lit 95, nat_lit 115, nat_lit 114, nat_lit 101, nat_lit 46, nat_lit 97, nat_lit 115, nat_lit 99, nat_lit 105, nat_lit 105, nat_lit 95, nat_lit 105, nat_lit 115, nat_lit 99, nat_lit 97, nat_lit 115, nat_lit 101, nat_lit 100, nat_lit 6, nat_lit 257, nat_lit 15, nat_lit 117, nat_lit 110, nat_lit 105, nat_lit 99, nat_lit 111, nat_lit 100, nat_lit 101, nat_lit 95, nat_lit 105, nat_lit 115, nat_lit 99, nat_lit 97, nat_lit 115, nat_lit 101, nat_lit 100, nat_lit 9, nat_lit 20, nat_lit 95, nat_lit 115, nat_lit 114, nat_lit 101, nat_lit 46, nat_lit 117, nat_lit 110, nat_lit 105, nat_lit 99, nat_lit 111, nat_lit 100, nat_lit 101, nat_lit 95, nat_lit 105, nat_lit 115, nat_lit 99, nat_lit 97, nat_lit 115, nat_lit 101, nat_lit 100, nat_lit 6, nat_lit 258, nat_lit 13, nat_lit 97, nat_lit 115, nat_lit 99, nat_lit 105, nat_lit 105, nat_lit 95, nat_lit 116, nat_lit 111, nat_lit 108, nat_lit 111, nat_lit 119, nat_lit 101, nat_lit 114, nat_lit 9, nat_lit 18, nat_lit 95, nat_lit 115, nat_lit 114, nat_lit 101, nat_lit 46, nat_lit 97, nat_lit 115, nat_lit 99, nat_lit 105, nat_lit 105, nat_lit 95, nat_lit 116, nat_lit 111, nat_lit 108, nat_lit 111, nat_lit 119, nat_lit 101, nat_lit 114, nat_lit 6, nat_lit 259, nat_lit 15, nat_lit 117, nat_lit 110, nat_lit 105, nat_lit 99, nat_lit 111, nat_lit 100, nat_lit 101, nat_lit 95, nat_lit 116, nat_lit 111, nat_lit 108, nat_lit 111, nat_lit 119, nat_lit 101, nat_lit 114, nat_lit 9, nat_lit 20, nat_lit 95, nat_lit 115, nat_lit 114, nat_lit 101, nat_lit 46, nat_lit 117, nat_lit 110, nat_lit 105, nat_lit 99, nat_lit 111, nat_lit 100, nat_lit 101, nat_lit 95, nat_lit 116, nat_lit 111, nat_lit 108, nat_lit 111, nat_lit 119, nat_lit 101, nat_lit 114, nat_lit 6, nat_lit 261, nat_lit 5, nat_lit 77, nat_lit 65, nat_lit 71, nat_lit 73, nat_lit 67, nat_lit 4, nat_lit 260, nat_lit 0, nat_lit 20230612, nat_lit 6, nat_lit 263, nat_lit 8, nat_lit 67, nat_lit 79, nat_lit 68, nat_lit 69, nat_lit 83, nat_lit 73, nat_lit 90, nat_lit 69, nat_lit 4, nat_lit 262, nat_lit 0, nat_lit 4, nat_lit 6, nat_lit 265, nat_lit 9, nat_lit 77, nat_lit 65, nat_lit 88, nat_lit 82, nat_lit 69, nat_lit 80, nat_lit 69, nat_lit 65, nat_lit 84, nat_lit 4, nat_lit 264, nat_lit 0, nat_lit 4294967295, nat_lit 6, nat_lit 267, nat_lit 9, nat_lit 77, nat_lit 65, nat_lit 88, nat_lit 71, nat_lit 82, nat_lit 79, nat_lit 85, nat_lit 80, nat_lit 83, nat_lit 4, nat_lit 266, nat_lit 0, nat_lit 1073741823, nat_lit 6, nat_lit 269, nat_lit 9, nat_lit 99, nat_lit 111, nat_lit 112, nat_lit 121, nat_lit 114, nat_lit 105, nat_lit 103, nat_lit 104, nat_lit 116, nat_lit 6, nat_lit 268, nat_lit 53, nat_lit 32, nat_lit 83, nat_lit 82, nat_lit 69, nat_lit 32, nat_lit 50, nat_lit 46, nat_lit 50, nat_lit 46, nat_lit 50, nat_lit 32, nat_lit 67, nat_lit 111, nat_lit 112, nat_lit 121, nat_lit 114, nat_lit 105, nat_lit 103, nat_lit 104, nat_lit 116, nat_lit 32, nat_lit 40, nat_lit 99, nat_lit 41, nat_lit 32, nat_lit 49, nat_lit 57, nat_lit 57, nat_lit 55, nat_lit 45, nat_lit 50, nat_lit 48, nat_lit 48, nat_lit 50, nat_lit 32, nat_lit 98, nat_lit 121, nat_lit 32, nat_lit 83, nat_lit 101, nat_lit 99, nat_lit 114, nat_lit 101, nat_lit 116, nat_lit 32, nat_lit 76, nat_lit 97, nat_lit 98, nat_lit 115, nat_lit 32, nat_lit 65, nat_lit 66, nat_lit 32])) 0), (.bool true), (.bool false), (.str (PySem.Str.ofString "_sre") 271)]) 0), List.toArray []⟩
noncomputable def TSe (P : Params) : BT := (.node (o0 P) (.node (o1 P) (.node (o3 P) (.node (o7 P) (.node (o15 P) .nil .nil) (.node (o23 P) .nil .nil)) (.node (o11 P) (.node (o19 P) .nil .nil) (.node (o27 P) .nil .nil))) (.node (o5 P) (.node (o9 P) (.node (o17 P) .nil .nil) (.node (o25 P) .nil .nil)) (.node (o13 P) (.node (o21 P) .nil .nil) .nil))) (.node (o2 P) (.node (o4 P) (.node (o8 P) (.node (o16 P) .nil .nil) (.node (o24 P) .nil .nil)) (.node (o12 P) (.node (o20 P) .nil .nil) .nil)) (.node (o6 P) (.node (o10 P) (.node (o18 P) .nil .nil) (.node (o26 P) .nil .nil)) (.node (o14 P) (.node (o22 P) .nil .nil) .nil))))
noncomputable def SSe (w : World) (os : OsState) : SharedT := ⟨TSe w.params, 28, {}, Array.mk [], {}, 276, os⟩
noncomputable def o11_1 (P : Params) : Obj := ⟨(.type "dict"), none, (.dict (List.toArray [⟨PyData.keyHash P (PySem.Str.ofString "__name__"), (.str (PySem.Str.ofString "__name__") 247), (.str (PySem.Str.ofString "_sre") 246)⟩, ⟨PyData.keyHash P (PySem.Str.ofString "__doc__"), (.str (PySem.Str.ofString "__doc__") 248), .none⟩, ⟨PyData.keyHash P (PySem.Str.ofString "__package__"), (.str (PySem.Str.ofString "__package__") 250), (.str (PySem.Str.ofString "") 249)⟩, ⟨PyData.keyHash P (PySem.Str.ofString "__loader__"), (.str (PySem.Str.ofString "__loader__") 251), (.builtin "off-the-table:_sre.__loader__:shared#opaque")⟩, ⟨PyData.keyHash P (PySem.Str.ofString "__spec__"), (.str (PySem.Str.ofString "__spec__") 252), (.builtin "off-the-table:_sre.__spec__:shared#opaque")⟩, ⟨PyData.keyHash P (PySem.Str.ofString "compile"), (.str (PySem.Str.ofString "compile") 253), (.builtin "_sre.compile")⟩, ⟨PyData.keyHash P (PySem.Str.ofString "template"), (.str (PySem.Str.ofString "template") 254), (.builtin "off-the-table:_sre.template:shared#opaque")⟩, ⟨PyData.keyHash P (PySem.Str.ofString "getcodesize"), (.str (PySem.Str.ofString "getcodesize") 255), (.builtin "off-the-table:_sre.getcodesize:shared#opaque")⟩, ⟨PyData.keyHash P (PySem.Str.ofString "ascii_iscased"), (.str (PySem.Str.ofString "ascii_iscased") 256), (.builtin "off-the-table:_sre.ascii_iscased:shared#opaque")⟩, ⟨PyData.keyHash P (PySem.Str.ofString "unicode_iscased"), (.str (PySem.Str.ofString "unicode_iscased") 257), (.builtin "off-the-table:_sre.unicode_iscased:shared#opaque")⟩, ⟨PyData.keyHash P (PySem.Str.ofString "ascii_tolower"), (.str (PySem.Str.ofString "ascii_tolower") 258), (.builtin "off-the-table:_sre.ascii_tolower:shared#opaque")⟩, ⟨PyData.keyHash P (PySem.Str.ofString "unicode_tolower"), (.str (PySem.Str.ofString "unicode_tolower") 259), (.builtin "off-the-table:_sre.unicode_tolower:shared#opaque")⟩, ⟨PyData.keyHash P (PySem.Str.ofString "MAGIC"), (.str (PySem.Str.ofString "MAGIC") 261), (.int (20230612) 260)⟩, ⟨PyData.keyHash P (PySem.Str.ofString "CODESIZE"), (.str (PySem.Str.ofString "CODESIZE") 263), (.int (4) 262)⟩, ⟨PyData.keyHash P (PySem.Str.ofString "MAXREPEAT"), (.str (PySem.Str.ofString "MAXREPEAT") 265), (.int (4294967295) 264)⟩, ⟨PyData.keyHash P (PySem.Str.ofString "MAXGROUPS"), (.str (PySem.Str.ofString "MAXGROUPS") 267), (.int (1073741823) 266)⟩, ⟨PyData.keyHash P (PySem.Str.ofString "copyright"), (.str (PySem.Str.ofString "copyright") 269), (.str (PySem.Str.ofString " SRE 2.2.2 Copyright (c) 1997-2002 by Secret Labs AB ") 268)⟩]) 17), List.toArray []⟩
noncomputable def TS0 (P : Params) : BT := (.node (o0 P) (.node (o1 P) (.node (o3 P) (.node (o7 P) (.node (o15 P) .nil .nil) (.node (o23 P) .nil .nil)) (.node (o11_1 P) (.node (o19 P) .nil .nil) (.node (o27 P) .nil .nil))) (.node (o5 P) (.node (o9 P) (.node (o17 P) .nil .nil) (.node (o25 P) .nil .nil)) (.node (o13 P) (.node (o21 P) .nil .nil) .nil))) (.node (o2 P) (.node (o4 P) (.node (o8 P) (.node (o16 P) .nil .nil) (.node (o24 P) .nil .nil)) (.node (o12 P) (.node (o20 P) .nil .nil) .nil)) (.node (o6 P) (.node (o10 P) (.node (o18 P) .nil .nil) (.node (o26 P) .nil .nil)) (.node (o14 P) (.node (o22 P) .nil .nil) .nil))))
noncomputable def SS0 (w : World) (os : OsState) : SharedT := ⟨TS0 w.params, 28, {}, Array.mk [], {}, 276, os⟩
noncomputable def o28 (P : Params) : Obj := ⟨(.type "tuple"), none, (.seq (List.toArray []) 0), List.toArray []⟩
noncomputable def o29 (P : Params) : Obj := ⟨.none, none, (.fields (List.toArray [])), List.toArray []⟩
noncomputable def o30 (P : Params) : Obj := ⟨(.type "code"), none, (.fields (List.toArray [(.str (PySem.Str.ofString "<module>") 277), (.str (PySem.Str.ofString "<module>") 278), (.str (PySem.Str.ofString "/claim/cut.py") 279), (.int (1) 0), (.int (0) 0), (.int (0) 0), (.int (0) 0), (.int (0) 0), (.ref 28), (.bool false), (.int (276) 0), (.ref 29), .none, .none, .none, .none, (.int (280) 0), (.int (1) 0), (.str (PySem.Str.ofString "/claim/cut.py") 281)])), List.toArray []⟩
noncomputable def o31 (P : Params) : Obj := ⟨(.type "frame"), none, .plain, List.toArray [(some (.ref 30)), (some (.ref 3)), (some (.ref 3)), none, (some (.str (PySem.Str.ofString "__main__") 164)), none, (some (.ref 0))]⟩
noncomputable def TSa (P : Params) : BT := (.node (o0 P) (.node (o1 P) (.node (o3 P) (.node (o7 P) (.node (o15 P) (.node (o31 P) .nil .nil) .nil) (.node (o23 P) .nil .nil)) (.node (o11_1 P) (.node (o19 P) .nil .nil) (.node (o27 P) .nil .nil))) (.node (o5 P) (.node (o9 P) (.node (o17 P) .nil .nil) (.node (o25 P) .nil .nil)) (.node (o13 P) (.node (o21 P) .nil .nil) (.node (o29 P) .nil .nil)))) (.node (o2 P) (.node (o4 P) (.node (o8 P) (.node (o16 P) .nil .nil) (.node (o24 P) .nil .nil)) (.node (o12 P) (.node (o20 P) .nil .nil) (.node (o28 P) .nil .nil))) (.node (o6 P) (.node (o10 P) (.node (o18 P) .nil .nil) (.node (o26 P) .nil .nil)) (.node (o14 P) (.node (o22 P) .nil .nil) (.node (o30 P) .nil .nil)))))
noncomputable def SSa (w : World) (os : OsState) : SharedT := ⟨TSa w.params, 32, {}, Array.mk [], {}, 282, os⟩
noncomputable def o3_1 (P : Params) : Obj := ⟨(.type "dict"), none, (.dict (List.toArray [⟨PyData.keyHash P (PySem.Str.ofString "__name__"), (.str (PySem.Str.ofString "__name__") 165), (.str (PySem.Str.ofString "cpy313.tabnanny") 289)⟩, ⟨PyData.keyHash P (PySem.Str.ofString "__doc__"), (.str (PySem.Str.ofString "__doc__") 166), .none⟩, ⟨PyData.keyHash P (PySem.Str.ofString "__package__"), (.str (PySem.Str.ofString "__package__") 167), .none⟩, ⟨PyData.keyHash P (PySem.Str.ofString "__loader__"), (.str (PySem.Str.ofString "__loader__") 168), (.builtin "__main__.__loader__#opaque")⟩, ⟨PyData.keyHash P (PySem.Str.ofString "__spec__"), (.str (PySem.Str.ofString "__spec__") 169), .none⟩, ⟨PyData.keyHash P (PySem.Str.ofString "__annotations__"), (.str (PySem.Str.ofString "__annotations__") 170), (.ref 6)⟩, ⟨PyData.keyHash P (PySem.Str.ofString "__builtins__"), (.str (PySem.Str.ofString "__builtins__") 171), (.ref 4)⟩, ⟨PyData.keyHash P (PySem.Str.ofString "__file__"), (.str (PySem.Str.ofString "__file__") 173), (.str (PySem.Str.ofString "/claim/cut.py") 172)⟩, ⟨PyData.keyHash P (PySem.Str.ofString "__cached__"), (.str (PySem.Str.ofString "__cached__") 174), .none⟩, ⟨PyData.keyHash P (PySem.Str.ofString "_sre"), (.str (PySem.Str.ofString "_sre") 275), (.ref 12)⟩, ⟨PyData.keyHash P (PySem.Str.ofString "_wall"), (.str (PySem.Str.ofString "_wall") 288), (.ref 38)⟩]) 11), List.toArray []⟩
noncomputable def o29_1 (P : Params) : Obj := ⟨.none, none, (.fields (List.toArray [(.int (2) 0), (.int (0) 0), (.ref 37)])), List.toArray []⟩
noncomputable def o32 (P : Params) : Obj := ⟨(.type "tuple"), none, (.seq (List.toArray []) 0), List.toArray []⟩
noncomputable def o33 (P : Params) : Obj := ⟨.none, none, (.fields (List.toArray [])), List.toArray []⟩
noncomputable def o34 (P : Params) : Obj := ⟨(.type "tuple"), none, (.seq (List.toArray [(.str (PySem.Str.ofString "k") 285)]) 0), List.toArray []⟩
noncomputable def o35 (P : Params) : Obj := ⟨(.type "tuple"), none, (.seq (List.toArray []) 0), List.toArray []⟩
noncomputable def o36 (P : Params) : Obj := ⟨.none, none, (.func fn0__wall), List.toArray []⟩
noncomputable def o37 (P : Params) : Obj := ⟨(.type "code"), none, (.fields (List.toArray [(.str (PySem.Str.ofString "_wall") 282), (.str (PySem.Str.ofString "_wall") 283), (.str (PySem.Str.ofString "/claim/cut.py") 284), (.int (2) 0), (.int (1) 0), (.int (0) 0), (.int (0) 0), (.int (3) 0), (.ref 32), (.bool true), (.int (276) 0), (.ref 33), .none, (.ref 34), (.ref 35), (.ref 36), (.int (286) 0), (.int (2) 0), (.str (PySem.Str.ofString "/claim/cut.py") 287)])), List.toArray []⟩
noncomputable def o38 (P : Params) : Obj := ⟨(.type "function"), none, (.func fn__wall), List.toArray []⟩
noncomputable def TG1 (P : Params) : BT := (.node (o0 P) (.node (o1 P) (.node (o3_1 P) (.node (o7 P) (.node (o15 P) (.node (o31 P) .nil .nil) .nil) (.node (o23 P) .nil .nil)) (.node (o11_1 P) (.node (o19 P) (.node (o35 P) .nil .nil) .nil) (.node (o27 P) .nil .nil))) (.node (o5 P) (.node (o9 P) (.node (o17 P) (.node (o33 P) .nil .nil) .nil) (.node (o25 P) .nil .nil)) (.node (o13 P) (.node (o21 P) (.node (o37 P) .nil .nil) .nil) (.node (o29_1 P) .nil .nil)))) (.node (o2 P) (.node (o4 P) (.node (o8 P) (.node (o16 P) (.node (o32 P) .nil .nil) .nil) (.node (o24 P) .nil .nil)) (.node (o12 P) (.node (o20 P) (.node (o36 P) .nil .nil) .nil) (.node (o28 P) .nil .nil))) (.node (o6 P) (.node (o10 P) (.node (o18 P) (.node (o34 P) .nil .nil) .nil) (.node (o26 P) .nil .nil)) (.node (o14 P) (.node (o22 P) (.node (o38 P) .nil .nil) .nil) (.node (o30 P) .nil .nil)))))
noncomputable def SG1 (w : World) (os : OsState) : SharedT := ⟨TG1 w.params, 39, {}, Array.mk [], {}, 291, os⟩
noncomputable def o3_2 (P : Params) : Obj := ⟨(.type "dict"), none, (.dict (List.toArray [⟨PyData.keyHash P (PySem.Str.ofString "__name__"), (.str (PySem.Str.ofString "__name__") 165), (.str (PySem.Str.ofString "cpy313.tabnanny") 289)⟩, ⟨PyData.keyHash P (PySem.Str.ofString "__doc__"), (.str (PySem.Str.ofString "__doc__") 166), .none⟩, ⟨PyData.keyHash P (PySem.Str.ofString "__package__"), (.str (PySem.Str.ofString "__package__") 167), .none⟩, ⟨PyData.keyHash P (PySem.Str.ofString "__loader__"), (.str (PySem.Str.ofString "__loader__") 168), (.builtin "__main__.__loader__#opaque")⟩, ⟨PyData.keyHash P (PySem.Str.ofString "__spec__"), (.str (PySem.Str.ofString "__spec__") 169), .none⟩, ⟨PyData.keyHash P (PySem.Str.ofString "__annotations__"), (.str (PySem.Str.ofString "__annotations__") 170), (.ref 6)⟩, ⟨PyData.keyHash P (PySem.Str.ofString "__builtins__"), (.str (PySem.Str.ofString "__builtins__") 171), (.ref 4)⟩, ⟨PyData.keyHash P (PySem.Str.ofString "__file__"), (.str (PySem.Str.ofString "__file__") 173), (.str (PySem.Str.ofString "/claim/cut.py") 172)⟩, ⟨PyData.keyHash P (PySem.Str.ofString "__cached__"), (.str (PySem.Str.ofString "__cached__") 174), .none⟩, ⟨PyData.keyHash P (PySem.Str.ofString "_sre"), (.str (PySem.Str.ofString "_sre") 275), (.ref 12)⟩, ⟨PyData.keyHash P (PySem.Str.ofString "_wall"), (.str (PySem.Str.ofString "_wall") 288), (.ref 38)⟩, ⟨PyData.keyHash P (PySem.Str.ofString "Whitespace"), (.str (PySem.Str.ofString "Whitespace") 386), (.ref 100)⟩]) 12), List.toArray []⟩
noncomputable def o29_2 (P : Params) : Obj := ⟨.none, none, (.fields (List.toArray [(.int (2) 0), (.int (0) 0), (.ref 37), (.int (6) 0), (.int (0) 0), (.ref 44)])), List.toArray []⟩
noncomputable def o39 (P : Params) : Obj := ⟨(.type "tuple"), none, (.seq (List.toArray []) 0), List.toArray []⟩
noncomputable def o40 (P : Params) : Obj := ⟨(.type "builtin_function_or_method"), none, (.fields (List.toArray [(.builtin "type.__prepare__"), (.type "type")])), List.toArray []⟩
noncomputable def o41 (P : Params) : Obj := ⟨(.type "dict"), none, (.dict (List.toArray [⟨PyData.keyHash P (PySem.Str.ofString "__module__"), (.str (PySem.Str.ofString "__module__") 298), (.str (PySem.Str.ofString "cpy313.tabnanny") 289)⟩, ⟨PyData.keyHash P (PySem.Str.ofString "__qualname__"), (.str (PySem.Str.ofString "__qualname__") 300), (.str (PySem.Str.ofString "Whitespace") 299)⟩, ⟨PyData.keyHash P (PySem.Str.ofString "__firstlineno__"), (.str (PySem.Str.ofString "__firstlineno__") 302), (.int (6) 301)⟩, ⟨PyData.keyHash P (PySem.Str.ofString "S"), (.str (PySem.Str.ofString "S") 306), (.str (PySem.Str.ofString " ") 304)⟩, ⟨PyData.keyHash P (PySem.Str.ofString "T"), (.str (PySem.Str.ofString "T") 307), (.str (PySem.Str.mk (Array.mk [nat_lit 9])) 305)⟩, ⟨PyData.keyHash P (PySem.Str.ofString "__init__"), (.str (PySem.Str.ofString "__init__") 322), (.ref 55)⟩, ⟨PyData.keyHash P (PySem.Str.ofString "longest_run_of_spaces"), (.str (PySem.Str.ofString "longest_run_of_spaces") 329), (.ref 62)⟩, ⟨PyData.keyHash P (PySem.Str.ofString "indent_level"), (.str (PySem.Str.ofString "indent_level") 341), (.ref 69)⟩, ⟨PyData.keyHash P (PySem.Str.ofString "equal"), (.str (PySem.Str.ofString "equal") 349), (.ref 76)⟩, ⟨PyData.keyHash P (PySem.Str.ofString "not_equal_witness"), (.str (PySem.Str.ofString "not_equal_witness") 357), (.ref 83)⟩, ⟨PyData.keyHash P (PySem.Str.ofString "less"), (.str (PySem.Str.ofString "less") 365), (.ref 90)⟩, ⟨PyData.keyHash P (PySem.Str.ofString "not_less_witness"), (.str (PySem.Str.ofString "not_less_witness") 373), (.ref 97)⟩, ⟨PyData.keyHash P (PySem.Str.ofString "__static_attributes__"), (.str (PySem.Str.ofString "__static_attributes__") 379), (.ref 98)⟩]) 13), List.toArray []⟩
noncomputable def o42 (P : Params) : Obj := ⟨(.type "tuple"), none, (.seq (List.toArray []) 0), List.toArray []⟩
noncomputable def o43 (P : Params) : Obj := ⟨.none, none, (.fields (List.toArray [(.int (9) 0), (.int (4) 0), (.ref 54), (.int (32) 0), (.int (4) 0), (.ref 61), (.int (35) 0), (.int (4) 0), (.ref 68), (.int (42) 0), (.int (4) 0), (.ref 75), (.int (45) 0), (.int (4) 0), (.ref 82), (.int (48) 0), (.int (4) 0), (.ref 89), (.int (51) 0), (.int (4) 0), (.ref 96)])), List.toArray []⟩
noncomputable def o44 (P : Params) : Obj := ⟨(.type "code"), none, (.fields (List.toArray [(.str (PySem.Str.ofString "Whitespace") 293), (.str (PySem.Str.ofString "Whitespace") 294), (.str (PySem.Str.ofString "/claim/cut.py") 295), (.int (6) 0), (.int (0) 0), (.int (0) 0), (.int (0) 0), (.int (0) 0), (.ref 42), (.bool false), (.int (276) 0), (.ref 43), .none, .none, .none, .none, (.int (296) 0), (.int (6) 0), (.str (PySem.Str.ofString "/claim/cut.py") 297)])), List.toArray []⟩
noncomputable def o45 (P : Params) : Obj := ⟨(.type "frame"), none, .plain, List.toArray [(some (.ref 44)), (some (.ref 3)), (some (.ref 41)), none, (some (.str (PySem.Str.ofString "cpy313.tabnanny") 289)), none, (some (.ref 0))]⟩
noncomputable def o46 (P : Params) : Obj := ⟨(.type "str_ascii_iterator"), none, (.fields (List.toArray [.none, (.int (2) 0)])), List.toArray []⟩
noncomputable def o47 (P : Params) : Obj := ⟨(.type "tuple"), none, (.seq (List.toArray []) 0), List.toArray []⟩
noncomputable def o48 (P : Params) : Obj := ⟨(.type "StopIteration"), none, (.fields (List.toArray [(.ref 47), .none, .none, .none, (.bool false), .none])), List.toArray []⟩
noncomputable def o49 (P : Params) : Obj := ⟨(.type "tuple"), none, (.seq (List.toArray []) 0), List.toArray []⟩
noncomputable def o50 (P : Params) : Obj := ⟨.none, none, (.fields (List.toArray [])), List.toArray []⟩
noncomputable def o51 (P : Params) : Obj := ⟨(.type "tuple"), none, (.seq (List.toArray [(.str (PySem.Str.ofString "self") 311), (.str (PySem.Str.ofString "ws") 312), (.str (PySem.Str.ofString "S") 313), (.str (PySem.Str.ofString "T") 314), (.str (PySem.Str.ofString "count") 315), (.str (PySem.Str.ofString "b") 316), (.str (PySem.Str.ofString "n") 317), (.str (PySem.Str.ofString "nt") 318), (.str (PySem.Str.ofString "ch") 319)]) 0), List.toArray []⟩
noncomputable def o52 (P : Params) : Obj := ⟨(.type "tuple"), none, (.seq (List.toArray []) 0), List.toArray []⟩
noncomputable def o53 (P : Params) : Obj := ⟨.none, none, (.func fn0_Whitespace___init__), List.toArray []⟩
noncomputable def o54 (P : Params) : Obj := ⟨(.type "code"), none, (.fields (List.toArray [(.str (PySem.Str.ofString "__init__") 308), (.str (PySem.Str.ofString "Whitespace.__init__") 309), (.str (PySem.Str.ofString "/claim/cut.py") 310), (.int (9) 0), (.int (2) 0), (.int (0) 0), (.int (0) 0), (.int (3) 0), (.ref 49), (.bool true), (.int (276) 0), (.ref 50), .none, (.ref 51), (.ref 52), (.ref 53), (.int (320) 0), (.int (9) 0), (.str (PySem.Str.ofString "/claim/cut.py") 321)])), List.toArray []⟩
noncomputable def o55 (P : Params) : Obj := ⟨(.type "function"), none, (.func fn_Whitespace___init__), List.toArray []⟩
noncomputable def o56 (P : Params) : Obj := ⟨(.type "tuple"), none, (.seq (List.toArray []) 0), List.toArray []⟩
noncomputable def o57 (P : Params) : Obj := ⟨.none, none, (.fields (List.toArray [])), List.toArray []⟩
noncomputable def o58 (P : Params) : Obj := ⟨(.type "tuple"), none, (.seq (List.toArray [(.str (PySem.Str.ofString "self") 326)]) 0), List.toArray []⟩
noncomputable def o59 (P : Params) : Obj := ⟨(.type "tuple"), none, (.seq (List.toArray []) 0), List.toArray []⟩
noncomputable def o60 (P : Params) : Obj := ⟨.none, none, (.func fn0_Whitespace_longest_run_of_spaces), List.toArray []⟩
noncomputable def o61 (P : Params) : Obj := ⟨(.type "code"), none, (.fields (List.toArray [(.str (PySem.Str.ofString "longest_run_of_spaces") 323), (.str (PySem.Str.ofString "Whitespace.longest_run_of_spaces") 324), (.str (PySem.Str.ofString "/claim/cut.py") 325), (.int (32) 0), (.int (1) 0), (.int (0) 0), (.int (0) 0), (.int (3) 0), (.ref 56), (.bool true), (.int (276) 0), (.ref 57), .none, (.ref 58), (.ref 59), (.ref 60), (.int (327) 0), (.int (32) 0), (.str (PySem.Str.ofString "/claim/cut.py") 328)])), List.toArray []⟩
noncomputable def o62 (P : Params) : Obj := ⟨(.type "function"), none, (.func fn_Whitespace_longest_run_of_spaces), List.toArray []⟩
noncomputable def o63 (P : Params) : Obj := ⟨(.type "tuple"), none, (.seq (List.toArray []) 0), List.toArray []⟩
noncomputable def o64 (P : Params) : Obj := ⟨.none, none, (.fields (List.toArray [])), List.toArray []⟩
noncomputable def o65 (P : Params) : Obj := ⟨(.type "tuple"), none, (.seq (List.toArray [(.str (PySem.Str.ofString "self") 333), (.str (PySem.Str.ofString "tabsize") 334), (.str (PySem.Str.ofString "count") 335), (.str (PySem.Str.ofString "trailing") 336), (.str (PySem.Str.ofString "il") 337), (.str (PySem.Str.ofString "i") 338)]) 0), List.toArray []⟩
noncomputable def o66 (P : Params) : Obj := ⟨(.type "tuple"), none, (.seq (List.toArray []) 0), List.toArray []⟩
noncomputable def o67 (P : Params) : Obj := ⟨.none, none, (.func fn0_Whitespace_indent_level), List.toArray []⟩
noncomputable def o68 (P : Params) : Obj := ⟨(.type "code"), none, (.fields (List.toArray [(.str (PySem.Str.ofString "indent_level") 330), (.str (PySem.Str.ofString "Whitespace.indent_level") 331), (.str (PySem.Str.ofString "/claim/cut.py") 332), (.int (35) 0), (.int (2) 0), (.int (0) 0), (.int (0) 0), (.int (3) 0), (.ref 63), (.bool true), (.int (276) 0), (.ref 64), .none, (.ref 65), (.ref 66), (.ref 67), (.int (339) 0), (.int (35) 0), (.str (PySem.Str.ofString "/claim/cut.py") 340)])), List.toArray []⟩
noncomputable def o69 (P : Params) : Obj := ⟨(.type "function"), none, (.func fn_Whitespace_indent_level), List.toArray []⟩
noncomputable def o70 (P : Params) : Obj := ⟨(.type "tuple"), none, (.seq (List.toArray []) 0), List.toArray []⟩
noncomputable def o71 (P : Params) : Obj := ⟨.none, none, (.fields (List.toArray [])), List.toArray []⟩
noncomputable def o72 (P : Params) : Obj := ⟨(.type "tuple"), none, (.seq (List.toArray [(.str (PySem.Str.ofString "self") 345), (.str (PySem.Str.ofString "other") 346)]) 0), List.toArray []⟩
noncomputable def o73 (P : Params) : Obj := ⟨(.type "tuple"), none, (.seq (List.toArray []) 0), List.toArray []⟩
noncomputable def o74 (P : Params) : Obj := ⟨.none, none, (.func fn0_Whitespace_equal), List.toArray []⟩
noncomputable def o75 (P : Params) : Obj := ⟨(.type "code"), none, (.fields (List.toArray [(.str (PySem.Str.ofString "equal") 342), (.str (PySem.Str.ofString "Whitespace.equal") 343), (.str (PySem.Str.ofString "/claim/cut.py") 344), (.int (42) 0), (.int (2) 0), (.int (0) 0), (.int (0) 0), (.int (3) 0), (.ref 70), (.bool true), (.int (276) 0), (.ref 71), .none, (.ref 72), (.ref 73), (.ref 74), (.int (347) 0), (.int (42) 0), (.str (PySem.Str.ofString "/claim/cut.py") 348)])), List.toArray []⟩
noncomputable def o76 (P : Params) : Obj := ⟨(.type "function"), none, (.func fn_Whitespace_equal), List.toArray []⟩
noncomputable def o77 (P : Params) : Obj := ⟨(.type "tuple"), none, (.seq (List.toArray []) 0), List.toArray []⟩
noncomputable def o78 (P : Params) : Obj := ⟨.none, none, (.fields (List.toArray [])), List.toArray []⟩
noncomputable def o79 (P : Params) : Obj := ⟨(.type "tuple"), none, (.seq (List.toArray [(.str (PySem.Str.ofString "self") 353), (.str (PySem.Str.ofString "other") 354)]) 0), List.toArray []⟩
noncomputable def o80 (P : Params) : Obj := ⟨(.type "tuple"), none, (.seq (List.toArray []) 0), List.toArray []⟩
noncomputable def o81 (P : Params) : Obj := ⟨.none, none, (.func fn0_Whitespace_not_equal_witness), List.toArray []⟩
noncomputable def o82 (P : Params) : Obj := ⟨(.type "code"), none, (.fields (List.toArray [(.str (PySem.Str.ofString "not_equal_witness") 350), (.str (PySem.Str.ofString "Whitespace.not_equal_witness") 351), (.str (PySem.Str.ofString "/claim/cut.py") 352), (.int (45) 0), (.int (2) 0), (.int (0) 0), (.int (0) 0), (.int (3) 0), (.ref 77), (.bool true), (.int (276) 0), (.ref 78), .none, (.ref 79), (.ref 80), (.ref 81), (.int (355) 0), (.int (45) 0), (.str (PySem.Str.ofString "/claim/cut.py") 356)])), List.toArray []⟩
noncomputable def o83 (P : Params) : Obj := ⟨(.type "function"), none, (.func fn_Whitespace_not_equal_witness), List.toArray []⟩
noncomputable def o84 (P : Params) : Obj := ⟨(.type "tuple"), none, (.seq (List.toArray []) 0), List.toArray []⟩
noncomputable def o85 (P : Params) : Obj := ⟨.none, none, (.fields (List.toArray [])), List.toArray []⟩
noncomputable def o86 (P : Params) : Obj := ⟨(.type "tuple"), none, (.seq (List.toArray [(.str (PySem.Str.ofString "self") 361), (.str (PySem.Str.ofString "other") 362)]) 0), List.toArray []⟩
noncomputable def o87 (P : Params) : Obj := ⟨(.type "tuple"), none, (.seq (List.toArray []) 0), List.toArray []⟩
noncomputable def o88 (P : Params) : Obj := ⟨.none, none, (.func fn0_Whitespace_less), List.toArray []⟩
noncomputable def o89 (P : Params) : Obj := ⟨(.type "code"), none, (.fields (List.toArray [(.str (PySem.Str.ofString "less") 358), (.str (PySem.Str.ofString "Whitespace.less") 359), (.str (PySem.Str.ofString "/claim/cut.py") 360), (.int (48) 0), (.int (2) 0), (.int (0) 0), (.int (0) 0), (.int (3) 0), (.ref 84), (.bool true), (.int (276) 0), (.ref 85), .none, (.ref 86), (.ref 87), (.ref 88), (.int (363) 0), (.int (48) 0), (.str (PySem.Str.ofString "/claim/cut.py") 364)])), List.toArray []⟩
noncomputable def o90 (P : Params) : Obj := ⟨(.type "function"), none, (.func fn_Whitespace_less), List.toArray []⟩
noncomputable def o91 (P : Params) : Obj := ⟨(.type "tuple"), none, (.seq (List.toArray []) 0), List.toArray []⟩
noncomputable def o92 (P : Params) : Obj := ⟨.none, none, (.fields (List.toArray [])), List.toArray []⟩
noncomputable def o93 (P : Params) : Obj := ⟨(.type "tuple"), none, (.seq (List.toArray [(.str (PySem.Str.ofString "self") 369), (.str (PySem.Str.ofString "other") 370)]) 0), List.toArray []⟩
noncomputable def o94 (P : Params) : Obj := ⟨(.type "tuple"), none, (.seq (List.toArray []) 0), List.toArray []⟩
noncomputable def o95 (P : Params) : Obj := ⟨.none, none, (.func fn0_Whitespace_not_less_witness), List.toArray []⟩
noncomputable def o96 (P : Params) : Obj := ⟨(.type "code"), none, (.fields (List.toArray [(.str (PySem.Str.ofString "not_less_witness") 366), (.str (PySem.Str.ofString "Whitespace.not_less_witness") 367), (.str (PySem.Str.ofString "/claim/cut.py") 368), (.int (51) 0), (.int (2) 0), (.int (0) 0), (.int (0) 0), (.int (3) 0), (.ref 91), (.bool true), (.int (276) 0), (.ref 92), .none, (.ref 93), (.ref 94), (.ref 95), (.int (371) 0), (.int (51) 0), (.str (PySem.Str.ofString "/claim/cut.py") 372)])), List.toArray []⟩
noncomputable def o97 (P : Params) : Obj := ⟨(.type "function"), none, (.func fn_Whitespace_not_less_witness), List.toArray []⟩
noncomputable def o98 (P : Params) : Obj := ⟨(.type "tuple"), none, (.seq (List.toArray [(.str (PySem.Str.ofString "is_simple") 374), (.str (PySem.Str.ofString "n") 375), (.str (PySem.Str.ofString "norm") 376), (.str (PySem.Str.ofString "nt") 377), (.str (PySem.Str.ofString "raw") 378)]) 0), List.toArray []⟩
noncomputable def o99 (P : Params) : Obj := ⟨(.type "dict"), none, (.dict (List.toArray [⟨PyData.keyHash P (PySem.Str.ofString "__module__"), (.str (PySem.Str.ofString "__module__") 298), (.str (PySem.Str.ofString "cpy313.tabnanny") 289)⟩, ⟨PyData.keyHash P (PySem.Str.ofString "__firstlineno__"), (.str (PySem.Str.ofString "__firstlineno__") 302), (.int (6) 301)⟩, ⟨PyData.keyHash P (PySem.Str.ofString "S"), (.str (PySem.Str.ofString "S") 306), (.str (PySem.Str.ofString " ") 304)⟩, ⟨PyData.keyHash P (PySem.Str.ofString "T"), (.str (PySem.Str.ofString "T") 307), (.str (PySem.Str.mk (Array.mk [nat_lit 9])) 305)⟩, ⟨PyData.keyHash P (PySem.Str.ofString "__init__"), (.str (PySem.Str.ofString "__init__") 322), (.ref 55)⟩, ⟨PyData.keyHash P (PySem.Str.ofString "longest_run_of_spaces"), (.str (PySem.Str.ofString "longest_run_of_spaces") 329), (.ref 62)⟩, ⟨PyData.keyHash P (PySem.Str.ofString "indent_level"), (.str (PySem.Str.ofString "indent_level") 341), (.ref 69)⟩, ⟨PyData.keyHash P (PySem.Str.ofString "equal"), (.str (PySem.Str.ofString "equal") 349), (.ref 76)⟩, ⟨PyData.keyHash P (PySem.Str.ofString "not_equal_witness"), (.str (PySem.Str.ofString "not_equal_witness") 357), (.ref 83)⟩, ⟨PyData.keyHash P (PySem.Str.ofString "less"), (.str (PySem.Str.ofString "less") 365), (.ref 90)⟩, ⟨PyData.keyHash P (PySem.Str.ofString "not_less_witness"), (.str (PySem.Str.ofString "not_less_witness") 373), (.ref 97)⟩, ⟨PyData.keyHash P (PySem.Str.ofString "__static_attributes__"), (.str (PySem.Str.ofString "__static_attributes__") 379), (.ref 98)⟩, ⟨PyData.keyHash P (PySem.Str.ofString "__dict__"), (.str (PySem.Str.ofString "__dict__") 381), (.ref 101)⟩, ⟨PyData.keyHash P (PySem.Str.ofString "__weakref__"), (.str (PySem.Str.ofString "__weakref__") 383), (.ref 102)⟩, ⟨PyData.keyHash P (PySem.Str.ofString "__doc__"), (.str (PySem.Str.ofString "__doc__") 384), .none⟩]) 4), List.toArray []⟩
noncomputable def o100 (P : Params) : Obj := ⟨(.type "type"), none, (.cls { name := (PySem.Str.ofString "Whitespace"), bases := [(.type "object")], mro := [(.ref 100), (.type "object")], ns := 99, qualname := (PySem.Str.ofString "Whitespace"), hasDict := true, slotNames := [], subclasses := [], abstract := false, collection := none, hasDel := false }), List.toArray [none, none, (some (.str (PySem.Str.ofString "Whitespace") 291)), (some (.str (PySem.Str.ofString "Whitespace") 299)), (some (.builtin "object.__new__")), (some (.bool true))]⟩
noncomputable def o101 (P : Params) : Obj := ⟨(.type "getset_descriptor"), none, (.fields (List.toArray [(.str (PySem.Str.ofString "__dict__") 380), (.ref 100), (.builtin "function.__dict__"), (.builtin "function.__dict__#set")])), List.toArray []⟩
noncomputable def o102 (P : Params) : Obj := ⟨(.type "getset_descriptor"), none, (.fields (List.toArray [(.str (PySem.Str.ofString "__weakref__") 382), (.ref 100), (.builtin "ExceptionGroup.__weakref__"), .none])), List.toArray []⟩
noncomputable def o103 (P : Params) : Obj := ⟨(.type "super"), none, (.fields (List.toArray [(.ref 100), (.ref 100), (.ref 100)])), List.toArray []⟩
noncomputable def o104 (P : Params) : Obj := ⟨(.type "builtin_function_or_method"), none, (.fields (List.toArray [(.builtin "object.__init_subclass__"), (.ref 100)])), List.toArray []⟩
noncomputable def TG2 (P : Params) : BT := (.node (o0 P) (.node (o1 P) (.node (o3_2 P) (.node (o7 P) (.node (o15 P) (.node (o31 P) (.node (o63 P) .nil .nil) (.node (o95 P) .nil .nil)) (.node (o47 P) (.node (o79 P) .nil .nil) .nil)) (.node (o23 P) (.node (o39 P) (.node (o71 P) .nil .nil) (.node (o103 P) .nil .nil)) (.node (o55 P) (.node (o87 P) .nil .nil) .nil))) (.node (o11_1 P) (.node (o19 P) (.node (o35 P) (.node (o67 P) .nil .nil) (.node (o99 P) .nil .nil)) (.node (o51 P) (.node (o83 P) .nil .nil) .nil)) (.node (o27 P) (.node (o43 P) (.node (o75 P) .nil .nil) .nil) (.node (o59 P) (.node (o91 P) .nil .nil) .nil)))) (.node (o5 P) (.node (o9 P) (.node (o17 P) (.node (o33 P) (.node (o65 P) .nil .nil) (.node (o97 P) .nil .nil)) (.node (o49 P) (.node (o81 P) .nil .nil) .nil)) (.node (o25 P) (.node (o41 P) (.node (o73 P) .nil .nil) .nil) (.node (o57 P) (.node (o89 P) .nil .nil) .nil))) (.node (o13 P) (.node (o21 P) (.node (o37 P) (.node (o69 P) .nil .nil) (.node (o101 P) .nil .nil)) (.node (o53 P) (.node (o85 P) .nil .nil) .nil)) (.node (o29_2 P) (.node (o45 P) (.node (o77 P) .nil .nil) .nil) (.node (o61 P) (.node (o93 P) .nil .nil) .nil))))) (.node (o2 P) (.node (o4 P) (.node (o8 P) (.node (o16 P) (.node (o32 P) (.node (o64 P) .nil .nil) (.node (o96 P) .nil .nil)) (.node (o48 P) (.node (o80 P) .nil .nil) .nil)) (.node (o24 P) (.node (o40 P) (.node (o72 P) .nil .nil) (.node (o104 P) .nil .nil)) (.node (o56 P) (.node (o88 P) .nil .nil) .nil))) (.node (o12 P) (.node (o20 P) (.node (o36 P) (.node (o68 P) .nil .nil) (.node (o100 P) .nil .nil)) (.node (o52 P) (.node (o84 P) .nil .nil) .nil)) (.node (o28 P) (.node (o44 P) (.node (o76 P) .nil .nil) .nil) (.node (o60 P) (.node (o92 P) .nil .nil) .nil)))) (.node (o6 P) (.node (o10 P) (.node (o18 P) (.node (o34 P) (.node (o66 P) .nil .nil) (.node (o98 P) .nil .nil)) (.node (o50 P) (.node (o82 P) .nil .nil) .nil)) (.node (o26 P) (.node (o42 P) (.node (o74 P) .nil .nil) .nil) (.node (o58 P) (.node (o90 P) .nil .nil) .nil))) (.node (o14 P) (.node (o22 P) (.node (o38 P) (.node (o70 P) .nil .nil) (.node (o102 P) .nil .nil)) (.node (o54 P) (.node (o86 P) .nil .nil) .nil)) (.node (o30 P) (.node (o46 P) (.node (o78 P) .nil .nil) .nil) (.node (o62 P) (.node (o94 P) .nil .nil) .nil))))))
noncomputable def SG2 (w : World) (os : OsState) : SharedT := ⟨TG2 w.params, 105, {}, Array.mk [], {}, 387, os⟩
noncomputable def o3_3 (P : Params) : Obj := ⟨(.type "dict"), none, (.dict (List.toArray [⟨PyData.keyHash P (PySem.Str.ofString "__name__"), (.str (PySem.Str.ofString "__name__") 165), (.str (PySem.Str.ofString "cpy313.stringprep") 463)⟩, ⟨PyData.keyHash P (PySem.Str.ofString "__doc__"), (.str (PySem.Str.ofString "__doc__") 166), .none⟩, ⟨PyData.keyHash P (PySem.Str.ofString "__package__"), (.str (PySem.Str.ofString "__package__") 167), .none⟩, ⟨PyData.keyHash P (PySem.Str.ofString "__loader__"), (.str (PySem.Str.ofString "__loader__") 168), (.builtin "__main__.__loader__#opaque")⟩, ⟨PyData.keyHash P (PySem.Str.ofString "__spec__"), (.str (PySem.Str.ofString "__spec__") 169), .none⟩, ⟨PyData.keyHash P (PySem.Str.ofString "__annotations__"), (.str (PySem.Str.ofString "__annotations__") 170), (.ref 6)⟩, ⟨PyData.keyHash P (PySem.Str.ofString "__builtins__"), (.str (PySem.Str.ofString "__builtins__") 171), (.ref 4)⟩, ⟨PyData.keyHash P (PySem.Str.ofString "__file__"), (.str (PySem.Str.ofString "__file__") 173), (.str (PySem.Str.ofString "/claim/cut.py") 172)⟩, ⟨PyData.keyHash P (PySem.Str.ofString "__cached__"), (.str (PySem.Str.ofString "__cached__") 174), .none⟩, ⟨PyData.keyHash P (PySem.Str.ofString "_sre"), (.str (PySem.Str.ofString "_sre") 275), (.ref 12)⟩, ⟨PyData.keyHash P (PySem.Str.ofString "_wall"), (.str (PySem.Str.ofString "_wall") 288), (.ref 38)⟩, ⟨PyData.keyHash P (PySem.Str.ofString "Whitespace"), (.str (PySem.Str.ofString "Whitespace") 386), (.ref 100)⟩, ⟨PyData.keyHash P (PySem.Str.ofString "_twin_re_1"), (.str (PySem.Str.ofString "_twin_re_1") 404), (.ref 109)⟩, ⟨PyData.keyHash P (PySem.Str.ofString "_twin_re_2"), (.str (PySem.Str.ofString "_twin_re_2") 446), (.ref 114)⟩, ⟨PyData.keyHash P (PySem.Str.ofString "CRLF"), (.str (PySem.Str.ofString "CRLF") 448), (.str (PySem.Str.mk (Array.mk [nat_lit 13, nat_lit 10])) 447)⟩, ⟨PyData.keyHash P (PySem.Str.ofString "quotedata"), (.str (PySem.Str.ofString "quotedata") 455), (.ref 121)⟩, ⟨PyData.keyHash P (PySem.Str.ofString "_fix_eols"), (.str (PySem.Str.ofString "_fix_eols") 462), (.ref 128)⟩]) 17), List.toArray []⟩
noncomputable def o29_3 (P : Params) : Obj := ⟨.none, none, (.fields (List.toArray [(.int (2) 0), (.int (0) 0), (.ref 37), (.int (6) 0), (.int (0) 0), (.ref 44), (.int (57) 0), (.int (0) 0), (.ref 120), (.int (59) 0), (.int (0) 0), (.ref 127)])), List.toArray []⟩
noncomputable def o105 (P : Params) : Obj := ⟨(.type "list"), none, (.seq (List.toArray [(.int (14) 392), (.int (4) 393), (.int (0) 394), (.int (1) 395), (.int (1) 396), (.int (6) 397), (.int (1) 398), (.int (16) 399), (.int (46) 400), (.int (1) 401)]) 0), List.toArray []⟩
noncomputable def o106 (P : Params) : Obj := ⟨(.type "dict"), none, (.dict (List.toArray []) 0), List.toArray []⟩
noncomputable def o107 (P : Params) : Obj := ⟨(.type "tuple"), none, (.seq (List.toArray [.none]) 0), List.toArray []⟩
noncomputable def o108 (P : Params) : Obj := ⟨(.type "tuple"), none, (.seq (List.toArray [(.int (14) 0), (.int (4) 0), (.int (0) 0), (.int (1) 0), (.int (1) 0), (.int (6) 0), (.int (1) 0), (.int (16) 0), (.int (46) 0), (.int (1) 0)]) 0), List.toArray []⟩
noncomputable def o109 (P : Params) : Obj := ⟨(.type "re.Pattern"), none, (.fields (List.toArray [(.str (PySem.Str.ofString "(?m)^\\.") 390), (.int (40) 403), (.int (0) 0), .none, .none, (.ref 108), (.int (0) 0)])), List.toArray []⟩
noncomputable def o110 (P : Params) : Obj := ⟨(.type "list"), none, (.seq (List.toArray [(.int (14) 408), (.int (9) 409), (.int (4) 410), (.int (1) 411), (.int (2) 412), (.int (16) 413), (.int (10) 414), (.int (16) 415), (.int (13) 416), (.int (0) 417), (.int (7) 418), (.int (7) 419), (.int (16) 420), (.int (13) 421), (.int (16) 422), (.int (10) 423), (.int (15) 424), (.int (18) 425), (.int (5) 426), (.int (16) 427), (.int (10) 428), (.int (15) 429), (.int (13) 430), (.int (11) 431), (.int (16) 432), (.int (13) 433), (.int (5) 434), (.int (5) 435), (.int (0) 436), (.int (16) 437), (.int (10) 438), (.int (1) 439), (.int (15) 440), (.int (2) 441), (.int (0) 442), (.int (1) 443)]) 0), List.toArray []⟩
noncomputable def o111 (P : Params) : Obj := ⟨(.type "dict"), none, (.dict (List.toArray []) 0), List.toArray []⟩
noncomputable def o112 (P : Params) : Obj := ⟨(.type "tuple"), none, (.seq (List.toArray [.none]) 0), List.toArray []⟩
noncomputable def o113 (P : Params) : Obj := ⟨(.type "tuple"), none, (.seq (List.toArray [(.int (14) 0), (.int (9) 0), (.int (4) 0), (.int (1) 0), (.int (2) 0), (.int (16) 0), (.int (10) 0), (.int (16) 0), (.int (13) 0), (.int (0) 0), (.int (7) 0), (.int (7) 0), (.int (16) 0), (.int (13) 0), (.int (16) 0), (.int (10) 0), (.int (15) 0), (.int (18) 0), (.int (5) 0), (.int (16) 0), (.int (10) 0), (.int (15) 0), (.int (13) 0), (.int (11) 0), (.int (16) 0), (.int (13) 0), (.int (5) 0), (.int (5) 0), (.int (0) 0), (.int (16) 0), (.int (10) 0), (.int (1) 0), (.int (15) 0), (.int (2) 0), (.int (0) 0), (.int (1) 0)]) 0), List.toArray []⟩
noncomputable def o114 (P : Params) : Obj := ⟨(.type "re.Pattern"), none, (.fields (List.toArray [(.str (PySem.Str.ofString "(?:\\r\\n|\\n|\\r(?!\\n))") 406), (.int (32) 445), (.int (0) 0), .none, .none, (.ref 113), (.int (0) 0)])), List.toArray []⟩
noncomputable def o115 (P : Params) : Obj := ⟨(.type "tuple"), none, (.seq (List.toArray []) 0), List.toArray []⟩
noncomputable def o116 (P : Params) : Obj := ⟨.none, none, (.fields (List.toArray [])), List.toArray []⟩
noncomputable def o117 (P : Params) : Obj := ⟨(.type "tuple"), none, (.seq (List.toArray [(.str (PySem.Str.ofString "data") 452)]) 0), List.toArray []⟩
noncomputable def o118 (P : Params) : Obj := ⟨(.type "tuple"), none, (.seq (List.toArray []) 0), List.toArray []⟩
noncomputable def o119 (P : Params) : Obj := ⟨.none, none, (.func fn0_quotedata), List.toArray []⟩
noncomputable def o120 (P : Params) : Obj := ⟨(.type "code"), none, (.fields (List.toArray [(.str (PySem.Str.ofString "quotedata") 449), (.str (PySem.Str.ofString "quotedata") 450), (.str (PySem.Str.ofString "/claim/cut.py") 451), (.int (57) 0), (.int (1) 0), (.int (0) 0), (.int (0) 0), (.int (3) 0), (.ref 115), (.bool true), (.int (276) 0), (.ref 116), .none, (.ref 117), (.ref 118), (.ref 119), (.int (453) 0), (.int (57) 0), (.str (PySem.Str.ofString "/claim/cut.py") 454)])), List.toArray []⟩
noncomputable def o121 (P : Params) : Obj := ⟨(.type "function"), none, (.func fn_quotedata), List.toArray []⟩
noncomputable def o122 (P : Params) : Obj := ⟨(.type "tuple"), none, (.seq (List.toArray []) 0), List.toArray []⟩
noncomputable def o123 (P : Params) : Obj := ⟨.none, none, (.fields (List.toArray [])), List.toArray []⟩
noncomputable def o124 (P : Params) : Obj := ⟨(.type "tuple"), none, (.seq (List.toArray [(.str (PySem.Str.ofString "data") 459)]) 0), List.toArray []⟩
noncomputable def o125 (P : Params) : Obj := ⟨(.type "tuple"), none, (.seq (List.toArray []) 0), List.toArray []⟩
noncomputable def o126 (P : Params) : Obj := ⟨.none, none, (.func fn0__fix_eols), List.toArray []⟩
noncomputable def o127 (P : Params) : Obj := ⟨(.type "code"), none, (.fields (List.toArray [(.str (PySem.Str.ofString "_fix_eols") 456), (.str (PySem.Str.ofString "_fix_eols") 457), (.str (PySem.Str.ofString "/claim/cut.py") 458), (.int (59) 0), (.int (1) 0), (.int (0) 0), (.int (0) 0), (.int (3) 0), (.ref 122), (.bool true), (.int (276) 0), (.ref 123), .none, (.ref 124), (.ref 125), (.ref 126), (.int (460) 0), (.int (59) 0), (.str (PySem.Str.ofString "/claim/cut.py") 461)])), List.toArray []⟩
noncomputable def o128 (P : Params) : Obj := ⟨(.type "function"), none, (.func fn__fix_eols), List.toArray []⟩
noncomputable def TG3 (P : Params) : BT := (.node (o0 P) (.node (o1 P) (.node (o3_3 P) (.node (o7 P) (.node (o15 P) (.node (o31 P) (.node (o63 P) (.node (o127 P) .nil .nil) .nil) (.node (o95 P) .nil .nil)) (.node (o47 P) (.node (o79 P) .nil .nil) (.node (o111 P) .nil .nil))) (.node (o23 P) (.node (o39 P) (.node (o71 P) .nil .nil) (.node (o103 P) .nil .nil)) (.node (o55 P) (.node (o87 P) .nil .nil) (.node (o119 P) .nil .nil)))) (.node (o11_1 P) (.node (o19 P) (.node (o35 P) (.node (o67 P) .nil .nil) (.node (o99 P) .nil .nil)) (.node (o51 P) (.node (o83 P) .nil .nil) (.node (o115 P) .nil .nil))) (.node (o27 P) (.node (o43 P) (.node (o75 P) .nil .nil) (.node (o107 P) .nil .nil)) (.node (o59 P) (.node (o91 P) .nil .nil) (.node (o123 P) .nil .nil))))) (.node (o5 P) (.node (o9 P) (.node (o17 P) (.node (o33 P) (.node (o65 P) .nil .nil) (.node (o97 P) .nil .nil)) (.node (o49 P) (.node (o81 P) .nil .nil) (.node (o113 P) .nil .nil))) (.node (o25 P) (.node (o41 P) (.node (o73 P) .nil .nil) (.node (o105 P) .nil .nil)) (.node (o57 P) (.node (o89 P) .nil .nil) (.node (o121 P) .nil .nil)))) (.node (o13 P) (.node (o21 P) (.node (o37 P) (.node (o69 P) .nil .nil) (.node (o101 P) .nil .nil)) (.node (o53 P) (.node (o85 P) .nil .nil) (.node (o117 P) .nil .nil))) (.node (o29_3 P) (.node (o45 P) (.node (o77 P) .nil .nil) (.node (o109 P) .nil .nil)) (.node (o61 P) (.node (o93 P) .nil .nil) (.node (o125 P) .nil .nil)))))) (.node (o2 P) (.node (o4 P) (.node (o8 P) (.node (o16 P) (.node (o32 P) (.node (o64 P) (.node (o128 P) .nil .nil) .nil) (.node (o96 P) .nil .nil)) (.node (o48 P) (.node (o80 P) .nil .nil) (.node (o112 P) .nil .nil))) (.node (o24 P) (.node (o40 P) (.node (o72 P) .nil .nil) (.node (o104 P) .nil .nil)) (.node (o56 P) (.node (o88 P) .nil .nil) (.node (o120 P) .nil .nil)))) (.node (o12 P) (.node (o20 P) (.node (o36 P) (.node (o68 P) .nil .nil) (.node (o100 P) .nil .nil)) (.node (o52 P) (.node (o84 P) .nil .nil) (.node (o116 P) .nil .nil))) (.node (o28 P) (.node (o44 P) (.node (o76 P) .nil .nil) (.node (o108 P) .nil .nil)) (.node (o60 P) (.node (o92 P) .nil .nil) (.node (o124 P) .nil .nil))))) (.node (o6 P) (.node (o10 P) (.node (o18 P) (.node (o34 P) (.node (o66 P) .nil .nil) (.node (o98 P) .nil .nil)) (.node (o50 P) (.node (o82 P) .nil .nil) (.node (o114 P) .nil .nil))) (.node (o26 P) (.node (o42 P) (.node (o74 P) .nil .nil) (.node (o106 P) .nil .nil)) (.node (o58 P) (.node (o90 P) .nil .nil) (.node (o122 P) .nil .nil)))) (.node (o14 P) (.node (o22 P) (.node (o38 P) (.node (o70 P) .nil .nil) (.node (o102 P) .nil .nil)) (.node (o54 P) (.node (o86 P) .nil .nil) (.node (o118 P) .nil .nil))) (.node (o30 P) (.node (o46 P) (.node (o78 P) .nil .nil) (.node (o110 P) .nil .nil)) (.node (o62 P) (.node (o94 P) .nil .nil) (.node (o126 P) .nil .nil)))))))
noncomputable def SG3 (w : World) (os : OsState) : SharedT := ⟨TG3 w.params, 129, {}, Array.mk [], {}, 465, os⟩
noncomputable def o3_4 (P : Params) : Obj := ⟨(.type "dict"), none, (.dict (List.toArray [⟨PyData.keyHash P (PySem.Str.ofString "__name__"), (.str (PySem.Str.ofString "__name__") 165), (.str (PySem.Str.ofString "cpy313.stringprep") 463)⟩, ⟨PyData.keyHash P (PySem.Str.ofString "__doc__"), (.str (PySem.Str.ofString "__doc__") 166), .none⟩, ⟨PyData.keyHash P (PySem.Str.ofString "__package__"), (.str (PySem.Str.ofString "__package__") 167), .none⟩, ⟨PyData.keyHash P (PySem.Str.ofString "__loader__"), (.str (PySem.Str.ofString "__loader__") 168), (.builtin "__main__.__loader__#opaque")⟩, ⟨PyData.keyHash P (PySem.Str.ofString "__spec__"), (.str (PySem.Str.ofString "__spec__") 169), .none⟩, ⟨PyData.keyHash P (PySem.Str.ofString "__annotations__"), (.str (PySem.Str.ofString "__annotations__") 170), (.ref 6)⟩, ⟨PyData.keyHash P (PySem.Str.ofString "__builtins__"), (.str (PySem.Str.ofString "__builtins__") 171), (.ref 4)⟩, ⟨PyData.keyHash P (PySem.Str.ofString "__file__"), (.str (PySem.Str.ofString "__file__") 173), (.str (PySem.Str.ofString "/claim/cut.py") 172)⟩, ⟨PyData.keyHash P (PySem.Str.ofString "__cached__"), (.str (PySem.Str.ofString "__cached__") 174), .none⟩, ⟨PyData.keyHash P (PySem.Str.ofString "_sre"), (.str (PySem.Str.ofString "_sre") 275), (.ref 12)⟩, ⟨PyData.keyHash P (PySem.Str.ofString "_wall"), (.str (PySem.Str.ofString "_wall") 288), (.ref 38)⟩, ⟨PyData.keyHash P (PySem.Str.ofString "Whitespace"), (.str (PySem.Str.ofString "Whitespace") 386), (.ref 100)⟩, ⟨PyData.keyHash P (PySem.Str.ofString "_twin_re_1"), (.str (PySem.Str.ofString "_twin_re_1") 404), (.ref 109)⟩, ⟨PyData.keyHash P (PySem.Str.ofString "_twin_re_2"), (.str (PySem.Str.ofString "_twin_re_2") 446), (.ref 114)⟩, ⟨PyData.keyHash P (PySem.Str.ofString "CRLF"), (.str (PySem.Str.ofString "CRLF") 448), (.str (PySem.Str.mk (Array.mk [nat_lit 13, nat_lit 10])) 447)⟩, ⟨PyData.keyHash P (PySem.Str.ofString "quotedata"), (.str (PySem.Str.ofString "quotedata") 455), (.ref 121)⟩, ⟨PyData.keyHash P (PySem.Str.ofString "_fix_eols"), (.str (PySem.Str.ofString "_fix_eols") 462), (.ref 128)⟩, ⟨PyData.keyHash P (PySem.Str.ofString "b1_set"), (.str (PySem.Str.ofString "b1_set") 524), (.ref 136)⟩]) 18), List.toArray []⟩
noncomputable def o129 (P : Params) : Obj := ⟨(.type "list"), none, (.seq (List.toArray [(.int (173) 465), (.int (847) 466), (.int (6150) 467), (.int (6155) 468), (.int (6156) 469), (.int (6157) 470), (.int (8203) 471), (.int (8204) 472), (.int (8205) 473), (.int (8288) 474), (.int (65279) 475)]) 0), List.toArray []⟩
noncomputable def o130 (P : Params) : Obj := ⟨(.type "range"), none, (.fields (List.toArray [(.int (65024) 476), (.int (65040) 477), (.int (1) 478)])), List.toArray []⟩
noncomputable def o131 (P : Params) : Obj := ⟨(.type "list"), none, (.seq (List.toArray [(.int (65024) 481), (.int (65025) 482), (.int (65026) 483), (.int (65027) 484), (.int (65028) 485), (.int (65029) 486), (.int (65030) 487), (.int (65031) 488), (.int (65032) 489), (.int (65033) 490), (.int (65034) 491), (.int (65035) 492), (.int (65036) 493), (.int (65037) 494), (.int (65038) 495), (.int (65039) 496)]) 18), List.toArray []⟩
noncomputable def o132 (P : Params) : Obj := ⟨(.type "range_iterator"), none, (.fields (List.toArray [(.int (65040) 0), (.int (0) 0), (.int (1) 0)])), List.toArray []⟩
noncomputable def o133 (P : Params) : Obj := ⟨(.type "tuple"), none, (.seq (List.toArray []) 0), List.toArray []⟩
noncomputable def o134 (P : Params) : Obj := ⟨(.type "StopIteration"), none, (.fields (List.toArray [(.ref 133), .none, .none, .none, (.bool false), .none])), List.toArray []⟩
noncomputable def o135 (P : Params) : Obj := ⟨(.type "list"), none, (.seq (List.toArray [(.int (173) 465), (.int (847) 466), (.int (6150) 467), (.int (6155) 468), (.int (6156) 469), (.int (6157) 470), (.int (8203) 471), (.int (8204) 472), (.int (8205) 473), (.int (8288) 474), (.int (65279) 475), (.int (65024) 481), (.int (65025) 482), (.int (65026) 483), (.int (65027) 484), (.int (65028) 485), (.int (65029) 486), (.int (65030) 487), (.int (65031) 488), (.int (65032) 489), (.int (65033) 490), (.int (65034) 491), (.int (65035) 492), (.int (65036) 493), (.int (65037) 494), (.int (65038) 495), (.int (65039) 496)]) 0), List.toArray []⟩
noncomputable def o136 (P : Params) : Obj := ⟨(.type "set"), none, (.set (List.toArray [(65024, (.int (65024) 481)), (65025, (.int (65025) 482)), (65026, (.int (65026) 483)), (65027, (.int (65027) 484)), (65028, (.int (65028) 485)), (65029, (.int (65029) 486)), (6150, (.int (6150) 467)), (65030, (.int (65030) 487)), (65031, (.int (65031) 488)), (65032, (.int (65032) 489)), (65033, (.int (65033) 490)), (6155, (.int (6155) 468)), (6156, (.int (6156) 469)), (6157, (.int (6157) 470)), (8203, (.int (8203) 471)), (8204, (.int (8204) 472)), (8205, (.int (8205) 473)), (65034, (.int (65034) 491)), (65035, (.int (65035) 492)), (65036, (.int (65036) 493)), (65037, (.int (65037) 494)), (65038, (.int (65038) 495)), (65039, (.int (65039) 496)), (173, (.int (173) 465)), (847, (.int (847) 466)), (8288, (.int (8288) 474)), (65279, (.int (65279) 475))]) 29 ⟨127, List.toArray [0, 1, 2, 3, 4, 5, 6, 7, 8, 9, 10, 11, 12, 13, 14, 15, 16, 17, 18, 19, 20, 21, 22, 45, 79, 96, 127], List.toArray [], 0, !P.followText "set-order", 2, true⟩), List.toArray []⟩
noncomputable def o137 (P : Params) : Obj := ⟨(.type "list_iterator"), none, (.fields (List.toArray [.none, (.int (27) 0)])), List.toArray []⟩
noncomputable def o138 (P : Params) : Obj := ⟨(.type "tuple"), none, (.seq (List.toArray []) 0), List.toArray []⟩
noncomputable def o139 (P : Params) : Obj := ⟨(.type "StopIteration"), none, (.fields (List.toArray [(.ref 138), .none, .none, .none, (.bool false), .none])), List.toArray []⟩
noncomputable def TG4 (P : Params) : BT := (.node (o0 P) (.node (o1 P) (.node (o3_4 P) (.node (o7 P) (.node (o15 P) (.node (o31 P) (.node (o63 P) (.node (o127 P) .nil .nil) .nil) (.node (o95 P) .nil .nil)) (.node (o47 P) (.node (o79 P) .nil .nil) (.node (o111 P) .nil .nil))) (.node (o23 P) (.node (o39 P) (.node (o71 P) (.node (o135 P) .nil .nil) .nil) (.node (o103 P) .nil .nil)) (.node (o55 P) (.node (o87 P) .nil .nil) (.node (o119 P) .nil .nil)))) (.node (o11_1 P) (.node (o19 P) (.node (o35 P) (.node (o67 P) (.node (o131 P) .nil .nil) .nil) (.node (o99 P) .nil .nil)) (.node (o51 P) (.node (o83 P) .nil .nil) (.node (o115 P) .nil .nil))) (.node (o27 P) (.node (o43 P) (.node (o75 P) (.node (o139 P) .nil .nil) .nil) (.node (o107 P) .nil .nil)) (.node (o59 P) (.node (o91 P) .nil .nil) (.node (o123 P) .nil .nil))))) (.node (o5 P) (.node (o9 P) (.node (o17 P) (.node (o33 P) (.node (o65 P) (.node (o129 P) .nil .nil) .nil) (.node (o97 P) .nil .nil)) (.node (o49 P) (.node (o81 P) .nil .nil) (.node (o113 P) .nil .nil))) (.node (o25 P) (.node (o41 P) (.node (o73 P) (.node (o137 P) .nil .nil) .nil) (.node (o105 P) .nil .nil)) (.node (o57 P) (.node (o89 P) .nil .nil) (.node (o121 P) .nil .nil)))) (.node (o13 P) (.node (o21 P) (.node (o37 P) (.node (o69 P) (.node (o133 P) .nil .nil) .nil) (.node (o101 P) .nil .nil)) (.node (o53 P) (.node (o85 P) .nil .nil) (.node (o117 P) .nil .nil))) (.node (o29_3 P) (.node (o45 P) (.node (o77 P) .nil .nil) (.node (o109 P) .nil .nil)) (.node (o61 P) (.node (o93 P) .nil .nil) (.node (o125 P) .nil .nil)))))) (.node (o2 P) (.node (o4 P) (.node (o8 P) (.node (o16 P) (.node (o32 P) (.node (o64 P) (.node (o128 P) .nil .nil) .nil) (.node (o96 P) .nil .nil)) (.node (o48 P) (.node (o80 P) .nil .nil) (.node (o112 P) .nil .nil))) (.node (o24 P) (.node (o40 P) (.node (o72 P) (.node (o136 P) .nil .nil) .nil) (.node (o104 P) .nil .nil)) (.node (o56 P) (.node (o88 P) .nil .nil) (.node (o120 P) .nil .nil)))) (.node (o12 P) (.node (o20 P) (.node (o36 P) (.node (o68 P) (.node (o132 P) .nil .nil) .nil) (.node (o100 P) .nil .nil)) (.node (o52 P) (.node (o84 P) .nil .nil) (.node (o116 P) .nil .nil))) (.node (o28 P) (.node (o44 P) (.node (o76 P) .nil .nil) (.node (o108 P) .nil .nil)) (.node (o60 P) (.node (o92 P) .nil .nil) (.node (o124 P) .nil .nil))))) (.node (o6 P) (.node (o10 P) (.node (o18 P) (.node (o34 P) (.node (o66 P) (.node (o130 P) .nil .nil) .nil) (.node (o98 P) .nil .nil)) (.node (o50 P) (.node (o82 P) .nil .nil) (.node (o114 P) .nil .nil))) (.node (o26 P) (.node (o42 P) (.node (o74 P) (.node (o138 P) .nil .nil) .nil) (.node (o106 P) .nil .nil)) (.node (o58 P) (.node (o90 P) .nil .nil) (.node (o122 P) .nil .nil)))) (.node (o14 P) (.node (o22 P) (.node (o38 P) (.node (o70 P) (.node (o134 P) .nil .nil) .nil) (.node (o102 P) .nil .nil)) (.node (o54 P) (.node (o86 P) .nil .nil) (.node (o118 P) .nil .nil))) (.node (o30 P) (.node (o46 P) (.node (o78 P) .nil .nil) (.node (o110 P) .nil .nil)) (.node (o62 P) (.node (o94 P) .nil .nil) (.node (o126 P) .nil .nil)))))))
noncomputable def SG4 (w : World) (os : OsState) : SharedT := ⟨TG4 w.params, 140, {}, Array.mk [], {}, 525, os⟩
noncomputable def o3_5 (P : Params) : Obj := ⟨(.type "dict"), none, (.dict (List.toArray [⟨PyData.keyHash P (PySem.Str.ofString "__name__"), (.str (PySem.Str.ofString "__name__") 165), (.str (PySem.Str.ofString "cpy313.stringprep") 463)⟩, ⟨PyData.keyHash P (PySem.Str.ofString "__doc__"), (.str (PySem.Str.ofString "__doc__") 166), .none⟩, ⟨PyData.keyHash P (PySem.Str.ofString "__package__"), (.str (PySem.Str.ofString "__package__") 167), .none⟩, ⟨PyData.keyHash P (PySem.Str.ofString "__loader__"), (.str (PySem.Str.ofString "__loader__") 168), (.builtin "__main__.__loader__#opaque")⟩, ⟨PyData.keyHash P (PySem.Str.ofString "__spec__"), (.str (PySem.Str.ofString "__spec__") 169), .none⟩, ⟨PyData.keyHash P (PySem.Str.ofString "__annotations__"), (.str (PySem.Str.ofString "__annotations__") 170), (.ref 6)⟩, ⟨PyData.keyHash P (PySem.Str.ofString "__builtins__"), (.str (PySem.Str.ofString "__builtins__") 171), (.ref 4)⟩, ⟨PyData.keyHash P (PySem.Str.ofString "__file__"), (.str (PySem.Str.ofString "__file__") 173), (.str (PySem.Str.ofString "/claim/cut.py") 172)⟩, ⟨PyData.keyHash P (PySem.Str.ofString "__cached__"), (.str (PySem.Str.ofString "__cached__") 174), .none⟩, ⟨PyData.keyHash P (PySem.Str.ofString "_sre"), (.str (PySem.Str.ofString "_sre") 275), (.ref 12)⟩, ⟨PyData.keyHash P (PySem.Str.ofString "_wall"), (.str (PySem.Str.ofString "_wall") 288), (.ref 38)⟩, ⟨PyData.keyHash P (PySem.Str.ofString "Whitespace"), (.str (PySem.Str.ofString "Whitespace") 386), (.ref 100)⟩, ⟨PyData.keyHash P (PySem.Str.ofString "_twin_re_1"), (.str (PySem.Str.ofString "_twin_re_1") 404), (.ref 109)⟩, ⟨PyData.keyHash P (PySem.Str.ofString "_twin_re_2"), (.str (PySem.Str.ofString "_twin_re_2") 446), (.ref 114)⟩, ⟨PyData.keyHash P (PySem.Str.ofString "CRLF"), (.str (PySem.Str.ofString "CRLF") 448), (.str (PySem.Str.mk (Array.mk [nat_lit 13, nat_lit 10])) 447)⟩, ⟨PyData.keyHash P (PySem.Str.ofString "quotedata"), (.str (PySem.Str.ofString "quotedata") 455), (.ref 121)⟩, ⟨PyData.keyHash P (PySem.Str.ofString "_fix_eols"), (.str (PySem.Str.ofString "_fix_eols") 462), (.ref 128)⟩, ⟨PyData.keyHash P (PySem.Str.ofString "b1_set"), (.str (PySem.Str.ofString "b1_set") 524), (.ref 136)⟩, ⟨PyData.keyHash P (PySem.Str.ofString "in_table_b1"), (.str (PySem.Str.ofString "in_table_b1") 531), (.ref 146)⟩]) 19), List.toArray []⟩
noncomputable def o29_4 (P : Params) : Obj := ⟨.none, none, (.fields (List.toArray [(.int (2) 0), (.int (0) 0), (.ref 37), (.int (6) 0), (.int (0) 0), (.ref 44), (.int (57) 0), (.int (0) 0), (.ref 120), (.int (59) 0), (.int (0) 0), (.ref 127), (.int (63) 0), (.int (0) 0), (.ref 145)])), List.toArray []⟩
noncomputable def o140 (P : Params) : Obj := ⟨(.type "tuple"), none, (.seq (List.toArray []) 0), List.toArray []⟩
noncomputable def o141 (P : Params) : Obj := ⟨.none, none, (.fields (List.toArray [])), List.toArray []⟩
noncomputable def o142 (P : Params) : Obj := ⟨(.type "tuple"), none, (.seq (List.toArray [(.str (PySem.Str.ofString "code") 528)]) 0), List.toArray []⟩
noncomputable def o143 (P : Params) : Obj := ⟨(.type "tuple"), none, (.seq (List.toArray []) 0), List.toArray []⟩
noncomputable def o144 (P : Params) : Obj := ⟨.none, none, (.func fn0_in_table_b1), List.toArray []⟩
noncomputable def o145 (P : Params) : Obj := ⟨(.type "code"), none, (.fields (List.toArray [(.str (PySem.Str.ofString "in_table_b1") 525), (.str (PySem.Str.ofString "in_table_b1") 526), (.str (PySem.Str.ofString "/claim/cut.py") 527), (.int (63) 0), (.int (1) 0), (.int (0) 0), (.int (0) 0), (.int (3) 0), (.ref 140), (.bool true), (.int (276) 0), (.ref 141), .none, (.ref 142), (.ref 143), (.ref 144), (.int (529) 0), (.int (63) 0), (.str (PySem.Str.ofString "/claim/cut.py") 530)])), List.toArray []⟩
noncomputable def o146 (P : Params) : Obj := ⟨(.type "function"), none, (.func fn_in_table_b1), List.toArray []⟩
noncomputable def TG5 (P : Params) : BT := (.node (o0 P) (.node (o1 P) (.node (o3_5 P) (.node (o7 P) (.node (o15 P) (.node (o31 P) (.node (o63 P) (.node (o127 P) .nil .nil) .nil) (.node (o95 P) .nil .nil)) (.node (o47 P) (.node (o79 P) (.node (o143 P) .nil .nil) .nil) (.node (o111 P) .nil .nil))) (.node (o23 P) (.node (o39 P) (.node (o71 P) (.node (o135 P) .nil .nil) .nil) (.node (o103 P) .nil .nil)) (.node (o55 P) (.node (o87 P) .nil .nil) (.node (o119 P) .nil .nil)))) (.node (o11_1 P) (.node (o19 P) (.node (o35 P) (.node (o67 P) (.node (o131 P) .nil .nil) .nil) (.node (o99 P) .nil .nil)) (.node (o51 P) (.node (o83 P) .nil .nil) (.node (o115 P) .nil .nil))) (.node (o27 P) (.node (o43 P) (.node (o75 P) (.node (o139 P) .nil .nil) .nil) (.node (o107 P) .nil .nil)) (.node (o59 P) (.node (o91 P) .nil .nil) (.node (o123 P) .nil .nil))))) (.node (o5 P) (.node (o9 P) (.node (o17 P) (.node (o33 P) (.node (o65 P) (.node (o129 P) .nil .nil) .nil) (.node (o97 P) .nil .nil)) (.node (o49 P) (.node (o81 P) (.node (o145 P) .nil .nil) .nil) (.node (o113 P) .nil .nil))) (.node (o25 P) (.node (o41 P) (.node (o73 P) (.node (o137 P) .nil .nil) .nil) (.node (o105 P) .nil .nil)) (.node (o57 P) (.node (o89 P) .nil .nil) (.node (o121 P) .nil .nil)))) (.node (o13 P) (.node (o21 P) (.node (o37 P) (.node (o69 P) (.node (o133 P) .nil .nil) .nil) (.node (o101 P) .nil .nil)) (.node (o53 P) (.node (o85 P) .nil .nil) (.node (o117 P) .nil .nil))) (.node (o29_4 P) (.node (o45 P) (.node (o77 P) (.node (o141 P) .nil .nil) .nil) (.node (o109 P) .nil .nil)) (.node (o61 P) (.node (o93 P) .nil .nil) (.node (o125 P) .nil .nil)))))) (.node (o2 P) (.node (o4 P) (.node (o8 P) (.node (o16 P) (.node (o32 P) (.node (o64 P) (.node (o128 P) .nil .nil) .nil) (.node (o96 P) .nil .nil)) (.node (o48 P) (.node (o80 P) (.node (o144 P) .nil .nil) .nil) (.node (o112 P) .nil .nil))) (.node (o24 P) (.node (o40 P) (.node (o72 P) (.node (o136 P) .nil .nil) .nil) (.node (o104 P) .nil .nil)) (.node (o56 P) (.node (o88 P) .nil .nil) (.node (o120 P) .nil .nil)))) (.node (o12 P) (.node (o20 P) (.node (o36 P) (.node (o68 P) (.node (o132 P) .nil .nil) .nil) (.node (o100 P) .nil .nil)) (.node (o52 P) (.node (o84 P) .nil .nil) (.node (o116 P) .nil .nil))) (.node (o28 P) (.node (o44 P) (.node (o76 P) (.node (o140 P) .nil .nil) .nil) (.node (o108 P) .nil .nil)) (.node (o60 P) (.node (o92 P) .nil .nil) (.node (o124 P) .nil .nil))))) (.node (o6 P) (.node (o10 P) (.node (o18 P) (.node (o34 P) (.node (o66 P) (.node (o130 P) .nil .nil) .nil) (.node (o98 P) .nil .nil)) (.node (o50 P) (.node (o82 P) (.node (o146 P) .nil .nil) .nil) (.node (o114 P) .nil .nil))) (.node (o26 P) (.node (o42 P) (.node (o74 P) (.node (o138 P) .nil .nil) .nil) (.node (o106 P) .nil .nil)) (.node (o58 P) (.node (o90 P) .nil .nil) (.node (o122 P) .nil .nil)))) (.node (o14 P) (.node (o22 P) (.node (o38 P) (.node (o70 P) (.node (o134 P) .nil .nil) .nil) (.node (o102 P) .nil .nil)) (.node (o54 P) (.node (o86 P) .nil .nil) (.node (o118 P) .nil .nil))) (.node (o30 P) (.node (o46 P) (.node (o78 P) (.node (o142 P) .nil .nil) .nil) (.node (o110 P) .nil .nil)) (.node (o62 P) (.node (o94 P) .nil .nil) (.node (o126 P) .nil .nil)))))))
noncomputable def SG5 (w : World) (os : OsState) : SharedT := ⟨TG5 w.params, 147, {}, Array.mk [], {}, 532, os⟩
noncomputable def TG5b (P : Params) : BT := (.node (o0 P) (.node (o1 P) (.node (o3_5 P) (.node (o7 P) (.node (o15 P) (.node (o31 P) (.node (o63 P) (.node (o127 P) .nil .nil) .nil) (.node (o95 P) (.node (o159 P) .nil .nil) .nil)) (.node (o47 P) (.node (o79 P) (.node (o143 P) .nil .nil) .nil) (.node (o111 P) (.node (o175 P) .nil .nil) .nil))) (.node (o23 P) (.node (o39 P) (.node (o71 P) (.node (o135 P) .nil .nil) .nil) (.node (o103 P) (.node (o167 P) .nil .nil) .nil)) (.node (o55 P) (.node (o87 P) (.node (o151 P) .nil .nil) .nil) (.node (o119 P) (.node (o183 P) .nil .nil) .nil)))) (.node (o11_1 P) (.node (o19 P) (.node (o35 P) (.node (o67 P) (.node (o131 P) .nil .nil) .nil) (.node (o99 P) (.node (o163 P) .nil .nil) .nil)) (.node (o51 P) (.node (o83 P) (.node (o147 P) .nil .nil) .nil) (.node (o115 P) (.node (o179 P) .nil .nil) .nil))) (.node (o27 P) (.node (o43 P) (.node (o75 P) (.node (o139 P) .nil .nil) .nil) (.node (o107 P) (.node (o171 P) .nil .nil) .nil)) (.node (o59 P) (.node (o91 P) (.node (o155 P) .nil .nil) .nil) (.node (o123 P) .nil .nil))))) (.node (o5 P) (.node (o9 P) (.node (o17 P) (.node (o33 P) (.node (o65 P) (.node (o129 P) .nil .nil) .nil) (.node (o97 P) (.node (o161 P) .nil .nil) .nil)) (.node (o49 P) (.node (o81 P) (.node (o145 P) .nil .nil) .nil) (.node (o113 P) (.node (o177 P) .nil .nil) .nil))) (.node (o25 P) (.node (o41 P) (.node (o73 P) (.node (o137 P) .nil .nil) .nil) (.node (o105 P) (.node (o169 P) .nil .nil) .nil)) (.node (o57 P) (.node (o89 P) (.node (o153 P) .nil .nil) .nil) (.node (o121 P) (.node (o185 P) .nil .nil) .nil)))) (.node (o13 P) (.node (o21 P) (.node (o37 P) (.node (o69 P) (.node (o133 P) .nil .nil) .nil) (.node (o101 P) (.node (o165 P) .nil .nil) .nil)) (.node (o53 P) (.node (o85 P) (.node (o149 P) .nil .nil) .nil) (.node (o117 P) (.node (o181 P) .nil .nil) .nil))) (.node (o29_4 P) (.node (o45 P) (.node (o77 P) (.node (o141 P) .nil .nil) .nil) (.node (o109 P) (.node (o173 P) .nil .nil) .nil)) (.node (o61 P) (.node (o93 P) (.node (o157 P) .nil .nil) .nil) (.node (o125 P) .nil .nil)))))) (.node (o2 P) (.node (o4 P) (.node (o8 P) (.node (o16 P) (.node (o32 P) (.node (o64 P) (.node (o128 P) .nil .nil) .nil) (.node (o96 P) (.node (o160 P) .nil .nil) .nil)) (.node (o48 P) (.node (o80 P) (.node (o144 P) .nil .nil) .nil) (.node (o112 P) (.node (o176 P) .nil .nil) .nil))) (.node (o24 P) (.node (o40 P) (.node (o72 P) (.node (o136 P) .nil .nil) .nil) (.node (o104 P) (.node (o168 P) .nil .nil) .nil)) (.node (o56 P) (.node (o88 P) (.node (o152 P) .nil .nil) .nil) (.node (o120 P) (.node (o184 P) .nil .nil) .nil)))) (.node (o12 P) (.node (o20 P) (.node (o36 P) (.node (o68 P) (.node (o132 P) .nil .nil) .nil) (.node (o100 P) (.node (o164 P) .nil .nil) .nil)) (.node (o52 P) (.node (o84 P) (.node (o148 P) .nil .nil) .nil) (.node (o116 P) (.node (o180 P) .nil .nil) .nil))) (.node (o28 P) (.node (o44 P) (.node (o76 P) (.node (o140 P) .nil .nil) .nil) (.node (o108 P) (.node (o172 P) .nil .nil) .nil)) (.node (o60 P) (.node (o92 P) (.node (o156 P) .nil .nil) .nil) (.node (o124 P) .nil .nil))))) (.node (o6 P) (.node (o10 P) (.node (o18 P) (.node (o34 P) (.node (o66 P) (.node (o130 P) .nil .nil) .nil) (.node (o98 P) (.node (o162 P) .nil .nil) .nil)) (.node (o50 P) (.node (o82 P) (.node (o146 P) .nil .nil) .nil) (.node (o114 P) (.node (o178 P) .nil .nil) .nil))) (.node (o26 P) (.node (o42 P) (.node (o74 P) (.node (o138 P) .nil .nil) .nil) (.node (o106 P) (.node (o170 P) .nil .nil) .nil)) (.node (o58 P) (.node (o90 P) (.node (o154 P) .nil .nil) .nil) (.node (o122 P) .nil .nil)))) (.node (o14 P) (.node (o22 P) (.node (o38 P) (.node (o70 P) (.node (o134 P) .nil .nil) .nil) (.node (o102 P) (.node (o166 P) .nil .nil) .nil)) (.node (o54 P) (.node (o86 P) (.node (o150 P) .nil .nil) .nil) (.node (o118 P) (.node (o182 P) .nil .nil) .nil))) (.node (o30 P) (.node (o46 P) (.node (o78 P) (.node (o142 P) .nil .nil) .nil) (.node (o110 P) (.node (o174 P) .nil .nil) .nil)) (.node (o62 P) (.node (o94 P) (.node (o158 P) .nil .nil) .nil) (.node (o126 P) .nil .nil)))))))
noncomputable def SG5b (w : World) (os : OsState) : SharedT := ⟨TG5b w.params, 186, {}, Array.mk [], {}, 2482, os⟩
noncomputable def o3_6 (P : Params) : Obj := ⟨(.type "dict"), none, (.dict (List.toArray [⟨PyData.keyHash P (PySem.Str.ofString "__name__"), (.str (PySem.Str.ofString "__name__") 165), (.str (PySem.Str.ofString "cpy313.stringprep") 463)⟩, ⟨PyData.keyHash P (PySem.Str.ofString "__doc__"), (.str (PySem.Str.ofString "__doc__") 166), .none⟩, ⟨PyData.keyHash P (PySem.Str.ofString "__package__"), (.str (PySem.Str.ofString "__package__") 167), .none⟩, ⟨PyData.keyHash P (PySem.Str.ofString "__loader__"), (.str (PySem.Str.ofString "__loader__") 168), (.builtin "__main__.__loader__#opaque")⟩, ⟨PyData.keyHash P (PySem.Str.ofString "__spec__"), (.str (PySem.Str.ofString "__spec__") 169), .none⟩, ⟨PyData.keyHash P (PySem.Str.ofString "__annotations__"), (.str (PySem.Str.ofString "__annotations__") 170), (.ref 6)⟩, ⟨PyData.keyHash P (PySem.Str.ofString "__builtins__"), (.str (PySem.Str.ofString "__builtins__") 171), (.ref 4)⟩, ⟨PyData.keyHash P (PySem.Str.ofString "__file__"), (.str (PySem.Str.ofString "__file__") 173), (.str (PySem.Str.ofString "/claim/cut.py") 172)⟩, ⟨PyData.keyHash P (PySem.Str.ofString "__cached__"), (.str (PySem.Str.ofString "__cached__") 174), .none⟩, ⟨PyData.keyHash P (PySem.Str.ofString "_sre"), (.str (PySem.Str.ofString "_sre") 275), (.ref 12)⟩, ⟨PyData.keyHash P (PySem.Str.ofString "_wall"), (.str (PySem.Str.ofString "_wall") 288), (.ref 38)⟩, ⟨PyData.keyHash P (PySem.Str.ofString "Whitespace"), (.str (PySem.Str.ofString "Whitespace") 386), (.ref 100)⟩, ⟨PyData.keyHash P (PySem.Str.ofString "_twin_re_1"), (.str (PySem.Str.ofString "_twin_re_1") 404), (.ref 109)⟩, ⟨PyData.keyHash P (PySem.Str.ofString "_twin_re_2"), (.str (PySem.Str.ofString "_twin_re_2") 446), (.ref 114)⟩, ⟨PyData.keyHash P (PySem.Str.ofString "CRLF"), (.str (PySem.Str.ofString "CRLF") 448), (.str (PySem.Str.mk (Array.mk [nat_lit 13, nat_lit 10])) 447)⟩, ⟨PyData.keyHash P (PySem.Str.ofString "quotedata"), (.str (PySem.Str.ofString "quotedata") 455), (.ref 121)⟩, ⟨PyData.keyHash P (PySem.Str.ofString "_fix_eols"), (.str (PySem.Str.ofString "_fix_eols") 462), (.ref 128)⟩, ⟨PyData.keyHash P (PySem.Str.ofString "b1_set"), (.str (PySem.Str.ofString "b1_set") 524), (.ref 136)⟩, ⟨PyData.keyHash P (PySem.Str.ofString "in_table_b1"), (.str (PySem.Str.ofString "in_table_b1") 531), (.ref 146)⟩, ⟨PyData.keyHash P (PySem.Str.ofString "b3_exceptions"), (.str (PySem.Str.ofString "b3_exceptions") 2482), (.ref 147)⟩]) 20), List.toArray []⟩
noncomputable def TG6 (P : Params) : BT := (.node (o0 P) (.node (o1 P) (.node (o3_6 P) (.node (o7 P) (.node (o15 P) (.node (o31 P) (.node (o63 P) (.node (o127 P) .nil .nil) .nil) (.node (o95 P) (.node (o159 P) .nil .nil) .nil)) (.node (o47 P) (.node (o79 P) (.node (o143 P) .nil .nil) .nil) (.node (o111 P) (.node (o175 P) .nil .nil) .nil))) (.node (o23 P) (.node (o39 P) (.node (o71 P) (.node (o135 P) .nil .nil) .nil) (.node (o103 P) (.node (o167 P) .nil .nil) .nil)) (.node (o55 P) (.node (o87 P) (.node (o151 P) .nil .nil) .nil) (.node (o119 P) (.node (o183 P) .nil .nil) .nil)))) (.node (o11_1 P) (.node (o19 P) (.node (o35 P) (.node (o67 P) (.node (o131 P) .nil .nil) .nil) (.node (o99 P) (.node (o163 P) .nil .nil) .nil)) (.node (o51 P) (.node (o83 P) (.node (o147 P) .nil .nil) .nil) (.node (o115 P) (.node (o179 P) .nil .nil) .nil))) (.node (o27 P) (.node (o43 P) (.node (o75 P) (.node (o139 P) .nil .nil) .nil) (.node (o107 P) (.node (o171 P) .nil .nil) .nil)) (.node (o59 P) (.node (o91 P) (.node (o155 P) .nil .nil) .nil) (.node (o123 P) .nil .nil))))) (.node (o5 P) (.node (o9 P) (.node (o17 P) (.node (o33 P) (.node (o65 P) (.node (o129 P) .nil .nil) .nil) (.node (o97 P) (.node (o161 P) .nil .nil) .nil)) (.node (o49 P) (.node (o81 P) (.node (o145 P) .nil .nil) .nil) (.node (o113 P) (.node (o177 P) .nil .nil) .nil))) (.node (o25 P) (.node (o41 P) (.node (o73 P) (.node (o137 P) .nil .nil) .nil) (.node (o105 P) (.node (o169 P) .nil .nil) .nil)) (.node (o57 P) (.node (o89 P) (.node (o153 P) .nil .nil) .nil) (.node (o121 P) (.node (o185 P) .nil .nil) .nil)))) (.node (o13 P) (.node (o21 P) (.node (o37 P) (.node (o69 P) (.node (o133 P) .nil .nil) .nil) (.node (o101 P) (.node (o165 P) .nil .nil) .nil)) (.node (o53 P) (.node (o85 P) (.node (o149 P) .nil .nil) .nil) (.node (o117 P) (.node (o181 P) .nil .nil) .nil))) (.node (o29_4 P) (.node (o45 P) (.node (o77 P) (.node (o141 P) .nil .nil) .nil) (.node (o109 P) (.node (o173 P) .nil .nil) .nil)) (.node (o61 P) (.node (o93 P) (.node (o157 P) .nil .nil) .nil) (.node (o125 P) .nil .nil)))))) (.node (o2 P) (.node (o4 P) (.node (o8 P) (.node (o16 P) (.node (o32 P) (.node (o64 P) (.node (o128 P) .nil .nil) .nil) (.node (o96 P) (.node (o160 P) .nil .nil) .nil)) (.node (o48 P) (.node (o80 P) (.node (o144 P) .nil .nil) .nil) (.node (o112 P) (.node (o176 P) .nil .nil) .nil))) (.node (o24 P) (.node (o40 P) (.node (o72 P) (.node (o136 P) .nil .nil) .nil) (.node (o104 P) (.node (o168 P) .nil .nil) .nil)) (.node (o56 P) (.node (o88 P) (.node (o152 P) .nil .nil) .nil) (.node (o120 P) (.node (o184 P) .nil .nil) .nil)))) (.node (o12 P) (.node (o20 P) (.node (o36 P) (.node (o68 P) (.node (o132 P) .nil .nil) .nil) (.node (o100 P) (.node (o164 P) .nil .nil) .nil)) (.node (o52 P) (.node (o84 P) (.node (o148 P) .nil .nil) .nil) (.node (o116 P) (.node (o180 P) .nil .nil) .nil))) (.node (o28 P) (.node (o44 P) (.node (o76 P) (.node (o140 P) .nil .nil) .nil) (.node (o108 P) (.node (o172 P) .nil .nil) .nil)) (.node (o60 P) (.node (o92 P) (.node (o156 P) .nil .nil) .nil) (.node (o124 P) .nil .nil))))) (.node (o6 P) (.node (o10 P) (.node (o18 P) (.node (o34 P) (.node (o66 P) (.node (o130 P) .nil .nil) .nil) (.node (o98 P) (.node (o162 P) .nil .nil) .nil)) (.node (o50 P) (.node (o82 P) (.node (o146 P) .nil .nil) .nil) (.node (o114 P) (.node (o178 P) .nil .nil) .nil))) (.node (o26 P) (.node (o42 P) (.node (o74 P) (.node (o138 P) .nil .nil) .nil) (.node (o106 P) (.node (o170 P) .nil .nil) .nil)) (.node (o58 P) (.node (o90 P) (.node (o154 P) .nil .nil) .nil) (.node (o122 P) .nil .nil)))) (.node (o14 P) (.node (o22 P) (.node (o38 P) (.node (o70 P) (.node (o134 P) .nil .nil) .nil) (.node (o102 P) (.node (o166 P) .nil .nil) .nil)) (.node (o54 P) (.node (o86 P) (.node (o150 P) .nil .nil) .nil) (.node (o118 P) (.node (o182 P) .nil .nil) .nil))) (.node (o30 P) (.node (o46 P) (.node (o78 P) (.node (o142 P) .nil .nil) .nil) (.node (o110 P) (.node (o174 P) .nil .nil) .nil)) (.node (o62 P) (.node (o94 P) (.node (o158 P) .nil .nil) .nil) (.node (o126 P) .nil .nil)))))))
noncomputable def SG6 (w : World) (os : OsState) : SharedT := ⟨TG6 w.params, 186, {}, Array.mk [], {}, 2483, os⟩
noncomputable def o3_7 (P : Params) : Obj := ⟨(.type "dict"), none, (.dict (List.toArray [⟨PyData.keyHash P (PySem.Str.ofString "__name__"), (.str (PySem.Str.ofString "__name__") 165), (.str (PySem.Str.ofString "cpy313.stringprep") 463)⟩, ⟨PyData.keyHash P (PySem.Str.ofString "__doc__"), (.str (PySem.Str.ofString "__doc__") 166), .none⟩, ⟨PyData.keyHash P (PySem.Str.ofString "__package__"), (.str (PySem.Str.ofString "__package__") 167), .none⟩, ⟨PyData.keyHash P (PySem.Str.ofString "__loader__"), (.str (PySem.Str.ofString "__loader__") 168), (.builtin "__main__.__loader__#opaque")⟩, ⟨PyData.keyHash P (PySem.Str.ofString "__spec__"), (.str (PySem.Str.ofString "__spec__") 169), .none⟩, ⟨PyData.keyHash P (PySem.Str.ofString "__annotations__"), (.str (PySem.Str.ofString "__annotations__") 170), (.ref 6)⟩, ⟨PyData.keyHash P (PySem.Str.ofString "__builtins__"), (.str (PySem.Str.ofString "__builtins__") 171), (.ref 4)⟩, ⟨PyData.keyHash P (PySem.Str.ofString "__file__"), (.str (PySem.Str.ofString "__file__") 173), (.str (PySem.Str.ofString "/claim/cut.py") 172)⟩, ⟨PyData.keyHash P (PySem.Str.ofString "__cached__"), (.str (PySem.Str.ofString "__cached__") 174), .none⟩, ⟨PyData.keyHash P (PySem.Str.ofString "_sre"), (.str (PySem.Str.ofString "_sre") 275), (.ref 12)⟩, ⟨PyData.keyHash P (PySem.Str.ofString "_wall"), (.str (PySem.Str.ofString "_wall") 288), (.ref 38)⟩, ⟨PyData.keyHash P (PySem.Str.ofString "Whitespace"), (.str (PySem.Str.ofString "Whitespace") 386), (.ref 100)⟩, ⟨PyData.keyHash P (PySem.Str.ofString "_twin_re_1"), (.str (PySem.Str.ofString "_twin_re_1") 404), (.ref 109)⟩, ⟨PyData.keyHash P (PySem.Str.ofString "_twin_re_2"), (.str (PySem.Str.ofString "_twin_re_2") 446), (.ref 114)⟩, ⟨PyData.keyHash P (PySem.Str.ofString "CRLF"), (.str (PySem.Str.ofString "CRLF") 448), (.str (PySem.Str.mk (Array.mk [nat_lit 13, nat_lit 10])) 447)⟩, ⟨PyData.keyHash P (PySem.Str.ofString "quotedata"), (.str (PySem.Str.ofString "quotedata") 455), (.ref 121)⟩, ⟨PyData.keyHash P (PySem.Str.ofString "_fix_eols"), (.str (PySem.Str.ofString "_fix_eols") 462), (.ref 128)⟩, ⟨PyData.keyHash P (PySem.Str.ofString "b1_set"), (.str (PySem.Str.ofString "b1_set") 524), (.ref 136)⟩, ⟨PyData.keyHash P (PySem.Str.ofString "in_table_b1"), (.str (PySem.Str.ofString "in_table_b1") 531), (.ref 146)⟩, ⟨PyData.keyHash P (PySem.Str.ofString "b3_exceptions"), (.str (PySem.Str.ofString "b3_exceptions") 2482), (.ref 147)⟩, ⟨PyData.keyHash P (PySem.Str.ofString "map_table_b3"), (.str (PySem.Str.ofString "map_table_b3") 2490), (.ref 192)⟩]) 21), List.toArray []⟩
noncomputable def o29_5 (P : Params) : Obj := ⟨.none, none, (.fields (List.toArray [(.int (2) 0), (.int (0) 0), (.ref 37), (.int (6) 0), (.int (0) 0), (.ref 44), (.int (57) 0), (.int (0) 0), (.ref 120), (.int (59) 0), (.int (0) 0), (.ref 127), (.int (63) 0), (.int (0) 0), (.ref 145), (.int (66) 0), (.int (0) 0), (.ref 191)])), List.toArray []⟩
noncomputable def o186 (P : Params) : Obj := ⟨(.type "tuple"), none, (.seq (List.toArray []) 0), List.toArray []⟩
noncomputable def o187 (P : Params) : Obj := ⟨.none, none, (.fields (List.toArray [])), List.toArray []⟩
noncomputable def o188 (P : Params) : Obj := ⟨(.type "tuple"), none, (.seq (List.toArray [(.str (PySem.Str.ofString "code") 2486), (.str (PySem.Str.ofString "r") 2487)]) 0), List.toArray []⟩
noncomputable def o189 (P : Params) : Obj := ⟨(.type "tuple"), none, (.seq (List.toArray []) 0), List.toArray []⟩
noncomputable def o190 (P : Params) : Obj := ⟨.none, none, (.func fn0_map_table_b3), List.toArray []⟩
noncomputable def o191 (P : Params) : Obj := ⟨(.type "code"), none, (.fields (List.toArray [(.str (PySem.Str.ofString "map_table_b3") 2483), (.str (PySem.Str.ofString "map_table_b3") 2484), (.str (PySem.Str.ofString "/claim/cut.py") 2485), (.int (66) 0), (.int (1) 0), (.int (0) 0), (.int (0) 0), (.int (3) 0), (.ref 186), (.bool true), (.int (276) 0), (.ref 187), .none, (.ref 188), (.ref 189), (.ref 190), (.int (2488) 0), (.int (66) 0), (.str (PySem.Str.ofString "/claim/cut.py") 2489)])), List.toArray []⟩
noncomputable def o192 (P : Params) : Obj := ⟨(.type "function"), none, (.func fn_map_table_b3), List.toArray []⟩
noncomputable def TG7 (P : Params) : BT := (.node (o0 P) (.node (o1 P) (.node (o3_7 P) (.node (o7 P) (.node (o15 P) (.node (o31 P) (.node (o63 P) (.node (o127 P) .nil .nil) (.node (o191 P) .nil .nil)) (.node (o95 P) (.node (o159 P) .nil .nil) .nil)) (.node (o47 P) (.node (o79 P) (.node (o143 P) .nil .nil) .nil) (.node (o111 P) (.node (o175 P) .nil .nil) .nil))) (.node (o23 P) (.node (o39 P) (.node (o71 P) (.node (o135 P) .nil .nil) .nil) (.node (o103 P) (.node (o167 P) .nil .nil) .nil)) (.node (o55 P) (.node (o87 P) (.node (o151 P) .nil .nil) .nil) (.node (o119 P) (.node (o183 P) .nil .nil) .nil)))) (.node (o11_1 P) (.node (o19 P) (.node (o35 P) (.node (o67 P) (.node (o131 P) .nil .nil) .nil) (.node (o99 P) (.node (o163 P) .nil .nil) .nil)) (.node (o51 P) (.node (o83 P) (.node (o147 P) .nil .nil) .nil) (.node (o115 P) (.node (o179 P) .nil .nil) .nil))) (.node (o27 P) (.node (o43 P) (.node (o75 P) (.node (o139 P) .nil .nil) .nil) (.node (o107 P) (.node (o171 P) .nil .nil) .nil)) (.node (o59 P) (.node (o91 P) (.node (o155 P) .nil .nil) .nil) (.node (o123 P) (.node (o187 P) .nil .nil) .nil))))) (.node (o5 P) (.node (o9 P) (.node (o17 P) (.node (o33 P) (.node (o65 P) (.node (o129 P) .nil .nil) .nil) (.node (o97 P) (.node (o161 P) .nil .nil) .nil)) (.node (o49 P) (.node (o81 P) (.node (o145 P) .nil .nil) .nil) (.node (o113 P) (.node (o177 P) .nil .nil) .nil))) (.node (o25 P) (.node (o41 P) (.node (o73 P) (.node (o137 P) .nil .nil) .nil) (.node (o105 P) (.node (o169 P) .nil .nil) .nil)) (.node (o57 P) (.node (o89 P) (.node (o153 P) .nil .nil) .nil) (.node (o121 P) (.node (o185 P) .nil .nil) .nil)))) (.node (o13 P) (.node (o21 P) (.node (o37 P) (.node (o69 P) (.node (o133 P) .nil .nil) .nil) (.node (o101 P) (.node (o165 P) .nil .nil) .nil)) (.node (o53 P) (.node (o85 P) (.node (o149 P) .nil .nil) .nil) (.node (o117 P) (.node (o181 P) .nil .nil) .nil))) (.node (o29_5 P) (.node (o45 P) (.node (o77 P) (.node (o141 P) .nil .nil) .nil) (.node (o109 P) (.node (o173 P) .nil .nil) .nil)) (.node (o61 P) (.node (o93 P) (.node (o157 P) .nil .nil) .nil) (.node (o125 P) (.node (o189 P) .nil .nil) .nil)))))) (.node (o2 P) (.node (o4 P) (.node (o8 P) (.node (o16 P) (.node (o32 P) (.node (o64 P) (.node (o128 P) .nil .nil) (.node (o192 P) .nil .nil)) (.node (o96 P) (.node (o160 P) .nil .nil) .nil)) (.node (o48 P) (.node (o80 P) (.node (o144 P) .nil .nil) .nil) (.node (o112 P) (.node (o176 P) .nil .nil) .nil))) (.node (o24 P) (.node (o40 P) (.node (o72 P) (.node (o136 P) .nil .nil) .nil) (.node (o104 P) (.node (o168 P) .nil .nil) .nil)) (.node (o56 P) (.node (o88 P) (.node (o152 P) .nil .nil) .nil) (.node (o120 P) (.node (o184 P) .nil .nil) .nil)))) (.node (o12 P) (.node (o20 P) (.node (o36 P) (.node (o68 P) (.node (o132 P) .nil .nil) .nil) (.node (o100 P) (.node (o164 P) .nil .nil) .nil)) (.node (o52 P) (.node (o84 P) (.node (o148 P) .nil .nil) .nil) (.node (o116 P) (.node (o180 P) .nil .nil) .nil))) (.node (o28 P) (.node (o44 P) (.node (o76 P) (.node (o140 P) .nil .nil) .nil) (.node (o108 P) (.node (o172 P) .nil .nil) .nil)) (.node (o60 P) (.node (o92 P) (.node (o156 P) .nil .nil) .nil) (.node (o124 P) (.node (o188 P) .nil .nil) .nil))))) (.node (o6 P) (.node (o10 P) (.node (o18 P) (.node (o34 P) (.node (o66 P) (.node (o130 P) .nil .nil) .nil) (.node (o98 P) (.node (o162 P) .nil .nil) .nil)) (.node (o50 P) (.node (o82 P) (.node (o146 P) .nil .nil) .nil) (.node (o114 P) (.node (o178 P) .nil .nil) .nil))) (.node (o26 P) (.node (o42 P) (.node (o74 P) (.node (o138 P) .nil .nil) .nil) (.node (o106 P) (.node (o170 P) .nil .nil) .nil)) (.node (o58 P) (.node (o90 P) (.node (o154 P) .nil .nil) .nil) (.node (o122 P) (.node (o186 P) .nil .nil) .nil)))) (.node (o14 P) (.node (o22 P) (.node (o38 P) (.node (o70 P) (.node (o134 P) .nil .nil) .nil) (.node (o102 P) (.node (o166 P) .nil .nil) .nil)) (.node (o54 P) (.node (o86 P) (.node (o150 P) .nil .nil) .nil) (.node (o118 P) (.node (o182 P) .nil .nil) .nil))) (.node (o30 P) (.node (o46 P) (.node (o78 P) (.node (o142 P) .nil .nil) .nil) (.node (o110 P) (.node (o174 P) .nil .nil) .nil)) (.node (o62 P) (.node (o94 P) (.node (o158 P) .nil .nil) .nil) (.node (o126 P) (.node (o190 P) .nil .nil) .nil)))))))
noncomputable def SG7 (w : World) (os : OsState) : SharedT := ⟨TG7 w.params, 193, {}, Array.mk [], {}, 2491, os⟩
noncomputable def o3_8 (P : Params) : Obj := ⟨(.type "dict"), none, (.dict (List.toArray [⟨PyData.keyHash P (PySem.Str.ofString "__name__"), (.str (PySem.Str.ofString "__name__") 165), (.str (PySem.Str.ofString "cpy313.stringprep") 463)⟩, ⟨PyData.keyHash P (PySem.Str.ofString "__doc__"), (.str (PySem.Str.ofString "__doc__") 166), .none⟩, ⟨PyData.keyHash P (PySem.Str.ofString "__package__"), (.str (PySem.Str.ofString "__package__") 167), .none⟩, ⟨PyData.keyHash P (PySem.Str.ofString "__loader__"), (.str (PySem.Str.ofString "__loader__") 168), (.builtin "__main__.__loader__#opaque")⟩, ⟨PyData.keyHash P (PySem.Str.ofString "__spec__"), (.str (PySem.Str.ofString "__spec__") 169), .none⟩, ⟨PyData.keyHash P (PySem.Str.ofString "__annotations__"), (.str (PySem.Str.ofString "__annotations__") 170), (.ref 6)⟩, ⟨PyData.keyHash P (PySem.Str.ofString "__builtins__"), (.str (PySem.Str.ofString "__builtins__") 171), (.ref 4)⟩, ⟨PyData.keyHash P (PySem.Str.ofString "__file__"), (.str (PySem.Str.ofString "__file__") 173), (.str (PySem.Str.ofString "/claim/cut.py") 172)⟩, ⟨PyData.keyHash P (PySem.Str.ofString "__cached__"), (.str (PySem.Str.ofString "__cached__") 174), .none⟩, ⟨PyData.keyHash P (PySem.Str.ofString "_sre"), (.str (PySem.Str.ofString "_sre") 275), (.ref 12)⟩, ⟨PyData.keyHash P (PySem.Str.ofString "_wall"), (.str (PySem.Str.ofString "_wall") 288), (.ref 38)⟩, ⟨PyData.keyHash P (PySem.Str.ofString "Whitespace"), (.str (PySem.Str.ofString "Whitespace") 386), (.ref 100)⟩, ⟨PyData.keyHash P (PySem.Str.ofString "_twin_re_1"), (.str (PySem.Str.ofString "_twin_re_1") 404), (.ref 109)⟩, ⟨PyData.keyHash P (PySem.Str.ofString "_twin_re_2"), (.str (PySem.Str.ofString "_twin_re_2") 446), (.ref 114)⟩, ⟨PyData.keyHash P (PySem.Str.ofString "CRLF"), (.str (PySem.Str.ofString "CRLF") 448), (.str (PySem.Str.mk (Array.mk [nat_lit 13, nat_lit 10])) 447)⟩, ⟨PyData.keyHash P (PySem.Str.ofString "quotedata"), (.str (PySem.Str.ofString "quotedata") 455), (.ref 121)⟩, ⟨PyData.keyHash P (PySem.Str.ofString "_fix_eols"), (.str (PySem.Str.ofString "_fix_eols") 462), (.ref 128)⟩, ⟨PyData.keyHash P (PySem.Str.ofString "b1_set"), (.str (PySem.Str.ofString "b1_set") 524), (.ref 136)⟩, ⟨PyData.keyHash P (PySem.Str.ofString "in_table_b1"), (.str (PySem.Str.ofString "in_table_b1") 531), (.ref 146)⟩, ⟨PyData.keyHash P (PySem.Str.ofString "b3_exceptions"), (.str (PySem.Str.ofString "b3_exceptions") 2482), (.ref 147)⟩, ⟨PyData.keyHash P (PySem.Str.ofString "map_table_b3"), (.str (PySem.Str.ofString "map_table_b3") 2490), (.ref 192)⟩, ⟨PyData.keyHash P (PySem.Str.ofString "c8_set"), (.str (PySem.Str.ofString "c8_set") 2531), (.ref 206)⟩]) 22), List.toArray []⟩
noncomputable def o193 (P : Params) : Obj := ⟨(.type "list"), none, (.seq (List.toArray [(.int (832) 2491), (.int (833) 2492), (.int (8206) 2493), (.int (8207) 2494)]) 0), List.toArray []⟩
noncomputable def o194 (P : Params) : Obj := ⟨(.type "range"), none, (.fields (List.toArray [(.int (8234) 2495), (.int (8239) 2496), (.int (1) 2497)])), List.toArray []⟩
noncomputable def o195 (P : Params) : Obj := ⟨(.type "list"), none, (.seq (List.toArray [(.int (8234) 2500), (.int (8235) 2501), (.int (8236) 2502), (.int (8237) 2503), (.int (8238) 2504)]) 7), List.toArray []⟩
noncomputable def o196 (P : Params) : Obj := ⟨(.type "range_iterator"), none, (.fields (List.toArray [(.int (8239) 0), (.int (0) 0), (.int (1) 0)])), List.toArray []⟩
noncomputable def o197 (P : Params) : Obj := ⟨(.type "tuple"), none, (.seq (List.toArray []) 0), List.toArray []⟩
noncomputable def o198 (P : Params) : Obj := ⟨(.type "StopIteration"), none, (.fields (List.toArray [(.ref 197), .none, .none, .none, (.bool false), .none])), List.toArray []⟩
noncomputable def o199 (P : Params) : Obj := ⟨(.type "list"), none, (.seq (List.toArray [(.int (832) 2491), (.int (833) 2492), (.int (8206) 2493), (.int (8207) 2494), (.int (8234) 2500), (.int (8235) 2501), (.int (8236) 2502), (.int (8237) 2503), (.int (8238) 2504)]) 0), List.toArray []⟩
noncomputable def o200 (P : Params) : Obj := ⟨(.type "range"), none, (.fields (List.toArray [(.int (8298) 2505), (.int (8304) 2506), (.int (1) 2507)])), List.toArray []⟩
noncomputable def o201 (P : Params) : Obj := ⟨(.type "list"), none, (.seq (List.toArray [(.int (8298) 2510), (.int (8299) 2511), (.int (8300) 2512), (.int (8301) 2513), (.int (8302) 2514), (.int (8303) 2515)]) 8), List.toArray []⟩
noncomputable def o202 (P : Params) : Obj := ⟨(.type "range_iterator"), none, (.fields (List.toArray [(.int (8304) 0), (.int (0) 0), (.int (1) 0)])), List.toArray []⟩
noncomputable def o203 (P : Params) : Obj := ⟨(.type "tuple"), none, (.seq (List.toArray []) 0), List.toArray []⟩
noncomputable def o204 (P : Params) : Obj := ⟨(.type "StopIteration"), none, (.fields (List.toArray [(.ref 203), .none, .none, .none, (.bool false), .none])), List.toArray []⟩
noncomputable def o205 (P : Params) : Obj := ⟨(.type "list"), none, (.seq (List.toArray [(.int (832) 2491), (.int (833) 2492), (.int (8206) 2493), (.int (8207) 2494), (.int (8234) 2500), (.int (8235) 2501), (.int (8236) 2502), (.int (8237) 2503), (.int (8238) 2504), (.int (8298) 2510), (.int (8299) 2511), (.int (8300) 2512), (.int (8301) 2513), (.int (8302) 2514), (.int (8303) 2515)]) 0), List.toArray []⟩
noncomputable def o206 (P : Params) : Obj := ⟨(.type "set"), none, (.set (List.toArray [(832, (.int (832) 2491)), (833, (.int (833) 2492)), (8234, (.int (8234) 2500)), (8235, (.int (8235) 2501)), (8236, (.int (8236) 2502)), (8237, (.int (8237) 2503)), (8206, (.int (8206) 2493)), (8207, (.int (8207) 2494)), (8238, (.int (8238) 2504)), (8298, (.int (8298) 2510)), (8299, (.int (8299) 2511)), (8300, (.int (8300) 2512)), (8301, (.int (8301) 2513)), (8302, (.int (8302) 2514)), (8303, (.int (8303) 2515))]) 16 ⟨31, List.toArray [0, 1, 10, 11, 12, 13, 14, 15, 16, 17, 18, 19, 20, 21, 22], List.toArray [], 0, !P.followText "set-order", 1, true⟩), List.toArray []⟩
noncomputable def o207 (P : Params) : Obj := ⟨(.type "list_iterator"), none, (.fields (List.toArray [.none, (.int (15) 0)])), List.toArray []⟩
noncomputable def o208 (P : Params) : Obj := ⟨(.type "tuple"), none, (.seq (List.toArray []) 0), List.toArray []⟩
noncomputable def o209 (P : Params) : Obj := ⟨(.type "StopIteration"), none, (.fields (List.toArray [(.ref 208), .none, .none, .none, (.bool false), .none])), List.toArray []⟩
noncomputable def TG8 (P : Params) : BT := (.node (o0 P) (.node (o1 P) (.node (o3_8 P) (.node (o7 P) (.node (o15 P) (.node (o31 P) (.node (o63 P) (.node (o127 P) .nil .nil) (.node (o191 P) .nil .nil)) (.node (o95 P) (.node (o159 P) .nil .nil) .nil)) (.node (o47 P) (.node (o79 P) (.node (o143 P) .nil .nil) (.node (o207 P) .nil .nil)) (.node (o111 P) (.node (o175 P) .nil .nil) .nil))) (.node (o23 P) (.node (o39 P) (.node (o71 P) (.node (o135 P) .nil .nil) (.node (o199 P) .nil .nil)) (.node (o103 P) (.node (o167 P) .nil .nil) .nil)) (.node (o55 P) (.node (o87 P) (.node (o151 P) .nil .nil) .nil) (.node (o119 P) (.node (o183 P) .nil .nil) .nil)))) (.node (o11_1 P) (.node (o19 P) (.node (o35 P) (.node (o67 P) (.node (o131 P) .nil .nil) (.node (o195 P) .nil .nil)) (.node (o99 P) (.node (o163 P) .nil .nil) .nil)) (.node (o51 P) (.node (o83 P) (.node (o147 P) .nil .nil) .nil) (.node (o115 P) (.node (o179 P) .nil .nil) .nil))) (.node (o27 P) (.node (o43 P) (.node (o75 P) (.node (o139 P) .nil .nil) (.node (o203 P) .nil .nil)) (.node (o107 P) (.node (o171 P) .nil .nil) .nil)) (.node (o59 P) (.node (o91 P) (.node (o155 P) .nil .nil) .nil) (.node (o123 P) (.node (o187 P) .nil .nil) .nil))))) (.node (o5 P) (.node (o9 P) (.node (o17 P) (.node (o33 P) (.node (o65 P) (.node (o129 P) .nil .nil) (.node (o193 P) .nil .nil)) (.node (o97 P) (.node (o161 P) .nil .nil) .nil)) (.node (o49 P) (.node (o81 P) (.node (o145 P) .nil .nil) (.node (o209 P) .nil .nil)) (.node (o113 P) (.node (o177 P) .nil .nil) .nil))) (.node (o25 P) (.node (o41 P) (.node (o73 P) (.node (o137 P) .nil .nil) (.node (o201 P) .nil .nil)) (.node (o105 P) (.node (o169 P) .nil .nil) .nil)) (.node (o57 P) (.node (o89 P) (.node (o153 P) .nil .nil) .nil) (.node (o121 P) (.node (o185 P) .nil .nil) .nil)))) (.node (o13 P) (.node (o21 P) (.node (o37 P) (.node (o69 P) (.node (o133 P) .nil .nil) (.node (o197 P) .nil .nil)) (.node (o101 P) (.node (o165 P) .nil .nil) .nil)) (.node (o53 P) (.node (o85 P) (.node (o149 P) .nil .nil) .nil) (.node (o117 P) (.node (o181 P) .nil .nil) .nil))) (.node (o29_5 P) (.node (o45 P) (.node (o77 P) (.node (o141 P) .nil .nil) (.node (o205 P) .nil .nil)) (.node (o109 P) (.node (o173 P) .nil .nil) .nil)) (.node (o61 P) (.node (o93 P) (.node (o157 P) .nil .nil) .nil) (.node (o125 P) (.node (o189 P) .nil .nil) .nil)))))) (.node (o2 P) (.node (o4 P) (.node (o8 P) (.node (o16 P) (.node (o32 P) (.node (o64 P) (.node (o128 P) .nil .nil) (.node (o192 P) .nil .nil)) (.node (o96 P) (.node (o160 P) .nil .nil) .nil)) (.node (o48 P) (.node (o80 P) (.node (o144 P) .nil .nil) (.node (o208 P) .nil .nil)) (.node (o112 P) (.node (o176 P) .nil .nil) .nil))) (.node (o24 P) (.node (o40 P) (.node (o72 P) (.node (o136 P) .nil .nil) (.node (o200 P) .nil .nil)) (.node (o104 P) (.node (o168 P) .nil .nil) .nil)) (.node (o56 P) (.node (o88 P) (.node (o152 P) .nil .nil) .nil) (.node (o120 P) (.node (o184 P) .nil .nil) .nil)))) (.node (o12 P) (.node (o20 P) (.node (o36 P) (.node (o68 P) (.node (o132 P) .nil .nil) (.node (o196 P) .nil .nil)) (.node (o100 P) (.node (o164 P) .nil .nil) .nil)) (.node (o52 P) (.node (o84 P) (.node (o148 P) .nil .nil) .nil) (.node (o116 P) (.node (o180 P) .nil .nil) .nil))) (.node (o28 P) (.node (o44 P) (.node (o76 P) (.node (o140 P) .nil .nil) (.node (o204 P) .nil .nil)) (.node (o108 P) (.node (o172 P) .nil .nil) .nil)) (.node (o60 P) (.node (o92 P) (.node (o156 P) .nil .nil) .nil) (.node (o124 P) (.node (o188 P) .nil .nil) .nil))))) (.node (o6 P) (.node (o10 P) (.node (o18 P) (.node (o34 P) (.node (o66 P) (.node (o130 P) .nil .nil) (.node (o194 P) .nil .nil)) (.node (o98 P) (.node (o162 P) .nil .nil) .nil)) (.node (o50 P) (.node (o82 P) (.node (o146 P) .nil .nil) .nil) (.node (o114 P) (.node (o178 P) .nil .nil) .nil))) (.node (o26 P) (.node (o42 P) (.node (o74 P) (.node (o138 P) .nil .nil) (.node (o202 P) .nil .nil)) (.node (o106 P) (.node (o170 P) .nil .nil) .nil)) (.node (o58 P) (.node (o90 P) (.node (o154 P) .nil .nil) .nil) (.node (o122 P) (.node (o186 P) .nil .nil) .nil)))) (.node (o14 P) (.node (o22 P) (.node (o38 P) (.node (o70 P) (.node (o134 P) .nil .nil) (.node (o198 P) .nil .nil)) (.node (o102 P) (.node (o166 P) .nil .nil) .nil)) (.node (o54 P) (.node (o86 P) (.node (o150 P) .nil .nil) .nil) (.node (o118 P) (.node (o182 P) .nil .nil) .nil))) (.node (o30 P) (.node (o46 P) (.node (o78 P) (.node (o142 P) .nil .nil) (.node (o206 P) .nil .nil)) (.node (o110 P) (.node (o174 P) .nil .nil) .nil)) (.node (o62 P) (.node (o94 P) (.node (o158 P) .nil .nil) .nil) (.node (o126 P) (.node (o190 P) .nil .nil) .nil)))))))
noncomputable def SG8 (w : World) (os : OsState) : SharedT := ⟨TG8 w.params, 210, {}, Array.mk [], {}, 2532, os⟩
noncomputable def o3_9 (P : Params) : Obj := ⟨(.type "dict"), none, (.dict (List.toArray [⟨PyData.keyHash P (PySem.Str.ofString "__name__"), (.str (PySem.Str.ofString "__name__") 165), (.str (PySem.Str.ofString "law_re0164_01") 2539)⟩, ⟨PyData.keyHash P (PySem.Str.ofString "__doc__"), (.str (PySem.Str.ofString "__doc__") 166), .none⟩, ⟨PyData.keyHash P (PySem.Str.ofString "__package__"), (.str (PySem.Str.ofString "__package__") 167), .none⟩, ⟨PyData.keyHash P (PySem.Str.ofString "__loader__"), (.str (PySem.Str.ofString "__loader__") 168), (.builtin "__main__.__loader__#opaque")⟩, ⟨PyData.keyHash P (PySem.Str.ofString "__spec__"), (.str (PySem.Str.ofString "__spec__") 169), .none⟩, ⟨PyData.keyHash P (PySem.Str.ofString "__annotations__"), (.str (PySem.Str.ofString "__annotations__") 170), (.ref 6)⟩, ⟨PyData.keyHash P (PySem.Str.ofString "__builtins__"), (.str (PySem.Str.ofString "__builtins__") 171), (.ref 4)⟩, ⟨PyData.keyHash P (PySem.Str.ofString "__file__"), (.str (PySem.Str.ofString "__file__") 173), (.str (PySem.Str.ofString "/claim/cut.py") 172)⟩, ⟨PyData.keyHash P (PySem.Str.ofString "__cached__"), (.str (PySem.Str.ofString "__cached__") 174), .none⟩, ⟨PyData.keyHash P (PySem.Str.ofString "_sre"), (.str (PySem.Str.ofString "_sre") 275), (.ref 12)⟩, ⟨PyData.keyHash P (PySem.Str.ofString "_wall"), (.str (PySem.Str.ofString "_wall") 288), (.ref 38)⟩, ⟨PyData.keyHash P (PySem.Str.ofString "Whitespace"), (.str (PySem.Str.ofString "Whitespace") 386), (.ref 100)⟩, ⟨PyData.keyHash P (PySem.Str.ofString "_twin_re_1"), (.str (PySem.Str.ofString "_twin_re_1") 404), (.ref 109)⟩, ⟨PyData.keyHash P (PySem.Str.ofString "_twin_re_2"), (.str (PySem.Str.ofString "_twin_re_2") 446), (.ref 114)⟩, ⟨PyData.keyHash P (PySem.Str.ofString "CRLF"), (.str (PySem.Str.ofString "CRLF") 448), (.str (PySem.Str.mk (Array.mk [nat_lit 13, nat_lit 10])) 447)⟩, ⟨PyData.keyHash P (PySem.Str.ofString "quotedata"), (.str (PySem.Str.ofString "quotedata") 455), (.ref 121)⟩, ⟨PyData.keyHash P (PySem.Str.ofString "_fix_eols"), (.str (PySem.Str.ofString "_fix_eols") 462), (.ref 128)⟩, ⟨PyData.keyHash P (PySem.Str.ofString "b1_set"), (.str (PySem.Str.ofString "b1_set") 524), (.ref 136)⟩, ⟨PyData.keyHash P (PySem.Str.ofString "in_table_b1"), (.str (PySem.Str.ofString "in_table_b1") 531), (.ref 146)⟩, ⟨PyData.keyHash P (PySem.Str.ofString "b3_exceptions"), (.str (PySem.Str.ofString "b3_exceptions") 2482), (.ref 147)⟩, ⟨PyData.keyHash P (PySem.Str.ofString "map_table_b3"), (.str (PySem.Str.ofString "map_table_b3") 2490), (.ref 192)⟩, ⟨PyData.keyHash P (PySem.Str.ofString "c8_set"), (.str (PySem.Str.ofString "c8_set") 2531), (.ref 206)⟩, ⟨PyData.keyHash P (PySem.Str.ofString "in_table_c8"), (.str (PySem.Str.ofString "in_table_c8") 2538), (.ref 216)⟩, ⟨PyData.keyHash P (PySem.Str.ofString "_law_cells"), (.str (PySem.Str.ofString "_law_cells") 2549), (.ref 223)⟩, ⟨PyData.keyHash P (PySem.Str.ofString "_law_mail"), (.str (PySem.Str.ofString "_law_mail") 2555), (.ref 228)⟩, ⟨PyData.keyHash P (PySem.Str.ofString "_law_column"), (.str (PySem.Str.ofString "_law_column") 2561), (.ref 233)⟩, ⟨PyData.keyHash P (PySem.Str.ofString "_law_lead"), (.str (PySem.Str.ofString "_law_lead") 2567), (.ref 238)⟩, ⟨PyData.keyHash P (PySem.Str.ofString "_law_relay"), (.str (PySem.Str.ofString "_law_relay") 2573), (.ref 243)⟩, ⟨PyData.keyHash P (PySem.Str.ofString "_law_counts"), (.str (PySem.Str.ofString "_law_counts") 2579), (.ref 248)⟩, ⟨PyData.keyHash P (PySem.Str.ofString "law"), (.str (PySem.Str.ofString "law") 2585), (.ref 253)⟩]) 30), List.toArray []⟩
noncomputable def o29_6 (P : Params) : Obj := ⟨.none, none, (.fields (List.toArray [(.int (2) 0), (.int (0) 0), (.ref 37), (.int (6) 0), (.int (0) 0), (.ref 44), (.int (57) 0), (.int (0) 0), (.ref 120), (.int (59) 0), (.int (0) 0), (.ref 127), (.int (63) 0), (.int (0) 0), (.ref 145), (.int (66) 0), (.int (0) 0), (.ref 191), (.int (72) 0), (.int (0) 0), (.ref 215), (.int (75) 0), (.int (0) 0), (.ref 222), (.int (80) 0), (.int (0) 0), (.ref 227), (.int (90) 0), (.int (0) 0), (.ref 232), (.int (95) 0), (.int (0) 0), (.ref 237), (.int (98) 0), (.int (0) 0), (.ref 242), (.int (102) 0), (.int (0) 0), (.ref 247), (.int (107) 0), (.int (0) 0), (.ref 252)])), List.toArray []⟩
noncomputable def o210 (P : Params) : Obj := ⟨(.type "tuple"), none, (.seq (List.toArray []) 0), List.toArray []⟩
noncomputable def o211 (P : Params) : Obj := ⟨.none, none, (.fields (List.toArray [])), List.toArray []⟩
noncomputable def o212 (P : Params) : Obj := ⟨(.type "tuple"), none, (.seq (List.toArray [(.str (PySem.Str.ofString "code") 2535)]) 0), List.toArray []⟩
noncomputable def o213 (P : Params) : Obj := ⟨(.type "tuple"), none, (.seq (List.toArray []) 0), List.toArray []⟩
noncomputable def o214 (P : Params) : Obj := ⟨.none, none, (.func fn0_in_table_c8), List.toArray []⟩
noncomputable def o215 (P : Params) : Obj := ⟨(.type "code"), none, (.fields (List.toArray [(.str (PySem.Str.ofString "in_table_c8") 2532), (.str (PySem.Str.ofString "in_table_c8") 2533), (.str (PySem.Str.ofString "/claim/cut.py") 2534), (.int (72) 0), (.int (1) 0), (.int (0) 0), (.int (0) 0), (.int (3) 0), (.ref 210), (.bool true), (.int (276) 0), (.ref 211), .none, (.ref 212), (.ref 213), (.ref 214), (.int (2536) 0), (.int (72) 0), (.str (PySem.Str.ofString "/claim/cut.py") 2537)])), List.toArray []⟩
noncomputable def o216 (P : Params) : Obj := ⟨(.type "function"), none, (.func fn_in_table_c8), List.toArray []⟩
noncomputable def o217 (P : Params) : Obj := ⟨(.type "tuple"), none, (.seq (List.toArray []) 0), List.toArray []⟩
noncomputable def o218 (P : Params) : Obj := ⟨.none, none, (.fields (List.toArray [])), List.toArray []⟩
noncomputable def o219 (P : Params) : Obj := ⟨(.type "tuple"), none, (.seq (List.toArray [(.str (PySem.Str.ofString "script") 2544), (.str (PySem.Str.ofString "cells") 2545), (.str (PySem.Str.ofString "place") 2546)]) 0), List.toArray []⟩
noncomputable def o220 (P : Params) : Obj := ⟨(.type "tuple"), none, (.seq (List.toArray []) 0), List.toArray []⟩
noncomputable def o221 (P : Params) : Obj := ⟨.none, none, (.func fn0__law_cells), List.toArray []⟩
noncomputable def o222 (P : Params) : Obj := ⟨(.type "code"), none, (.fields (List.toArray [(.str (PySem.Str.ofString "_law_cells") 2541), (.str (PySem.Str.ofString "_law_cells") 2542), (.str (PySem.Str.ofString "/claim/cut.py") 2543), (.int (75) 0), (.int (1) 0), (.int (0) 0), (.int (0) 0), (.int (3) 0), (.ref 217), (.bool true), (.int (276) 0), (.ref 218), .none, (.ref 219), (.ref 220), (.ref 221), (.int (2547) 0), (.int (75) 0), (.str (PySem.Str.ofString "/claim/cut.py") 2548)])), List.toArray []⟩
noncomputable def o223 (P : Params) : Obj := ⟨(.type "function"), none, (.func fn__law_cells), List.toArray []⟩
noncomputable def o224 (P : Params) : Obj := ⟨(.type "tuple"), none, (.seq (List.toArray []) 0), List.toArray []⟩
noncomputable def o225 (P : Params) : Obj := ⟨.none, none, (.fields (List.toArray [])), List.toArray []⟩
noncomputable def o226 (P : Params) : Obj := ⟨.none, none, (.func fn0__law_mail), List.toArray []⟩
noncomputable def o227 (P : Params) : Obj := ⟨(.type "code"), none, (.fields (List.toArray [(.str (PySem.Str.ofString "_law_mail") 2550), (.str (PySem.Str.ofString "_law_mail") 2551), (.str (PySem.Str.ofString "/claim/cut.py") 2552), (.int (80) 0), (.int (1) 0), (.int (0) 0), (.int (0) 0), (.int (3) 0), (.ref 224), (.bool true), (.int (276) 0), (.ref 225), .none, .none, .none, (.ref 226), (.int (2553) 0), (.int (80) 0), (.str (PySem.Str.ofString "/claim/cut.py") 2554)])), List.toArray []⟩
noncomputable def o228 (P : Params) : Obj := ⟨(.type "function"), none, (.func fn__law_mail), List.toArray []⟩
noncomputable def o229 (P : Params) : Obj := ⟨(.type "tuple"), none, (.seq (List.toArray []) 0), List.toArray []⟩
noncomputable def o230 (P : Params) : Obj := ⟨.none, none, (.fields (List.toArray [])), List.toArray []⟩
noncomputable def o231 (P : Params) : Obj := ⟨.none, none, (.func fn0__law_column), List.toArray []⟩
noncomputable def o232 (P : Params) : Obj := ⟨(.type "code"), none, (.fields (List.toArray [(.str (PySem.Str.ofString "_law_column") 2556), (.str (PySem.Str.ofString "_law_column") 2557), (.str (PySem.Str.ofString "/claim/cut.py") 2558), (.int (90) 0), (.int (2) 0), (.int (0) 0), (.int (0) 0), (.int (3) 0), (.ref 229), (.bool true), (.int (276) 0), (.ref 230), .none, .none, .none, (.ref 231), (.int (2559) 0), (.int (90) 0), (.str (PySem.Str.ofString "/claim/cut.py") 2560)])), List.toArray []⟩
noncomputable def o233 (P : Params) : Obj := ⟨(.type "function"), none, (.func fn__law_column), List.toArray []⟩
noncomputable def o234 (P : Params) : Obj := ⟨(.type "tuple"), none, (.seq (List.toArray []) 0), List.toArray []⟩
noncomputable def o235 (P : Params) : Obj := ⟨.none, none, (.fields (List.toArray [])), List.toArray []⟩
noncomputable def o236 (P : Params) : Obj := ⟨.none, none, (.func fn0__law_lead), List.toArray []⟩
noncomputable def o237 (P : Params) : Obj := ⟨(.type "code"), none, (.fields (List.toArray [(.str (PySem.Str.ofString "_law_lead") 2562), (.str (PySem.Str.ofString "_law_lead") 2563), (.str (PySem.Str.ofString "/claim/cut.py") 2564), (.int (95) 0), (.int (1) 0), (.int (0) 0), (.int (0) 0), (.int (3) 0), (.ref 234), (.bool true), (.int (276) 0), (.ref 235), .none, .none, .none, (.ref 236), (.int (2565) 0), (.int (95) 0), (.str (PySem.Str.ofString "/claim/cut.py") 2566)])), List.toArray []⟩
noncomputable def o238 (P : Params) : Obj := ⟨(.type "function"), none, (.func fn__law_lead), List.toArray []⟩
noncomputable def o239 (P : Params) : Obj := ⟨(.type "tuple"), none, (.seq (List.toArray []) 0), List.toArray []⟩
noncomputable def o240 (P : Params) : Obj := ⟨.none, none, (.fields (List.toArray [])), List.toArray []⟩
noncomputable def o241 (P : Params) : Obj := ⟨.none, none, (.func fn0__law_relay), List.toArray []⟩
noncomputable def o242 (P : Params) : Obj := ⟨(.type "code"), none, (.fields (List.toArray [(.str (PySem.Str.ofString "_law_relay") 2568), (.str (PySem.Str.ofString "_law_relay") 2569), (.str (PySem.Str.ofString "/claim/cut.py") 2570), (.int (98) 0), (.int (2) 0), (.int (0) 0), (.int (0) 0), (.int (3) 0), (.ref 239), (.bool true), (.int (276) 0), (.ref 240), .none, .none, .none, (.ref 241), (.int (2571) 0), (.int (98) 0), (.str (PySem.Str.ofString "/claim/cut.py") 2572)])), List.toArray []⟩
noncomputable def o243 (P : Params) : Obj := ⟨(.type "function"), none, (.func fn__law_relay), List.toArray []⟩
noncomputable def o244 (P : Params) : Obj := ⟨(.type "tuple"), none, (.seq (List.toArray []) 0), List.toArray []⟩
noncomputable def o245 (P : Params) : Obj := ⟨.none, none, (.fields (List.toArray [])), List.toArray []⟩
noncomputable def o246 (P : Params) : Obj := ⟨.none, none, (.func fn0__law_counts), List.toArray []⟩
noncomputable def o247 (P : Params) : Obj := ⟨(.type "code"), none, (.fields (List.toArray [(.str (PySem.Str.ofString "_law_counts") 2574), (.str (PySem.Str.ofString "_law_counts") 2575), (.str (PySem.Str.ofString "/claim/cut.py") 2576), (.int (102) 0), (.int (1) 0), (.int (0) 0), (.int (0) 0), (.int (3) 0), (.ref 244), (.bool true), (.int (276) 0), (.ref 245), .none, .none, .none, (.ref 246), (.int (2577) 0), (.int (102) 0), (.str (PySem.Str.ofString "/claim/cut.py") 2578)])), List.toArray []⟩
noncomputable def o248 (P : Params) : Obj := ⟨(.type "function"), none, (.func fn__law_counts), List.toArray []⟩
noncomputable def o249 (P : Params) : Obj := ⟨(.type "tuple"), none, (.seq (List.toArray []) 0), List.toArray []⟩
noncomputable def o250 (P : Params) : Obj := ⟨.none, none, (.fields (List.toArray [])), List.toArray []⟩
noncomputable def o251 (P : Params) : Obj := ⟨.none, none, (.func fn0_law), List.toArray []⟩
noncomputable def o252 (P : Params) : Obj := ⟨(.type "code"), none, (.fields (List.toArray [(.str (PySem.Str.ofString "law") 2580), (.str (PySem.Str.ofString "law") 2581), (.str (PySem.Str.ofString "/claim/cut.py") 2582), (.int (107) 0), (.int (1) 0), (.int (0) 0), (.int (0) 0), (.int (3) 0), (.ref 249), (.bool true), (.int (276) 0), (.ref 250), .none, .none, .none, (.ref 251), (.int (2583) 0), (.int (107) 0), (.str (PySem.Str.ofString "/claim/cut.py") 2584)])), List.toArray []⟩
noncomputable def o253 (P : Params) : Obj := ⟨(.type "function"), none, (.func fn_law), List.toArray []⟩
noncomputable def TG9 (P : Params) : BT := (.node (o0 P) (.node (o1 P) (.node (o3_9 P) (.node (o7 P) (.node (o15 P) (.node (o31 P) (.node (o63 P) (.node (o127 P) .nil .nil) (.node (o191 P) .nil .nil)) (.node (o95 P) (.node (o159 P) .nil .nil) (.node (o223 P) .nil .nil))) (.node (o47 P) (.node (o79 P) (.node (o143 P) .nil .nil) (.node (o207 P) .nil .nil)) (.node (o111 P) (.node (o175 P) .nil .nil) (.node (o239 P) .nil .nil)))) (.node (o23 P) (.node (o39 P) (.node (o71 P) (.node (o135 P) .nil .nil) (.node (o199 P) .nil .nil)) (.node (o103 P) (.node (o167 P) .nil .nil) (.node (o231 P) .nil .nil))) (.node (o55 P) (.node (o87 P) (.node (o151 P) .nil .nil) (.node (o215 P) .nil .nil)) (.node (o119 P) (.node (o183 P) .nil .nil) (.node (o247 P) .nil .nil))))) (.node (o11_1 P) (.node (o19 P) (.node (o35 P) (.node (o67 P) (.node (o131 P) .nil .nil) (.node (o195 P) .nil .nil)) (.node (o99 P) (.node (o163 P) .nil .nil) (.node (o227 P) .nil .nil))) (.node (o51 P) (.node (o83 P) (.node (o147 P) .nil .nil) (.node (o211 P) .nil .nil)) (.node (o115 P) (.node (o179 P) .nil .nil) (.node (o243 P) .nil .nil)))) (.node (o27 P) (.node (o43 P) (.node (o75 P) (.node (o139 P) .nil .nil) (.node (o203 P) .nil .nil)) (.node (o107 P) (.node (o171 P) .nil .nil) (.node (o235 P) .nil .nil))) (.node (o59 P) (.node (o91 P) (.node (o155 P) .nil .nil) (.node (o219 P) .nil .nil)) (.node (o123 P) (.node (o187 P) .nil .nil) (.node (o251 P) .nil .nil)))))) (.node (o5 P) (.node (o9 P) (.node (o17 P) (.node (o33 P) (.node (o65 P) (.node (o129 P) .nil .nil) (.node (o193 P) .nil .nil)) (.node (o97 P) (.node (o161 P) .nil .nil) (.node (o225 P) .nil .nil))) (.node (o49 P) (.node (o81 P) (.node (o145 P) .nil .nil) (.node (o209 P) .nil .nil)) (.node (o113 P) (.node (o177 P) .nil .nil) (.node (o241 P) .nil .nil)))) (.node (o25 P) (.node (o41 P) (.node (o73 P) (.node (o137 P) .nil .nil) (.node (o201 P) .nil .nil)) (.node (o105 P) (.node (o169 P) .nil .nil) (.node (o233 P) .nil .nil))) (.node (o57 P) (.node (o89 P) (.node (o153 P) .nil .nil) (.node (o217 P) .nil .nil)) (.node (o121 P) (.node (o185 P) .nil .nil) (.node (o249 P) .nil .nil))))) (.node (o13 P) (.node (o21 P) (.node (o37 P) (.node (o69 P) (.node (o133 P) .nil .nil) (.node (o197 P) .nil .nil)) (.node (o101 P) (.node (o165 P) .nil .nil) (.node (o229 P) .nil .nil))) (.node (o53 P) (.node (o85 P) (.node (o149 P) .nil .nil) (.node (o213 P) .nil .nil)) (.node (o117 P) (.node (o181 P) .nil .nil) (.node (o245 P) .nil .nil)))) (.node (o29_6 P) (.node (o45 P) (.node (o77 P) (.node (o141 P) .nil .nil) (.node (o205 P) .nil .nil)) (.node (o109 P) (.node (o173 P) .nil .nil) (.node (o237 P) .nil .nil))) (.node (o61 P) (.node (o93 P) (.node (o157 P) .nil .nil) (.node (o221 P) .nil .nil)) (.node (o125 P) (.node (o189 P) .nil .nil) (.node (o253 P) .nil .nil))))))) (.node (o2 P) (.node (o4 P) (.node (o8 P) (.node (o16 P) (.node (o32 P) (.node (o64 P) (.node (o128 P) .nil .nil) (.node (o192 P) .nil .nil)) (.node (o96 P) (.node (o160 P) .nil .nil) (.node (o224 P) .nil .nil))) (.node (o48 P) (.node (o80 P) (.node (o144 P) .nil .nil) (.node (o208 P) .nil .nil)) (.node (o112 P) (.node (o176 P) .nil .nil) (.node (o240 P) .nil .nil)))) (.node (o24 P) (.node (o40 P) (.node (o72 P) (.node (o136 P) .nil .nil) (.node (o200 P) .nil .nil)) (.node (o104 P) (.node (o168 P) .nil .nil) (.node (o232 P) .nil .nil))) (.node (o56 P) (.node (o88 P) (.node (o152 P) .nil .nil) (.node (o216 P) .nil .nil)) (.node (o120 P) (.node (o184 P) .nil .nil) (.node (o248 P) .nil .nil))))) (.node (o12 P) (.node (o20 P) (.node (o36 P) (.node (o68 P) (.node (o132 P) .nil .nil) (.node (o196 P) .nil .nil)) (.node (o100 P) (.node (o164 P) .nil .nil) (.node (o228 P) .nil .nil))) (.node (o52 P) (.node (o84 P) (.node (o148 P) .nil .nil) (.node (o212 P) .nil .nil)) (.node (o116 P) (.node (o180 P) .nil .nil) (.node (o244 P) .nil .nil)))) (.node (o28 P) (.node (o44 P) (.node (o76 P) (.node (o140 P) .nil .nil) (.node (o204 P) .nil .nil)) (.node (o108 P) (.node (o172 P) .nil .nil) (.node (o236 P) .nil .nil))) (.node (o60 P) (.node (o92 P) (.node (o156 P) .nil .nil) (.node (o220 P) .nil .nil)) (.node (o124 P) (.node (o188 P) .nil .nil) (.node (o252 P) .nil .nil)))))) (.node (o6 P) (.node (o10 P) (.node (o18 P) (.node (o34 P) (.node (o66 P) (.node (o130 P) .nil .nil) (.node (o194 P) .nil .nil)) (.node (o98 P) (.node (o162 P) .nil .nil) (.node (o226 P) .nil .nil))) (.node (o50 P) (.node (o82 P) (.node (o146 P) .nil .nil) (.node (o210 P) .nil .nil)) (.node (o114 P) (.node (o178 P) .nil .nil) (.node (o242 P) .nil .nil)))) (.node (o26 P) (.node (o42 P) (.node (o74 P) (.node (o138 P) .nil .nil) (.node (o202 P) .nil .nil)) (.node (o106 P) (.node (o170 P) .nil .nil) (.node (o234 P) .nil .nil))) (.node (o58 P) (.node (o90 P) (.node (o154 P) .nil .nil) (.node (o218 P) .nil .nil)) (.node (o122 P) (.node (o186 P) .nil .nil) (.node (o250 P) .nil .nil))))) (.node (o14 P) (.node (o22 P) (.node (o38 P) (.node (o70 P) (.node (o134 P) .nil .nil) (.node (o198 P) .nil .nil)) (.node (o102 P) (.node (o166 P) .nil .nil) (.node (o230 P) .nil .nil))) (.node (o54 P) (.node (o86 P) (.node (o150 P) .nil .nil) (.node (o214 P) .nil .nil)) (.node (o118 P) (.node (o182 P) .nil .nil) (.node (o246 P) .nil .nil)))) (.node (o30 P) (.node (o46 P) (.node (o78 P) (.node (o142 P) .nil .nil) (.node (o206 P) .nil .nil)) (.node (o110 P) (.node (o174 P) .nil .nil) (.node (o238 P) .nil .nil))) (.node (o62 P) (.node (o94 P) (.node (o158 P) .nil .nil) (.node (o222 P) .nil .nil)) (.node (o126 P) (.node (o190 P) .nil .nil) .nil)))))))
noncomputable def SG9 (w : World) (os : OsState) : SharedT := ⟨TG9 w.params, 254, {}, Array.mk [], {}, 2586, os⟩
end Mine
end
section
open PySem PySem.W PyProof.Rows PySem.Calls
set_option Elab.async false
set_option maxRecDepth 100000
set_option maxHeartbeats 0
set_option linter.unusedVariables false
namespace Mine
noncomputable def envTop : Env := { scope := pw'.main.scope, locals := mainNs, globals := mainNs, cells := [], code := .ref 30, frame := some 31 }
noncomputable def codeTop : Code := .body (behindTheImports pw') envTop
noncomputable def B0 : List Frame := [topFrame default]
noncomputable def asT : Stmt → List PySem.Expr | .Assign t _ _ => t | _ => []
noncomputable def asP : Stmt → Pos | .Assign _ _ p => p | _ => default
noncomputable def asK : Stmt → List (Option PySem.Expr) | .Assign _ (.Dict k _ _) _ => k | _ => []
noncomputable def asV : Stmt → List PySem.Expr | .Assign _ (.Dict _ v _) _ => v | _ => []
noncomputable def asD : Stmt → Pos | .Assign _ (.Dict _ _ p) _ => p | _ => default
theorem st13 : sAt 13 = .Assign (asT (sAt 13)) (.Dict (asK (sAt 13)) (asV (sAt 13)) (asD (sAt 13))) (asP (sAt 13)) := by kernel_rfl
theorem pairs13 : (evalEachOpt (asK (sAt 13)) envTop).zip ((evalEach (asV (sAt 13)) envTop).map fun v => do let x ← v; standAt (asD (sAt 13)); pure x) = items.map (gq (asD (sAt 13))) := by kernel_rfl
theorem items_cut : items = c0s ++ css.flatten ++ lasts := by kernel_rfl
theorem c0s_len : c0s.length = 17 := by kernel_rfl
theorem css_len : css.all (fun d => d.length == 17) = true := by kernel_rfl
theorem css_n : css.length = 37 := by kernel_rfl
theorem lasts_len : lasts.length = 4 := by kernel_rfl
theorem items_len : items.length = 650 := by kernel_rfl
noncomputable def incr : List Int → Bool
  | a :: b :: r => decide (a < b) && incr (b :: r)
  | _ => true
theorem incr_all : ∀ (l : List Int) (a : Int), incr (a :: l) = true → ∀ b ∈ l, a < b
  | [], a, _, b, hb => by cases hb
  | c :: r, a, h, b, hb => by
    simp only [incr, Bool.and_eq_true, decide_eq_true_eq] at h
    rcases List.mem_cons.mp hb with rfl | hb
    · exact h.1
    · exact Int.lt_trans h.1 (incr_all r c h.2 b hb)
theorem incr_nodup : ∀ l : List Int, incr l = true → l.Nodup
  | [], _ => List.nodup_nil
  | [a], _ => by simp
  | a :: b :: r, h => by
    refine List.nodup_cons.mpr ⟨fun q => ?_, incr_nodup (b :: r) ?_⟩
    · exact absurd (incr_all _ _ h a q) (Int.lt_irrefl a)
    · simp only [incr, Bool.and_eq_true] at h; exact h.2
theorem items_incr : incr (items.map (·.1)) = true := by kernel_rfl
theorem items_good : items.all (fun x => decide (0 ≤ x.1) && decide (x.1 < 2000000)) = true := by kernel_rfl
theorem good13 : GoodKeys items := fun x hx => by
  have := List.all_eq_true.mp items_good x hx
  simpa using this
end Mine
end
section
open PySem PySem.W PyProof.Rows PySem.Calls
set_option Elab.async false
set_option maxRecDepth 100000
set_option maxHeartbeats 0
set_option linter.unusedVariables false
namespace Mine
noncomputable def base5 (P : Params) : Array Obj := ((TG5 P).list 147).toArray
theorem abs5 (w : World) (os : OsState) : (SG5 w os).abs = ⟨hp (base5 w.params) {} [], Array.mk [], {}, 532, os⟩ := by
  show (⟨⟨base5 w.params, {}⟩, Array.mk [], {}, 532, os⟩ : Shared) = ⟨⟨base5 w.params ++ #[], {}⟩, Array.mk [], {}, 532, os⟩
  rw [Array.append_empty]
theorem abs5b (w : World) (os : OsState) : (SG5b w os).abs = ⟨hp (base5 w.params) {} (mainD :: subD), Array.mk [], {}, 2482, os⟩ := by kernel_rfl
theorem base5_size (P : Params) : (base5 P).size = 147 := by unfold base5; rw [List.size_toArray]; unfold BT.list; rw [List.length_map, List.length_range]
theorem stores13 (w : World) (os : OsState) : segRunT treeTable pw' w 28 (some (.ref 6)) 1 40 (SG5b w os) ⟨(assignStores envTop (.ref 147) none ((assignEach (asT (sAt 13)) envTop).map (·.2))).wrap doneF deadEnd id id, codeTop, asD (sAt 13), B0⟩ = some (.next, SG6 w os, codeTop, ⟨65, 0, 65, 13⟩) := by
  rw [Fast.te10110043849684766642, Fast.te14364793385576792824]
  kernel_rfl
theorem swaps13 : swapsWithSole (asT (sAt 13)) (.Dict (asK (sAt 13)) (asV (sAt 13)) (asD (sAt 13))) (asP (sAt 13)).line envTop = Pure.pure false := by kernel_rfl
theorem swapped13 : swappedStores (asT (sAt 13)) (.Dict (asK (sAt 13)) (asV (sAt 13)) (asD (sAt 13))) envTop = Pure.pure none := by kernel_rfl
theorem disp13 (w : World) (os : OsState) (p : Pos) : Ok w 28 (some (.ref 6)) 80000 (eval (.Dict (asK (sAt 13)) (asV (sAt 13)) (asD (sAt 13))) envTop) (SG5 w os).abs p (.ref 147) (SG5b w os).abs (asD (sAt 13)) := by
  rw [arm_eval_Dict, pairs13, abs5, abs5b]
  refine ok_at (kk := 79999) (ok_bind 0 (ok_pure ()) ?_)
  have h := ok_display (w := w) (n₀ := 28) (ann := some (.ref 6)) (base := base5 w.params) (l := {}) (asD (sAt 13)) c0s css lasts ⟨hp (base5 w.params) {} [], Array.mk [], {}, 532, os⟩ c0s_len
    (fun d hd => by simpa using List.all_eq_true.mp css_len d hd) (by intro q; have := congrArg List.length q; rw [lasts_len] at this; cases this) (by rw [lasts_len]; decide) (by rw [← items_cut]; exact good13)
    (by rw [← items_cut]; exact incr_nodup _ items_incr) (by rw [← items_cut, items_len, sizeLine_eq]; decide) (by rw [base5_size]; decide) (by rw [base5_size]; decide) rfl
  rw [← items_cut] at h
  rw [css_n, base5_size] at h
  dsimp only at h
  rw [items_len] at h
  refine ok_le (k := 2000 * 37 + 3000) ?_ (by decide)
  have e : 532 + 3 * 650 = 2482 := rfl
  rw [e] at h
  have e2 : mainD :: subD = dO (entsN 3 532 (c0s ++ css.flatten) ++ entsN 2 (532 + 3 * (c0s ++ css.flatten).length) lasts).toArray 650 :: (subsOf (532 + 3 * c0s.length) css ++ [dO (entsN 2 (532 + 3 * (c0s ++ css.flatten).length) lasts).toArray lasts.length]) := by
    unfold mainD subD
    rw [← items_cut, items_len]
  rw [e2]
  exact h
theorem pc12 (w : World) (os : OsState) : segRun treeTable pw' w 28 (some (.ref 6)) 1 80050 (SG5 w os).abs (pieceOf (sAt 13) envTop codeTop ⟨63, 0, 64, 30⟩ B0) = some (.next, (SG6 w os).abs, codeTop, ⟨65, 0, 65, 13⟩) := by
  have tail := segRun_of (stores13 w os)
  have front : Reach w 28 (some (.ref 6)) 80001 (SG5 w os).abs ⟨(exec (sAt 13) envTop).wrap doneF deadEnd id id, codeTop, ⟨63, 0, 64, 30⟩, B0⟩ (SG5b w os).abs ⟨(assignStores envTop (.ref 147) none ((assignEach (asT (sAt 13)) envTop).map (·.2))).wrap doneF deadEnd id id, codeTop, asD (sAt 13), B0⟩ := by
    have hx : exec (sAt 13) envTop = ((standAt (asP (sAt 13)) >>= fun _ => eval (.Dict (asK (sAt 13)) (asV (sAt 13)) (asD (sAt 13))) envTop) >>= fun v => assignStores envTop v none ((assignEach (asT (sAt 13)) envTop).map (·.2))) := by
      conv => lhs; rw [st13, arm_exec_Assign]
      rw [swaps13, swapped13]
      rfl
    rw [hx, Sem.bind_eq_wrap', Sem.wrap_wrap]
    have h : Ok w 28 (some (.ref 6)) 80001 (standAt (asP (sAt 13)) >>= fun _ => eval (.Dict (asK (sAt 13)) (asV (sAt 13)) (asD (sAt 13))) envTop) (SG5 w os).abs ⟨63, 0, 64, 30⟩ (.ref 147) (SG5b w os).abs (asD (sAt 13)) :=
      ok_at (kk := 80000) (ok_bind 0 (ok_pure ()) (disp13 w os _))
    exact h _ _ _ _ codeTop B0 (Nat.le_refl 1)
  have r := front.run tail
  exact segRun_mono 9 _ _ _ _ r
end Mine
end
section
open PySem PySem.W PyProof.Rows PySem.Calls
set_option Elab.async false
set_option maxRecDepth 100000
set_option maxHeartbeats 0
set_option linter.unusedVariables false
namespace Mine
theorem impT (w : World) : (impGoT treeTable (opening pw') w 798 ⟨.nil, 0, {}, Array.mk [], {}, 1, (start (opening pw')).1.os⟩ (start (opening pw')).2).map (fun r => (r.1, r.2.atExitBegin)) = some (SSe w (start (opening pw')).1.os, some []) := by
  rw [Fast.te14789777615569096658, Fast.te14364793385576792824]
  kernel_rfl
theorem imp_all (w : World) : importEnds treeTable (opening pw') w (798 + 1) (start (opening pw')).1 (start (opening pw')).2 = some ⟨absHeap (TSe w.params) 28 {}, Array.mk [], {}, 276, (start (opening pw')).1.os⟩ := by
  obtain ⟨⟨s', t'⟩, h1, h2⟩ := Option.map_eq_some_iff.mp (impT w)
  obtain ⟨rfl, h3⟩ := Prod.mk.inj h2
  have g := impGo_of h1
  have e0 : (⟨.nil, 0, {}, Array.mk [], {}, 1, (start (opening pw')).1.os⟩ : SharedT).abs = (start (opening pw')).1 := by kernel_rfl
  rw [e0] at g
  refine imp_go g ?_
  unfold importEnds
  rw [h3]
  rfl
theorem fenceT (w : World) : (fun os => (fenceModules? pw' ⟨absHeap (TSe w.params) 28 {}, Array.mk [], {}, 276, os⟩).map (fun s => (s.heap, s.gens, s.drawn, s.toks))) = fun _ => some (absHeap (TS0 w.params) 28 {}, Array.mk [], {}, 276) := by
  funext os
  kernel_rfl
theorem open_all : ∀ w : World, (fencedOpening treeTable pw' w 100000).map (fun s => (s.heap, s.gens, s.drawn, s.toks)) = some (absHeap (TS0 w.params) 28 {}, Array.mk [], {}, 276) :=
  open_cut (p := pw') (N := 100000) (M := 799) (He := fun P => absHeap (TSe P) 28 {}) (H₀ := fun P => absHeap (TS0 P) 28 {}) imp_all (by decide) fenceT
theorem preT (w : World) (os : OsState) : topGo treeTable pw' w 28 (some (.ref 6)) 12 (SS0 w os).abs (topStub pw') = some ((SSa w os).abs, ⟨denote treeTable codeTop, codeTop, default, B0⟩) := by
  rw [Fast.te15667345088766844465, Fast.te14364793385576792824, Fast.te11892475500146522536]
  kernel_rfl
theorem blockT (w : World) (os : OsState) : segRun treeTable pw' w 28 (some (.ref 6)) 1 1 (SSa w os).abs (blockOf (behindTheImports pw') envTop codeTop default B0) = some (.next, (SSa w os).abs, codeTop, default) := by
  kernel_rfl
theorem finT (w : World) (os : OsState) : topRun treeTable pw' w 28 (some (.ref 6)) 2 (SG9 w os).abs ⟨doneF .next, codeTop, ⟨107, 0, 122, 128⟩, B0⟩ = some (SG9 w os).abs := by
  rw [Fast.te14082659384304107361, Fast.te14364793385576792824]
  kernel_rfl
theorem pc0 (w : World) (os : OsState) : segRunT treeTable pw' w 28 (some (.ref 6)) 1 60 (SSa w os) (piecesOf [sAt 1, sAt 2] envTop codeTop default B0) = some (.next, SG1 w os, codeTop, ⟨5, 0, 5, 8⟩) := by
  rw [Fast.te10110043849684766642, Fast.te14364793385576792824]
  kernel_rfl
theorem pc2 : ∀ (w : World) (os : OsState), segRunT treeTable pw' w 28 (some (.ref 6)) 1 500 (SG1 w os) (piecesOf [sAt 3] envTop codeTop ⟨5, 0, 5, 8⟩ B0) = some (.next, SG2 w os, codeTop, ⟨6, 0, 52, 16⟩) := by
  rw [Fast.te10110043849684766642, Fast.te14364793385576792824]
  intro w os
  revert w
  refine byRow2 "special-get-raises" (P := fun w => _ = _) ?_ ?_
  · intro w; kernel_rfl
  · intro w; kernel_rfl
theorem pc3 (w : World) (os : OsState) : segRunT treeTable pw' w 28 (some (.ref 6)) 1 240 (SG2 w os) (piecesOf [sAt 4, sAt 5, sAt 6, sAt 7, sAt 8, sAt 9, sAt 10] envTop codeTop ⟨6, 0, 52, 16⟩ B0) = some (.next, SG3 w os, codeTop, ⟨61, 0, 61, 8⟩) := by
  rw [Fast.te10110043849684766642, Fast.te14364793385576792824]
  kernel_rfl
theorem pc10 : ∀ (w : World) (os : OsState), segRunT treeTable pw' w 28 (some (.ref 6)) 1 1000 (SG3 w os) (piecesOf [sAt 11] envTop codeTop ⟨61, 0, 61, 8⟩ B0) = some (.next, SG4 w os, codeTop, ⟨62, 0, 62, 6⟩) := by
  rw [Fast.te10110043849684766642, Fast.te14364793385576792824]
  intro w os
  revert w
  refine byRow2 "special-get-raises" (P := fun w => _ = _) ?_ ?_
  · intro w; kernel_rfl
  · intro w; kernel_rfl
theorem pc11 (w : World) (os : OsState) : segRunT treeTable pw' w 28 (some (.ref 6)) 1 40 (SG4 w os) (piecesOf [sAt 12] envTop codeTop ⟨62, 0, 62, 6⟩ B0) = some (.next, SG5 w os, codeTop, ⟨63, 0, 64, 30⟩) := by
  rw [Fast.te10110043849684766642, Fast.te14364793385576792824]
  kernel_rfl
theorem pc13 (w : World) (os : OsState) : segRunT treeTable pw' w 28 (some (.ref 6)) 1 40 (SG6 w os) (piecesOf [sAt 14] envTop codeTop ⟨65, 0, 65, 13⟩ B0) = some (.next, SG7 w os, codeTop, ⟨66, 0, 70, 23⟩) := by
  rw [Fast.te10110043849684766642, Fast.te14364793385576792824]
  kernel_rfl
theorem pc14 : ∀ (w : World) (os : OsState), segRunT treeTable pw' w 28 (some (.ref 6)) 1 800 (SG7 w os) (piecesOf [sAt 15] envTop codeTop ⟨66, 0, 70, 23⟩ B0) = some (.next, SG8 w os, codeTop, ⟨71, 0, 71, 6⟩) := by
  rw [Fast.te10110043849684766642, Fast.te14364793385576792824]
  intro w os
  revert w
  refine byRow2 "special-get-raises" (P := fun w => _ = _) ?_ ?_
  · intro w; kernel_rfl
  · intro w; kernel_rfl
theorem pc15 (w : World) (os : OsState) : segRunT treeTable pw' w 28 (some (.ref 6)) 1 240 (SG8 w os) (piecesOf [sAt 16, sAt 17, sAt 18, sAt 19, sAt 20, sAt 21, sAt 22, sAt 23, sAt 24] envTop codeTop ⟨71, 0, 71, 6⟩ B0) = some (.next, SG9 w os, codeTop, ⟨107, 0, 122, 128⟩) := by
  rw [Fast.te10110043849684766642, Fast.te14364793385576792824]
  kernel_rfl
theorem body_eq : behindTheImports pw' = [sAt 1, sAt 2] ++ ([sAt 3] ++ ([sAt 4, sAt 5, sAt 6, sAt 7, sAt 8, sAt 9, sAt 10] ++ ([sAt 11] ++ ([sAt 12] ++ (sAt 13 :: ([sAt 14] ++ ([sAt 15] ++ ([sAt 16, sAt 17, sAt 18, sAt 19, sAt 20, sAt 21, sAt 22, sAt 23, sAt 24] ++ [])))))))) := by kernel_rfl
theorem run_all (w : World) (os : OsState) : topRun treeTable pw' w 28 (some (.ref 6)) (12 + (1 + (60 + (500 + (240 + (1000 + (40 + (80050 + (40 + (800 + (240 + 2))))))))))) (SS0 w os).abs (topStub pw') = some (SG9 w os).abs := by
  refine go_top (preT w os) ?_
  refine piece_block (q := default) (blockT w os) ?_
  rw [body_eq]
  refine piece_app (q := default) (segRun_of (pc0 w os)) ?_
  refine piece_app (q := default) (segRun_of (pc2 w os)) ?_
  refine piece_app (q := default) (segRun_of (pc3 w os)) ?_
  refine piece_app (q := default) (segRun_of (pc10 w os)) ?_
  refine piece_app (q := default) (segRun_of (pc11 w os)) ?_
  refine piece_cons (q := default) (pc12 w os) ?_
  refine piece_app (q := default) (segRun_of (pc13 w os)) ?_
  refine piece_app (q := default) (segRun_of (pc14 w os)) ?_
  refine piece_app (q := default) (segRun_of (pc15 w os)) ?_
  exact finT w os
end Mine
end
section
open PySem PySem.W PyProof.Rows
set_option Elab.async false
set_option maxRecDepth 100000
namespace Mine
noncomputable abbrev pw : Program := PySem.Challenge.pw_re0164_01
noncomputable def b1L : List Int := [173, 847, 6150, 6155, 6156, 6157, 8203, 8204, 8205, 8288, 65279, 65024, 65025, 65026, 65027, 65028, 65029, 65030, 65031, 65032, 65033, 65034, 65035, 65036, 65037, 65038, 65039]
noncomputable def c8L : List Int := [832, 833, 8206, 8207, 8234, 8235, 8236, 8237, 8238, 8298, 8299, 8300, 8301, 8302, 8303]
noncomputable def isB1 (k : Int) : Bool := b1L.contains k
noncomputable def isC8 (k : Int) : Bool := c8L.contains k
structure XF (w : World) (h : Heap) : Prop where
  b1 : h.SetOf (intKind pw w) 136 isB1 27
  c8 : h.SetOf (intKind pw w) 206 isC8 15
  b3 : ∃ f tk, h.MapOf (intKind pw w) 147 f ∧ f 890 = some (.str ⟨#[32, 953]⟩ tk) ∧ f 46 = none ∧ f 10 = none ∧ f 13 = none
theorem XF.keeps {w : World} {h h' : Heap} (x : XF w h) (k : ∀ b o, h.get? b = some o → h'.get? b = some o) : XF w h' := by
  obtain ⟨⟨o, es, ep, t, h1, r⟩, ⟨o', es', ep', t', h1', r'⟩, ⟨f, tk, ⟨o2, e2, p2, h2, r2⟩, r3⟩⟩ := x
  exact ⟨⟨o, es, ep, t, k _ _ h1, r⟩, ⟨o', es', ep', t', k _ _ h1', r'⟩, ⟨f, tk, ⟨o2, e2, p2, k _ _ h2, r2⟩, r3⟩⟩

theorem in_b1 {w : World} {A : Around} {E : Value → Shared → Prop} {s : Shared} {Q : Value → Shared → Prop} {k : Int} {tk : Tok} (x : XF w s.heap)
    (h : Q (.bool (isB1 k)) { s with toks := s.toks + 1 }) : wpAny (model pw w) A (compareOp .In (.int k tk) (.ref 136)) Q E s :=
  wpAny_inSet_of (knd := intKind pw w) (k := k) (by simp [intKind, Value.isInt]) rfl x.b1 h
theorem in_c8 {w : World} {A : Around} {E : Value → Shared → Prop} {s : Shared} {Q : Value → Shared → Prop} {k : Int} {tk : Tok} (x : XF w s.heap)
    (h : Q (.bool (isC8 k)) { s with toks := s.toks + 1 }) : wpAny (model pw w) A (compareOp .In (.int k tk) (.ref 206)) Q E s :=
  wpAny_inSet_of (knd := intKind pw w) (k := k) (by simp [intKind, Value.isInt]) rfl x.c8 h

/-- what a def of the text promises: the caller's ledger stays, the answer is v -/
noncomputable abbrev TellsN (rd ru : Nat) (w : World) (p : Program) (loose : List Str) (mean : ExcName → Option Value) (mg mb : Str → Option Value) (f : Addr) (vs : List Value) (R : Tok → Value) : Prop :=
  ∀ (dp un : Nat) (gd : Option (List Code)) (cn : Str) (cs : Scope) (a : Addr) (ccd : Value) (cl : List (Str × Addr)) (outer : List Env) (A₀ : Around) (base h₀ : Heap) (L : Addr) (m : Str → Option Value) (news : List (Addr × Obj)) (s : Shared) (Q E : Value → Shared → Prop),
    Below A₀ base outer h₀ → Fr h₀ L s.heap m → (K w.params).In h₀ → News h₀ L s.heap news → Top p loose mean mg mb h₀ → cs.kind = .function → XF w base → dp + rd < recursionLimit → un + ru < cLine →
    (∀ (t : Tok) (h' : Heap) (tk' : Nat), Fr h₀ L h' m → News h₀ L h' news → Q (R t) { s with heap := h', toks := tk' }) →
    wpAny (model pw w) (ktrTop dp un gd cn cs L a ccd cl outer) (call (.ref f) vs) Q E s

noncomputable abbrev Tells0 := TellsN 1 8
theorem XF.at {w : World} {A : Around} {base g h : Heap} {outer : List Env} {L : Addr} {m : Str → Option Value} (B : Below A base outer g) (F : Fr g L h m) (x : XF w base) : XF w h :=
  x.keeps fun b o e => F.keep b o (B.stays b o e)
theorem b3_meth {w : World} {A : Around} {E : Value → Shared → Prop} {s : Shared} {pl : Sem Bool} {Q : Value × List Value → Shared → Prop} (x : XF w s.heap)
    (h : Q (.builtin "dict.get", [.ref 147]) s) : wpAny (model pw w) A (getMethod (.ref 147) (Str.ofString "get") pl) Q E s := by
  obtain ⟨f, tk, hm, _⟩ := x.b3
  exact getMethod_builtin hm.typeIs PySem.F.plainAttrs_dict PySem.F.slot_dict_get PySem.F.type_dict_get hm.noDict h
noncomputable def isPlain (k : Int) : Bool := k == 46 || k == 10 || k == 13
theorem b3_get0 {w : World} {A : Around} {E : Value → Shared → Prop} {s : Shared} {Q : Value → Shared → Prop} {k : Int} {tk : Tok} (x : XF w s.heap) (hk : isPlain k = true)
    (h : Q .none { s with toks := s.toks + 1 }) : wpAny (model pw w) A (call (.builtin "dict.get") [.ref 147, .int k tk]) Q E s := by
  obtain ⟨f, u, hm, h1, h2, h3, h4⟩ := x.b3
  refine call_meetsIn PySem.F.slot_dict_get hm.typeIs PySem.F.entry_dict_get (PySem.F.args_dict_get_2 _ _) (meets_dict_get (intKind pw w) 147 (k := k) (by simp [intKind, Value.isInt]) rfl) ⟨_, hm, ?_⟩
  have : f k = none := by
    simp only [isPlain, Bool.or_eq_true, beq_iff_eq] at hk
    rcases hk with (rfl | rfl) | rfl <;> assumption
  rw [this]; exact h
theorem b3_get1 {w : World} {A : Around} {E : Value → Shared → Prop} {s : Shared} {Q : Value → Shared → Prop} {k : Int} {tk : Tok} (x : XF w s.heap) (hk : (k == 890) = true)
    (h : ∀ u, Q (.str ⟨#[32, 953]⟩ u) { s with toks := s.toks + 1 }) : wpAny (model pw w) A (call (.builtin "dict.get") [.ref 147, .int k tk]) Q E s := by
  obtain ⟨f, u, hm, h1, h2, h3, h4⟩ := x.b3
  refine call_meetsIn PySem.F.slot_dict_get hm.typeIs PySem.F.entry_dict_get (PySem.F.args_dict_get_2 _ _) (meets_dict_get (intKind pw w) 147 (k := k) (by simp [intKind, Value.isInt]) rfl) ⟨_, hm, ?_⟩
  rw [beq_iff_eq.mp hk, h1]; exact h u
local macro_rules | `(tactic| walk_at "getMethod ref") => `(tactic| ((with_reducible show wpAny _ _ (getMethod (Value.ref 147) (Str.ofString "get") _) _ _ _); k_dflt (refine b3_meth (XF.at (by k_asm) (by k_asm) (by assumption)) ?_)))
local macro_rules | `(tactic| walk_at "call builtin:dict.get") => `(tactic| ((with_reducible show wpAny _ _ (call _ [Value.ref 147, Value.int _ _]) _ _ _); first
  | k_dflt (refine b3_get0 (XF.at (by k_asm) (by k_asm) (by assumption)) (by decide +kernel) ?_)
  | (k_dflt (refine b3_get1 (XF.at (by k_asm) (by k_asm) (by assumption)) (by decide +kernel) ?_); intro u1')))
local macro_rules | `(tactic| walk_at "compareOp In") => `(tactic| ((with_reducible show wpAny _ _ (compareOp CmpOp.In (Value.int _ _) (Value.ref _)) _ _ _); first | (k_dflt (refine in_b1 (XF.at (by k_asm) (by k_asm) (by assumption)) ?_)) | (k_dflt (refine in_c8 (XF.at (by k_asm) (by k_asm) (by assumption)) ?_))))
set_option maxHeartbeats 0 in
theorem b1_tells {w : World} {p : Program} {loose : List Str} {mean : ExcName → Option Value} {mg mb : Str → Option Value} (c : Nat) (tk : Tok) :
    Tells0 w p loose mean mg mb 146 [.str ⟨#[c]⟩ tk] (fun _ => .bool (isB1 c)) := by
  have : (K w.params).length = (K w.params).length ∧ PySem.Challenge.rw_re0164_01.foot = 7 := ⟨rfl, rfl⟩
  revert this
  k_fill
  intro _
  intro dp un gd cn cs a ccd cl outer A₀ base h₀ L m news s Q E B F X N T hk XB hd hu hret
  refine wpAny_call ?_
  k_dflt cell_enter
  k_steps
  exact hret 0 _ _ (by k_asm) (by k_asm)
theorem c8_tells {w : World} {p : Program} {loose : List Str} {mean : ExcName → Option Value} {mg mb : Str → Option Value} (c : Nat) (tk : Tok) :
    Tells0 w p loose mean mg mb 216 [.str ⟨#[c]⟩ tk] (fun _ => .bool (isC8 c)) := by
  intro dp un gd cn cs a ccd cl outer A₀ base h₀ L m news s Q E B F X N T hk XB hd hu hret
  refine wpAny_call ?_
  k_dflt cell_enter
  k_steps
  exact hret 0 _ _ (by k_asm) (by k_asm)
theorem map46 {w : World} {p : Program} {loose : List Str} {mean : ExcName → Option Value} {mg mb : Str → Option Value} (tk : Tok) :
    Tells0 w p loose mean mg mb 192 [.str ⟨#[46]⟩ tk] (fun t => .str ⟨#[46]⟩ t) := by
  intro dp un gd cn cs a ccd cl outer A₀ base h₀ L m news s Q E B F X N T hk XB hd hu hret
  refine wpAny_call ?_
  k_dflt cell_enter
  k_steps
  (try rw [show PySem.Str.ofString "." = PySem.Str.mk #[46] from by decide +kernel])
  exact hret _ _ _ (by k_asm) (by k_asm)
theorem map10 {w : World} {p : Program} {loose : List Str} {mean : ExcName → Option Value} {mg mb : Str → Option Value} (tk : Tok) :
    Tells0 w p loose mean mg mb 192 [.str ⟨#[10]⟩ tk] (fun t => .str ⟨#[10]⟩ t) := by
  intro dp un gd cn cs a ccd cl outer A₀ base h₀ L m news s Q E B F X N T hk XB hd hu hret
  refine wpAny_call ?_
  k_dflt cell_enter
  k_steps
  (try rw [show PySem.Str.ofString "\n" = PySem.Str.mk #[10] from by decide +kernel])
  exact hret _ _ _ (by k_asm) (by k_asm)
theorem map13 {w : World} {p : Program} {loose : List Str} {mean : ExcName → Option Value} {mg mb : Str → Option Value} (tk : Tok) :
    Tells0 w p loose mean mg mb 192 [.str ⟨#[13]⟩ tk] (fun t => .str ⟨#[13]⟩ t) := by
  intro dp un gd cn cs a ccd cl outer A₀ base h₀ L m news s Q E B F X N T hk XB hd hu hret
  refine wpAny_call ?_
  k_dflt cell_enter
  k_steps
  (try rw [show PySem.Str.ofString "\r" = PySem.Str.mk #[13] from by decide +kernel])
  exact hret _ _ _ (by k_asm) (by k_asm)
theorem map890 {w : World} {p : Program} {loose : List Str} {mean : ExcName → Option Value} {mg mb : Str → Option Value} (tk : Tok) :
    Tells0 w p loose mean mg mb 192 [.str ⟨#[890]⟩ tk] (fun t => .str ⟨#[32, 953]⟩ t) := by
  intro dp un gd cn cs a ccd cl outer A₀ base h₀ L m news s Q E B F X N T hk XB hd hu hret
  refine wpAny_call ?_
  k_dflt cell_enter
  k_steps
  (try rw [show PySem.Str.ofString " ι" = PySem.Str.mk #[32, 953] from by decide +kernel])
  exact hret _ _ _ (by k_asm) (by k_asm)
noncomputable def plainSign (c : Nat) : Prop := c = 46 ∨ c = 10 ∨ c = 13 ∨ c = 890
noncomputable def b3 (c : Nat) : Str := if c = 890 then ⟨#[32, 953]⟩ else ⟨#[c]⟩
theorem map_tells {w : World} {p : Program} {loose : List Str} {mean : ExcName → Option Value} {mg mb : Str → Option Value} (c : Nat) (tk : Tok) (hc : plainSign c) :
    Tells0 w p loose mean mg mb 192 [.str ⟨#[c]⟩ tk] (fun t => .str (b3 c) t) := by
  rcases hc with rfl | rfl | rfl | rfl
  · exact map46 tk
  · exact map10 tk
  · exact map13 tk
  · exact map890 tk
theorem use0 {rd ru : Nat} {w : World} {p : Program} {loose : List Str} {mean : ExcName → Option Value} {mg mb : Str → Option Value} {f : Addr} {vs : List Value} {R : Tok → Value}
    {dp un : Nat} {gd : Option (List Code)} {cn : Str} {cs : Scope} {a : Addr} {ccd : Value} {cl : List (Str × Addr)} {outer : List Env} {A₀ : Around} {base h₀ : Heap} {L : Addr} {m : Str → Option Value} {news : List (Addr × Obj)} {s : Shared} {Q E : Value → Shared → Prop}
    (C : TellsN rd ru w p loose mean mg mb f vs R) (B : Below A₀ base outer h₀) (F : Fr h₀ L s.heap m) (X : (K w.params).In h₀) (N : News h₀ L s.heap news) (T : Top p loose mean mg mb h₀) (hk : cs.kind = .function) (XB : XF w base) (hd : dp + rd < recursionLimit) (hu : un + ru < cLine)
    (ret : ∀ (t : Tok) (h' : Heap) (tk' : Nat), Fr h₀ L h' m → News h₀ L h' news → Q (R t) { s with heap := h', toks := tk' }) :
    wpAny (model pw w) (ktrTop dp un gd cn cs L a ccd cl outer) (call (.ref f) vs) Q E s := C _ _ _ _ _ _ _ _ _ _ _ _ _ _ _ _ _ _ B F X N T hk XB hd hu ret
end Mine
end
section
open PySem PySem.W PyProof.Rows PySem.Calls
set_option Elab.async false
set_option maxRecDepth 100000
set_option maxHeartbeats 0
set_option linter.unusedVariables false
namespace Mine
noncomputable def q : Program := { PySem.Challenge.pw_re0164_01 with main := { PySem.Challenge.pw_re0164_01.main with body := [0, 1, 3, 5, 6, 7, 8, 9, 11, 12, 13, 14, 15, 16, 18, 19, 20, 21, 22, 23, 24].map sAt } }
noncomputable def loose : List Str := [Str.ofString "Whitespace", Str.ofString "_twin_re_1", Str.ofString "_twin_re_2", Str.ofString "b1_set", Str.ofString "b3_exceptions", Str.ofString "c8_set"]
theorem kas_ok (P : Params) : Kas = (K P).map (·.1) := by kernel_rfl
noncomputable def myXt (s : Shared) : Bool := xlAt q [] s && recOk (RowW.records (PySem.Challenge.rw_re0164_01.row.toRowW)) s
noncomputable abbrev H9h (P : Params) : Heap := absHeap (TG9 P) 254 {}
theorem look1 (w : World) (os : OsState) : (staticsOk (importedModules pw'.main.body) (absHeap (TS0 w.params) 28 {}) (H9h w.params) && namesBound pw' (H9h w.params) && gensDone ⟨H9h w.params, Array.mk [], {}, 2586, os⟩ && laidKept (absHeap (TS0 w.params) 28 {}) (H9h w.params)) = true := by kernel_rfl
/-- the keys of a table rise -/
noncomputable def incInt : List (PyData × PyData) → Bool
  | [] => true
  | (.int a, _) :: r => (match r with | (.int b, _) :: _ => decide (a < b) | _ => true) && incInt r
  | _ => false
theorem inc_lt : ∀ (D : List (PyData × PyData)) (a : Int) (v : PyData), incInt ((.int a, v) :: D) = true → ∀ k, k ≤ a → hasIntKey k D = false
  | [], _, _, _, _, _ => rfl
  | (.int b, y) :: D, a, v, h, k, hk => by
    have h' : (decide (a < b) && incInt ((.int b, y) :: D)) = true := h
    obtain ⟨h1, h2⟩ := Bool.and_eq_true_iff.mp h'
    have hab := of_decide_eq_true h1
    have := inc_lt D b y h2 k (by omega)
    show ((b == k) || hasIntKey k D) = false
    rw [this, Bool.or_false, beq_eq_false_iff_ne]
    omega
  | (.none, y) :: D, a, v, h, k, hk => by cases (Bool.and_eq_true_iff.mp h).2
  | (.bool _, y) :: D, a, v, h, k, hk => by cases (Bool.and_eq_true_iff.mp h).2
  | (.str _, y) :: D, a, v, h, k, hk => by cases (Bool.and_eq_true_iff.mp h).2
  | (.list _, y) :: D, a, v, h, k, hk => by cases (Bool.and_eq_true_iff.mp h).2
  | (.tuple _, y) :: D, a, v, h, k, hk => by cases (Bool.and_eq_true_iff.mp h).2
  | (.dict _, y) :: D, a, v, h, k, hk => by cases (Bool.and_eq_true_iff.mp h).2
theorem inc_apart : ∀ (D : List (PyData × PyData)), incInt D = true → keysApartInt D = true
  | [], _ => rfl
  | (.int a, v) :: D, h => by
    have h1 := inc_lt D a v h a (Int.le_refl a)
    have h2 := inc_apart D (Bool.and_eq_true_iff.mp h).2
    show (!hasIntKey a D && keysApartInt D) = true
    rw [h1, h2]; rfl
  | (.none, _) :: _, h => by cases h
  | (.bool _, _) :: _, h => by cases h
  | (.str _, _) :: _, h => by cases h
  | (.list _, _) :: _, h => by cases h
  | (.tuple _, _) :: _, h => by cases h
  | (.dict _, _) :: _, h => by cases h
noncomputable def tabIntOkF (h : Heap) (name : Str) (D : List (PyData × PyData)) : Bool :=
  match h.nsMap mainGlobals name with
  | some (.ref a) => (match h.get? a with
    | some o => (match o.cls, o.dict, o.data with
      | .type n, none, .dict es _ => (n == "dict") && (o.slots.size == 0) && entriesAreInt es.toList D && incInt D && (a != sysModules)
      | _, _, _ => false)
    | none => false)
  | _ => false
theorem tabInt_of {h : Heap} {name : Str} {D : List (PyData × PyData)} (e : tabIntOkF h name D = true) : h.tabIntOk name D = true := by
  unfold tabIntOkF at e
  unfold Heap.tabIntOk
  split at e
  · next a ha =>
    split at e
    · next o ho =>
      split at e
      · next n es ep h1 h2 h3 =>
        simp only [ha, ho, h1, h2, h3]
        simp only [Bool.and_eq_true] at e ⊢
        exact ⟨⟨e.1.1, inc_apart D e.1.2⟩, e.2⟩
      · cases e
    · cases e
  · cases e
noncomputable def tablesOkF (p : Program) (h : Heap) : Bool := (valNames p).all fun x =>
  (match tupIntsOf p x with | some ns => h.tupIntsOk x ns | none => true) &&
  (match tupStrsOf p x with | some ss => h.tupStrsOk x ss | none => true) &&
  (match tabIntOf p x with | some D => tabIntOkF h x D | none => true)
theorem tables_of {p : Program} {h : Heap} (e : tablesOkF p h = true) : tablesOk p h = true := by
  unfold tablesOk
  refine List.all_eq_true.mpr fun x hx => ?_
  have := List.all_eq_true.mp e x hx
  simp only [Bool.and_eq_true] at this ⊢
  refine ⟨this.1, ?_⟩
  have h3 := this.2
  cases hD : tabIntOf p x with
  | some D => rw [hD] at h3; exact tabInt_of h3
  | none => rfl
theorem look2a (w : World) (os : OsState) : seen ((recsOf q).map (·.name)) (ownsOf q) [] { (⟨H9h w.params, Array.mk [], {}, 2586, os⟩ : Shared) with gens := #[] } = expectedOf q := by kernel_rfl
theorem look2b (w : World) (os : OsState) : (⟨H9h w.params, Array.mk [], {}, 2586, os⟩ : Shared).heap.bltView = bltViewBooted := by kernel_rfl
theorem look2c (w : World) : ((H9h w.params).keysOk (looseW q loose) ((recsOf q).map (·.name)) ((litsOf q).map (·.1)) ((clssOf q (looseW q loose)).map (·.name)) && (H9h w.params).accountedOkI (importedModules pw'.main.body) && (H9h w.params).isNs mainGlobals && (H9h w.params).isNs builtinsNs) = true := by kernel_rfl
theorem look2d (w : World) : tablesOkF q (H9h w.params) = true := by kernel_rfl
theorem look2e (w : World) (os : OsState) : (myXt (⟨H9h w.params, Array.mk [], {}, 2586, os⟩ : Shared) && (if true then (⟨H9h w.params, Array.mk [], {}, 2586, os⟩ : Shared).gens.size == 0 else !leftWithCleanup (⟨H9h w.params, Array.mk [], {}, 2586, os⟩ : Shared).gens)) = true := by kernel_rfl
theorem look2f (w : World) (os : OsState) : tabsOk q (⟨H9h w.params, Array.mk [], {}, 2586, os⟩ : Shared) = true := by kernel_rfl
theorem look2g (w : World) (os : OsState) : pinSeenD q (drecsOf q) (⟨H9h w.params, Array.mk [], {}, 2586, os⟩ : Shared) = pinGoodD (drecsOf q) := by kernel_rfl
theorem look2h (w : World) (os : OsState) : plainSeenE q (looseW q loose) (⟨H9h w.params, Array.mk [], {}, 2586, os⟩ : Shared) = plainGoodE q (looseW q loose) := by kernel_rfl
theorem look2i (w : World) (os : OsState) : plainSeenD q loose (⟨H9h w.params, Array.mk [], {}, 2586, os⟩ : Shared) = plainGoodD q loose := by kernel_rfl
theorem look2j (w : World) (os : OsState) : wideSeen q (⟨H9h w.params, Array.mk [], {}, 2586, os⟩ : Shared) = wideGood q := by kernel_rfl
theorem look2k (w : World) (os : OsState) : clsSeenW q loose (⟨H9h w.params, Array.mk [], {}, 2586, os⟩ : Shared) = clsGoodW q loose := by kernel_rfl
theorem look2l (w : World) (os : OsState) : ((⟨H9h w.params, Array.mk [], {}, 2586, os⟩ : Shared).heap.keysOk (looseW q loose) ((recsOf q).map (·.name)) ((litsOf q).map (·.1)) ((clssOf q (looseW q loose)).map (·.name)) && (⟨H9h w.params, Array.mk [], {}, 2586, os⟩ : Shared).heap.accountedOkI (importedModules pw'.main.body) && (⟨H9h w.params, Array.mk [], {}, 2586, os⟩ : Shared).heap.isNs mainGlobals && (⟨H9h w.params, Array.mk [], {}, 2586, os⟩ : Shared).heap.isNs builtinsNs && tablesOk q (⟨H9h w.params, Array.mk [], {}, 2586, os⟩ : Shared).heap && myXt (⟨H9h w.params, Array.mk [], {}, 2586, os⟩ : Shared) && (if true then (⟨H9h w.params, Array.mk [], {}, 2586, os⟩ : Shared).gens.size == 0 else !leftWithCleanup (⟨H9h w.params, Array.mk [], {}, 2586, os⟩ : Shared).gens)) = true := by
  rw [Bool.and_assoc (_ && tablesOk q _) (myXt _) _]
  exact Bool.and_eq_true_iff.mpr ⟨Bool.and_eq_true_iff.mpr ⟨look2c w, tables_of (look2d w)⟩, look2e w os⟩
theorem tup9 {A B C D E F G H I : Type} {a a' : A} {b b' : B} {c c' : C} {d d' : D} {e e' : E} {f f' : F} {g g' : G} {h h' : H} {i i' : I} (h1 : a = a') (h2 : b = b') (h3 : c = c') (h4 : d = d') (h5 : e = e') (h6 : f = f') (h7 : g = g') (h8 : h = h') (h9 : i = i') : (a, b, c, d, e, f, g, h, i) = (a', b', c', d', e', f', g', h', i') := by
  subst h1 h2 h3 h4 h5 h6 h7 h8 h9; rfl
theorem look2 (w : World) (os : OsState) : openSeen q loose (importedModules pw'.main.body) myXt true (⟨H9h w.params, Array.mk [], {}, 2586, os⟩ : Shared) = openGood q loose :=
  tup9 (look2a w os) (look2b w os) (look2l w os) (look2f w os) (look2g w os) (look2h w os) (look2i w os) (look2j w os) (look2k w os)
theorem look3 (w : World) (os : OsState) : Kas.map (H9h w.params).get? = (K w.params).map fun p => some p.2 := by kernel_rfl
end Mine
end
section
open PySem PySem.W PyProof.Rows PySem.Calls
set_option Elab.async false
set_option maxRecDepth 100000
set_option maxHeartbeats 0
set_option linter.unusedVariables false
namespace Mine
noncomputable def okE (e : Int × Value) : Bool := match e.2 with
  | .int k _ => e.1 == k && decide (0 ≤ k) && decide (k < 2000000)
  | _ => false
theorem okE_shape {e : Int × Value} (h : okE e = true) : ∃ t, e.2 = .int e.1 t ∧ 0 ≤ e.1 ∧ e.1 < 2000000 := by
  obtain ⟨a, v⟩ := e
  cases v <;> simp only [okE] at h <;> try cases h
  case int k t =>
    simp only [Bool.and_eq_true, beq_iff_eq, decide_eq_true_eq] at h
    obtain ⟨⟨rfl, h0⟩, h1⟩ := h
    exact ⟨t, rfl, h0, h1⟩
theorem hash_small {k : Int} (h0 : 0 ≤ k) (h1 : k < 2000000) : hashInt k = k := by
  unfold hashInt
  rw [small_hash h0 h1, if_neg (by simp; omega)]
theorem setOf_ints {w : World} {h : Heap} {a : Addr} {o : Obj} {l : List (Int × Value)} {ep : Nat} {t : SetTable} (L : List Int) (ho : h.get? a = some o) (he : o.ExactSet) (hd : o.data = .set l.toArray ep t) (hall : l.all okE = true)
    (h1 : L.all (fun k => (l.map (·.1)).contains k) = true) (h2 : (l.map (·.1)).all (fun k => L.contains k) = true) (hs : l.length < scanBound) (hf : t.fits l.length = true) : h.SetOf (intKind pw w) a (fun k => L.contains k) l.length := by
  refine ⟨o, l.toArray, ep, t, ho, he, hd, fun e hm => ?_, fun k => ⟨fun hk => ?_, fun hk => ?_⟩, by simpa using hs, by simpa using hf, by simp⟩
  · obtain ⟨tk, e1, e2, e3⟩ := okE_shape (List.all_eq_true.mp hall e hm)
    refine ⟨⟨e.1, by rw [e1]; simp [intKind, Value.isInt], (hash_small e2 e3).symm⟩, by rw [e1]; rfl⟩
  · have := List.all_eq_true.mp h1 k (List.contains_iff_mem.mp hk)
    obtain ⟨e, hm, rfl⟩ := List.mem_map.mp (List.contains_iff_mem.mp this)
    obtain ⟨tk, e1, _, _⟩ := okE_shape (List.all_eq_true.mp hall e hm)
    exact ⟨e, hm, by rw [e1]; simp [intKind, Value.isInt]⟩
  · obtain ⟨e, hm, hi⟩ := hk
    obtain ⟨tk, e1, _, _⟩ := okE_shape (List.all_eq_true.mp hall e hm)
    rw [e1] at hi
    have : e.1 = k := by simpa [intKind, Value.isInt] using hi
    subst this
    exact List.all_eq_true.mp h2 _ (List.mem_map.mpr ⟨e, hm, rfl⟩)
noncomputable def setL : Data → List (Int × Value) | .set es _ _ => es.toList | _ => []
noncomputable def setT : Data → SetTable | .set _ _ t => t | _ => default
noncomputable def setN : Data → Nat | .set _ n _ => n | _ => 0
theorem set136 (P : Params) : (o136 P).data = .set (setL (o136 P).data).toArray (setN (o136 P).data) (setT (o136 P).data) := rfl
theorem set206 (P : Params) : (o206 P).data = .set (setL (o206 P).data).toArray (setN (o206 P).data) (setT (o206 P).data) := rfl
theorem xf_b1 {w : World} {h : Heap} (e : h.get? 136 = some (o136 w.params)) : h.SetOf (intKind pw w) 136 isB1 27 :=
  setOf_ints (L := b1L) (l := setL (o136 w.params).data) e ⟨rfl, rfl, rfl⟩ (set136 _) (by kernel_rfl) (by kernel_rfl) (by kernel_rfl) (by show 27 < scanBound; decide) (by kernel_rfl)
theorem xf_c8 {w : World} {h : Heap} (e : h.get? 206 = some (o206 w.params)) : h.SetOf (intKind pw w) 206 isC8 15 :=
  setOf_ints (L := c8L) (l := setL (o206 w.params).data) e ⟨rfl, rfl, rfl⟩ (set206 _) (by kernel_rfl) (by kernel_rfl) (by kernel_rfl) (by show 15 < scanBound; decide) (by kernel_rfl)
noncomputable def mainL : List DictEntry := entsN 3 532 (c0s ++ css.flatten) ++ entsN 2 (532 + 3 * (c0s ++ css.flatten).length) lasts
theorem mainD_eq : mainD = dO mainL.toArray (c0s ++ css.flatten ++ lasts).length := rfl
theorem mainL_keys : ∀ e ∈ mainL, (∃ t, e.key = .int e.hash t) ∧ 0 ≤ e.hash ∧ e.hash < 2000000 := by
  intro e he
  have hg := good13
  rw [items_cut] at hg
  rcases List.mem_append.mp he with h | h
  · refine ⟨ents_shape _ _ e h, ?_⟩
    have : e.hash ∈ (c0s ++ css.flatten).map (·.1) := by rw [← ents_hash (st := 3) 532]; exact List.mem_map.mpr ⟨e, h, rfl⟩
    obtain ⟨x, hx, hq⟩ := List.mem_map.mp this
    rw [← hq]
    exact hg x (List.mem_append_left _ hx)
  · refine ⟨ents_shape _ _ e h, ?_⟩
    have : e.hash ∈ lasts.map (·.1) := by rw [← ents_hash (st := 2) (532 + 3 * (c0s ++ css.flatten).length)]; exact List.mem_map.mpr ⟨e, h, rfl⟩
    obtain ⟨x, hx, hq⟩ := List.mem_map.mp this
    rw [← hq]
    exact hg x (List.mem_append_right _ hx)
noncomputable def isK (k : Int) (e : DictEntry) : Bool := Value.isInt k e.key
theorem find_main (w : World) (k : Int) : findBy (intKind pw w).is mainL.toArray k = (mainL.find? (isK k)).map (·.val) := by
  simp only [findBy, List.find?_toArray]
  rfl
theorem find890 : (mainL.find? (isK 890)).map (·.val) = some (.str ⟨#[32, 953]⟩ 554) := by kernel_rfl
theorem find46 : (mainL.find? (isK 46)).map (·.val) = none := by kernel_rfl
theorem find10 : (mainL.find? (isK 10)).map (·.val) = none := by kernel_rfl
theorem find13 : (mainL.find? (isK 13)).map (·.val) = none := by kernel_rfl
theorem xf_of {w : World} {h : Heap} (e1 : h.get? 136 = some (o136 w.params)) (e2 : h.get? 206 = some (o206 w.params)) (e3 : h.get? 147 = some (o147 w.params)) : XF w h := by
  refine ⟨xf_b1 e1, xf_c8 e2, fun k => findBy (intKind pw w).is mainL.toArray k, 554, ⟨mainD, mainL.toArray, _, e3, ⟨rfl, rfl, rfl⟩, rfl, fun e he => ?_, fun k => rfl⟩, ?_, ?_, ?_, ?_⟩
  · obtain ⟨⟨t, ht⟩, h0, h1⟩ := mainL_keys e (by simpa using he)
    exact ⟨e.hash, by rw [ht]; simp [intKind, Value.isInt], (hash_small h0 h1).symm⟩
  · exact (find_main w 890).trans find890
  · exact (find_main w 46).trans find46
  · exact (find_main w 10).trans find10
  · exact (find_main w 13).trans find13
end Mine
end
section
open PySem PySem.W PyProof.Rows PySem.Calls
set_option Elab.async false
set_option maxRecDepth 100000
set_option maxHeartbeats 0
set_option linter.unusedVariables false
namespace Mine
noncomputable abbrev kH : Hook := kHook K Kas kas_ok
noncomputable def myObs (s : Shared) : kH.α × Option Obj × Option Obj × Option Obj := (kH.obs s, s.heap.get? 136, s.heap.get? 206, s.heap.get? 147)
noncomputable def myVal (w : World) : kH.α × Option Obj × Option Obj × Option Obj := (kH.val w, some (o136 w.params), some (o206 w.params), some (o147 w.params))
noncomputable def mySays (w : World) (h : Heap) : Prop := (K w.params).In h ∧ XF w h
theorem my_of (w : World) (s : Shared) (e : myObs s = myVal w) : mySays w s.heap := by
  obtain ⟨e1, e2⟩ := Prod.mk.inj e
  obtain ⟨e2, e3⟩ := Prod.mk.inj e2
  obtain ⟨e3, e4⟩ := Prod.mk.inj e3
  exact ⟨kH.of w s e1, xf_of e2 e3 e4⟩
theorem my_keeps (w : World) (h h' : Heap) (x : mySays w h) (k : ∀ b o, h.get? b = some o → h'.get? b = some o) : mySays w h' := ⟨kH.keeps w h h' x.1 k, x.2.keeps k⟩
theorem look4 (P : Params) : (H9h P).get? 136 = some (o136 P) ∧ (H9h P).get? 206 = some (o206 P) ∧ (H9h P).get? 147 = some (o147 P) := ⟨by kernel_rfl, by kernel_rfl, by kernel_rfl⟩
theorem left_all : LeftO pw' q loose myXt myObs myVal 100000 :=
  LeftO.of_pieces (g0 := true) (H₀ := fun P => absHeap (TS0 P) 28 {}) (H₁ := H9h) (gs₀ := Array.mk []) (gs₁ := Array.mk []) (d₀ := {}) (d₁ := {}) (k₀ := 276) (k₁ := 2586) (m₀ := 28) (ann := some (.ref 6)) (M := (12 + (1 + (60 + (500 + (240 + (1000 + (40 + (80050 + (40 + (800 + (240 + 2))))))))))))
    open_all (fun w => by kernel_rfl) run_all (by decide) (fun w => by
      funext os
      refine Prod.ext (look1 w os) (Prod.ext (look2 w os) ?_)
      obtain ⟨x1, x2, x3⟩ := look4 w.params
      exact Prod.ext (look3 w os) (Prod.ext x1 (Prod.ext x2 x3)))
noncomputable def lawD : { x : DefRec × List (Str × PySem.Expr) // defOf q PySem.Challenge.rw_re0164_01.row.name = some x } := by
  refine ⟨?x, ?h⟩
  case h => exact rfl
end Mine
end
section
open PySem PySem.W PyProof.Rows PySem.Spec PySem.Calls
open PyProof.Rows.LCg PyProof.Rows.LCt
set_option Elab.async false
set_option maxRecDepth 100000
namespace Mine
section
variable {prog : Program} {w : World} {A : Around} {E : Value → Shared → Prop} {s : Shared} {h₀ : Heap} {L : Addr} {m : Str → Option Value} {env : Env}
theorem str_st {x : Str} {t : Tok} {T : String} {I : Addr} : ∀ i (h h' : Heap) (o : Obj) (nw : List (Addr × Obj)), h.IsStrIter I T x t i → h.get? I = some o → h'.get? I = some o → (∀ b o, h₀.get? b = some o → h'.get? b = some o) → News h₀ L h' nw → (fun _ : List (Addr × Obj) => True) nw → h'.IsStrIter I T x t i :=
  fun i h h' o nw st e e' _ _ _ => by
    obtain ⟨o', ho, r⟩ := st
    rw [e] at ho
    cases ho
    exact ⟨o, e', r⟩
/-- a comprehension with one test over a text -/
noncomputable def SrcS (prog : Program) (w : World) (A : Around) (h₀ : Heap) (L : Addr) (m : Str → Option Value) (env : Env) (ct elt : Expr) (x : Str) (scope : Scope) (cl : List (Str × Addr)) (Fin : Shared → List Value → List (Addr × Obj) → Prop) (xv : Value) (s₁ : Shared) : Prop :=
  ∃ (tx : Str) (t : Tok) (news : List (Addr × Obj)), xv = .str tx t ∧ A.handled = none ∧ Fr h₀ L s₁.heap m ∧ News h₀ L s₁.heap news ∧ tx.cps.size ≤ sizeLine ∧
    ∀ s₂ : Shared, (∃ h, s₂ = { s₁ with heap := h }) → CompRestT prog w A h₀ L m env ct elt x scope cl s₂ (fun _ => True) (SignAt tx) (Fin s₂) tx.cps.size 0 [] news
theorem ListComp_TS {ct elt iter : Expr} {x : Str} {px : Pos} {scope : Scope} {cl : List (Str × Addr)} {pos : Pos} {Q : Value → Shared → Prop} (F₀ : Fr h₀ L s.heap m)
    (hclos : closureFor scope env = pure cl) (hcell : ∀ y ∈ scope.names, y.2 ≠ .cell) (hkind : scope.kind = .function)
    (hnames : ∀ y ∈ scope.names, y.2 = .local → scope.names.lookup y.1 = some .local) (hx : scope.names.lookup x = some .local)
    (h : wpAny (model prog w) A (eval iter env) (SrcS prog w A h₀ L m env ct elt x scope cl (fun s₂ => FinE h₀ L m s₂ Q)) E s)
    (hs : ∀ x, foldedSetIterable iter env x = pure x := by intro _; rfl) :
    wpAny (model prog w) A (eval (.ListComp elt [⟨.Name x px, iter, [ct], 0⟩] scope pos) env) Q E s := by
  rw [eval_ListComp]
  refine wpAny_comprehension_free (use := none) rfl hs hclos hkind hnames (wpAny_mono h (fun xv s₁ h₁ => ?_) fun _ _ e => e)
  obtain ⟨tx, t, news, rfl, hh, F, N, hsz, R⟩ := h₁
  cases ha : tx.cps.all (· < 128)
  · refine wpAny_pyIter_wide ha ?_
    refine block_T (news := news) (S := fun _ => True) (Walks.strWide hh s₁.heap.objs.size tx t) hsz (fun i h st => by obtain ⟨o, e, _⟩ := st; exact ⟨o, e⟩) str_st hcell hkind hx ⟨_, Heap.get?_push_size _ rfl, rfl, rfl⟩ (fun b hb => ?_)
      (F.keeps fun _ _ e => Heap.get?_push_of_some _ e) (N.grown fun _ _ e => Heap.get?_push_of_some _ e) (Nat.ne_of_lt F.ns.lt) (next_is_new F) (fun p hp => Nat.ne_of_lt (Heap.lt_size (N p hp).1)) trivial (R _ ⟨_, rfl⟩) ?_
    · rw [List.mem_singleton.mp hb]
      show s₁.heap.objs.size < (s₁.heap.push _).objs.size
      rw [Heap.size_push]; exact Nat.lt_succ_self _
    · intro D C h tk m' ys news' F' N' o1 hn hC₀ hD₀ hCL hDL hCD offC fin
      refine ⟨m', hn, fun h'' hs'' => fin D h'' tk (F'.change hs'' hCL hC₀) (fun p hp => ?_) o1⟩
      refine ⟨hs''.extBut _ _ ?_ (N' p hp).1, (N' p hp).2⟩
      rcases List.mem_cons.mp hp with rfl | hp
      · exact Ne.symm hCD
      · exact offC p hp
  · refine wpAny_pyIter_ascii ha ?_
    refine block_T (news := news) (S := fun _ => True) (Walks.strAscii hh s₁.heap.objs.size tx t) hsz (fun i h st => by obtain ⟨o, e, _⟩ := st; exact ⟨o, e⟩) str_st hcell hkind hx ⟨_, Heap.get?_push_size _ rfl, rfl, rfl⟩ (fun b hb => ?_)
      (F.keeps fun _ _ e => Heap.get?_push_of_some _ e) (N.grown fun _ _ e => Heap.get?_push_of_some _ e) (Nat.ne_of_lt F.ns.lt) (next_is_new F) (fun p hp => Nat.ne_of_lt (Heap.lt_size (N p hp).1)) trivial (R _ ⟨_, rfl⟩) ?_
    · rw [List.mem_singleton.mp hb]
      show s₁.heap.objs.size < (s₁.heap.push _).objs.size
      rw [Heap.size_push]; exact Nat.lt_succ_self _
    · intro D C h tk m' ys news' F' N' o1 hn hC₀ hD₀ hCL hDL hCD offC fin
      refine ⟨m', hn, fun h'' hs'' => fin D h'' tk (F'.change hs'' hCL hC₀) (fun p hp => ?_) o1⟩
      refine ⟨hs''.extBut _ _ ?_ (N' p hp).1, (N' p hp).2⟩
      rcases List.mem_cons.mp hp with rfl | hp
      · exact Ne.symm hCD
      · exact offC p hp

theorem Assign_ListComp_TS {ct elt iter : Expr} {x y : Str} {px py : Pos} {scope : Scope} {cl : List (Str × Addr)} {pos spos : Pos} {Q : Flow → Shared → Prop} (F₀ : Fr h₀ L s.heap m) (hLe : env.locals = L)
    (hsw : swapsWith (.ListComp elt [⟨.Name x px, iter, [ct], 0⟩] scope pos) (some (.Name y py)) spos.line env = pure true)
    (hclos : closureFor scope env = pure cl) (hcell : ∀ z ∈ scope.names, z.2 ≠ .cell) (hkind : scope.kind = .function)
    (hnames : ∀ z ∈ scope.names, z.2 = .local → scope.names.lookup z.1 = some .local) (hx : scope.names.lookup x = some .local)
    (hy : env.kindOf y = some .local) (hp : (env.scope.kind == .class || (env.scope.kind == .module && env.locals != env.globals)) = false)
    (h : wpAny (model prog w) A (eval iter env) (SrcS prog w A h₀ L m env ct elt x scope cl (fun s₂ => FinA h₀ L m s₂ y Q)) E s)
    (hs : ∀ x, foldedSetIterable iter env x = pure x := by intro _; rfl) :
    wpAny (model prog w) A (exec (.Assign [.Name y py] (.ListComp elt [⟨.Name x px, iter, [ct], 0⟩] scope pos) spos) env) Q E s := by
  subst hLe
  rw [exec_Assign_Name_used _ _ _ _ hsw]
  refine wpAny_bind (wpAny_standAt (wpAny_bind ?_))
  show wpAny _ A (do let _ ← comprehension (.ListComp elt [⟨.Name x px, iter, [ct], 0⟩] scope pos) scope env _ (newList []) false (eval iter env) (some (assign (.Name y py) env))) _ _ s
  refine wpAny_bind (wpAny_mono (wpAny_comprehension_free (use := some (assign (.Name y py) env)) (Q := fun _ s' => Q .next s') rfl hs hclos hkind hnames
    (wpAny_mono h (fun xv s₁ h₁ => ?_) fun _ _ e => e)) (fun _ s' hq => wpAny_pure (wpAny_pure hq)) fun _ _ e => e)
  obtain ⟨tx, t, news, rfl, hh, F, N, hsz, R⟩ := h₁
  cases ha : tx.cps.all (· < 128)
  · refine wpAny_pyIter_wide ha ?_
    refine block_T (news := news) (S := fun _ => True) (Walks.strWide hh s₁.heap.objs.size tx t) hsz (fun i h st => by obtain ⟨o, e, _⟩ := st; exact ⟨o, e⟩) str_st hcell hkind hx ⟨_, Heap.get?_push_size _ rfl, rfl, rfl⟩ (fun b hb => ?_)
      (F.keeps fun _ _ e => Heap.get?_push_of_some _ e) (N.grown fun _ _ e => Heap.get?_push_of_some _ e) (Nat.ne_of_lt F.ns.lt) (next_is_new F) (fun p hp => Nat.ne_of_lt (Heap.lt_size (N p hp).1)) trivial (R _ ⟨_, rfl⟩) ?_
    · rw [List.mem_singleton.mp hb]
      show s₁.heap.objs.size < (s₁.heap.push _).objs.size
      rw [Heap.size_push]; exact Nat.lt_succ_self _
    · intro D C h' tk m' ys news' F' N' o1 hn hC₀ hD₀ hCL hDL hCD offC fin
      show wpAny _ A (assign (.Name y py) env (.ref D)) _ _ _
      refine wpAny_assign_Name (wpAny_storeName_local hy F'.ns (fun h₂ hn₂ hs₂ => ?_) hp)
      have hL₀ : h₀.get? env.locals = none := Heap.get?_none_of_le F'.above
      have F₂ : Fr h₀ env.locals h₂ (fun z => if z = y then some (.ref D) else m z) := ⟨hn₂, fun b o e => hs₂.extBut b o (fun q => by rw [q, hL₀] at e; cases e) (F'.keep b o e), F'.above⟩
      refine ⟨m', hn.sameBut hs₂ hCL, fun h'' hs'' => fin D h'' _ (F₂.change hs'' hCL hC₀) (fun p hp => ?_) o1⟩
      have z : h₂.get? p.1 = some p.2 := hs₂.extBut _ _ (N' p hp).2.1 (N' p hp).1
      refine ⟨hs''.extBut _ _ ?_ z, (N' p hp).2⟩
      rcases List.mem_cons.mp hp with rfl | hp
      · exact Ne.symm hCD
      · exact offC p hp
  · refine wpAny_pyIter_ascii ha ?_
    refine block_T (news := news) (S := fun _ => True) (Walks.strAscii hh s₁.heap.objs.size tx t) hsz (fun i h st => by obtain ⟨o, e, _⟩ := st; exact ⟨o, e⟩) str_st hcell hkind hx ⟨_, Heap.get?_push_size _ rfl, rfl, rfl⟩ (fun b hb => ?_)
      (F.keeps fun _ _ e => Heap.get?_push_of_some _ e) (N.grown fun _ _ e => Heap.get?_push_of_some _ e) (Nat.ne_of_lt F.ns.lt) (next_is_new F) (fun p hp => Nat.ne_of_lt (Heap.lt_size (N p hp).1)) trivial (R _ ⟨_, rfl⟩) ?_
    · rw [List.mem_singleton.mp hb]
      show s₁.heap.objs.size < (s₁.heap.push _).objs.size
      rw [Heap.size_push]; exact Nat.lt_succ_self _
    · intro D C h' tk m' ys news' F' N' o1 hn hC₀ hD₀ hCL hDL hCD offC fin
      show wpAny _ A (assign (.Name y py) env (.ref D)) _ _ _
      refine wpAny_assign_Name (wpAny_storeName_local hy F'.ns (fun h₂ hn₂ hs₂ => ?_) hp)
      have hL₀ : h₀.get? env.locals = none := Heap.get?_none_of_le F'.above
      have F₂ : Fr h₀ env.locals h₂ (fun z => if z = y then some (.ref D) else m z) := ⟨hn₂, fun b o e => hs₂.extBut b o (fun q => by rw [q, hL₀] at e; cases e) (F'.keep b o e), F'.above⟩
      refine ⟨m', hn.sameBut hs₂ hCL, fun h'' hs'' => fin D h'' _ (F₂.change hs'' hCL hC₀) (fun p hp => ?_) o1⟩
      have z : h₂.get? p.1 = some p.2 := hs₂.extBut _ _ (N' p hp).2.1 (N' p hp).1
      refine ⟨hs''.extBut _ _ ?_ z, (N' p hp).2⟩
      rcases List.mem_cons.mp hp with rfl | hp
      · exact Ne.symm hCD
      · exact offC p hp
end
end Mine
end
section
open PySem PySem.W PyProof.Rows PySem.Spec PySem.Calls PyProof.V
set_option Elab.async false
set_option maxRecDepth 100000
namespace Mine
section
variable {prog : Program} {w : World} {A : Around} {E : Value → Shared → Prop} {s : Shared} {env : Env} {h₀ : Heap} {x : Str} {body : List Stmt} {Q : Flow → Shared → Prop}
/-- a loop over a text, by an invariant over the frame's map and the ledger -/
theorem iter_text {tx : Str} {t : Tok} {m₀ : Str → Option Value} {news : List (Addr × Obj)} (J : Nat → (Str → Option Value) → List (Addr × Obj) → Prop) (hh : A.handled = none)
    (F : Fr h₀ env.locals s.heap m₀) (N : News h₀ env.locals s.heap news) (hJ0 : J 0 m₀ news)
    (turn : ∀ i c u I oI m₁ news₁ h tk, tx.cps[i]? = some c → J i m₁ news₁ → (∀ p ∈ news₁, p.1 ≠ I) → Fr h₀ env.locals h (fun y => if y = x then some (.str ⟨#[c]⟩ u) else m₁ y) → News h₀ env.locals h ((I, oI) :: news₁) →
      wpAny (model prog w) A (execs body env) (UnrPost h₀ env.locals { s with heap := h, toks := tk } I oI (J (i + 1)) Q) E { s with heap := h, toks := tk })
    (done : ∀ m₁ news₁ h tk, J tx.cps.size m₁ news₁ → Fr h₀ env.locals h m₁ → News h₀ env.locals h news₁ → Q .next { s with heap := h, toks := tk }) :
    wpAny (model prog w) A (pyIter (.str tx t)) (fun it s₂ => LoopAtV prog w A h₀ env x body Q E it s₂) E s := by
  have hnew := next_is_new F
  have go : ∀ (T : String) (o : Obj), Walks prog w A s.heap.objs.size [s.heap.objs.size] [s.heap.objs.size] tx.cps.size (SignAt tx) (fun i h => h.IsStrIter s.heap.objs.size T tx t i) →
      (s.heap.push o).IsStrIter s.heap.objs.size T tx t 0 → LoopAtV prog w A h₀ env x body Q E (.ref s.heap.objs.size) { s with heap := s.heap.push o } := by
    intro T o W hst
    refine ⟨_, _, _, tx.cps.size, _, _, m₀, news, J, rfl, W, ?_, ?_, ?_, hst, F.push _, (fun p hp => ⟨Heap.get?_push_of_some _ (N p hp).1, (N p hp).2⟩), hJ0, ?_, ?_⟩
    · intro hm
      exact absurd F.ns.lt ((List.mem_singleton.mp hm) ▸ Nat.lt_irrefl _)
    · intro b hb
      rw [List.mem_singleton.mp hb]
      exact hnew
    · intro p hp hI
      exact absurd (Heap.lt_size (N p hp).1) ((List.mem_singleton.mp hI) ▸ Nat.lt_irrefl _)
    · rintro i v m₁ news₁ s₁ own ⟨hh', tk', rfl⟩ hin hP hJ hoff hown hget hall hst' F₁ N₁
      obtain ⟨c, u, hc, rfl⟩ := hP
      obtain ⟨it, hit, hic, hid⟩ := hst'
      have hmemI := hall s.heap.objs.size (List.mem_singleton.mpr rfl) hnew _ hit
      have N₂ : News h₀ env.locals hh' ((s.heap.objs.size, it) :: news₁) := fun p hp => by
        rcases List.mem_cons.mp hp with rfl | hp
        · exact N₁ _ (List.mem_append_left _ hmemI)
        · exact N₁ _ (List.mem_append_right _ hp)
      refine wpAny_mono (turn i c u s.heap.objs.size it m₁ news₁ hh' tk' hc hJ (fun p hp hI => hoff p hp (List.mem_singleton.mpr hI)) F₁ N₂) (fun f s₂ p => ?_) fun _ _ e => e
      have fin : UnrEnd h₀ env.locals { s with heap := hh', toks := tk' } s.heap.objs.size it (J (i + 1)) s₂ →
          LoopStepU h₀ env.locals [s.heap.objs.size] own (J (i + 1)) { s with heap := hh', toks := tk' } .next s₂ := by
        rintro ⟨h', tk, m', news', e, F', N', ho, r⟩
        refine ⟨rfl, h', tk, m', news', e, F', fun p hp => ?_, fun p hp hI => ho p hp (List.mem_singleton.mp hI), r⟩
        rcases List.mem_append.mp hp with hp | hp
        · have h1 : p.1 = s.heap.objs.size := List.mem_singleton.mp (hown p hp)
          have h2 : hh'.get? p.1 = some p.2 := hget p hp
          have h3 : p = (s.heap.objs.size, it) := by
            rw [h1, hit] at h2
            exact Prod.ext h1 (Option.some.inj h2).symm
          rw [h3]; exact N' _ (List.mem_cons_self ..)
        · exact N' _ (List.mem_cons_of_mem _ hp)
      cases f with
      | ret v => exact .ret p
      | brk => exact .brk p
      | next => exact .next (fin p)
      | cont => exact .cont (fin p)
    · rintro h' tk m' news' F' N' _ hJ
      exact done m' news' h' tk hJ F' N'
  cases ha : tx.cps.all (· < 128)
  · exact wpAny_pyIter_wide ha (go "str_iterator" _ (Walks.strWide hh _ tx t) ⟨_, Heap.get?_push_size _ rfl, rfl, rfl⟩)
  · exact wpAny_pyIter_ascii ha (go "str_ascii_iterator" _ (Walks.strAscii hh _ tx t) ⟨_, Heap.get?_push_size _ rfl, rfl, rfl⟩)
end
theorem Fr.ext {h₀ h : Heap} {L : Addr} {m m' : Str → Option Value} (F : Fr h₀ L h m) (e : ∀ y, m y = m' y) : Fr h₀ L h m' := by
  have : m = m' := funext e
  exact this ▸ F
end Mine
end
section
open PySem PySem.W PyProof.Rows PySem.Spec PySem.Calls PyProof.V
set_option Elab.async false
set_option maxRecDepth 100000
namespace Mine
structure WSt where
  ns : List Int
  b : Int
  n : Int
  nt : Int
noncomputable def grown (ns : List Int) (b : Int) : List Int := if b ≥ (ns.length : Int) then ns ++ (List.replicate (b - (ns.length : Int) + 1).toNat [0]).flatten else ns
noncomputable def wstep (s : WSt) (c : Nat) : WSt :=
  if c = 32 then { s with b := s.b + 1, n := s.n + 1 } else
  { ns := (grown s.ns s.b).set s.b.toNat ((grown s.ns s.b).getD s.b.toNat 0 + 1), b := 0, n := s.n + 1, nt := s.nt + 1 }
noncomputable def wrun (l : List Nat) : WSt := l.foldl wstep ⟨[], 0, 0, 0⟩
/-- what is so between two turns of Whitespace.__init__'s loop -/
noncomputable def WJ (X : Str) (x : Addr) (pre : List Nat) (rest : List (Addr × Obj)) (i : Nat) (m : Str → Option Value) (news : List (Addr × Obj)) : Prop :=
  ∃ (D : Addr) (vs : List Value) (ep : Nat) (tb tn tt : Tok), i ≤ pre.length ∧ IntsAre vs (wrun (pre.take i)).ns ∧ AllLt D rest ∧ news = (D, listOf vs.toArray ep) :: rest ∧
    m (Str.ofString "count") = some (.ref D) ∧ m (Str.ofString "b") = some (.int (wrun (pre.take i)).b tb) ∧ m (Str.ofString "n") = some (.int (wrun (pre.take i)).n tn) ∧ m (Str.ofString "nt") = some (.int (wrun (pre.take i)).nt tt) ∧
    m (Str.ofString "self") = some (.ref x) ∧ m (Str.ofString "S") = some (.str (Str.ofString " ") 304) ∧ m (Str.ofString "T") = some (.str (Str.ofString "\t") 305)
theorem wrun_snoc (l : List Nat) (c : Nat) : wrun (l ++ [c]) = wstep (wrun l) c := by
  unfold wrun; rw [List.foldl_append]; rfl
theorem grown_len (ns : List Int) (b : Int) (hb : 0 ≤ b) : ((grown ns b).length : Int) = max (ns.length : Int) (b + 1) := by
  unfold grown
  split
  · have : ((List.replicate (b - (ns.length : Int) + 1).toNat [(0 : Int)]).flatten).length = (b - (ns.length : Int) + 1).toNat := by simp
    rw [List.length_append, this]; omega
  · omega
theorem wrun_bd : ∀ l : List Nat, 0 ≤ (wrun l).b ∧ (wrun l).b ≤ l.length ∧ ((wrun l).ns.length : Int) ≤ l.length ∧ 0 ≤ (wrun l).n ∧ 0 ≤ (wrun l).nt := by
  intro l
  rw [← List.reverse_reverse l]
  induction l.reverse with
  | nil => exact ⟨by decide, by decide, by decide, by decide, by decide⟩
  | cons c r ih =>
    rw [List.reverse_cons, wrun_snoc, List.length_append]
    obtain ⟨h1, h2, h3, h4, h5⟩ := ih
    unfold wstep
    split
    · simp only [List.length_cons, List.length_nil]
      exact ⟨by omega, by omega, by omega, by omega, by omega⟩
    · simp only [List.length_cons, List.length_nil, List.length_set]
      have := grown_len (wrun r.reverse).ns _ h1
      exact ⟨by omega, by omega, by omega, by omega, by omega⟩
theorem wj_intro {X : Str} {x D : Addr} {pre : List Nat} {rest : List (Addr × Obj)} {i : Nat} {m : Str → Option Value} {vs : List Value} {ep : Nat} {ns : List Int} {b n nt : Int} {tb tn tt : Tok}
    (hst : wrun (pre.take i) = ⟨ns, b, n, nt⟩) (hi : i ≤ pre.length) (hvs : IntsAre vs ns) (hD : AllLt D rest) (e1 : m (Str.ofString "count") = some (.ref D)) (e2 : m (Str.ofString "b") = some (.int b tb))
    (e3 : m (Str.ofString "n") = some (.int n tn)) (e4 : m (Str.ofString "nt") = some (.int nt tt)) (e5 : m (Str.ofString "self") = some (.ref x)) (e6 : m (Str.ofString "S") = some (.str (Str.ofString " ") 304)) (e7 : m (Str.ofString "T") = some (.str (Str.ofString "\t") 305)) :
    WJ X x pre rest i m ((D, listOf vs.toArray ep) :: rest) := by
  refine ⟨D, vs, ep, tb, tn, tt, hi, ?_, hD, rfl, e1, ?_, ?_, ?_, e5, e6, e7⟩
  all_goals rw [hst]; assumption
theorem off_cons {I D : Addr} {o : Obj} {rest : List (Addr × Obj)} (h : @Ne Nat D I) (hoff : ∀ p ∈ rest, p.1 ≠ I) : ∀ p ∈ (D, o) :: rest, p.1 ≠ I := fun p hp => by
  rcases List.mem_cons.mp hp with rfl | hp
  · exact h
  · exact hoff p hp
theorem sub5 {a b c d e : Addr × Obj} {rest : List (Addr × Obj)} : ∀ p ∈ d :: a :: rest, p ∈ a :: b :: c :: d :: e :: rest := fun p hp => by
  rcases List.mem_cons.mp hp with rfl | hp
  · exact .tail _ (.tail _ (.tail _ (.head _)))
  · rcases List.mem_cons.mp hp with rfl | hp
    · exact .head _
    · exact .tail _ (.tail _ (.tail _ (.tail _ (.tail _ hp))))
theorem kstB_ex {m₁ : Str → Option Value} (x : Str) (v : Option Value) (l : List (Str × Value)) (h : ∀ p ∈ l, m₁ p.1 = some p.2) : ∀ y, (if y = x then v else m₁ y) = (if y = x then v else kstB m₁ l y) := fun y => by
  rw [kstB_eq h fun _ => rfl]
local macro_rules | `(tactic| walk_at "call type:tuple") => `(tactic| (k_here; (with_reducible show wpAny _ _ (call (Value.type _) [Value.ref _]) _ _ _); k_dflt (refine' kde_tupleOf ?k1 ?k2 ?k3 ?k4 ?k5 ?_; (case k1 => k_asm); (case k2 => k_asm); (case k3 => exact News.isList (by k_asm) (by k_mem)); (case k4 => (simp only [List.size_toArray]; omega)); (case k5 => exact rfl)); intro D' h' F' N' l1; (try k_lt l1); (try k_sweep)))
noncomputable def tupO (vs : List Value) : Obj := { cls := .type "tuple", data := .seq vs.toArray }
/-- the new object's own dict, behind __init__ -/
noncomputable def LeadD (w : World) (D : Obj) (nt : Int) (T : Addr) : Prop := ∃ (X : Str) (t n1 : Tok) (k1 k2 k3 k4 k5 tt : Tok) (n : Int) (b : Bool), D = dictOf
  [{ hash := PyData.keyHash w.params (Str.ofString "raw"), key := .str (Str.ofString "raw") k1, val := .str X t },
   { hash := PyData.keyHash w.params (Str.ofString "n"), key := .str (Str.ofString "n") k2, val := .int n n1 },
   { hash := PyData.keyHash w.params (Str.ofString "nt"), key := .str (Str.ofString "nt") k3, val := .int nt tt },
   { hash := PyData.keyHash w.params (Str.ofString "norm"), key := .str (Str.ofString "norm") k4, val := .ref T },
   { hash := PyData.keyHash w.params (Str.ofString "is_simple"), key := .str (Str.ofString "is_simple") k5, val := .bool b }] 5
/-- what a call that makes a lead promises: the caller's ledger, with the new object ahead of it -/
noncomputable abbrev TellsW (rd ru : Nat) (w : World) (p : Program) (loose : List Str) (mean : ExcName → Option Value) (mg mb : Str → Option Value) (f : Addr) (vs : List Value) (st : WSt) : Prop :=
  ∀ (dp un : Nat) (gd : Option (List Code)) (cn : Str) (cs : Scope) (a : Addr) (ccd : Value) (cl : List (Str × Addr)) (outer : List Env) (A₀ : Around) (base h₀ : Heap) (L : Addr) (m : Str → Option Value) (news : List (Addr × Obj)) (s : Shared) (Q E : Value → Shared → Prop),
    Below A₀ base outer h₀ → Fr h₀ L s.heap m → (K w.params).In h₀ → News h₀ L s.heap news → Top p loose mean mg mb h₀ → cs.kind = .function → XF w base → dp + rd < recursionLimit → un + ru < cLine →
    (∀ (x d T C : Addr) (xs : List Value) (tb : Tok) (D : Obj) (h' : Heap) (tk' : Nat), LeadD w D st.nt T → IntsAre xs st.ns → Fr h₀ L h' m →
      News h₀ L h' ((T, tupO [.ref C, .int st.b tb]) :: (C, tupO xs) :: (x, instObj 100 d) :: (d, D) :: news) → (∀ p ∈ news, p.1 < d) → (@LT.lt Nat _ d x ∧ @LT.lt Nat _ x C ∧ @LT.lt Nat _ C T) → Q (.ref x) { s with heap := h', toks := tk' }) →
    wpAny (model pw w) (ktrTop dp un gd cn cs L a ccd cl outer) (call (.ref f) vs) Q E s
theorem sub7 {T C I D S x d : Addr × Obj} {rest : List (Addr × Obj)} : ∀ p ∈ T :: C :: x :: d :: rest, p ∈ T :: C :: I :: D :: S :: x :: d :: rest := fun p hp => by
  rcases List.mem_cons.mp hp with rfl | hp
  · exact .head _
  rcases List.mem_cons.mp hp with rfl | hp
  · exact .tail _ (.head _)
  exact .tail _ (.tail _ (.tail _ (.tail _ (.tail _ hp))))
set_option maxHeartbeats 0 in
theorem ws_tells {w : World} {p : Program} {loose : List Str} {mean : ExcName → Option Value} {mg mb : Str → Option Value} (X : Str) (tk : Tok) (hlen : X.length ≤ 300) (pre post : List Nat)
    (hX : X.cps.toList = pre ++ 953 :: post) (hpre : ∀ c ∈ pre, c = 32 ∨ c = 9) :
    TellsW 3 60 w p loose mean mg mb 100 [.str X tk] (wrun pre) := by
  have : (K w.params).length = (K w.params).length ∧ PySem.Challenge.rw_re0164_01.foot = 7 := ⟨rfl, rfl⟩
  revert this
  k_fill
  intro _
  intro dp un gd cn cs a ccd cl outer A₀ base h₀ L m news s Q E B F X0 N T hk XB hd hu hret
  k_dflt (refine' call_cls ?k1 ?k2 ?k3 ?k4 ?k5 ?k6 ?_; (case k1 => k_asm); (case k2 => k_asm); (case k3 => k_asm); (case k4 => k_is); (case k5 => k_is); (case k6 => k_is); k_whole)
  intro x' d' h' F' N' l1 l2
  (try k_lt l1); (try k_lt2 l2); (try k_sweep)
  k_dflt (refine' code_def (binds := [(Str.ofString "self", .ref x'), (Str.ofString "ws", .str X tk)]) ?k1 ?k2 ?k3 ?k4 ?k5 ?kA ?kF ?kK ?k6 ?k7 ?k8 ?k9 ?kB ?_ ?c2 ?c3 ?c4 ?c5; (case kA => exact rfl); (case kF => exact rfl); (case kK => assumption); (case k1 => k_asm); (case k2 => k_asm); (case k3 => k_asm); (case k4 => k_asm); (case k5 => k_asm); (case k6 => k_is); (case k7 => k_is); (case k8 => ktr_room); (case k9 => exact BindsTo.of_eq rfl); (case c5 => decide); (case kB => exact locs rfl); (case c2 => exact rfl); (case c3 => exact rfl); (case c4 => exact rfl); k_whole)
  intro g' L' h1 FG' F1 N1 B1 X1 T1
  (try dsimp only)
  (try k_fold)
  k_steps
  (rename Fr g' _ _ _ => Fz)
  (rename News g' _ _ _ => Nz)
  (with_unfolding_all refine iter_text (WJ X x' pre _) (by rfl) Fz Nz ⟨_, [], 0, _, _, _, Nat.zero_le _, .nil, ?_, rfl, rfl, rfl, rfl, rfl, rfl, rfl, rfl⟩ ?_ ?_)
  · show _ ∧ _ ∧ _ ∧ _
    assumption
  · rintro i c u I oI m₁ news₁ h2 tk2 hc ⟨D, vs, ep, tb, tn, tt, hi, hvs, hD, rfl, e1, e2, e3, e4, e5, e6, e7⟩ hoff F2 N2
    have hbd := wrun_bd (pre.take i)
    have hln := hvs.length
    rw [List.length_take, Nat.min_eq_left hi] at hbd
    have hpl : pre.length ≤ 300 := by
      have : X.cps.toList.length = X.length := by simp [PySem.Str.length]
      rw [hX, List.length_append] at this
      omega
    have F3 := Fr.ext F2 (kstB_ex _ _ [(Str.ofString "count", .ref D), (Str.ofString "b", .int (wrun (pre.take i)).b tb), (Str.ofString "n", .int (wrun (pre.take i)).n tn), (Str.ofString "nt", .int (wrun (pre.take i)).nt tt), (Str.ofString "self", .ref x'), (Str.ofString "S", .str (Str.ofString " ") 304), (Str.ofString "T", .str (Str.ofString "\t") 305)]
      (by intro p hp; simp only [List.mem_cons, List.not_mem_nil, or_false] at hp; rcases hp with rfl | rfl | rfl | rfl | rfl | rfl | rfl <;> assumption))
    clear F2 e1 e2 e3 e4 e5 e6 e7
    have hc' : (pre ++ 953 :: post)[i]? = some c := by rw [← hX, Array.getElem?_toList]; exact hc
    by_cases hlt : i < pre.length
    · have hcp : pre[i]? = some c := by rw [List.getElem?_append_left hlt] at hc'; exact hc'
      have hsn : wrun (pre.take (i + 1)) = wstep (wrun (pre.take i)) c := by
        rw [← wrun_snoc, List.take_add_one, hcp]; rfl
      generalize wrun (pre.take i) = st at *
      have hDI : @Ne Nat D I := hoff _ (.head _)
      have hoffR := fun p hp => hoff p (List.mem_cons_of_mem _ hp)
      rcases hpre c (List.mem_of_getElem? hcp) with rfl | rfl
      · clear hc hc' hcp
        have hD' := hD
        simp only [AllLt, and_true] at hD'
        k_steps
        exact UnrEnd.intro (by k_asm) (by k_asm) _ (fun p hp => hp) hoff (wj_intro (hsn.trans rfl) hlt hvs hD rfl rfl rfl rfl rfl rfl rfl)
      · clear hc hc' hcp
        have hD' := hD
        simp only [AllLt, and_true] at hD'
        k_steps
        · (rename IntsAre (List.set _ _ _) _ => q2)
          (rename News g' L' _ _ => N3)
          refine UnrEnd.intro (by k_asm) N3 _ sub5 (off_cons ?_ hoffR) (wj_intro (ep := 0) (hsn.trans ?_) hlt q2 ?_ rfl rfl rfl rfl rfl rfl rfl)
          · omega
          · rename ((List.length st.ns : Nat) : Int) ≤ st.b => q3
            simp only [wstep, grown, if_pos q3, ge_iff_le, if_neg (show ¬ (9 : Nat) = 32 by decide)]
          · rename _ ∧ _ ∧ _ ∧ _ ∧ _ ∧ _ ∧ _ ∧ AllLt _ _ => r1
            exact r1.2.2.2.2
        · (rename IntsAre (List.set _ _ _) _ => q2)
          refine UnrEnd.intro (by k_asm) (by k_asm) _ (fun p hp => hp) (off_cons hDI hoffR) (wj_intro (hsn.trans ?_) hlt q2 hD rfl rfl rfl rfl rfl rfl rfl)
          rename ¬ ((List.length st.ns : Nat) : Int) ≤ st.b => q3
          simp only [wstep, grown, if_neg q3, ge_iff_le, if_neg (show ¬ (9 : Nat) = 32 by decide)]
    · have he : i = pre.length := by omega
      subst he
      have hce : c = 953 := by
        rw [List.getElem?_append_right (Nat.le_refl _), Nat.sub_self] at hc'
        exact (Option.some.inj hc').symm
      subst hce
      clear hc hc'
      rw [List.take_length] at *
      generalize wrun pre = st at *
      have hDI : @Ne Nat D I := hoff _ (.head _)
      have hD' := hD
      simp only [AllLt, and_true] at hD'
      dsimp only [kstB] at F3
      have o1 : @Ne Nat _ I := hoff _ (.tail _ (.head _))
      have o2 : @Ne Nat x' I := hoff _ (.tail _ (.tail _ (.head _)))
      have o3 : @Ne Nat d' I := hoff _ (.tail _ (.tail _ (.tail _ (.head _))))
      k_steps
      rename News h₀ L _ _ => Nf
      exact hret x' d' _ _ vs tb _ _ _ ⟨_, _, _, _, _, _, _, _, _, _, _, rfl⟩ hvs (by k_asm) (fun p hp => Nf p (sub7 p hp)) l1 ⟨by omega, by omega, by omega⟩
  · rintro m₁ news₁ h2 tk2 ⟨D, vs, ep, tb, tn, tt, hi, _⟩ F2 N2
    have : X.cps.toList.length = X.cps.size := by simp
    rw [hX, List.length_append, List.length_cons] at this
    omega
end Mine
end
section
open PySem PySem.W PyProof.Rows
open Builtin.Str
set_option Elab.async false
set_option maxRecDepth 100000
namespace Mine
/-! what str.replace gives, over lists of signs -/
noncomputable def replS (y z : List Nat) : Nat → List Nat → List Nat
  | _, [] => []
  | k + 1, _ :: r => replS y z k r
  | 0, a :: r => if (a :: r).take y.length = y then z ++ replS y z (y.length - 1) r else a :: replS y z 0 r
theorem replS_cons (y z : List Nat) (a : Nat) (r : List Nat) : replS y z 0 (a :: r) = if (a :: r).take y.length = y then z ++ replS y z (y.length - 1) r else a :: replS y z 0 r := rfl
noncomputable def cuts (x y : Str) : List Nat → Nat → List Nat
  | [], _ => []
  | i :: l, free => if (free ≤ i ∧ i + y.length ≤ x.length) ∧ subAt x y i = true then i :: cuts x y l (i + y.length) else cuts x y l free
theorem occ_cuts (x y : Str) (limit : Nat) : ∀ (l : List Nat) (st : Array Nat × Nat), st.fst.size + l.length ≤ limit → (forIn l st (StrLaws.occBody x y x.length limit)).run.fst.toList = st.fst.toList ++ cuts x y l st.snd
  | [], st, _ => by simp [cuts]
  | i :: l, st, h => by
    rw [List.forIn_cons]
    unfold StrLaws.occBody
    simp only [List.length_cons] at h
    by_cases hc : (st.snd ≤ i ∧ i + y.length ≤ x.length) ∧ subAt x y i = true
    · rw [if_pos ⟨⟨⟨by omega, hc.1.1⟩, hc.1.2⟩, hc.2⟩]
      have := occ_cuts x y limit l (st.fst.push i, i + y.length) (by simp only [Array.size_push]; omega)
      refine this.trans ?_
      simp only [Array.toList_push, List.append_assoc, cuts, if_pos hc, List.singleton_append]
    · rw [if_neg (fun q => hc ⟨⟨q.1.1.2, q.1.2⟩, q.2⟩)]
      have := occ_cuts x y limit l st (by omega)
      refine this.trans ?_
      simp only [cuts, if_neg hc]
noncomputable def J (z : Str) (l : List Str) : List Nat := (Str.join z l).cps.toList
theorem J_cons (z p : Str) (x : Str) (w a : Nat) (c : List Nat) : J z (p :: StrLaws.partsFrom x w a c) = p.cps.toList ++ z.cps.toList ++ J z (StrLaws.partsFrom x w a c) := by
  obtain ⟨q, r, e⟩ := StrLaws.partsFrom_ne x w a c
  rw [e]
  show (p ++ z ++ Str.join z (q :: r)).cps.toList = _
  simp only [Str.cps_append, Array.toList_append]
  rfl
theorem repl_go (x y z : Str) (hy : 0 < y.length) : ∀ (n i free : Nat), i + n = x.length + 1 → i ≤ x.length → free ≤ x.length →
    (free ≤ i → J z (StrLaws.partsFrom x y.length free (cuts x y (List.range' i n) free)) = (x.cps.toList.drop free).take (i - free) ++ replS y.cps.toList z.cps.toList 0 (x.cps.toList.drop i)) ∧
    (i ≤ free → J z (StrLaws.partsFrom x y.length free (cuts x y (List.range' i n) free)) = replS y.cps.toList z.cps.toList (free - i) (x.cps.toList.drop i)) := by
  have hX : x.cps.toList.length = x.length := by simp [Str.length]
  have hY : y.cps.toList.length = y.length := by simp [Str.length]
  intro n
  induction n with
  | zero => intro i free h1 h2; omega
  | succ n ih =>
    intro i free h1 h2 h3
    have key : (free ≤ i → J z (StrLaws.partsFrom x y.length free (cuts x y (List.range' i (n + 1)) free)) = (x.cps.toList.drop free).take (i - free) ++ replS y.cps.toList z.cps.toList 0 (x.cps.toList.drop i)) := by
      intro hf
      rw [List.range'_succ]
      rcases Nat.lt_or_ge i x.length with hi | hi
      · have hd : x.cps.toList.drop i = x.cps.toList[i]'(by omega) :: x.cps.toList.drop (i + 1) := List.drop_eq_getElem_cons (by omega)
        by_cases hm : (x.cps.toList.drop i).take y.length = y.cps.toList
        · have hlen : i + y.length ≤ x.length := by
            have := congrArg List.length hm
            rw [List.length_take, List.length_drop, hX, hY] at this
            omega
          have hs : subAt x y i = true := by rw [StrLaws.subAt_eq]; exact beq_iff_eq.mpr hm
          simp only [cuts, if_pos (show (free ≤ i ∧ i + y.length ≤ x.length) ∧ subAt x y i = true from ⟨⟨hf, hlen⟩, hs⟩)]
          show J z (strSub x free i :: StrLaws.partsFrom x y.length (i + y.length) _) = _
          rw [J_cons, StrLaws.strSub_toList, ((ih (i + 1) (i + y.length) (by omega) (by omega) hlen).2 (by omega))]
          rw [hd] at hm ⊢
          rw [replS_cons, hY, if_pos hm, show i + y.length - (i + 1) = y.length - 1 by omega, List.append_assoc]
        · have hs : ¬ ((free ≤ i ∧ i + y.length ≤ x.length) ∧ subAt x y i = true) := by
            intro q
            rw [StrLaws.subAt_eq] at q
            exact hm (beq_iff_eq.mp q.2)
          simp only [cuts, if_neg hs]
          rw [(ih (i + 1) free (by omega) (by omega) h3).1 (by omega)]
          have e : (x.cps.toList.drop free).take (i + 1 - free) = (x.cps.toList.drop free).take (i - free) ++ [x.cps.toList[i]'(by omega)] := by
            rw [show i + 1 - free = (i - free) + 1 by omega, List.take_add_one, List.getElem?_drop, show free + (i - free) = i by omega, List.getElem?_eq_getElem (by omega)]
            rfl
          rw [e]
          rw [hd] at hm
          rw [hd]
          rw [replS_cons, hY, if_neg hm, List.append_assoc]
          rfl
      · have hi' : i = x.length := by omega
        have hs : ¬ ((free ≤ i ∧ i + y.length ≤ x.length) ∧ subAt x y i = true) := by
          intro q; omega
        have hn : n = 0 := by omega
        subst hn
        simp only [cuts, if_neg hs, List.range'_zero]
        show (strSub x free x.length).cps.toList = _
        have e2 : x.cps.toList.drop i = [] := List.drop_of_length_le (by omega)
        rw [StrLaws.strSub_toList, e2, hi']
        simp [replS]
    refine ⟨key, fun hf => ?_⟩
    rcases Nat.lt_or_ge i free with hi | hi
    · have hd : x.cps.toList.drop i = x.cps.toList[i]'(by omega) :: x.cps.toList.drop (i + 1) := List.drop_eq_getElem_cons (by omega)
      have hs : ¬ ((free ≤ i ∧ i + y.length ≤ x.length) ∧ subAt x y i = true) := by
        intro q; omega
      rw [List.range'_succ]
      simp only [cuts, if_neg hs]
      rw [(ih (i + 1) free (by omega) (by omega) h3).2 (by omega), hd, show free - i = (free - (i + 1)) + 1 by omega]
      rfl
    · have : free = i := by omega
      subst this
      rw [key (Nat.le_refl _), Nat.sub_self]
      rfl
theorem replace_list (x y z : Str) (hy : 0 < y.length) : (Txt.replace x y z).cps.toList = replS y.cps.toList z.cps.toList 0 x.cps.toList := by
  have h := (repl_go x y z hy (x.length + 1) 0 0 (by omega) (Nat.zero_le _) (Nat.zero_le _)).1 (Nat.le_refl _)
  have e : occurrences x y 0 x.length (x.length + 1) = cuts x y (List.range' 0 (x.length + 1)) 0 := by
    rw [StrLaws.occ_eq]
    exact occ_cuts x y (x.length + 1) _ (#[], 0) (by simp)
  have hy0 : (y.length == 0) = false := by simp; omega
  unfold Txt.replace
  rw [e, hy0, Bool.false_and, Bool.or_false]
  cases hc : (cuts x y (List.range' 0 (x.length + 1)) 0).isEmpty
  · rw [if_neg Bool.false_ne_true, StrLaws.glued_eq_join, StrLaws.partsBetween_eq]
    exact h
  · rw [if_pos rfl]
    rw [List.isEmpty_iff] at hc
    rw [hc] at h
    rw [List.drop_zero, Nat.sub_self, List.take_zero, List.nil_append] at h
    refine Eq.trans ?_ h
    show _ = (strSub x 0 x.length).cps.toList
    rw [StrLaws.sub_whole]
theorem replS_len (y z : List Nat) (hz : z.length ≤ y.length) (hy : 0 < y.length) : ∀ (l : List Nat) (k : Nat), k ≤ l.length → (replS y z k l).length + k ≤ l.length
  | [], k, h => by
    have : k = 0 := by simpa using h
    subst this; simp [replS]
  | a :: l, 0, _ => by
    rw [replS_cons]
    split
    · rename_i hm
      have := congrArg List.length hm
      rw [List.length_take, List.length_cons] at this
      have := replS_len y z hz hy l (y.length - 1) (by omega)
      rw [List.length_append, List.length_cons]; omega
    · have := replS_len y z hz hy l 0 (Nat.zero_le _)
      simp only [List.length_cons]; omega
  | a :: l, k + 1, h => by
    have := replS_len y z hz hy l k (by simpa using h)
    simp only [replS, List.length_cons]; omega
theorem replace_len (x y z : Str) (hy : 0 < y.length) (hz : z.length ≤ y.length) : (Txt.replace x y z).length ≤ x.length := by
  have h := congrArg List.length (replace_list x y z hy)
  have := replS_len y.cps.toList z.cps.toList (by simpa [Str.length] using hz) (by simpa [Str.length] using hy) x.cps.toList 0 (Nat.zero_le _)
  simp only [Array.length_toList] at *
  unfold Str.length
  omega
end Mine
end
section
open PySem PySem.W PyProof.Rows PySem.Spec PySem.Calls
open PyProof.Rows.LCg PyProof.Rows.LCt
set_option Elab.async false
set_option maxRecDepth 100000
namespace Mine
noncomputable def KEl (news : List (Addr × Obj)) (k : Bool) (r : Str) (y : Value) (news' : List (Addr × Obj)) : Prop := news' = news ∧ k = true ∧ ∃ u : Tok, y = .str r u
noncomputable def KNo (news : List (Addr × Obj)) (k : Bool) (news' : List (Addr × Obj)) : Prop := news' = news ∧ k = false
section
variable {prog : Program} {w : World} {A : Around} {h₀ : Heap} {L : Addr} {m : Str → Option Value} {env : Env} {ct elt : Expr} {x : Str} {scope : Scope} {cl : List (Str × Addr)} {s : Shared} {S : List (Addr × Obj) → Prop} {P : Nat → Value → Prop} {Fin : List Value → List (Addr × Obj) → Prop} {news : List (Addr × Obj)}
theorem restS {n : Nat} {cs : List Nat} (keep : Nat → Bool) (val : Nat → Str) (hks : cs.length = n) (hP : ∀ i v, i < n → P i v → ∃ c t, cs[i]? = some c ∧ v = .str ⟨#[c]⟩ t)
    (turn : ∀ c t I oI C oC D m₂ ys h tk (E' : Value → Shared → Prop), c ∈ cs → LCg.NsObj oC m₂ → m₂ x = some (.str ⟨#[c]⟩ t) → Fr h₀ L h m → News h₀ L h ((I, oI) :: (C, oC) :: (D, LCg.lst ys) :: news) → LCg.Off3 I C D news → ((@Ne Nat I C) ∧ (@Ne Nat I D) ∧ (@Ne Nat C D)) →
      wpAny (model prog w) A (isTrue ct (compEnvC scope cl C env) (eval ct (compEnvC scope cl C env))) (fun b s' => if b = true then wpAny (model prog w) A (eval elt (compEnvC scope cl C env)) (LCg.CompEnd h₀ L m { s with heap := h, toks := tk } I oI C oC D (LCg.lst ys) S (KEl news (keep c) (val c))) E' s'
        else LCg.CompEnd h₀ L m { s with heap := h, toks := tk } I oI C oC D (LCg.lst ys) S (fun _ news' => KNo news (keep c) news') Value.none s') E' { s with heap := h, toks := tk })
    (fin : ∀ ys, StrsAre ys ((cs.filter keep).map val) → Fin ys news) : LCt.CompRestT prog w A h₀ L m env ct elt x scope cl s S P Fin n 0 [] news := by
  have key : ∀ (j i : Nat) (ys : List Value), i + j = n → StrsAre ys (((cs.take i).filter keep).map val) → LCt.CompRestT prog w A h₀ L m env ct elt x scope cl s S P Fin j i ys news := by
    intro j
    induction j with
    | zero =>
      intro i ys hi hy
      have e : i = cs.length := by omega
      subst e
      rw [List.take_length] at hy
      exact LCt.CompRestT.zero (fin ys hy)
    | succ j ih =>
      intro i ys hi hy
      refine LCt.CompRestT.succ ?_
      intro v I oI C oC D m₂ h tk E' hv hC hx F N off ne
      obtain ⟨c, t, hc, hv'⟩ := hP i v (by omega) hv
      rw [hv'] at hx
      have hs : (cs.take (i + 1)).filter keep = (cs.take i).filter keep ++ (if keep c then [c] else []) := by
        rw [List.take_add_one, hc, List.filter_append]
        cases hk : keep c <;> simp [hk]
      refine wpAny_mono (turn c t I oI C oC D m₂ ys h tk E' (List.mem_of_getElem? hc) hC hx F N off ne) (fun b s₂ hq => ?_) fun _ _ e => e
      cases b with
      | true =>
        simp only [if_true] at hq ⊢
        refine wpAny_mono hq (fun y s₃ hr => ?_) fun _ _ e => e
        obtain ⟨h', tk', nw, e, F', N', off', hS, hn, hk, u, hy'⟩ := hr
        rw [hn] at N' off' hS
        refine ⟨h', tk', news, e, F', N', off', hS, ?_⟩
        rw [hy']
        refine ih (i + 1) _ (by omega) ?_
        rw [hs, hk]
        simpa using kct_snoc hy
      | false =>
        simp only [Bool.false_eq_true, if_false] at hq ⊢
        obtain ⟨h', tk', nw, e, F', N', off', hS, hn, hk⟩ := hq
        rw [hn] at N' off' hS
        refine ⟨h', tk', news, e, F', N', off', hS, ih (i + 1) _ (by omega) ?_⟩
        rw [hs, hk]
        simpa using hy
  exact key n 0 [] (by omega) (by simp only [List.take_zero, List.filter_nil, List.map_nil]; exact .nil)
end
theorem sign_hP {tx : Str} : ∀ i v, i < tx.cps.size → SignAt tx i v → ∃ c t, tx.cps.toList[i]? = some c ∧ v = .str ⟨#[c]⟩ t := fun i v _ h => by
  obtain ⟨c, u, h1, h2⟩ := h
  exact ⟨c, u, by rw [Array.getElem?_toList]; exact h1, h2⟩
theorem b3_len (c : Nat) : (b3 c).length ≤ 2 := by
  unfold b3; split
  · exact Nat.le_refl 2
  · exact Nat.le_succ 1
theorem heard_sum (l : List Nat) (f : Nat → Bool) : (((l.filter f).map b3).map (·.length)).sum ≤ 2 * l.length := by
  induction l with
  | nil => simp
  | cons c r ih =>
    rw [List.filter_cons]
    have := b3_len c
    split <;> simp only [List.map_cons, List.sum_cons, List.length_cons] <;> omega
theorem heard_len {tx : Str} {f : Nat → Bool} (h : tx.length ≤ 100) : (((tx.cps.toList.filter f).map b3).map (·.length)).sum + ((tx.cps.toList.filter f).map b3).length * 64 ≤ 16777216 := by
  have h1 := heard_sum tx.cps.toList f
  have h2 : tx.cps.toList.length ≤ 100 := by simpa [PySem.Str.length] using h
  have h3 := List.length_filter_le f tx.cps.toList
  rw [List.length_map]
  omega
theorem heard_len2 {tx : Str} {f : Nat → Bool} (h : tx.length ≤ 100) : (Txt.join (Str.ofString "") ((tx.cps.toList.filter f).map b3)).length ≤ 200 := by
  have h1 := heard_sum tx.cps.toList f
  have h2 : tx.cps.toList.length ≤ 100 := by simpa [PySem.Str.length] using h
  have h4 := StrLaws.join_length_le (Str.ofString "") ((tx.cps.toList.filter f).map b3)
  have h5 : (Str.ofString "").length = 0 := by decide +kernel
  rw [h5, Nat.mul_zero, Nat.add_zero] at h4
  have h6 : Txt.join (Str.ofString "") ((tx.cps.toList.filter f).map b3) = Str.join (Str.ofString "") ((tx.cps.toList.filter f).map b3) := eq_of_beq (join_closes rfl)
  rw [h6]
  refine Nat.le_trans h4 (Nat.le_trans h1 ?_)
  omega
section
variable {prog : Program} {w : World} {A : Around} {E : Value → Shared → Prop} {s : Shared} {x y z : Str} {t u v : Tok} {Q : Value → Shared → Prop}
theorem add_tk (ht : 1 ≤ s.toks) (hz : x.length + y.length ≤ 16777216) (h : ∀ t' k, 1 ≤ k → Q (.str (x ++ y) t') { s with toks := k }) : wpAny (model prog w) A (binaryOp .Add (.str x t) (.str y u)) Q E s :=
  wpAny_with_toks (n := 1) ht (SBL.add (fun t' k _ hk => h t' k hk) (by rw [sizeLine_eq]; omega))
theorem repl_tk (ht : 1 ≤ s.toks) (hu : 1 ≤ u) (hv : 1 ≤ v) (huv : u ≠ v) (hyz : (y == z) = false) (hx : x.length ≤ 1048576) (hz : z.length ≤ 14)
    (hq : ∀ t' k, 1 ≤ k → Q (.str (Txt.replace x y z) t') { s with toks := k }) : wpAny (model prog w) A (call (.builtin "str.replace") [.str x t, .str y u, .str z v]) Q E s :=
  wpAny_with_toks (n := 1) ht (SC.replaceW (Nat.ne_of_gt hu) (Nat.ne_of_gt hv) huv hyz hx hz fun t' k hk => hq t' k hk)
end
noncomputable def leadText (tx : Str) : Str := Txt.replace (Txt.replace (Str.ofString "\r\n" ++ Txt.join (Str.ofString "") (List.map b3 (List.filter (fun c => !isB1 ↑c && !isC8 ↑c) tx.cps.toList))) (Str.ofString "\r\n.") (Str.ofString "\t")) (Str.ofString ".") (Str.ofString " ")
local macro_rules | `(tactic| walk_at "binaryOp Add str str") => `(tactic| (k_here; k_dflt (refine' add_tk ?a1 ?a2 ?_; (case a1 => first | exact Nat.succ_le_succ (Nat.zero_le _) | assumption | (dsimp only; omega)); (case a2 => omega)); intro t8 k8 hk8))
local macro_rules | `(tactic| walk_at "call builtin:str.replace") => `(tactic| (k_here; k_dflt (refine' repl_tk ?a1 ?a2 ?a3 ?a4 ?a5 ?a6 ?a7 ?_; (case a1 => first | exact Nat.succ_le_succ (Nat.zero_le _) | assumption | (dsimp only; omega)); (case a2 => assumption); (case a3 => exact Nat.succ_le_succ (Nat.zero_le _)); (case a4 => exact Nat.ne_of_lt (Nat.lt_succ_self _)); (case a5 => decide); (case a6 => first | omega | (refine Nat.le_trans (replace_len _ _ _ (by decide) (by decide)) ?_; (try rw [Str.length_append]); omega)); (case a7 => decide)); intro t8 k8 hk8))
local macro_rules | `(tactic| walk_at "call ref") => `(tactic| (k_here; k_dflt (refine use0 (b1_tells _ _) (by k_asm) (by k_asm) (by k_asm) (by k_asm) (by k_asm) (by first | exact rfl | assumption) (by assumption) (by ktr_room) (by ktr_units) ?_; intro t9 h9 tk9 F9 N9; (try dsimp only))))
local macro_rules | `(tactic| walk_at "call ref") => `(tactic| (k_here; k_dflt (refine use0 (c8_tells _ _) (by k_asm) (by k_asm) (by k_asm) (by k_asm) (by k_asm) (by first | exact rfl | assumption) (by assumption) (by ktr_room) (by ktr_units) ?_; intro t9 h9 tk9 F9 N9; (try dsimp only))))
local macro_rules | `(tactic| walk_at "eval ListComp") => `(tactic| (k_here; k_dflt (refine ListComp_TS (F₀ := by k_asm) (by with_unfolding_all rfl) (by decide) (by rfl) (by decide) (by rfl) ?_)))
set_option maxHeartbeats 0 in
theorem useW {rd ru : Nat} {w : World} {p : Program} {loose : List Str} {mean : ExcName → Option Value} {mg mb : Str → Option Value} {f : Addr} {vs : List Value} {st : WSt}
    {dp un : Nat} {gd : Option (List Code)} {cn : Str} {cs : Scope} {a : Addr} {ccd : Value} {cl : List (Str × Addr)} {outer : List Env} {A₀ : Around} {base h₀ : Heap} {L : Addr} {m : Str → Option Value} {news : List (Addr × Obj)} {s : Shared} {Q E : Value → Shared → Prop}
    (C : TellsW rd ru w p loose mean mg mb f vs st) (B : Below A₀ base outer h₀) (F : Fr h₀ L s.heap m) (X : (K w.params).In h₀) (N : News h₀ L s.heap news) (T : Top p loose mean mg mb h₀) (hk : cs.kind = .function) (XB : XF w base) (hd : dp + rd < recursionLimit) (hu : un + ru < cLine)
    (ret : ∀ (x d T C : Addr) (xs : List Value) (tb : Tok) (D : Obj) (h' : Heap) (tk' : Nat), LeadD w D st.nt T → IntsAre xs st.ns → Fr h₀ L h' m →
      News h₀ L h' ((T, tupO [.ref C, .int st.b tb]) :: (C, tupO xs) :: (x, instObj 100 d) :: (d, D) :: news) → (∀ p ∈ news, p.1 < d) → (@LT.lt Nat _ d x ∧ @LT.lt Nat _ x C ∧ @LT.lt Nat _ C T) → Q (.ref x) { s with heap := h', toks := tk' }) :
    wpAny (model pw w) (ktrTop dp un gd cn cs L a ccd cl outer) (call (.ref f) vs) Q E s := C _ _ _ _ _ _ _ _ _ _ _ _ _ _ _ _ _ _ B F X N T hk XB hd hu ret
theorem sub41 {T C D x d : Addr × Obj} {rest : List (Addr × Obj)} : ∀ p ∈ T :: C :: x :: d :: rest, p ∈ T :: C :: x :: d :: D :: rest := fun p hp => by
  rcases List.mem_cons.mp hp with rfl | hp
  · exact .head _
  rcases List.mem_cons.mp hp with rfl | hp
  · exact .tail _ (.head _)
  rcases List.mem_cons.mp hp with rfl | hp
  · exact .tail _ (.tail _ (.head _))
  rcases List.mem_cons.mp hp with rfl | hp
  · exact .tail _ (.tail _ (.tail _ (.head _)))
  exact .tail _ (.tail _ (.tail _ (.tail _ (.tail _ hp))))
set_option maxHeartbeats 0 in
theorem lead_tells {w : World} {p : Program} {loose : List Str} {mean : ExcName → Option Value} {mg mb : Str → Option Value} (tx : Str) (tk : Tok) (hlen : tx.length ≤ 100) (hT : ∀ c ∈ tx.cps.toList, isB1 c = false → isC8 c = false → plainSign c)
    (pre post : List Nat) (hX : (leadText tx).cps.toList = pre ++ 953 :: post) (hpre : ∀ c ∈ pre, c = 32 ∨ c = 9) : TellsW 5 80 w p loose mean mg mb 238 [.str tx tk] (wrun pre) := by
  have : (K w.params).length = (K w.params).length ∧ PySem.Challenge.rw_re0164_01.foot = 7 := ⟨rfl, rfl⟩
  revert this
  k_fill
  intro _
  intro dp un gd cn cs a ccd cl outer A₀ base h₀ L m news s Q E B F X N T hk XB hd hu hret
  refine wpAny_call ?_
  k_dflt cell_enter
  k_steps
  refine ⟨tx, _, _, rfl, rfl, by k_asm, by k_asm, ?_, fun s₂ hs₂ => restS (fun c => !isB1 c && !isC8 c) b3 rfl sign_hP (fun c t I oI C oC D m₂ ys h tk E' hc hC hx F N off ne => ?_) ?_⟩
  · rw [sizeLine_eq]; unfold PySem.Str.length at hlen; omega
  · k_steps
    · (rename (isB1 _ == false) = true => q1)
      (rename (isC8 _ == false) = true => q2)
      k_dflt (refine' use0 (map_tells _ _ (hT c hc (by simpa using q1) (by simpa using q2))) ?k1 ?k2 ?k3 ?k4 ?k5 ?kK ?kX ?kd ?ku ?kR; (case k1 => k_asm); (case k2 => k_asm); (case k3 => k_asm); (case k4 => k_asm); (case k5 => k_asm); (case kK => first | exact rfl | assumption); (case kX => assumption); (case kd => ktr_room); (case ku => ktr_units))
      intro t9 h9 tk9 F9 N9
      exact CompEnd.intro F9 N9 news (fun _ hp => hp) off trivial ⟨rfl, by simp_all, _, rfl⟩
    · exact CompEnd.intro (by k_asm) (by k_asm) news (fun _ hp => hp) off trivial ⟨rfl, by simp_all⟩
    · exact CompEnd.intro (by k_asm) (by k_asm) news (fun _ hp => hp) off trivial ⟨rfl, by simp_all⟩
  · intro ys hy
    (try dsimp only)
    intro D h1 tk1 F1 N1 off1
    (try dsimp only)
    k_steps
    refine join_listC (items := ys.toArray) (News.isList N1 (.head _)) (by simpa using hy) (by decide) (heard_len hlen) ?_
    intro t3 k3
    have hh := heard_len2 (tx := tx) (f := fun c => !isB1 ↑c && !isC8 ↑c) hlen
    (unfold leadText at hX)
    (generalize hg : Txt.join (Str.ofString "") (List.map b3 (List.filter (fun c => !isB1 ↑c && !isC8 ↑c) tx.cps.toList)) = heard at hh hX ⊢)
    have hrn : (Str.ofString "\r\n").length = 2 := by decide +kernel
    have hrx : (Str.ofString "\r\n" ++ heard).length ≤ 202 := by rw [Str.length_append]; omega
    k_steps
    have hlX : (Txt.replace (Txt.replace (Str.ofString "\r\n" ++ heard) (Str.ofString "\r\n.") (Str.ofString "\t")) (Str.ofString ".") (Str.ofString " ")).length ≤ 300 := by
      have e1 := replace_len (Str.ofString "\r\n" ++ heard) (Str.ofString "\r\n.") (Str.ofString "\t") (by decide) (by decide)
      have e2 := replace_len (Txt.replace (Str.ofString "\r\n" ++ heard) (Str.ofString "\r\n.") (Str.ofString "\t")) (Str.ofString ".") (Str.ofString " ") (by decide) (by decide)
      omega
    k_dflt (refine' useW (ws_tells _ _ hlX pre post hX hpre) ?w1 ?w2 ?w3 ?w4 ?w5 ?wK ?wX ?wd ?wu ?wR; (case w1 => k_asm); (case w2 => k_asm); (case w3 => k_asm); (case w4 => k_asm); (case w5 => k_asm); (case wK => first | exact rfl | assumption); (case wX => assumption); (case wd => ktr_room); (case wu => ktr_units))
    intro x d T C xs tb DD h' tk' hDD hxs F' N' hlt hord
    (try dsimp only)
    k_steps
    rename News h₀ L _ _ => Nf
    obtain ⟨_, rfl⟩ := hs₂
    exact hret x d T C xs tb DD _ _ hDD hxs (by k_asm) (fun p hp => Nf p (sub41 p hp)) (fun p hp => hlt p (.tail _ hp)) hord
end Mine
end
section
open PySem PySem.Sre
set_option Elab.async false
set_option maxRecDepth 100000
namespace Mine
/-! the search engine on the two fixed codes -/
noncomputable def code1 : Array Nat := #[14, 4, 0, 1, 1, 6, 1, 16, 46, 1]
noncomputable def code2 : Array Nat := #[14, 9, 4, 1, 2, 16, 10, 16, 13, 0, 7, 7, 16, 13, 16, 10, 15, 18, 5, 16, 10, 15, 13, 11, 16, 13, 5, 5, 0, 16, 10, 1, 15, 2, 0, 1]
noncomputable def iter : Nat → M → M
  | 0, m => m
  | n + 1, m => iter n m.step
theorem step_done {m : M} (h : m.outcome.isSome = true) : m.step = m := by
  unfold M.step; rw [if_pos h]
theorem iter_done {m : M} (h : m.outcome.isSome = true) : ∀ n, iter n m = m
  | 0 => rfl
  | n + 1 => by rw [iter, step_done h, iter_done h n]
theorem iter_add (m : M) : ∀ a b, iter (a + b) m = iter b (iter a m)
  | 0, b => by rw [Nat.zero_add]; rfl
  | a + 1, b => by rw [Nat.add_right_comm]; exact iter_add m.step a b
theorem runFor_iter : ∀ n (m : M), m.runFor n = iter n m
  | 0, _ => rfl
  | n + 1, m => by
    unfold M.runFor
    split
    · rename_i h; rw [iter_done h]
    · exact runFor_iter n m.step
noncomputable def Ends (m : M) (n : Nat) (P : M → Prop) : Prop := ∃ k, k ≤ n ∧ (iter k m).outcome.isSome = true ∧ P (iter k m)
theorem Ends.step {m m' : M} {n : Nat} {P : M → Prop} (e : m.step = m') (h : Ends m' n P) : Ends m (n + 1) P := by
  obtain ⟨k, hk, h1, h2⟩ := h
  refine ⟨k + 1, by omega, ?_, ?_⟩
  · show (iter k m.step).outcome.isSome = true; rw [e]; exact h1
  · show P (iter k m.step); rw [e]; exact h2
theorem Ends.mono {m : M} {a b : Nat} {P : M → Prop} (h : Ends m a P) (hab : a ≤ b) : Ends m b P := by
  obtain ⟨k, hk, r⟩ := h; exact ⟨k, by omega, r⟩
theorem Ends.now {m : M} {P : M → Prop} (h : m.outcome.isSome = true) (p : P m) : Ends m 0 P := ⟨0, Nat.le_refl _, h, p⟩
noncomputable def ms (code text : Array Nat) (lim s last pc pos handed : Nat) (o : Bool) (fr : List Sre.Frame) (w : Nat) (ans : Option Bool) (seen : Seen) (out : Option Sre.Outcome) : M :=
  { code, text, lim, start := s, lastStart := last, pc, pos, handed, outermost := o, marks := #[], frames := fr, weight := w, answer := ans, seen, outcome := out }
section
variable {code text : Array Nat} {lim s last pc pos handed : Nat} {o : Bool} {fr : List Sre.Frame} {w : Nat} {seen : Seen}
theorem lit_yes (hp : pc < code.size) (ho : ops[code.getD pc 0]? = some .LITERAL) (hl : pos < lim) (hc : text.getD pos 0 = code.getD (pc + 1) 0) :
    (ms code text lim s last pc pos handed o fr w none seen none).step = ms code text lim s last (pc + 2) (pos + 1) handed o fr w none (seen.add (code.getD pc 0)) none := by
  have h2 : ¬ (lim ≤ pos) := by omega
  simp [-Array.getD_eq_getD_getElem?, ms, M.step, hp, M.exec, M.word, ho, h2, accepts, hc, itemWidth]
theorem lit_no (hp : pc < code.size) (ho : ops[code.getD pc 0]? = some .LITERAL) (hc : ¬ (pos < lim ∧ text.getD pos 0 = code.getD (pc + 1) 0)) :
    (ms code text lim s last pc pos handed o fr w none seen none).step = ms code text lim s last pc pos handed o fr w (some false) (seen.add (code.getD pc 0)) none := by
  by_cases h2 : lim ≤ pos
  · simp [-Array.getD_eq_getD_getElem?, ms, M.step, hp, M.exec, M.word, ho, h2, M.say]
  · have hc' : ¬ text.getD pos 0 = code.getD (pc + 1) 0 := fun e => hc ⟨by omega, e⟩
    have hc'' : (text.getD pos 0 == code.getD (pc + 1) 0) = false := by simpa using hc'
    simp only [ms, M.step, hp, M.exec, M.word, Nat.add_zero, ho, accepts, if_neg h2, ge_iff_le, hc'', M.say, if_true, Option.isSome_none, Bool.false_eq_true, if_false]
theorem jump_st (hp : pc < code.size) (ho : ops[code.getD pc 0]? = some .JUMP) :
    (ms code text lim s last pc pos handed o fr w none seen none).step = ms code text lim s last (pc + 1 + code.getD (pc + 1) 0) pos handed o fr w none (seen.add (code.getD pc 0)) none := by
  simp [-Array.getD_eq_getD_getElem?, ms, M.step, hp, M.exec, M.word, ho]
theorem succ_st (hp : pc < code.size) (ho : ops[code.getD pc 0]? = some .SUCCESS) :
    (ms code text lim s last pc pos handed o fr w none seen none).step = ms code text lim s last pc pos pos o fr w (some true) (seen.add (code.getD pc 0)) none := by
  simp [-Array.getD_eq_getD_getElem?, ms, M.step, hp, M.exec, M.word, ho, M.say]
theorem branch_st (hp : pc < code.size) (ho : ops[code.getD pc 0]? = some .BRANCH) (hz : (code.getD (pc + 1) 0 == 0) = false) (hw : w < 100) :
    (ms code text lim s last pc pos handed o fr w none seen none).step =
      ms code text lim s last (pc + 2) pos pos o ({ wait := .nextBranch, pc := pc + 1, pos, outermost := o } :: fr) (w + 1) none (seen.add (code.getD pc 0)) none := by
  have h3 : ¬ (16777216 < w + 1) := by omega
  simp only [beq_eq_false_iff_ne] at hz
  simp [-Array.getD_eq_getD_getElem?, ms, M.step, hp, M.exec, M.word, ho, M.alternative, hz, M.keep, M.attempt, h3, M.frame]
theorem next_no {q p : Nat} {oo : Bool} (hz : (code.getD (q + code.getD q 0) 0 == 0) = false) (hw : w < 100) (h1 : 1 ≤ w) :
    (ms code text lim s last pc pos handed o ({ wait := .nextBranch, pc := q, pos := p, outermost := oo } :: fr) w (some false) seen none).step =
      ms code text lim s last (q + code.getD q 0 + 1) p p oo ({ wait := .nextBranch, pc := q + code.getD q 0, pos := p, outermost := oo } :: fr) w none seen none := by
  have h3 : ¬ (16777216 < w - 1 + 1) := by omega
  have h4 : w - 1 + 1 = w := by omega
  have h6 : ¬ (16777216 < w) := by omega
  simp only [beq_eq_false_iff_ne] at hz
  simp [-Array.getD_eq_getD_getElem?, ms, M.step, M.resume, M.putBack, M.alternative, hz, M.attempt, h6, h4, M.frame]
theorem next_yes {q p : Nat} {oo : Bool} :
    (ms code text lim s last pc pos handed o ({ wait := .nextBranch, pc := q, pos := p, outermost := oo } :: fr) w (some true) seen none).step =
      ms code text lim s last q p handed oo fr (w - 1) (some true) seen none := by
  simp [-Array.getD_eq_getD_getElem?, ms, M.step, M.resume, M.say]
theorem start_yes {q p : Nat} {oo : Bool} :
    (ms code text lim s last pc pos handed o ({ wait := .nextStart, pc := q, pos := p, outermost := oo } :: fr) w (some true) seen none).step =
      ms code text lim s last q p handed oo fr (w - 1) (some true) seen none := by
  simp [-Array.getD_eq_getD_getElem?, ms, M.step, M.resume, M.say]
theorem start_over {q p : Nat} {oo : Bool} (h : ¬ p < last) :
    (ms code text lim s last pc pos handed o ({ wait := .nextStart, pc := q, pos := p, outermost := oo } :: fr) w (some false) seen none).step =
      ms code text lim s last q p handed oo fr (w - 1) (some false) seen none := by
  simp [-Array.getD_eq_getD_getElem?, ms, M.step, M.resume, M.say, h]
theorem start_next {q p : Nat} {oo : Bool} (h : p < last) (hf : (ms code text lim s last q p handed oo fr (w - 1) none seen none).hasFirstSet = false) (hw : w < 100) :
    (ms code text lim s last pc pos handed o ({ wait := .nextStart, pc := q, pos := p, outermost := oo } :: fr) w (some false) seen none).step =
      ms code text lim (p + 1) last q (p + 1) (p + 1) false ({ wait := .nextStart, pc := q, pos := p + 1, outermost := false } :: fr) (w - 1 + 1) none seen none := by
  have h3 : ¬ (16777216 < w - 1 + 1) := by omega
  have h5 : ∀ m : M, m.hasFirstSet = false → m.attemptFrom (p + 1) false = m.attemptAt (p + 1) false := fun m hm => by
    unfold M.attemptFrom; rw [hm]; rfl
  show M.resume (ms code text lim s last q p handed oo fr (w - 1) none seen none) { wait := .nextStart, pc := q, pos := p, outermost := oo } false = _
  unfold M.resume
  show (if (false = true) then _ else if p < last then M.attemptFrom { (ms code text lim s last q p handed oo fr (w - 1) none seen none) with mustAdvance := false } (p + 1) false else _) = _
  simp only [h, if_true, Bool.false_eq_true, if_false]
  rw [h5]
  · simp [-Array.getD_eq_getD_getElem?, ms, M.attemptAt, M.attempt, h3]
  · exact hf
theorem top_end {b : Bool} :
    (ms code text lim s last pc pos handed o [] w (some b) seen none).step = ms code text lim s last pc pos handed o [] w (some b) seen (some (if b then .matched else .failed)) := by
  simp [-Array.getD_eq_getD_getElem?, ms, M.step]
theorem at1_yes (hp : pc < code.size) (ho : ops[code.getD pc 0]? = some .AT) (h1 : code.getD (pc + 1) 0 = 1) (hb : pos = 0 ∨ text.getD (pos - 1) 0 = 10) :
    (ms code text lim s last pc pos handed o fr w none seen none).step = ms code text lim s last (pc + 2) pos handed o fr w none ((seen.add (code.getD pc 0)).add 44) none := by
  simp [-Array.getD_eq_getD_getElem?, ms, M.step, hp, M.exec, M.word, ho, h1, M.isAt]
  intro a b
  rcases hb with hb | hb
  · exact absurd hb a
  · simp [hb] at b
theorem at1_no (hp : pc < code.size) (ho : ops[code.getD pc 0]? = some .AT) (h1 : code.getD (pc + 1) 0 = 1) (hb : ¬ (pos = 0 ∨ text.getD (pos - 1) 0 = 10)) :
    (ms code text lim s last pc pos handed o fr w none seen none).step = ms code text lim s last pc pos handed o fr w (some false) ((seen.add (code.getD pc 0)).add 44) none := by
  have hb1 : ¬ pos = 0 := fun e => hb (.inl e)
  have hb2 : ¬ text.getD (pos - 1) 0 = 10 := fun e => hb (.inr e)
  simp [-Array.getD_eq_getD_getElem?, ms, M.step, hp, M.exec, M.word, ho, h1, M.isAt, hb1, hb2, M.say]
theorem nota_st (hp : pc < code.size) (ho : ops[code.getD pc 0]? = some .ASSERT_NOT) (hz : code.getD (pc + 2) 0 = 0) (hw : w < 100) :
    (ms code text lim s last pc pos handed o fr w none seen none).step =
      ms code text lim s last (pc + 3) pos pos false ({ wait := .lookNot, pc, pos, outermost := o } :: fr) (w + 1) none (seen.add (code.getD pc 0)) none := by
  have h3 : ¬ (16777216 < w + 1) := by omega
  simp [-Array.getD_eq_getD_getElem?, ms, M.step, hp, M.exec, M.word, ho, hz, M.keep, M.attempt, h3, M.frame]
theorem nota_no {q p : Nat} {oo : Bool} :
    (ms code text lim s last pc pos handed o ({ wait := .lookNot, pc := q, pos := p, outermost := oo } :: fr) w (some false) seen none).step =
      ms code text lim s last (q + 1 + code.getD (q + 1) 0) p handed oo fr (w - 1) none seen none := by
  simp [-Array.getD_eq_getD_getElem?, ms, M.step, M.resume, M.putBack, M.word]
end
end Mine
end
section
open PySem PySem.Sre
set_option Elab.async false
set_option maxRecDepth 100000
namespace Mine
noncomputable def Got (r : Option (Nat × Nat)) (f : M) : Prop := match r with
  | some (a, e) => f.outcome = some .matched ∧ f.start = a ∧ f.handed = e
  | none => f.outcome = some .failed
noncomputable def Srch (code text : Array Nat) (i : Nat) (r : Option (Nat × Nat)) : Prop := Ends (forSearch code text 0 i text.size false) (10 * text.size + 100) (Got r)
inductive SubR (code text : Array Nat) (repl : List Nat) : Nat → List Nat → Prop
  | stop {i : Nat} : Srch code text i none → SubR code text repl i (text.toList.drop i)
  | more {i a e : Nat} {out : List Nat} : Srch code text i (some (a, e)) → i ≤ a → a < e → e ≤ text.size → SubR code text repl e out → SubR code text repl i ((text.toList.drop i).take (a - i) ++ (repl ++ out))
/-! every line's end -/
noncomputable def isEol (c : Nat) : Bool := c == 10 || c == 13
noncomputable def fixF : Bool → List Nat → List Nat
  | _, [] => []
  | p, c :: r => if c = 13 then 13 :: 10 :: fixF true r else if c = 10 then (if p then fixF false r else 13 :: 10 :: fixF false r) else c :: fixF false r
noncomputable abbrev fixL (l : List Nat) : List Nat := fixF false l
noncomputable abbrev fr0 (pc s : Nat) (o : Bool) : List Sre.Frame := [{ wait := .nextStart, pc, pos := s, outermost := o }]
theorem ends_top {code text : Array Nat} {lim s last pc pos handed w : Nat} {o b : Bool} {seen : Seen} : Ends (ms code text lim s last pc pos handed o [] w (some b) seen none) 1 (fun f => f.outcome = some (if b then .matched else .failed) ∧ f.start = s ∧ f.handed = handed) :=
  Ends.step top_end (Ends.now rfl ⟨rfl, rfl, rfl⟩)
theorem f2_10 {text : Array Nat} {lim s last : Nat} {o : Bool} {seen : Seen} (hs : s < lim) (hc : text.getD s 0 = 10) :
    Ends (ms code2 text lim s last 10 s s o (fr0 10 s o) 1 none seen none) 9 (fun f => f.outcome = some .matched ∧ f.start = s ∧ f.handed = s + 1) :=
  Ends.step (branch_st (by decide) rfl rfl (by decide)) <|
  Ends.step (lit_no (by decide) rfl (fun h => by rw [hc] at h; exact absurd h.2 (by decide))) <|
  Ends.step (next_no rfl (by decide) (by decide)) <|
  Ends.step (lit_yes (by decide) rfl hs hc) <|
  Ends.step (jump_st (by decide) rfl) <|
  Ends.step (succ_st (by decide) rfl) <|
  Ends.step next_yes <|
  Ends.step start_yes <|
  ends_top
theorem f2_1310 {text : Array Nat} {lim s last : Nat} {o : Bool} {seen : Seen} (hs : s + 1 < lim) (hc : text.getD s 0 = 13) (hc2 : text.getD (s + 1) 0 = 10) :
    Ends (ms code2 text lim s last 10 s s o (fr0 10 s o) 1 none seen none) 8 (fun f => f.outcome = some .matched ∧ f.start = s ∧ f.handed = s + 2) :=
  Ends.step (branch_st (by decide) rfl rfl (by decide)) <|
  Ends.step (lit_yes (by decide) rfl (by omega) hc) <|
  Ends.step (lit_yes (by decide) rfl hs hc2) <|
  Ends.step (jump_st (by decide) rfl) <|
  Ends.step (succ_st (by decide) rfl) <|
  Ends.step next_yes <|
  Ends.step start_yes <|
  ends_top
theorem f2_13 {text : Array Nat} {lim s last : Nat} {o : Bool} {seen : Seen} (hs : s < lim) (hc : text.getD s 0 = 13) (hc2 : ¬ (s + 1 < lim ∧ text.getD (s + 1) 0 = 10)) :
    Ends (ms code2 text lim s last 10 s s o (fr0 10 s o) 1 none seen none) 15 (fun f => f.outcome = some .matched ∧ f.start = s ∧ f.handed = s + 1) :=
  Ends.step (branch_st (by decide) rfl rfl (by decide)) <|
  Ends.step (lit_yes (by decide) rfl hs hc) <|
  Ends.step (lit_no (by decide) rfl hc2) <|
  Ends.step (next_no rfl (by decide) (by decide)) <|
  Ends.step (lit_no (by decide) rfl (fun h => by rw [hc] at h; exact absurd h.2 (by decide))) <|
  Ends.step (next_no rfl (by decide) (by decide)) <|
  Ends.step (lit_yes (by decide) rfl hs hc) <|
  Ends.step (nota_st (by decide) rfl rfl (by decide)) <|
  Ends.step (lit_no (by decide) rfl hc2) <|
  Ends.step nota_no <|
  Ends.step (jump_st (by decide) rfl) <|
  Ends.step (succ_st (by decide) rfl) <|
  Ends.step next_yes <|
  Ends.step start_yes <|
  ends_top
theorem inSet2 (c : Nat) (seen : Seen) : ∃ seen', inSet code2 c code2.size 5 true seen = .ok (isEol c, seen') := by
  have e : code2.size = 33 + 3 := rfl
  rw [e]
  by_cases h1 : c = 10
  · exact ⟨_, by simp [inSet, ops, code2, h1, isEol]; rfl⟩
  · by_cases h2 : c = 13
    · exact ⟨_, by simp [inSet, ops, code2, h2, isEol]; rfl⟩
    · exact ⟨_, by simp [inSet, ops, code2, h1, h2, isEol]; rfl⟩
theorem drop_get {text : Array Nat} {i : Nat} (h : i < text.size) : text.toList.drop i = text.getD i 0 :: text.toList.drop (i + 1) := by
  rw [List.drop_eq_getElem_cons (by simpa using h)]
  simp [h]
theorem fixL_no {c : Nat} {r : List Nat} (h : isEol c = false) : fixL (c :: r) = c :: fixL r := by
  simp only [isEol, Bool.or_eq_false_iff, beq_eq_false_iff_ne] at h
  rw [fixL, fixF, if_neg h.2, if_neg h.1]
theorem adm2 (m : M) (hm : m.code = code2) (hl : m.lim = m.text.size) : ∀ (n i : Nat) (seen : Seen), i + n = m.lim → 
    (∃ j seen', M.admitted m (n + 1) i seen = .ok (some j, seen') ∧ i ≤ j ∧ j < m.lim ∧ isEol (m.text.getD j 0) = true ∧ fixL (m.text.toList.drop i) = (m.text.toList.drop i).take (j - i) ++ fixL (m.text.toList.drop j)) ∨
    (∃ seen', M.admitted m (n + 1) i seen = .ok (none, seen') ∧ fixL (m.text.toList.drop i) = m.text.toList.drop i)
  | 0, i, seen, h => by
    refine .inr ⟨seen, ?_, ?_⟩
    · unfold M.admitted; rw [if_pos (by omega)]
    · rw [List.drop_of_length_le (by simp; omega)]; rfl
  | n + 1, i, seen, h => by
    have hd : m.text.toList.drop i = m.text.getD i 0 :: m.text.toList.drop (i + 1) := drop_get (by omega)
    obtain ⟨seen', hs⟩ := inSet2 (m.text.getD i 0) seen
    have hu : M.admitted m (n + 1 + 1) i seen = (match isEol (m.text.getD i 0) with | true => .ok (some i, seen') | false => M.admitted m (n + 1) (i + 1) seen') := by
      conv => lhs; unfold M.admitted
      rw [if_neg (by omega), hm, hs]
      cases isEol (m.text.getD i 0) <;> rfl
    rw [hu]
    cases hc : isEol (m.text.getD i 0) with
    | true => exact .inl ⟨i, seen', rfl, Nat.le_refl _, by omega, hc, by simp⟩
    | false =>
      rcases adm2 m hm hl n (i + 1) seen' (by omega) with ⟨j, seen2, e, h1, h2, h3, h4⟩ | ⟨seen2, e, h4⟩
      · refine .inl ⟨j, seen2, e, by omega, h2, h3, ?_⟩
        rw [hd, fixL_no hc, h4, show j - i = (j - (i + 1)) + 1 by omega]
        rfl
      · refine .inr ⟨seen2, e, ?_⟩
        rw [hd, fixL_no hc, h4]
noncomputable def seen0 : Seen := ({} : Seen).add 14
theorem search2 (text : Array Nat) (i : Nat) : forSearch code2 text 0 i text.size false =
    (if (decide (i > text.size) || decide (text.size - i < 1)) = true then (ms code2 text text.size i 0 10 i i true [] 0 none seen0 none).say false
     else M.attemptFrom (ms code2 text text.size i text.size 10 i i true [] 0 none seen0 none) i true) := rfl
theorem search1 (text : Array Nat) (i : Nat) : forSearch code1 text 0 i text.size false =
    (if (decide (i > text.size) || decide (text.size - i < 1)) = true then (ms code1 text text.size i 0 5 i i true [] 0 none seen0 none).say false
     else M.attemptFrom (ms code1 text text.size i text.size 5 i i true [] 0 none seen0 none) i true) := rfl
theorem fix_10 (r : List Nat) : fixL (10 :: r) = 13 :: 10 :: fixL r := by simp [fixF]
theorem fix_1310 (r : List Nat) : fixL (13 :: 10 :: r) = 13 :: 10 :: fixL r := by simp [fixF]
theorem fix_13 {r : List Nat} (h : ∀ x, r.head? = some x → ¬ x = 10) : fixL (13 :: r) = 13 :: 10 :: fixL r := by
  cases r with
  | nil => simp [fixF]
  | cons x r =>
    have := h x rfl
    simp [fixF, this]
theorem Got_some {a e n b : Nat} {m : M} (h : Ends m n (fun f => f.outcome = some .matched ∧ f.start = a ∧ f.handed = e)) (hb : n ≤ b) : Ends m b (Got (some (a, e))) := h.mono hb
theorem srch2 (text : Array Nat) (i : Nat) (hi : i ≤ text.size) :
    (Srch code2 text i none ∧ fixL (text.toList.drop i) = text.toList.drop i) ∨
    (∃ a e, Srch code2 text i (some (a, e)) ∧ i ≤ a ∧ a < e ∧ e ≤ text.size ∧ fixL (text.toList.drop i) = (text.toList.drop i).take (a - i) ++ ([13, 10] ++ fixL (text.toList.drop e))) := by
  unfold Srch
  rw [search2]
  by_cases hlt : i < text.size
  · have c1 : ¬ ((decide (i > text.size) || decide (text.size - i < 1)) = true) := by simp; omega
    rw [if_neg c1]
    obtain ⟨n, hn⟩ : ∃ n, i + n = text.size := ⟨text.size - i, by omega⟩
    have hA : M.attemptFrom (ms code2 text text.size i text.size 10 i i true [] 0 none seen0 none) i true = (match M.admitted (ms code2 text text.size i text.size 10 i i true [] 0 none seen0 none) (text.size + 1 - i) i seen0 with
        | .ok (some s, seen) => ms code2 text text.size s text.size 10 s s true (fr0 10 s true) 1 none seen none
        | .ok (none, seen) => ms code2 text text.size i text.size 10 i i true [] 0 (some false) seen none
        | .error why => M.stick (ms code2 text text.size i text.size 10 i i true [] 0 none seen0 none) why) := by
      show (match M.admitted (ms code2 text text.size i text.size 10 i i true [] 0 none seen0 none) (text.size + 1 - i) i seen0 with
        | .ok (some s, seen) => _
        | .ok (none, seen) => _
        | .error why => _) = _
      split <;> rfl
    rw [hA, show text.size + 1 - i = n + 1 by omega]
    rcases adm2 (ms code2 text text.size i text.size 10 i i true [] 0 none seen0 none) rfl rfl n i seen0 (by exact hn) with ⟨j, seen', e, h1, h2, h3, h4⟩ | ⟨seen', e, h4⟩
    · rw [e]
      have h2' : j < text.size := h2
      have h4' : fixL (text.toList.drop i) = (text.toList.drop i).take (j - i) ++ fixL (text.toList.drop j) := h4
      have h3'' : isEol (text.getD j 0) = true := h3
      have h3' : text.getD j 0 = 10 ∨ text.getD j 0 = 13 := by simpa [isEol, -Array.getD_eq_getD_getElem?] using h3''
      refine .inr ?_
      have hd := drop_get h2'
      rcases h3' with hc | hc
      · refine ⟨j, j + 1, Got_some (f2_10 h2' hc) (by omega), h1, by omega, by omega, ?_⟩
        rw [h4', hd, hc, fix_10]; rfl
      · by_cases hn' : j + 1 < text.size ∧ text.getD (j + 1) 0 = 10
        · refine ⟨j, j + 2, Got_some (f2_1310 hn'.1 hc hn'.2) (by omega), h1, by omega, by omega, ?_⟩
          rw [h4', hd, hc, drop_get hn'.1, hn'.2, fix_1310]; rfl
        · refine ⟨j, j + 1, Got_some (f2_13 h2' hc hn') (by omega), h1, by omega, by omega, ?_⟩
          rw [h4', hd, hc, fix_13]; · rfl
          intro x hx hx10
          by_cases hj : j + 1 < text.size
          · rw [drop_get hj] at hx
            simp only [List.head?_cons, Option.some.injEq] at hx
            exact hn' ⟨hj, by rw [hx]; exact hx10⟩
          · rw [List.drop_of_length_le (by simp; omega)] at hx
            cases hx
    · rw [e]
      have h : Ends (ms code2 text text.size i text.size 10 i i true [] 0 (some false) seen' none) 1 _ := ends_top (b := false)
      obtain ⟨k, a, b, c⟩ := h
      exact .inl ⟨⟨k, by omega, b, c.1⟩, h4⟩
  · have c1 : (decide (i > text.size) || decide (text.size - i < 1)) = true := by simp; omega
    rw [if_pos c1]
    refine .inl ⟨?_, ?_⟩
    · have h : Ends (ms code2 text text.size i 0 10 i i true [] 0 (some false) seen0 none) 1 _ := ends_top (b := false)
      obtain ⟨k, a, b, c⟩ := h
      exact ⟨k, by omega, b, c.1⟩
    · rw [List.drop_of_length_le (by simp; omega)]; rfl
theorem sub2 (text : Array Nat) : ∀ (n i : Nat), text.size - i ≤ n → i ≤ text.size → SubR code2 text [13, 10] i (fixL (text.toList.drop i)) := by
  intro n
  induction n with
  | zero =>
    intro i h hi
    rcases srch2 text i hi with ⟨h1, h2⟩ | ⟨a, e, h1, h2, h3, h4, h5⟩
    · rw [h2]; exact .stop h1
    · omega
  | succ n ih =>
    intro i h hi
    rcases srch2 text i hi with ⟨h1, h2⟩ | ⟨a, e, h1, h2, h3, h4, h5⟩
    · rw [h2]; exact .stop h1
    · rw [h5]; exact .more h1 h2 h3 h4 (ih e (by omega) h4)
/-! every dot at a line's head is doubled -/
noncomputable def quoF : Bool → List Nat → List Nat
  | _, [] => []
  | p, c :: r => if p = true ∧ c = 46 then 46 :: 46 :: quoF false r else c :: quoF (c == 10) r
noncomputable def lineAt (text : Array Nat) (i : Nat) : Bool := i == 0 || text.getD (i - 1) 0 == 10
theorem lineAt_succ (text : Array Nat) (i : Nat) : lineAt text (i + 1) = (text.getD i 0 == 10) := by
  simp [lineAt, -Array.getD_eq_getD_getElem?]
theorem lineAt_iff (text : Array Nat) (i : Nat) : lineAt text i = true ↔ (i = 0 ∨ text.getD (i - 1) 0 = 10) := by
  simp [lineAt, -Array.getD_eq_getD_getElem?]
noncomputable def W1 (text : Array Nat) (n s : Nat) (o : Bool) (seen : Seen) : Prop :=
    (∃ a, Ends (ms code1 text text.size s text.size 5 s s o (fr0 5 s o) 1 none seen none) (4 * n + 20) (fun f => f.outcome = some .matched ∧ f.start = a ∧ f.handed = a + 1) ∧ s ≤ a ∧ a < text.size ∧
      quoF (lineAt text s) (text.toList.drop s) = (text.toList.drop s).take (a - s) ++ ([46, 46] ++ quoF (lineAt text (a + 1)) (text.toList.drop (a + 1)))) ∨
    (Ends (ms code1 text text.size s text.size 5 s s o (fr0 5 s o) 1 none seen none) (4 * n + 20) (fun f => f.outcome = some .failed) ∧ quoF (lineAt text s) (text.toList.drop s) = text.toList.drop s)
theorem walk1 (text : Array Nat) : ∀ (n s : Nat) (o : Bool) (seen : Seen), s + n = text.size → W1 text n s o seen
  | 0, s, o, seen, h => by
    refine .inr ⟨?_, by rw [List.drop_of_length_le (by simp; omega)]; rfl⟩
    have fin : ∀ (pc pos hd : Nat) (sn : Seen), Ends (ms code1 text text.size s text.size pc pos hd o (fr0 5 s o) 1 (some false) sn none) 2 (fun f => f.outcome = some .failed) := fun pc pos hd sn =>
      Ends.step (start_over (by omega)) <| by
        obtain ⟨k, a, b, c⟩ := ends_top (code := code1) (text := text) (lim := text.size) (s := s) (last := text.size) (pc := 5) (pos := s) (handed := hd) (w := 0) (o := o) (b := false) (seen := sn)
        exact ⟨k, a, b, c.1⟩
    by_cases hb : s = 0 ∨ text.getD (s - 1) 0 = 10
    · exact (Ends.step (at1_yes (by decide) rfl rfl hb) <| Ends.step (lit_no (by decide) rfl (fun q => by omega)) <| fin _ _ _ _).mono (by omega)
    · exact (Ends.step (at1_no (by decide) rfl rfl hb) <| fin _ _ _ _).mono (by omega)
  | n + 1, s, o, seen, h => by
    have hd : text.toList.drop s = text.getD s 0 :: text.toList.drop (s + 1) := drop_get (by omega)
    have next : ∀ (pc pos hd : Nat) (sn : Seen) (P : M → Prop) (b : Nat), Ends (ms code1 text text.size (s + 1) text.size 5 (s + 1) (s + 1) false (fr0 5 (s + 1) false) 1 none sn none) b P →
        Ends (ms code1 text text.size s text.size pc pos hd o (fr0 5 s o) 1 (some false) sn none) (b + 1) P := fun pc pos hd sn P b hh =>
      Ends.step (start_next (by omega) rfl (by decide)) hh
    have rest : ∀ (sn : Seen) (hq : quoF (lineAt text s) (text.toList.drop s) = text.getD s 0 :: quoF (lineAt text (s + 1)) (text.toList.drop (s + 1)))
        (st : ∀ (P : M → Prop) (b : Nat), Ends (ms code1 text text.size (s + 1) text.size 5 (s + 1) (s + 1) false (fr0 5 (s + 1) false) 1 none sn none) b P → Ends (ms code1 text text.size s text.size 5 s s o (fr0 5 s o) 1 none seen none) (b + 3) P), W1 text (n + 1) s o seen := fun sn hq st => by
      rcases walk1 text n (s + 1) false sn (by omega) with ⟨a, e, h1, h2, h3⟩ | ⟨e, h3⟩
      · refine Or.inl ⟨a, (st _ _ e).mono (by omega), by omega, h2, ?_⟩
        rw [hq, h3, hd, show a - s = (a - (s + 1)) + 1 by omega]; rfl
      · exact .inr ⟨(st _ _ e).mono (by omega), by rw [hq, h3, hd]⟩
    by_cases hb : s = 0 ∨ text.getD (s - 1) 0 = 10
    · by_cases hc : text.getD s 0 = 46
      · refine .inl ⟨s, ?_, Nat.le_refl _, by omega, ?_⟩
        · exact (Ends.step (m := ms code1 text text.size s text.size 5 s s o (fr0 5 s o) 1 none seen none) (at1_yes (by decide) rfl rfl hb) <| Ends.step (lit_yes (by decide) rfl (by omega) hc) <| Ends.step (succ_st (by decide) rfl) <| Ends.step start_yes <| ends_top).mono (by omega)
        · rw [hd, (lineAt_iff text s).mpr hb, hc, lineAt_succ, hc, Nat.sub_self]; rfl
      · refine rest _ ?_ fun P b hh => (Ends.step (m := ms code1 text text.size s text.size 5 s s o (fr0 5 s o) 1 none seen none) (at1_yes (by decide) rfl rfl hb) <| Ends.step (lit_no (by decide) rfl (fun q => hc q.2)) <| next _ _ _ _ _ _ hh).mono (by omega)
        rw [hd, quoF, if_neg (fun q => hc q.2), lineAt_succ]
    · refine rest _ ?_ fun P b hh => (Ends.step (m := ms code1 text text.size s text.size 5 s s o (fr0 5 s o) 1 none seen none) (at1_no (by decide) rfl rfl hb) <| next _ _ _ _ _ _ hh).mono (by omega)
      rw [hd, quoF, if_neg (fun q => hb ((lineAt_iff text s).mp q.1)), lineAt_succ]
theorem srch1 (text : Array Nat) (i : Nat) (hi : i ≤ text.size) :
    (Srch code1 text i none ∧ quoF (lineAt text i) (text.toList.drop i) = text.toList.drop i) ∨
    (∃ a e, Srch code1 text i (some (a, e)) ∧ i ≤ a ∧ a < e ∧ e ≤ text.size ∧ quoF (lineAt text i) (text.toList.drop i) = (text.toList.drop i).take (a - i) ++ ([46, 46] ++ quoF (lineAt text e) (text.toList.drop e))) := by
  unfold Srch
  rw [search1]
  by_cases hlt : i < text.size
  · have c1 : ¬ ((decide (i > text.size) || decide (text.size - i < 1)) = true) := by simp; omega
    rw [if_neg c1]
    have hA : M.attemptFrom (ms code1 text text.size i text.size 5 i i true [] 0 none seen0 none) i true = ms code1 text text.size i text.size 5 i i true (fr0 5 i true) 1 none seen0 none := rfl
    rw [hA]
    rcases walk1 text (text.size - i) i true seen0 (by omega) with ⟨a, e, h1, h2, h3⟩ | ⟨e, h3⟩
    · exact .inr ⟨a, a + 1, e.mono (by omega), h1, by omega, by omega, h3⟩
    · exact .inl ⟨e.mono (by omega), h3⟩
  · have c1 : (decide (i > text.size) || decide (text.size - i < 1)) = true := by simp; omega
    rw [if_pos c1]
    refine .inl ⟨?_, ?_⟩
    · have h : Ends (ms code1 text text.size i 0 5 i i true [] 0 (some false) seen0 none) 1 _ := ends_top (b := false)
      obtain ⟨k, a, b, c⟩ := h
      exact ⟨k, by omega, b, c.1⟩
    · rw [List.drop_of_length_le (by simp; omega)]; rfl
theorem sub1 (text : Array Nat) : ∀ (n i : Nat), text.size - i ≤ n → i ≤ text.size → SubR code1 text [46, 46] i (quoF (lineAt text i) (text.toList.drop i)) := by
  intro n
  induction n with
  | zero =>
    intro i h hi
    rcases srch1 text i hi with ⟨h1, h2⟩ | ⟨a, e, h1, h2, h3, h4, h5⟩
    · rw [h2]; exact .stop h1
    · omega
  | succ n ih =>
    intro i h hi
    rcases srch1 text i hi with ⟨h1, h2⟩ | ⟨a, e, h1, h2, h3, h4, h5⟩
    · rw [h2]; exact .stop h1
    · rw [h5]; exact .more h1 h2 h3 h4 (ih e (by omega) h4)
end Mine
end
section
open PySem PySem.W PyProof.Rows Builtin.Re
set_option Elab.async false
set_option maxRecDepth 100000
namespace Mine
namespace F
theorem slot_sub : Slot "re.Pattern" "sub" "re.Pattern.sub" :=
  .of (owner := "re.Pattern") (n := "sub") (by rw [typeLookup_type, builtinLookup_eq_fast]; kernel_rfl) (by decide +kernel) (by decide +kernel) (by decide +kernel)
    (by first | exact .inl (by decide +kernel) | exact .inr (by decide +kernel)) (by rw [isSubtype_type]; kernel_rfl)
theorem entry_sub : entryFor table "re.Pattern.sub" = some Builtin.«re.Pattern.sub» := entryFor_of_tree (by kernel_rfl)
theorem entry_loop : entryFor table "re.Pattern.sub.loop" = some Builtin.«re.Pattern.sub.loop» := entryFor_of_tree (by kernel_rfl)
theorem plain_sub : plainId "re.Pattern.sub" = true := by decide +kernel
theorem plain_loop : plainId "re.Pattern.sub.loop" = true := by decide +kernel
theorem type_sub : typeOf (.builtin "re.Pattern.sub") = pure (.type "method_descriptor") := by show builtinType _ = _; rw [builtinType_eq_fast]; kernel_rfl
theorem attrs_pat : PlainAttrs "re.Pattern" :=
  ⟨⟨"object.__getattribute__", by rw [typeLookup_type, builtinLookup_eq_fast]; kernel_rfl, by decide +kernel⟩, by rw [typeLookup_type, builtinLookup_eq_fast]; kernel_rfl⟩
theorem owner_pat : Manifest.owners.lookup (String.ofList ['n', 'r', 'e', 't', 't', 'a', 'P', '.', 'e', 'r'].reverse) = some Manifest.sig_re_Pattern := by kernel_rfl
theorem args_sub (a b c : Value) : argsOk "re.Pattern.sub" ⟨[a, b, c], []⟩ := by
  unfold argsOk; rw [signature?_of (id := "re.Pattern.sub") (n := ['b', 'u', 's']) (o := ['n', 'r', 'e', 't', 't', 'a', 'P', '.', 'e', 'r']) (by kernel_rfl) owner_pat]; kernel_rfl
theorem nocall_str : typeLookup (.type "str") "__call__" = pure none := by rw [typeLookup_type, builtinLookup_eq_fast]; kernel_rfl
end F
section
variable {prog : Program} {w : World} {A : Around} {E : Value → Shared → Prop} {s : Shared}
theorem drive_ends {Q : Sre.M → Shared → Prop} : ∀ (turns k : Nat) (m : Sre.M), 0 < turns → k ≤ 4 * turns → (iter k m).outcome.isSome = true → Q (iter k m) s → wpAny (model prog w) A (reDrive turns m) Q E s
  := by
  intro turns
  induction turns with
  | zero => exact fun k m h => absurd h (Nat.lt_irrefl 0)
  | succ turns ih =>
    intro k m _ hk hd hq
    unfold reDrive
    show wpAny _ _ (if (m.runFor reTurnSteps).outcome.isSome = true then pure (m.runFor reTurnSteps) else (do rule "sre.turn"; reDrive turns (m.runFor reTurnSteps))) _ _ _
    have e : m.runFor reTurnSteps = iter 4 m := runFor_iter 4 m
    rw [e]
    rcases Nat.lt_or_ge 4 k with h4 | h4
    · have e2 : iter k m = iter (k - 4) (iter 4 m) := by rw [← iter_add]; congr 1; omega
      by_cases hs : (iter 4 m).outcome.isSome = true
      · rw [if_pos hs]
        rw [e2, iter_done hs] at hq
        exact wpAny_pure hq
      · rw [if_neg hs]
        rw [e2] at hq hd
        exact wpAny_bind (wpAny_rule (ih (k - 4) (iter 4 m) (by omega) (by omega) hd hq))
    · have e2 : iter 4 m = iter k m := by
        rw [show 4 = k + (4 - k) by omega, iter_add, iter_done hd]
      rw [e2, if_pos hd]
      exact wpAny_pure hq
theorem rules_loop {seen : Sre.Seen} {Q : PUnit → Shared → Prop} (l : List Nat) (h : Q ⟨⟩ s) :
    wpAny (model prog w) A (forIn l PUnit.unit (fun i (_ : PUnit) => (if seen.has i = true then (do rule (Sre.names.getD i ""); pure (ForInStep.yield PUnit.unit)) else pure (ForInStep.yield PUnit.unit) : Sem (ForInStep PUnit)))) Q E s := by
  refine wpAny_forIn_list _ (fun _ _ s' => s' = s) Q (fun x rest b s' e => ?_) (fun b s' e => by rw [e]; exact h) l _ rfl
  split
  · exact wpAny_bind (wpAny_rule (wpAny_pure e))
  · exact wpAny_pure e
theorem runEnd {Q : Option Sre.M → Shared → Prop} {m : Sre.M} {r : Option (Nat × Nat)} {n : Nat} (h : Ends m n (Got r)) (hn : n ≤ 4 * 2 ^ 64)
    (hq : match r with | none => Q none s | some (a, e) => ∀ f : Sre.M, f.start = a → f.handed = e → Q (some f) s) : wpAny (model prog w) A (reRunToEnd m) Q E s := by
  obtain ⟨k, hk, hd, hg⟩ := h
  unfold reRunToEnd
  refine wpAny_bind (drive_ends (2 ^ 64) k m (by decide) (by omega) hd ?_)
  refine wpAny_bind ?_
  refine rules_loop _ ?_
  cases r with
  | none =>
    have e : (iter k m).outcome = some .failed := hg
    show wpAny _ _ (match (iter k m).outcome with | some .matched => pure (some (iter k m)) | some .failed => pure none | some (.stuck why) => unsupported s!"_sre:{why}" | none => unsupported "internal:sre:no-outcome") _ _ _
    rw [e]; exact wpAny_pure hq
  | some p =>
    obtain ⟨a, b⟩ := p
    obtain ⟨e, h1, h2⟩ : (iter k m).outcome = some .matched ∧ (iter k m).start = a ∧ (iter k m).handed = b := hg
    show wpAny _ _ (match (iter k m).outcome with | some .matched => pure (some (iter k m)) | some .failed => pure none | some (.stuck why) => unsupported s!"_sre:{why}" | none => unsupported "internal:sre:no-outcome") _ _ _
    rw [e]; exact wpAny_pure (hq _ h1 h2)
end
/-- a compiled pattern over texts -/
noncomputable def IsPat (h : Heap) (a : Addr) (code : Array Nat) : Prop := ∃ (o oc : Obj) (c : Addr) (vs items : Array Value) (n : Nat), h.get? a = some o ∧ o.data = .fields vs ∧ vs.getD 5 .none = .ref c ∧ reRawNat (vs.getD 6 .none) = 0 ∧ reRawNat (vs.getD 2 .none) = 0 ∧
  o.cls = .type "re.Pattern" ∧ o.dict = none ∧ h.get? c = some oc ∧ oc.data = .seq items n ∧ oc.cls = .type "tuple" ∧ (items.map reRawOf).map (·.toNat) = code
theorem IsPat.keeps {h h' : Heap} {a : Addr} {code : Array Nat} (p : IsPat h a code) (k : ∀ b o, h.get? b = some o → h'.get? b = some o) : IsPat h' a code := by
  obtain ⟨o, oc, c, vs, items, n, h1, h2, h3, h4, h5, h6, h7, h8, r⟩ := p
  exact ⟨o, oc, c, vs, items, n, k _ _ h1, h2, h3, h4, h5, h6, h7, k _ _ h8, r⟩
noncomputable def lstO (acc : Array Value) (c : Nat) : Obj := { cls := .type "list", dict := none, data := .seq acc c, slots := #[] }
theorem IsPat.but {h h' : Heap} {a P : Addr} {code : Array Nat} {acc : Array Value} {n : Nat} (p : IsPat h a code) (hP : h.get? P = some (lstO acc n)) (k : ∀ b o, b ≠ P → h.get? b = some o → h'.get? b = some o) : IsPat h' a code := by
  obtain ⟨o, oc, c, vs, items, n, h1, h2, h3, h4, h5, h6, h7, h8, h9, h10, r⟩ := p
  refine ⟨o, oc, c, vs, items, n, k _ _ ?_ h1, h2, h3, h4, h5, h6, h7, k _ _ ?_ h8, h9, h10, r⟩
  · rintro rfl
    rw [hP] at h1
    cases h1
    exact absurd (Value.type.inj h6) (by decide)
  · rintro rfl
    rw [hP] at h8
    cases h8
    exact absurd (Value.type.inj h10) (by decide)
section
variable {prog : Program} {w : World} {A : Around} {E : Value → Shared → Prop} {s : Shared}
noncomputable def tgt (a : Addr) (x : Str) (t : Tok) (code : Array Nat) : ReTarget := { pattern := .ref a, string := .str x t, code, text := x.cps, kind := 0, groups := 0, pos := 0, lim := x.cps.size }
theorem whole {a : Addr} {x : Str} {t : Tok} {code : Array Nat} {Q : ReTarget → Shared → Prop} (p : IsPat s.heap a code) (h : Q (tgt a x t code) s) : wpAny (model prog w) A (reWholeTarget (.ref a) (.str x t)) Q E s := by
  obtain ⟨o, oc, c, vs, items, n, h1, h2, h3, h4, h5, h6, h7, h8, h9, h10, h11⟩ := p
  unfold reWholeTarget
  refine wpAny_bind (wpAny_fieldsOf h1 h2 ?_)
  show wpAny _ _ (if (reRawNat (vs.getD 6 .none) == 0 && (0 : Nat) == 1) = true then _ else _) _ _ _
  rw [h4]
  show wpAny _ _ (reRawItems (vs.getD 5 .none) >>= _) _ _ _
  rw [h3]
  refine wpAny_bind ?_
  unfold reRawItems
  refine wpAny_bind (wpAny_seqItems h8 h9 (wpAny_pure (wpAny_pure ?_)))
  show Q { pattern := .ref a, string := .str x t, code := (items.map reRawOf).map (·.toNat), text := x.cps, kind := 0, groups := reRawNat (vs.getD 2 .none), pos := 0, lim := x.cps.size } s
  rw [h5, h11]; exact h
theorem push_piece {P : Addr} {v : Value} {acc : Array Value} {c : Nat} {Q : Unit → Shared → Prop} (hP : s.heap.get? P = some (lstO acc c)) (hz : acc.size ≤ 10000)
    (h : ∀ h' c', h'.get? P = some (lstO (acc.push v) c') → (∀ b o, b ≠ P → s.heap.get? b = some o → h'.get? b = some o) → Q () { s with heap := h' }) : wpAny (model prog w) A (updateSeq P (·.push v)) Q E s := by
  have hl := sizeLine_eq
  refine wpAny_updateSeq hP rfl (h _ _ (Heap.get?_update_self _ hP rfl) fun b o hb e => (Heap.get?_update_other _ _ (fun q : P = b => hb q.symm)).trans e) (by omega) ?_
  show (acc.push v).size ≤ sizeLine + 1
  rw [Array.size_push]; omega
noncomputable def flat (ys : List Str) : List Nat := ys.flatMap (·.cps.toList)
theorem join_flat (sep : Str) (hs : sep.cps.toList = []) : ∀ ys : List Str, (Str.join sep ys).cps.toList = flat ys
  | [] => rfl
  | [y] => by simp [Str.join, flat]
  | y :: z :: r => by
    have ih := join_flat sep hs (z :: r)
    show (y ++ sep ++ Str.join sep (z :: r)).cps.toList = _
    simp only [Str.cps_append, Array.toList_append, hs, List.append_nil, ih]
    simp [flat]
theorem flat_snoc (ys : List Str) (y : Str) : flat (ys ++ [y]) = flat ys ++ y.cps.toList := by simp [flat]
theorem txt_join_flat (sep : Str) (hs : sep.cps.toList = []) (ys : List Str) : (Txt.join sep ys).cps.toList = flat ys := by
  have : Txt.join sep ys = Str.join sep ys := eq_of_beq (join_closes rfl)
  rw [this, join_flat sep hs]
theorem ext_list (x : Array Nat) (i j : Nat) : (x.extract i j).toList = (x.toList.drop i).take (j - i) := by simp
theorem sum_snoc (ys : List Str) (y : Str) : ((ys ++ [y]).map (·.length)).sum = (ys.map (·.length)).sum + y.length := by simp
theorem len_slice (x : Array Nat) (i j : Nat) (hj : j ≤ x.size) : (⟨x.extract i j⟩ : Str).length = j - i := by simp [Str.length]; omega
theorem loop_code {R : Result → Shared → Prop} {a P : Addr} {x r : Str} {t rt : Tok} {code : Array Nat} (hr2 : r.cps.size ≤ 2) (hx : x.cps.size ≤ 1000) (hx0 : 0 < x.cps.size) {i : Nat} {out : List Nat} (hsub : SubR code x.cps r.cps.toList i out) :
    ∀ (s : Shared) (n : Int) (acc : Array Value) (c : Nat) (ys : List Str), i ≤ x.cps.size → IsPat s.heap a code → s.heap.get? P = some (lstO acc c) → StrsAre acc.toList ys → ys.length ≤ 2 * i → (ys.map (·.length)).sum ≤ 2 * i → (i = 0 ∨ ys ≠ []) →
    (∀ h' u tk, (∀ b o, b ≠ P → s.heap.get? b = some o → h'.get? b = some o) → R (.ok (.ret (.str ⟨(flat ys ++ out).toArray⟩ u))) { s with heap := h', toks := tk }) →
    codeAny (model prog w) A (.builtin "re.Pattern.sub.loop" ⟨[.ref a, .str x t, .str r rt, rawInt 0, rawInt 0, rawInt n, rawInt (i : Int), rawInt (i : Int), .bool false, .ref P, .bool false], []⟩) R s := by
  induction hsub with
  | @stop i hs =>
    intro s n acc c ys hi hp hP hacc hlen hsum hne hR
    have hal : acc.size = ys.length := by have := hacc.length; simpa using this
    refine codeAny_builtin F.entry_loop ?_
    rw [Around.under_plainId F.plain_loop _]
    show wpAny _ _ (reWholeTarget (.ref a) (.str x t) >>= _) _ _ _
    refine wpAny_bind (whole hp ?_)
    show wpAny _ _ (reNextFound (tgt a x t code) i false >>= _) _ _ _
    refine wpAny_bind (runEnd hs (by omega) ?_)
    show wpAny _ _ (if ((i : Int).toNat < x.cps.size) then (mkStr ⟨x.cps.extract (i : Int).toNat x.cps.size⟩ >>= fun v => updateSeq P (·.push v) >>= fun _ => _) else _) _ _ _
    rw [Int.toNat_natCast]
    have fin : ∀ (s' : Shared) (acc' : Array Value) (c' : Nat) (ys' : List Str), s'.heap.get? P = some (lstO acc' c') → StrsAre acc'.toList ys' → ys' ≠ [] → ys'.length ≤ 3000 → (ys'.map (·.length)).sum ≤ 4000 →
        (∀ u tk, R (.ok (.ret (.str ⟨(flat ys').toArray⟩ u))) { s' with toks := tk }) →
        wpAny (model prog w) A.in1 (do
          let joiner ← mkStr ⟨x.cps.extract 0 0⟩
          let q ← seqItems? (.ref P)
          if (q.getD #[]).isEmpty = true then (pure joiner >>= fun text => ret text) else (call (.builtin "str.join") [joiner, .ref P] >>= fun text => ret text)) (fun fin s' => match fin with | .done f => R (.ok f) s' | .again c' => c'.quiet = true ∧ codeAny (model prog w) A c' R s') (fun e s' => R (.error e) s') s' := by
      intro s' acc' c' ys' hP' hacc' hne' hl' hs' hR'
      refine wpAny_bind (wpAny_mkStr ?_ (by rw [sizeLine_eq]; simp [Str.length]))
      refine wpAny_bind (wpAny_seqItems hP' rfl ?_)
      have he : acc'.isEmpty = false := by
        cases hacc2 : acc'.isEmpty with
        | false => rfl
        | true =>
          exfalso
          have h0 : acc'.toList = [] := by simpa using hacc2
          rw [h0] at hacc'
          cases hacc'
          exact hne' rfl
      show wpAny _ _ (if acc'.isEmpty = true then _ else _) _ _ _
      rw [he, if_neg Bool.false_ne_true]
      refine wpAny_bind (join_listC (items := acc') ⟨_, hP', rfl, _, rfl⟩ hacc' (by simp [Str.length]) (by omega) ?_)
      intro t' k
      refine wpAny_pure ?_
      have e : Txt.join ⟨x.cps.extract 0 0⟩ ys' = ⟨(flat ys').toArray⟩ := by
        apply Str.ext'
        apply Array.toList_inj.mp
        rw [txt_join_flat _ (by simp)]
      show R (.ok (.ret (.str (Txt.join ⟨x.cps.extract 0 0⟩ ys') t'))) _
      rw [e]
      exact hR' _ _
    by_cases hlt : i < x.cps.size
    · rw [if_pos hlt]
      refine wpAny_bind (wpAny_mkStr ?_ (by rw [sizeLine_eq]; simp [Str.length]; omega))
      refine wpAny_bind (push_piece hP (by omega) fun h' c' hP' hk => ?_)
      refine fin { s with heap := h', toks := s.toks + 1 } (acc.push (.str ⟨x.cps.extract i x.cps.size⟩ s.toks)) c' (ys ++ [⟨x.cps.extract i x.cps.size⟩]) hP' (by rw [Array.toList_push]; exact kct_snoc hacc) (by simp) (by simp; omega) (by rw [sum_snoc, len_slice _ _ _ (Nat.le_refl _)]; omega) fun u tk => ?_
      have e : flat (ys ++ [⟨x.cps.extract i x.cps.size⟩]) = flat ys ++ x.cps.toList.drop i := by
        rw [flat_snoc, show (⟨x.cps.extract i x.cps.size⟩ : Str).cps.toList = _ from ext_list x.cps i x.cps.size, List.take_of_length_le (by simp)]
      rw [e]
      exact hR _ _ _ hk
    · rw [if_neg hlt]
      have hd : x.cps.toList.drop i = [] := List.drop_of_length_le (by simp; omega)
      rw [hd, List.append_nil] at hR
      exact fin s acc c ys hP hacc (hne.resolve_left (by omega)) (by omega) (by omega) fun u tk => hR _ _ _ fun _ _ _ e => e
  | @more i a' e out hs h1 h2 h3 hsub' ih =>
    intro s n acc c ys hi hp hP hacc hlen hsum hne hR
    have hal : acc.size = ys.length := by have := hacc.length; simpa using this
    refine codeAny_builtin F.entry_loop ?_
    rw [Around.under_plainId F.plain_loop _]
    show wpAny _ _ (reWholeTarget (.ref a) (.str x t) >>= _) _ _ _
    refine wpAny_bind (whole hp ?_)
    show wpAny _ _ (reNextFound (tgt a x t code) i false >>= _) _ _ _
    refine wpAny_bind (runEnd hs (by omega) ?_)
    intro f hf1 hf2
    show wpAny _ _ (if ((i : Int).toNat < f.start) then (mkStr ⟨x.cps.extract (i : Int).toNat f.start⟩ >>= fun v => updateSeq P (·.push v) >>= fun _ => _) else _) _ _ _
    rw [Int.toNat_natCast, hf1]
    have fin : ∀ (s' : Shared) (acc' : Array Value) (c' : Nat) (ys' : List Str), s'.heap.get? P = some (lstO acc' c') → (∀ b o, b ≠ P → s.heap.get? b = some o → s'.heap.get? b = some o) → s' = { s with heap := s'.heap, toks := s'.toks } →
        StrsAre acc'.toList ys' → ys'.length ≤ 2 * i + 1 → (ys'.map (·.length)).sum ≤ 2 * i + (a' - i) → flat ys' = flat ys ++ (x.cps.toList.drop i).take (a' - i) →
        wpAny (model prog w) A.in1 (do
          updateSeq P (·.push (.str r rt))
          again (.builtin "re.Pattern.sub.loop" ⟨[.ref a, .str x t, .str r rt, rawInt 0, rawInt 0, rawInt (n + 1), rawInt (f.handed : Int), rawInt (f.handed : Int), .bool (f.handed == a'), .ref P, .bool false], []⟩))
          (fun fin s' => match fin with | .done f => R (.ok f) s' | .again c' => c'.quiet = true ∧ codeAny (model prog w) A c' R s') (fun e s' => R (.error e) s') s' := by
      intro s' acc' c' ys' hP' hk es hacc' hl' hs' hfl
      have hal' : acc'.size = ys'.length := by have := hacc'.length; simpa using this
      refine wpAny_bind (push_piece hP' (by omega) fun h'' c'' hP'' hk'' => ?_)
      refine wpAny_pure ⟨plainId_quiet F.plain_loop _, ?_⟩
      rw [hf2, show (e == a') = false by simp; omega]
      refine ih _ (n + 1) (acc'.push (.str r rt)) c'' (ys' ++ [r]) h3 ((hp.but hP hk).but hP' hk'') hP'' (by rw [Array.toList_push]; exact kct_snoc hacc') (by simp; omega) (by rw [sum_snoc, show r.length = r.cps.size from rfl]; omega) (.inr (by simp)) fun h3' u tk hk3 => ?_
      have e2 : flat (ys' ++ [r]) ++ out = flat ys ++ ((x.cps.toList.drop i).take (a' - i) ++ (r.cps.toList ++ out)) := by
        rw [flat_snoc, hfl]; simp
      rw [e2]
      have := hR h3' u tk fun b o hb q => hk3 b o hb (hk'' b o hb (hk b o hb q))
      rw [es]
      exact this
    by_cases hlt : i < a'
    · rw [if_pos hlt]
      refine wpAny_bind (wpAny_mkStr ?_ (by rw [sizeLine_eq]; simp [Str.length]; omega))
      refine wpAny_bind (push_piece hP (by omega) fun h' c' hP' hk => ?_)
      refine fin { s with heap := h', toks := s.toks + 1 } (acc.push (.str ⟨x.cps.extract i a'⟩ s.toks)) c' (ys ++ [⟨x.cps.extract i a'⟩]) hP' hk rfl (by rw [Array.toList_push]; exact kct_snoc hacc) (by simp; omega) (by rw [sum_snoc, len_slice _ _ _ (by omega)]; omega) ?_
      rw [flat_snoc, show (⟨x.cps.extract i a'⟩ : Str).cps.toList = _ from ext_list x.cps i a']
    · rw [if_neg hlt]
      refine fin s acc c ys hP (fun _ _ _ e => e) rfl hacc (by omega) (by omega) ?_
      rw [show a' - i = 0 by omega]; simp
end
end Mine
end
section
open PySem PySem.W PyProof.Rows Builtin.Re
set_option Elab.async false
set_option maxRecDepth 100000
namespace Mine
theorem named_sub (a b : Value) : reNamed "re.Pattern.sub" "sub" ["repl", "string", "count"] 2 [a, b] [] = pure [some a, some b, none] := rfl
theorem IsPat.type {s : Shared} {a : Addr} {code : Array Nat} (p : IsPat s.heap a code) : s.TypeIs (.ref a) "re.Pattern" := by
  obtain ⟨o, oc, c, vs, items, n, h1, h2, h3, h4, h5, h6, h7, h8, r⟩ := p
  exact ⟨o, h1, h6⟩
section
variable {prog : Program} {w : World} {A : Around} {E : Value → Shared → Prop} {s : Shared}
theorem sub_call {a : Addr} {x r : Str} {t rt : Tok} {code : Array Nat} {out : List Nat} {Q : Value → Shared → Prop} (p : IsPat s.heap a code) (hb : r.cps.contains 92 = false) (hr2 : r.cps.size ≤ 2) (hx : x.cps.size ≤ 1000) (hx0 : 0 < x.cps.size)
    (hsub : SubR code x.cps r.cps.toList 0 out) (h : ∀ h' u tk, (∀ b o, s.heap.get? b = some o → h'.get? b = some o) → Q (.str ⟨out.toArray⟩ u) { s with heap := h', toks := tk }) :
    wpAny (model prog w) A (call (.builtin "re.Pattern.sub") [.ref a, .str r rt, .str x t]) Q E s := by
  refine wpAny_call (codeAny_call_builtin F.plain_sub F.entry_sub (F.slot_sub.check _ _ _ _ _ _ _ _ p.type (F.args_sub _ _ _) ?_))
  show wpAny _ _ (reSubstitute "re.Pattern.sub" "sub" false ⟨[.ref a, .str r rt, .str x t], []⟩) _ _ _
  unfold reSubstitute
  refine wpAny_bind ?_
  rw [named_sub]
  refine wpAny_pure ?_
  refine wpAny_bind (wpAny_pure ?_)
  refine wpAny_bind (wpAny_specialOf_val (T := "str") rfl F.nocall_str ?_)
  show wpAny _ _ (asStr? (Value.str r rt) >>= _) _ _ _
  refine wpAny_bind (wpAny_pure ?_)
  show wpAny _ _ (pure (!r.cps.contains 92) >>= _) _ _ _
  rw [hb]
  refine wpAny_bind (wpAny_pure ?_)
  show wpAny _ _ (pure (Value.str r rt, (0 : Int)) >>= _) _ _ _
  refine wpAny_bind (wpAny_pure ?_)
  refine wpAny_bind (wpAny_holding (whole p ?_))
  refine wpAny_bind (wpAny_newObj_type ?_)
  refine wpAny_pure ⟨plainId_quiet F.plain_loop _, ?_⟩
  refine loop_code hr2 hx hx0 hsub _ 0 #[] 0 [] (Nat.zero_le _) (p.keeps fun _ _ e => Heap.get?_push_of_some _ e) (Heap.get?_push_size _ rfl) .nil (by simp) (by simp) (.inl rfl) fun h' u tk hk => ?_
  exact h h' u tk fun b o e => hk b o (fun q => absurd (Heap.lt_size e) (q ▸ Nat.lt_irrefl _)) (Heap.get?_push_of_some _ e)
theorem pat_meth {a : Addr} {code : Array Nat} {pl : Sem Bool} {Q : Value × List Value → Shared → Prop} (p : IsPat s.heap a code)
    (h : Q (.builtin "re.Pattern.sub", [.ref a]) s) : wpAny (model prog w) A (getMethod (.ref a) (Str.ofString "sub") pl) Q E s := by
  refine getMethod_builtin p.type F.attrs_pat F.slot_sub F.type_sub ?_ h
  obtain ⟨o, oc, c, vs, items, n, h1, h2, h3, h4, h5, h6, h7, h8, r⟩ := p
  intro b e
  cases e
  exact ⟨o, h1, h7⟩
end
noncomputable def fixS (x : Str) : Str := ⟨(fixL x.cps.toList).toArray⟩
noncomputable def quoS (x : Str) : Str := ⟨(quoF true x.cps.toList).toArray⟩
theorem sub2S (x : Str) : SubR code2 x.cps [13, 10] 0 (fixL x.cps.toList) := by
  have := sub2 x.cps x.cps.size 0 (by omega) (Nat.zero_le _)
  simpa using this
theorem sub1S (x : Str) : SubR code1 x.cps [46, 46] 0 (quoF true x.cps.toList) := by
  have := sub1 x.cps x.cps.size 0 (by omega) (Nat.zero_le _)
  simpa [lineAt] using this
theorem fixF_len : ∀ (l : List Nat) (p : Bool), (fixF p l).length ≤ 2 * l.length
  | [], _ => by simp [fixF]
  | c :: r, p => by
    have h1 := fixF_len r true
    have h2 := fixF_len r false
    unfold fixF
    split
    · simp only [List.length_cons]; omega
    · split
      · split <;> simp only [List.length_cons] <;> omega
      · simp only [List.length_cons]; omega
theorem fixF_pos : ∀ (l : List Nat), l ≠ [] → 0 < (fixF false l).length
  | [], h => absurd rfl h
  | c :: r, _ => by
    unfold fixF
    split
    · simp
    · split <;> simp
end Mine
end
section
open PySem PySem.W PyProof.Rows PySem.Spec PySem.Calls
set_option Elab.async false
set_option maxRecDepth 100000
namespace Mine
theorem pat2 {P : Params} {h : Heap} (X : (K P).In h) : IsPat h 114 code2 :=
  ⟨_, _, 113, _, _, 0, X 114 _ rfl, rfl, rfl, rfl, rfl, rfl, rfl, X 113 _ rfl, rfl, rfl, by decide +kernel⟩
theorem pat1 {P : Params} {h : Heap} (X : (K P).In h) : IsPat h 109 code1 :=
  ⟨_, _, 108, _, _, 0, X 109 _ rfl, rfl, rfl, rfl, rfl, rfl, rfl, X 108 _ rfl, rfl, rfl, by decide +kernel⟩
theorem crlf_cps : (Str.ofString "\r\n").cps = #[13, 10] := by decide +kernel
theorem dots_cps : (Str.ofString "..").cps = #[46, 46] := by decide +kernel
section
variable {prog : Program} {w : World} {A : Around} {E : Value → Shared → Prop} {s : Shared} {h₀ : Heap} {L : Addr} {m : Str → Option Value} {news : List (Addr × Obj)} {P : Params}
theorem sub2_K {x : Str} {t rt : Tok} {Q : Value → Shared → Prop} (F : Fr h₀ L s.heap m) (N : News h₀ L s.heap news) (X : (K P).In h₀) (hx : x.length ≤ 1000) (hx0 : 0 < x.length)
    (h : ∀ t' h' tk, Fr h₀ L h' m → News h₀ L h' news → Q (.str (fixS x) t') { s with heap := h', toks := tk }) :
    wpAny (model prog w) A (call (.builtin "re.Pattern.sub") [.ref 114, .str (Str.ofString "\r\n") rt, .str x t]) Q E s := by
  refine sub_call (pat2 (X.keeps F.keep)) (by rw [crlf_cps]; decide +kernel) (by rw [crlf_cps]; decide +kernel) hx hx0 (out := fixL x.cps.toList) (by rw [crlf_cps]; exact sub2S x) fun h' u tk hk => ?_
  exact h u h' tk (F.keeps hk) fun p hp => ⟨hk _ _ (N p hp).1, (N p hp).2⟩
theorem sub1_K {x : Str} {t rt : Tok} {Q : Value → Shared → Prop} (F : Fr h₀ L s.heap m) (N : News h₀ L s.heap news) (X : (K P).In h₀) (hx : x.length ≤ 1000) (hx0 : 0 < x.length)
    (h : ∀ t' h' tk, Fr h₀ L h' m → News h₀ L h' news → Q (.str (quoS x) t') { s with heap := h', toks := tk }) :
    wpAny (model prog w) A (call (.builtin "re.Pattern.sub") [.ref 109, .str (Str.ofString "..") rt, .str x t]) Q E s := by
  refine sub_call (pat1 (X.keeps F.keep)) (by rw [dots_cps]; decide +kernel) (by rw [dots_cps]; decide +kernel) hx hx0 (out := quoF true x.cps.toList) (by rw [dots_cps]; exact sub1S x) fun h' u tk hk => ?_
  exact h u h' tk (F.keeps hk) fun p hp => ⟨hk _ _ (N p hp).1, (N p hp).2⟩
end
theorem fixS_len (x : Str) (hx : x.length ≤ 100) : (fixS x).length ≤ 200 := by
  have h1 := fixF_len x.cps.toList false
  have h2 : x.cps.toList.length = x.length := by simp [Str.length]
  have h3 : (fixS x).length = (fixL x.cps.toList).length := by simp [fixS, Str.length]
  rw [h3]; show (fixF false x.cps.toList).length ≤ 200; omega
theorem fixS_pos (x : Str) (hx : 0 < x.length) : 0 < (fixS x).length := by
  have h2 : x.cps.toList ≠ [] := by
    intro e
    have : x.cps.toList.length = x.length := by simp [Str.length]
    rw [e] at this; simp at this; omega
  have h3 : (fixS x).length = (fixL x.cps.toList).length := by simp [fixS, Str.length]
  rw [h3]; exact fixF_pos _ h2
local macro_rules | `(tactic| walk_at "getMethod ref") => `(tactic| (k_here; k_dflt (first | (refine' pat_meth (pat2 (Frag.In.keeps ?pX (Fr.keep ?pF))) ?_; (case pX => assumption); (case pF => k_asm)) | (refine' pat_meth (pat1 (Frag.In.keeps ?pX (Fr.keep ?pF))) ?_; (case pX => assumption); (case pF => k_asm)))))
local macro_rules | `(tactic| walk_at "call builtin:re.Pattern.sub") => `(tactic| (k_here; k_dflt (first
  | (refine' sub2_K ?q1 ?q2 ?q3 ?q4 ?q5 ?_; (case q1 => k_asm); (case q2 => k_asm); (case q3 => assumption); (case q4 => first | omega | (have := fixS_len _ (by assumption); omega)); (case q5 => first | omega | exact fixS_pos _ (by assumption)))
  | (refine' sub1_K ?q1 ?q2 ?q3 ?q4 ?q5 ?_; (case q1 => k_asm); (case q2 => k_asm); (case q3 => assumption); (case q4 => first | omega | (have := fixS_len _ (by assumption); omega)); (case q5 => first | omega | exact fixS_pos _ (by assumption)))); intro t9 h9 tk9 F9 N9; (try dsimp only)))
set_option maxHeartbeats 0 in
theorem eols_tells {w : World} {p : Program} {loose : List Str} {mean : ExcName → Option Value} {mg mb : Str → Option Value} (tx : Str) (tk : Tok) (hlen : tx.length ≤ 100) (hpos : 0 < tx.length) :
    TellsN 2 40 w p loose mean mg mb 128 [.str tx tk] (fun t => .str (fixS tx) t) := by
  have : (K w.params).length = (K w.params).length ∧ PySem.Challenge.rw_re0164_01.foot = 7 := ⟨rfl, rfl⟩
  revert this
  k_fill
  intro _
  intro dp un gd cn cs a ccd cl outer A₀ base h₀ L m news s Q E B F X N T hk XB hd hu hret
  refine wpAny_call ?_
  k_dflt cell_enter
  k_steps
  exact hret _ _ _ (by k_asm) (by k_asm)
set_option maxHeartbeats 0 in
theorem quote_tells {w : World} {p : Program} {loose : List Str} {mean : ExcName → Option Value} {mg mb : Str → Option Value} (tx : Str) (tk : Tok) (hlen : tx.length ≤ 100) (hpos : 0 < tx.length) :
    TellsN 2 40 w p loose mean mg mb 121 [.str tx tk] (fun t => .str (quoS (fixS tx)) t) := by
  intro dp un gd cn cs a ccd cl outer A₀ base h₀ L m news s Q E B F X N T hk XB hd hu hret
  refine wpAny_call ?_
  k_dflt cell_enter
  k_steps
  exact hret _ _ _ (by k_asm) (by k_asm)
end Mine
end
section
open PySem PySem.W PyProof.Rows PySem.Spec PySem.Calls PyProof.V
set_option Elab.async false
set_option maxRecDepth 100000
namespace Mine
section
variable {prog : Program} {w : World} {A : Around} {E : Value → Shared → Prop} {s : Shared} {env : Env} {h₀ : Heap} {x : Str} {body : List Stmt} {Q : Flow → Shared → Prop}
/-- a loop over a range of any step, by an invariant over the frame's map and the ledger -/
theorem iter_rangeC {r : Addr} {a b c : Int} {t u v : Tok} {n : Nat} {m₀ : Str → Option Value} {news : List (Addr × Obj)} (J : Nat → (Str → Option Value) → List (Addr × Obj) → Prop) (hh : A.handled = none)
    (hr : IsRange s.heap r a b c t u v) (hsm : Builtin.Range.small a b c = true) (hn : Builtin.Range.rangeSize a b c = ((n : Nat) : Int))
    (F : Fr h₀ env.locals s.heap m₀) (N : News h₀ env.locals s.heap news) (hJ0 : J 0 m₀ news)
    (turn : ∀ i u I oI m₁ news₁ h tk, i < n → J i m₁ news₁ → (∀ p ∈ news₁, p.1 ≠ I) → Fr h₀ env.locals h (fun y => if y = x then some (.int (a + (i : Int) * c) u) else m₁ y) → News h₀ env.locals h ((I, oI) :: news₁) →
      wpAny (model prog w) A (execs body env) (UnrPost h₀ env.locals { s with heap := h, toks := tk } I oI (J (i + 1)) Q) E { s with heap := h, toks := tk })
    (done : ∀ m₁ news₁ h tk, J n m₁ news₁ → Fr h₀ env.locals h m₁ → News h₀ env.locals h news₁ → Q .next { s with heap := h, toks := tk }) :
    wpAny (model prog w) A (pyIter (.ref r)) (fun it s₂ => LoopAtV prog w A h₀ env x body Q E it s₂) E s := by
  have hnew := next_is_new F
  refine wpAny_pyIter_range hr hsm ?_
  rw [hn]
  refine ⟨_, _, _, n, _, _, m₀, news, J, rfl, Walks.range hh _ a c n, ?_, ?_, ?_, ?_, F.push _, (fun p hp => ⟨Heap.get?_push_of_some _ (N p hp).1, (N p hp).2⟩), hJ0, ?_, ?_⟩
  · intro hm
    exact absurd F.ns.lt ((List.mem_singleton.mp hm) ▸ Nat.lt_irrefl _)
  · intro b hb
    rw [List.mem_singleton.mp hb]
    exact hnew
  · intro p hp hI
    exact absurd (Heap.lt_size (N p hp).1) ((List.mem_singleton.mp hI) ▸ Nat.lt_irrefl _)
  · show (s.heap.push _).get? _ = some _
    rw [Heap.get?_push_size _ rfl]
    simp
  · rintro i v m₁ news₁ s₁ own ⟨hh', tk', rfl⟩ hin hP hJ hoff hown hget hall hst' F₁ N₁
    obtain ⟨u, rfl⟩ := hP
    obtain ⟨it, hit⟩ : ∃ it, hh'.get? s.heap.objs.size = some it := ⟨_, hst'⟩
    have hmemI := hall s.heap.objs.size (List.mem_singleton.mpr rfl) hnew _ hit
    have N₂ : News h₀ env.locals hh' ((s.heap.objs.size, it) :: news₁) := fun p hp => by
      rcases List.mem_cons.mp hp with rfl | hp
      · exact N₁ _ (List.mem_append_left _ hmemI)
      · exact N₁ _ (List.mem_append_right _ hp)
    refine wpAny_mono (turn i u s.heap.objs.size it m₁ news₁ hh' tk' hin hJ (fun p hp hI => hoff p hp (List.mem_singleton.mpr hI)) F₁ N₂) (fun f s₂ p => ?_) fun _ _ e => e
    have fin : UnrEnd h₀ env.locals { s with heap := hh', toks := tk' } s.heap.objs.size it (J (i + 1)) s₂ →
        LoopStepU h₀ env.locals [s.heap.objs.size] own (J (i + 1)) { s with heap := hh', toks := tk' } .next s₂ := by
      rintro ⟨h', tk, m', news', e, F', N', ho, r⟩
      refine ⟨rfl, h', tk, m', news', e, F', fun p hp => ?_, fun p hp hI => ho p hp (List.mem_singleton.mp hI), r⟩
      rcases List.mem_append.mp hp with hp | hp
      · have h1 : p.1 = s.heap.objs.size := List.mem_singleton.mp (hown p hp)
        have h2 : hh'.get? p.1 = some p.2 := hget p hp
        have h3 := h2
        rw [h1, hit] at h3
        have h4 : p = (s.heap.objs.size, it) := Prod.ext h1 (Option.some.inj h3).symm
        rw [h4]; exact N' _ (List.mem_cons_self ..)
      · exact N' _ (List.mem_cons_of_mem _ hp)
    cases f with
    | ret v => exact .ret p
    | brk => exact .brk p
    | next => exact .next (fin p)
    | cont => exact .cont (fin p)
  · rintro h' tk m' news' F' N' _ hJ
    exact done m' news' h' tk hJ F' N'
/-- a loop over a range, by an invariant over the frame's map and the ledger -/
theorem iter_range {r : Addr} {a b : Int} {t u v : Tok} {n : Nat} {m₀ : Str → Option Value} {news : List (Addr × Obj)} (J : Nat → (Str → Option Value) → List (Addr × Obj) → Prop) (hh : A.handled = none)
    (hr : IsRange s.heap r a b 1 t u v) (hsm : Builtin.Range.small a b 1 = true) (hn : Builtin.Range.rangeSize a b 1 = ((n : Nat) : Int))
    (F : Fr h₀ env.locals s.heap m₀) (N : News h₀ env.locals s.heap news) (hJ0 : J 0 m₀ news)
    (turn : ∀ i u I oI m₁ news₁ h tk, i < n → J i m₁ news₁ → (∀ p ∈ news₁, p.1 ≠ I) → Fr h₀ env.locals h (fun y => if y = x then some (.int (a + (i : Int)) u) else m₁ y) → News h₀ env.locals h ((I, oI) :: news₁) →
      wpAny (model prog w) A (execs body env) (UnrPost h₀ env.locals { s with heap := h, toks := tk } I oI (J (i + 1)) Q) E { s with heap := h, toks := tk })
    (done : ∀ m₁ news₁ h tk, J n m₁ news₁ → Fr h₀ env.locals h m₁ → News h₀ env.locals h news₁ → Q .next { s with heap := h, toks := tk }) :
    wpAny (model prog w) A (pyIter (.ref r)) (fun it s₂ => LoopAtV prog w A h₀ env x body Q E it s₂) E s :=
  iter_rangeC J hh hr hsm hn F N hJ0 (fun i u I oI m₁ news₁ h tk hi hJ ho F' N' => turn i u I oI m₁ news₁ h tk hi hJ ho (by rw [Int.mul_one] at F'; exact F') N') done
end
end Mine
end
section
open PySem PySem.W PyProof.Rows PySem.Spec PySem.Calls PyProof.V
open PyProof.Rows.LCg PyProof.Rows.LCt
set_option Elab.async false
set_option maxRecDepth 100000
namespace Mine
theorem kstB_ex0 {m₁ : Str → Option Value} (l : List (Str × Value)) (h : ∀ p ∈ l, m₁ p.1 = some p.2) : ∀ y, m₁ y = kstB m₁ l y := fun y => (kstB_eq h fun _ => rfl).symm
section
variable {prog : Program} {w : World} {A : Around} {h₀ : Heap} {L : Addr} {m : Str → Option Value} {env : Env} {ct elt : PySem.Expr} {x : Str} {scope : Scope} {cl : List (Str × Addr)} {s : Shared} {S : List (Addr × Obj) → Prop} {P : Nat → Value → Prop} {Fin : List Value → List (Addr × Obj) → Prop} {news : List (Addr × Obj)}
/-- a comprehension without a test, by an invariant over the values so far -/
theorem restJ {n : Nat} (J : Nat → List Value → Prop) (J0 : J 0 [])
    (turn : ∀ i v I oI C oC D m₂ ys h tk (E' : Value → Shared → Prop), i < n → P i v → J i ys → LCg.NsObj oC m₂ → m₂ x = some v → Fr h₀ L h m → News h₀ L h ((I, oI) :: (C, oC) :: (D, LCg.lst ys) :: news) → LCg.Off3 I C D news → ((@Ne Nat I C) ∧ (@Ne Nat I D) ∧ (@Ne Nat C D)) →
      wpAny (model prog w) A (eval elt (compEnvC scope cl C env)) (LCg.CompEnd h₀ L m { s with heap := h, toks := tk } I oI C oC D (LCg.lst ys) S (fun y news' => news' = news ∧ J (i + 1) (ys ++ [y]))) E' { s with heap := h, toks := tk })
    (fin : ∀ ys, J n ys → Fin ys news) : LCg.CompRest prog w A h₀ L m env elt x scope cl s S P Fin n 0 [] news := by
  have key : ∀ (j i : Nat) (ys : List Value), i + j = n → J i ys → LCg.CompRest prog w A h₀ L m env elt x scope cl s S P Fin j i ys news := by
    intro j
    induction j with
    | zero =>
      intro i ys hi hy
      obtain rfl : i = n := by omega
      exact LCg.CompRest.zero (fin ys hy)
    | succ j ih =>
      intro i ys hi hy
      refine LCg.CompRest.succ ?_
      intro v I oI C oC D m₂ h tk E' hv hC hx F N off ne
      refine wpAny_mono (turn i v I oI C oC D m₂ ys h tk E' (by omega) hv hy hC hx F N off ne) (fun y s₃ hr => ?_) fun _ _ e => e
      obtain ⟨h', tk', nw, e, F', N', off', hS, hn, hy'⟩ := hr
      rw [hn] at N' off' hS
      exact ⟨h', tk', news, e, F', N', off', hS, ih (i + 1) _ (by omega) hy'⟩
  exact key n 0 [] (by omega) J0
/-- the like with one test -/
theorem restJT {n : Nat} (J : Nat → List Value → Prop) (J0 : J 0 [])
    (turn : ∀ i v I oI C oC D m₂ ys h tk (E' : Value → Shared → Prop), i < n → P i v → J i ys → LCg.NsObj oC m₂ → m₂ x = some v → Fr h₀ L h m → News h₀ L h ((I, oI) :: (C, oC) :: (D, LCg.lst ys) :: news) → LCg.Off3 I C D news → ((@Ne Nat I C) ∧ (@Ne Nat I D) ∧ (@Ne Nat C D)) →
      wpAny (model prog w) A (isTrue ct (compEnvC scope cl C env) (eval ct (compEnvC scope cl C env))) (fun b s' => if b = true then wpAny (model prog w) A (eval elt (compEnvC scope cl C env)) (LCg.CompEnd h₀ L m { s with heap := h, toks := tk } I oI C oC D (LCg.lst ys) S (fun y news' => news' = news ∧ J (i + 1) (ys ++ [y]))) E' s'
        else LCg.CompEnd h₀ L m { s with heap := h, toks := tk } I oI C oC D (LCg.lst ys) S (fun _ news' => news' = news ∧ J (i + 1) ys) Value.none s') E' { s with heap := h, toks := tk })
    (fin : ∀ ys, J n ys → Fin ys news) : LCt.CompRestT prog w A h₀ L m env ct elt x scope cl s S P Fin n 0 [] news := by
  have key : ∀ (j i : Nat) (ys : List Value), i + j = n → J i ys → LCt.CompRestT prog w A h₀ L m env ct elt x scope cl s S P Fin j i ys news := by
    intro j
    induction j with
    | zero =>
      intro i ys hi hy
      obtain rfl : i = n := by omega
      exact LCt.CompRestT.zero (fin ys hy)
    | succ j ih =>
      intro i ys hi hy
      refine LCt.CompRestT.succ ?_
      intro v I oI C oC D m₂ h tk E' hv hC hx F N off ne
      refine wpAny_mono (turn i v I oI C oC D m₂ ys h tk E' (by omega) hv hy hC hx F N off ne) (fun b s₂ hq => ?_) fun _ _ e => e
      cases b with
      | true =>
        simp only [if_true] at hq ⊢
        refine wpAny_mono hq (fun y s₃ hr => ?_) fun _ _ e => e
        obtain ⟨h', tk', nw, e, F', N', off', hS, hn, hy'⟩ := hr
        rw [hn] at N' off' hS
        exact ⟨h', tk', news, e, F', N', off', hS, ih (i + 1) _ (by omega) hy'⟩
      | false =>
        simp only [Bool.false_eq_true, if_false] at hq ⊢
        obtain ⟨h', tk', nw, e, F', N', off', hS, hn, hy'⟩ := hq
        rw [hn] at N' off' hS
        exact ⟨h', tk', news, e, F', N', off', hS, ih (i + 1) _ (by omega) hy'⟩
  exact key n 0 [] (by omega) J0
theorem fresh1 {D : Addr} : ∀ {l : List (Addr × Obj)}, LCg.Off1 D l → ∀ p ∈ l, p.1 ≠ D
  | [], _, p, hp => by cases hp
  | q :: r, h, p, hp => by
    rcases List.mem_cons.mp hp with rfl | hp
    · exact h.1
    · exact fresh1 h.2 p hp
end
section
variable {prog : Program} {w : World} {A : Around} {E : Value → Shared → Prop} {s : Shared} {h₀ : Heap} {L : Addr} {m : Str → Option Value} {env : Env}
noncomputable def SrcTJ (prog : Program) (w : World) (A : Around) (h₀ : Heap) (L : Addr) (m : Str → Option Value) (env : Env) (ct elt : PySem.Expr) (x : Str) (scope : Scope) (cl : List (Str × Addr)) (Q : Value → Shared → Prop) (xv : Value) (s₁ : Shared) : Prop :=
  SrcRT prog w A h₀ L m env ct elt x scope cl (fun s₂ => FinE h₀ L m s₂ Q) xv s₁
theorem ListComp_TJ {ct elt iter : PySem.Expr} {x : Str} {px : Pos} {scope : Scope} {cl : List (Str × Addr)} {pos : Pos} {Q : Value → Shared → Prop} (F₀ : Fr h₀ L s.heap m)
    (hclos : closureFor scope env = pure cl) (hcell : ∀ y ∈ scope.names, y.2 ≠ .cell) (hkind : scope.kind = .function)
    (hnames : ∀ y ∈ scope.names, y.2 = .local → scope.names.lookup y.1 = some .local) (hx : scope.names.lookup x = some .local)
    (h : wpAny (model prog w) A (eval iter env) (SrcTJ prog w A h₀ L m env ct elt x scope cl Q) E s)
    (hs : ∀ x, foldedSetIterable iter env x = pure x := by intro _; rfl) :
    wpAny (model prog w) A (eval (.ListComp elt [⟨.Name x px, iter, [ct], 0⟩] scope pos) env) Q E s :=
  LCt.ListComp_T F₀ hclos hcell hkind hnames hx (wpAny_mono h (fun _ _ h => .inr h) fun _ _ e => e) hs
noncomputable def SrcLJ (prog : Program) (w : World) (A : Around) (h₀ : Heap) (L : Addr) (m : Str → Option Value) (env : Env) (elt : PySem.Expr) (x : Str) (scope : Scope) (cl : List (Str × Addr)) (Q : Value → Shared → Prop) (xv : Value) (s₁ : Shared) : Prop :=
  SrcL prog w A h₀ L m env elt x scope cl (fun s₂ => FinE h₀ L m s₂ Q) xv s₁
theorem ListComp_LJ {elt iter : PySem.Expr} {x : Str} {px : Pos} {scope : Scope} {cl : List (Str × Addr)} {pos : Pos} {Q : Value → Shared → Prop} (F₀ : Fr h₀ L s.heap m)
    (hclos : closureFor scope env = pure cl) (hcell : ∀ y ∈ scope.names, y.2 ≠ .cell) (hkind : scope.kind = .function)
    (hnames : ∀ y ∈ scope.names, y.2 = .local → scope.names.lookup y.1 = some .local) (hx : scope.names.lookup x = some .local)
    (h : wpAny (model prog w) A (eval iter env) (SrcLJ prog w A h₀ L m env elt x scope cl Q) E s)
    (hs : ∀ x, foldedSetIterable iter env x = pure x := by intro _; rfl) :
    wpAny (model prog w) A (eval (.ListComp elt [⟨.Name x px, iter, [], 0⟩] scope pos) env) Q E s :=
  LCg.ListComp_U F₀ hclos hcell hkind hnames hx (wpAny_mono h (fun _ _ h => .inl h) fun _ _ e => e) hs
end
section
variable {prog : Program} {w : World} {A : Around} {h₀ : Heap} {L : Addr} {m : Str → Option Value} {env : Env} {ct elt : PySem.Expr} {x : Str} {scope : Scope} {cl : List (Str × Addr)} {s : Shared} {S : List (Addr × Obj) → Prop} {P : Nat → Value → Prop} {Fin : List Value → List (Addr × Obj) → Prop} {news : List (Addr × Obj)}
/-- a comprehension without a test, by an invariant over the values so far and the ledger -/
theorem restK {n : Nat} (J : Nat → List Value → List (Addr × Obj) → Prop) (J0 : J 0 [] news)
    (turn : ∀ i v I oI C oC D m₂ ys nw h tk (E' : Value → Shared → Prop), i < n → P i v → J i ys nw → LCg.NsObj oC m₂ → m₂ x = some v → Fr h₀ L h m → News h₀ L h ((I, oI) :: (C, oC) :: (D, LCg.lst ys) :: nw) → LCg.Off3 I C D nw → ((@Ne Nat I C) ∧ (@Ne Nat I D) ∧ (@Ne Nat C D)) →
      wpAny (model prog w) A (eval elt (compEnvC scope cl C env)) (LCg.CompEnd h₀ L m { s with heap := h, toks := tk } I oI C oC D (LCg.lst ys) S (fun y nw' => J (i + 1) (ys ++ [y]) nw')) E' { s with heap := h, toks := tk })
    (fin : ∀ ys nw, J n ys nw → Fin ys nw) : LCg.CompRest prog w A h₀ L m env elt x scope cl s S P Fin n 0 [] news := by
  have key : ∀ (j i : Nat) (ys : List Value) (nw : List (Addr × Obj)), i + j = n → J i ys nw → LCg.CompRest prog w A h₀ L m env elt x scope cl s S P Fin j i ys nw := by
    intro j
    induction j with
    | zero =>
      intro i ys nw hi hy
      obtain rfl : i = n := by omega
      exact LCg.CompRest.zero (fin ys nw hy)
    | succ j ih =>
      intro i ys nw hi hy
      refine LCg.CompRest.succ ?_
      intro v I oI C oC D m₂ h tk E' hv hC hx F N off ne
      refine wpAny_mono (turn i v I oI C oC D m₂ ys nw h tk E' (by omega) hv hy hC hx F N off ne) (fun y s₃ hr => ?_) fun _ _ e => e
      obtain ⟨h', tk', nw', e, F', N', off', hS, hy'⟩ := hr
      exact ⟨h', tk', nw', e, F', N', off', hS, ih (i + 1) _ _ (by omega) hy'⟩
  exact key n 0 [] news (by omega) J0
end
end Mine
end
section
open PySem PySem.W PyProof.Rows PySem.Spec PySem.Calls PyProof.V
namespace Mine
local macro_rules | `(tactic| walk_at "exec For") => `(tactic| (k_here; (with_reducible show wpAny _ _ (exec (Stmt.For (Expr.Name _ _) _ _ [] _) _) _ _ _); k_dflt (refine For_invVF (by k_asm) (by rfl) (by rfl) ?_)))
section
open PySem PySem.W PyProof.Rows PySem.Spec PySem.Calls PyProof.V
set_option Elab.async false
set_option maxRecDepth 100000
section
variable {prog : Program} {w : World} {A : Around} {E : Value → Shared → Prop} {s : Shared}
theorem len_tupI {C : Addr} {xs : List Value} {ns : List Int} {Q : Value → Shared → Prop} (ht : IsTup s.heap C xs.toArray) (hi : IntsAre xs ns) (hl : xs.length ≤ 300)
    (h : Q (.int (ns.length : Int) (s.toks + 1)) { s with toks := s.toks + 1 + 1 }) : wpAny (model prog w) A (call (.builtin "len") [.ref C]) Q E s := by
  have e := hi.length
  refine len_tuple ht (by rw [List.size_toArray]; omega) ?_
  rw [List.size_toArray, e]; exact h
theorem get_tupI {C : Addr} {xs : List Value} {ns : List Int} {k : Int} {u : Tok} {Q : Value → Shared → Prop} (ht : IsTup s.heap C xs.toArray) (hi : IntsAre xs ns) (hl : xs.length ≤ 300)
    (h0 : 0 ≤ k) (h1 : k < ns.length) (h : ∀ t, Q (.int (ns.getD k.toNat 0) t) s) : wpAny (model prog w) A (getItem (.ref C) (.int k u)) Q E s := by
  have e := hi.length
  obtain ⟨t, hx⟩ := hi.get k.toNat _ (ints_getD h0 h1)
  refine getItem_tuple (j := k.toNat) ht (by omega) (by omega) ?_ (by simpa using hx) (h t)
  unfold seqIndex?
  rw [List.size_toArray]
  simp [show ¬ k < 0 by omega]; omega
theorem tail_tupI {value slice : PySem.Expr} {C : Addr} {xs : List Value} {ns : List Int} {k : Int} {u : Tok} {Q : Value → Shared → Prop} (ht : IsTup s.heap C xs.toArray) (hi : IntsAre xs ns) (hl : xs.length ≤ 300)
    (h0 : 0 ≤ k) (h1 : k < ns.length) (h : ∀ t, Q (.int (ns.getD k.toNat 0) t) s)
    (hs : subscripted slice false (.ref C) (.int k u) = operate [.ref C, .int k u] (getItem (.ref C) (.int k u)) := by with_unfolding_all rfl) :
    wpAny (model prog w) A (subscriptTail value slice (.ref C) (.int k u)) Q E s :=
  tail_any ht.typeIs slot_tuple_getitem.lookup (get_tupI ht hi hl h0 h1 h) hs
end
local macro_rules | `(tactic| walk_at "subscriptTail") => `(tactic| (k_here; k_dflt (refine tail_tupI (News.isTup (by k_asm) (by k_mem)) (by assumption) (by assumption) (by l_idx) (by l_idx) ?_); intro _))
local macro_rules | `(tactic| walk_at "call builtin:len") => `(tactic| (k_here; (with_reducible show wpAny _ _ (call (Value.builtin "len") [Value.ref _]) _ _ _); k_dflt (refine' len_tupI ?k1 ?k2 ?k3 ?_; (case k1 => exact News.isTup (by k_asm) (by k_mem)); (case k2 => assumption); (case k3 => assumption))))
theorem lvl_mul {size a b : Int} (hs : 1 ≤ size) (h0 : 0 ≤ a) (h1 : a ≤ 1000) : IntMulOk (a.fdiv size) b := by
  refine IntMulOk.of_left (intBits_le_iff.mpr ?_)
  have e : a.fdiv size = a / size := Int.fdiv_eq_ediv_of_nonneg _ (by omega)
  have h2 : a / size ≤ a := Int.ediv_le_self _ h0
  have h3 : 0 ≤ a / size := Int.ediv_nonneg h0 (by omega)
  rw [e]
  have : (2 : Nat) ^ 64 = 18446744073709551616 := by decide
  omega
noncomputable def ilF (size : Int) (ns : List Int) : Nat → Int
  | 0 => 0
  | k + 1 => ilF size ns k + (size + (k : Int)).fdiv size * ns.getD (size + (k : Int)).toNat 0
noncomputable def levV (size : Int) (ns : List Int) (b nt : Int) : Int := b + size * (ilF size ns ((ns.length : Int) - size).toNat + nt)
noncomputable def LJ (x C : Addr) (b size : Int) (tb ts : Tok) (ns : List Int) (rest : List (Addr × Obj)) (i : Nat) (m : Str → Option Value) (news : List (Addr × Obj)) : Prop :=
  ∃ (tl : Tok), news = rest ∧ m (Str.ofString "il") = some (.int (ilF size ns i) tl) ∧ m (Str.ofString "count") = some (.ref C) ∧ m (Str.ofString "tabsize") = some (.int size ts) ∧ m (Str.ofString "self") = some (.ref x) ∧ m (Str.ofString "trailing") = some (.int b tb)
set_option maxHeartbeats 0 in
theorem lvl_tells {w : World} {p : Program} {loose : List Str} {mean : ExcName → Option Value} {mg mb : Str → Option Value} (x d T C : Addr) (xs : List Value) (ns : List Int) (b nt size : Int) (tb ts : Tok) (D : Obj) (hD : LeadD w D nt T) (hxs : IntsAre xs ns) (hl : xs.length ≤ 300) (hs : 1 ≤ size) (hs5 : size ≤ 5)
   (dp un : Nat) (gd : Option (List Code)) (cn : Str) (cs : Scope) (a : Addr) (ccd : Value) (cl : List (Str × Addr)) (outer : List Env) (A₀ : Around) (base h₀ : Heap) (L : Addr) (m : Str → Option Value) (news : List (Addr × Obj)) (s : Shared) (Q E : Value → Shared → Prop)
    (B : Below A₀ base outer h₀) (F : Fr h₀ L s.heap m) (X : (K w.params).In h₀) (N0 : News h₀ L s.heap news) (m1 : (T, tupO [.ref C, .int b tb]) ∈ news) (m2 : (C, tupO xs) ∈ news) (m3 : (x, instObj 100 d) ∈ news) (m4 : (d, D) ∈ news)
    (T' : Top p loose mean mg mb h₀) (hk : cs.kind = .function) (XB : XF w base) (hd : dp + 3 < recursionLimit) (hu : un + 60 < cLine)
    (hret : ∀ (t : Tok) (h' : Heap) (tk' : Nat), Fr h₀ L h' m → News h₀ L h' news → Q (.int (levV size ns b nt) t) { s with heap := h', toks := tk' }) :
    wpAny (model pw w) (ktrTop dp un gd cn cs L a ccd cl outer) (call (.ref 69) [.ref x, .int size ts]) Q E s := by
  have : (K w.params).length = (K w.params).length ∧ PySem.Challenge.rw_re0164_01.foot = 7 := ⟨rfl, rfl⟩
  revert this
  k_fill
  intro _
  obtain ⟨X9, t, n1, k1, k2, k3, k4, k5, tt, n, b9, rfl⟩ := hD
  unfold tupO at m1 m2
  have hln := hxs.length
  have N : News h₀ L s.heap ((T, { cls := .type "tuple", data := .seq [Value.ref C, Value.int b tb].toArray }) :: (C, { cls := .type "tuple", data := .seq xs.toArray }) :: (x, instObj 100 d) :: (d, _) :: news) := fun p hp => by
    rcases List.mem_cons.mp hp with rfl | hp
    · exact N0 _ m1
    rcases List.mem_cons.mp hp with rfl | hp
    · exact N0 _ m2
    rcases List.mem_cons.mp hp with rfl | hp
    · exact N0 _ m3
    rcases List.mem_cons.mp hp with rfl | hp
    · exact N0 _ m4
    · exact N0 _ hp
  clear N0
  refine wpAny_call ?_
  (k_dflt (refine' code_def (binds := [(Str.ofString "self", .ref x), (Str.ofString "tabsize", .int size ts)]) ?k1 ?k2 ?k3 ?k4 ?k5 ?kA ?kF ?kK ?k6 ?k7 ?k8 ?k9 ?kB ?_ ?c2 ?c3 ?c4 ?c5; (case kA => exact rfl); (case kF => exact rfl); (case kK => assumption); (case k1 => k_asm); (case k2 => k_asm); (case k3 => k_asm); (case k4 => k_asm); (case k5 => k_asm); (case k6 => k_is); (case k7 => k_is); (case k8 => ktr_room); (case k9 => exact BindsTo.of_eq rfl); (case c5 => decide); (case kB => exact locs rfl); (case c2 => exact rfl); (case c3 => exact rfl); (case c4 => exact rfl); k_whole))
  intro g' L' h1 FG' F1 N1 B1 X1 T1
  (try dsimp only)
  (try k_fold)
  (repeat' ((fail_if_success (with_reducible show wpAny _ _ (pyIter (Value.ref _)) (fun it s₂ => LoopAtV _ _ _ _ _ _ _ _ _ it s₂) _ _)); first | (k_unfold; (try dsimp only)) | (k_end; wrow_close) | walk1 | (dsimp only; walk1) | (leave1; (try dsimp only)) | fail "no step"))
  rename IsRange _ _ _ _ _ _ _ _ => Rz
  rename Fr g' _ _ _ => Fz
  rename News g' _ _ _ => Nz
  have hno : (ns.length : Int) ≤ 300 := by omega
  refine iter_range (n := ((ns.length : Int) - size).toNat) (LJ x C b size tb ts ns _) (by rfl) Rz ?sm ?rs Fz Nz ⟨_, rfl, rfl, rfl, rfl, rfl, rfl⟩ ?_ ?_
  case sm => exact small_one (by omega) (by omega) (by omega) (by omega)
  case rs => rw [rangeSize_one]; split <;> omega
  · rintro i u I oI m₁ news₁ h2 tk2 hi ⟨tl, rfl, e1, e2, e3, e4, e5⟩ hoff F2 N2
    have F3 := Fr.ext F2 (kstB_ex _ _ [(Str.ofString "il", .int (ilF size ns i) tl), (Str.ofString "count", .ref C), (Str.ofString "tabsize", .int size ts), (Str.ofString "self", .ref x), (Str.ofString "trailing", .int b tb)]
      (by intro p hp; simp only [List.mem_cons, List.not_mem_nil, or_false] at hp; rcases hp with rfl | rfl | rfl | rfl | rfl <;> assumption))
    clear F2 e1 e2 e3 e4 e5 Fz Nz Rz
    dsimp only [kstB] at F3
    have hi2 : 0 ≤ size + (i : Int) ∧ size + (i : Int) < ns.length := by omega
    have hs0 : size ≠ 0 := by omega
    have hmm : IntMulOk ((size + (i : Int)).fdiv size) (ns.getD (size + (i : Int)).toNat 0) := lvl_mul hs (by omega) (by omega)
    k_steps
    (rename News g' _ _ ((I, oI) :: _) => Nq)
    exact UnrEnd.intro (by k_asm) Nq _ (fun p hp => hp) hoff ⟨_, rfl, rfl, rfl, rfl, rfl, rfl⟩
  · rintro m₁ news₁ h2 tk2 ⟨tl, rfl, e1, e2, e3, e4, e5⟩ F2 N2
    have F3 := Fr.ext F2 (kstB_ex0 [(Str.ofString "il", .int (ilF size ns ((ns.length : Int) - size).toNat) tl), (Str.ofString "count", .ref C), (Str.ofString "tabsize", .int size ts), (Str.ofString "self", .ref x), (Str.ofString "trailing", .int b tb)]
      (by intro p hp; simp only [List.mem_cons, List.not_mem_nil, or_false] at hp; rcases hp with rfl | rfl | rfl | rfl | rfl <;> assumption))
    clear F2 e1 e2 e3 e4 e5 Fz Nz Rz
    dsimp only [kstB] at F3
    k_steps
    rename News h₀ L _ _ => Nf
    exact hret _ _ _ (by k_asm) (fun p hp => Nf p (.tail _ (.tail _ (.tail _ (.tail _ hp)))))
end
section
open PySem PySem.W PyProof.Rows PySem.Spec PySem.Calls PyProof.V
open PyProof.Rows.LCg PyProof.Rows.LCt
set_option Elab.async false
set_option maxRecDepth 100000
section
variable {prog : Program} {w : World} {A : Around} {E : Value → Shared → Prop} {s : Shared}
theorem item_len1 (x : Str) (i : Int) : (Txt.item x i).length = 1 := rfl
theorem tail_strg {value slice : PySem.Expr} {x : Str} {t u : Tok} {i : Int} {Q : Value → Shared → Prop} (h0 : 0 ≤ i) (h1 : i < x.length) (hz : x.length ≤ 10000)
    (h : ∀ (r : Str) (t' : Tok) (k : Nat), r = Txt.item x i → r.length = 1 → Q (.str r t') { s with toks := k })
    (hs : subscripted slice false (.str x t) (.int i u) = operate [.str x t, .int i u] (getItem (.str x t) (.int i u)) := by with_unfolding_all rfl) :
    wpAny (model prog w) A (subscriptTail value slice (.str x t) (.int i u)) Q E s := by
  refine tail_any (typeIs_str s x t) PySem.F.slot_str_getitem.lookup ?_ hs
  have hx : i.toNat < x.cps.size := by show i.toNat < x.length; omega
  have e : seqIndex? i x.length = some i.toNat := by
    unfold seqIndex?
    simp [show ¬ i < 0 by omega]; omega
  have e2 : Txt.charAt x i = some x.cps[i.toNat] := by
    unfold Txt.charAt; rw [e]; simp [hx]
  refine P.getItem_str (c := x.cps[i.toNat]) (by simp; omega) ?_ ?_
  · rw [e]; simp [hx]
  · exact h _ _ _ (by unfold Txt.item; rw [e2]; rfl) rfl
theorem add_gen {x y : Str} {t u : Tok} {Q : Value → Shared → Prop} (hz : x.length + y.length ≤ 1000000) (h : ∀ (r : Str) (t' : Tok) (k : Nat), r = x ++ y → r.length = x.length + y.length → Q (.str r t') { s with toks := k }) : wpAny (model prog w) A (binaryOp .Add (.str x t) (.str y u)) Q E s :=
  SBL.add (fun t' k _ => h _ t' k rfl (Str.length_append ..)) (by rw [sizeLine_eq]; omega)
theorem iadd_gen {x y : Str} {t u : Tok} {Q : Value → Shared → Prop} (hz : x.length + y.length ≤ 1000000) (h : ∀ (r : Str) (t' : Tok) (k : Nat), r = x ++ y → Q (.str r t') { s with toks := k }) : wpAny (model prog w) A (inplaceOp .Add (.str x t) (.str y u)) Q E s :=
  SBL.iadd (fun t' k _ => h _ t' k rfl) (by rw [sizeLine_eq]; omega)
theorem mul_gen {x : Str} {t u : Tok} {n : Int} {Q : Value → Shared → Prop} (h0 : 1 ≤ n) (h1 : n ≤ 4) (hx : x.length = 1) (h : ∀ (r : Str) (t' : Tok) (k : Nat), r = Txt.mul x n → r.length ≤ 4 → Q (.str r t') { s with toks := k }) : wpAny (model prog w) A (binaryOp .Mult (.str x t) (.int n u)) Q E s :=
  SB.mul (mulOk_of 16 1048576 (by omega) (by omega) (by omega) (by decide) (by decide)) fun t' k => h _ t' k rfl (by have := len_mul_leN (L := 1) (N := 4) (x := x) (n := n) (by omega) (by omega); omega)
theorem item4g {value slice : PySem.Expr} {D : Addr} {x y z v : Str} {tx ty tz tv : Tok} {k : Int} {u : Tok} {Q : Value → Shared → Prop} (hl : s.heap.IsList D #[.str x tx, .str y ty, .str z tz, .str v tv])
    (h0 : 0 ≤ k) (hk : k < 4) (hx : x.length ≤ 2) (hy : y.length ≤ 2) (hz : z.length ≤ 2) (hv : v.length ≤ 2) (h : ∀ (r : Str) (t' : Tok), r = [x, y, z, v].getD k.toNat Str.empty → r.length ≤ 2 → Q (.str r t') s)
    (hs : subscripted slice false (.ref D) (.int k u) = operate [.ref D, .int k u] (getItem (.ref D) (.int k u)) := by with_unfolding_all rfl) (hg : ∀ r, letTemporaryGo value (.ref D) r = pure () := by intro _; with_unfolding_all rfl) :
    wpAny (model prog w) A (subscriptTail value slice (.ref D) (.int k u)) Q E s :=
  item_strsA (l := [.str x tx, .str y ty, .str z tz, .str v tv]) hl (.cons _ _ (.cons _ _ (.cons _ _ (.cons _ _ .nil)))) h0 (by simp; omega) (by omega) (fun t' => h _ t' rfl (by
    obtain ⟨n, rfl⟩ : ∃ n : Nat, k = (n : Int) := ⟨k.toNat, by omega⟩
    have : n < 4 := by omega
    rw [Int.toNat_natCast]
    match n, this with
    | 0, _ => exact hx
    | 1, _ => exact hy
    | 2, _ => exact hz
    | 3, _ => exact hv)) hs hg
theorem item3g {value slice : PySem.Expr} {D : Addr} {x y z : Str} {tx ty tz : Tok} {k : Int} {u : Tok} {Q : Value → Shared → Prop} (hl : s.heap.IsList D #[.str x tx, .str y ty, .str z tz])
    (h0 : 0 ≤ k) (hk : k < 3) (hx : x.length ≤ 2) (hy : y.length ≤ 2) (hz : z.length ≤ 2) (h : ∀ (r : Str) (t' : Tok), r = [x, y, z].getD k.toNat Str.empty → r.length ≤ 2 → Q (.str r t') s)
    (hs : subscripted slice false (.ref D) (.int k u) = operate [.ref D, .int k u] (getItem (.ref D) (.int k u)) := by with_unfolding_all rfl) (hg : ∀ r, letTemporaryGo value (.ref D) r = pure () := by intro _; with_unfolding_all rfl) :
    wpAny (model prog w) A (subscriptTail value slice (.ref D) (.int k u)) Q E s :=
  item_strsA (l := [.str x tx, .str y ty, .str z tz]) hl (.cons _ _ (.cons _ _ (.cons _ _ .nil))) h0 (by simp; omega) (by omega) (fun t' => h _ t' rfl (by
    obtain ⟨n, rfl⟩ : ∃ n : Nat, k = (n : Int) := ⟨k.toNat, by omega⟩
    have : n < 3 := by omega
    rw [Int.toNat_natCast]
    match n, this with
    | 0, _ => exact hx
    | 1, _ => exact hy
    | 2, _ => exact hz)) hs hg
end
noncomputable def StrIs (R : Str) (s : Shared) (v : Value) (s' : Shared) : Prop := ∃ (r : Str) (t k : Nat), v = .str r t ∧ s' = { s with toks := k } ∧ r = R
section
variable {prog : Program} {w : World} {A : Around} {E : Value → Shared → Prop} {s : Shared}
theorem str_cut {tree : Sem Value} {R : Str} {Q : Value → Shared → Prop} (h1 : wpAny (model prog w) A tree (StrIs R s) E s)
    (h2 : ∀ t k : Nat, Q (.str R t) { s with toks := k }) : wpAny (model prog w) A tree Q E s :=
  wpAny_mono h1 (fun v s' h => by obtain ⟨r, t, k, rfl, rfl, rfl⟩ := h; exact h2 t k) fun _ _ e => e
end
noncomputable def chr1 (k : Int) : Str := ⟨#[k.toNat]⟩
noncomputable def unseenS : Str := ⟨#[173, 847, 6150, 6155, 6156, 6157, 8203, 8204, 8205, 8288, 65279, 65024, 65025, 65026, 65027, 65028, 65029, 65030, 65031, 65032, 65033, 65034, 65035, 65036, 65037, 65038, 65039]⟩
noncomputable def turningS : Str := ⟨#[832, 833, 8206, 8207, 8234, 8235, 8236, 8237, 8238, 8298, 8299, 8300, 8301, 8302, 8303]⟩
noncomputable def rowF (c : Int) : Str := Txt.item unseenS ((c.fdiv 16).fmod 27)
noncomputable def rowS (c : Int) : Str := Txt.item turningS ((c.fdiv 16).fmod 15)
noncomputable def rowB (c : Int) (i : Nat) : Str := if ((i : Int).fmod 2 == 1) = true then rowS c ++ rowF c else rowF c ++ rowS c
noncomputable def rowT (c : Int) (i : Nat) : Str := [Str.ofString "", rowF c, rowS c, rowB c i].getD (c.fmod 4).toNat Str.empty ++ Txt.mul (Str.ofString ".") ((c.fdiv 4).fmod 4 + 1) ++ [Str.ofString "\n", Str.ofString "\r", Str.ofString "\r\n"].getD ((i : Int).fmod 3).toNat Str.empty
noncomputable def mailP (cs : List Int) : Nat → Str
  | 0 => Str.ofString ""
  | i + 1 => mailP cs i ++ rowT (cs.getD i 0) i
noncomputable def MJ (D : Addr) (cs : List Int) (rest : List (Addr × Obj)) (i : Nat) (m : Str → Option Value) (news : List (Addr × Obj)) : Prop :=
  ∃ (ta tb tc : Tok), news = rest ∧ m (Str.ofString "text") = some (.str (mailP cs i) ta) ∧ m (Str.ofString "cells") = some (.ref D) ∧ m (Str.ofString "unseen") = some (.str unseenS tb) ∧ m (Str.ofString "turning") = some (.str turningS tc)
theorem bl_app {x y : Str} {a b : Nat} (hx : x.length ≤ a) (hy : y.length ≤ b) : (x ++ y).length ≤ a + b := by rw [Str.length_append]; omega
theorem bl_mul {x : Str} {n : Int} (hx : x.length ≤ 1) (hn : n ≤ ((4 : Nat) : Int)) : (Txt.mul x n).length ≤ 1 * 4 := len_mul_leN hx hn
theorem bl_one {c : Nat} : (⟨#[c]⟩ : Str).length ≤ 1 := Nat.le_refl 1
theorem bl_getD {l : List Str} {k : Nat} (h : ∀ y ∈ l, y.length ≤ 2) : (l.getD k Str.empty).length ≤ 2 := by
  rw [List.getD_eq_getElem?_getD]
  cases e : l[k]? with
  | none => exact Nat.zero_le _
  | some y => exact h y (List.mem_of_getElem? e)
theorem all4 {a b c d : Str} (ha : a.length ≤ 2) (hb : b.length ≤ 2) (hc : c.length ≤ 2) (hd : d.length ≤ 2) : ∀ y ∈ [a, b, c, d], y.length ≤ 2 := by
  intro y hy
  simp only [List.mem_cons, List.not_mem_nil, or_false] at hy
  rcases hy with rfl | rfl | rfl | rfl <;> assumption
theorem all3 {a b c : Str} (ha : a.length ≤ 2) (hb : b.length ≤ 2) (hc : c.length ≤ 2) : ∀ y ∈ [a, b, c], y.length ≤ 2 := by
  intro y hy
  simp only [List.mem_cons, List.not_mem_nil, or_false] at hy
  rcases hy with rfl | rfl | rfl <;> assumption
theorem rowB_len (c : Int) (i : Nat) : (rowB c i).length ≤ 2 := by
  unfold rowB
  split <;> exact bl_app (a := 1) (b := 1) bl_one bl_one
theorem rowT_len (c : Int) (i : Nat) : (rowT c i).length ≤ 2 + 1 * 4 + 2 := by
  unfold rowT
  refine bl_app (bl_app (bl_getD (all4 (by decide) (Nat.le_trans bl_one (by decide)) (Nat.le_trans bl_one (by decide)) (rowB_len c i))) (bl_mul (by decide) ?_)) (bl_getD (all3 (by decide) (by decide) (by decide)))
  have := Int.fmod_lt_of_pos (c.fdiv 4) (show (0 : Int) < 4 by decide)
  omega
theorem mailP_len (cs : List Int) : ∀ i, (mailP cs i).length ≤ 8 * i
  | 0 => Nat.zero_le _
  | i + 1 => by
    have h1 := mailP_len cs i
    have h2 := rowT_len (cs.getD i 0) i
    show (mailP cs i ++ rowT (cs.getD i 0) i).length ≤ _
    rw [Str.length_append]; omega
end
section
open PySem PySem.W PyProof.Rows PySem.Spec PySem.Calls PyProof.V
open PyProof.Rows.LCg PyProof.Rows.LCt
set_option Elab.async false
set_option maxRecDepth 100000
local macro_rules | `(tactic| walk_at "CompSrc") => `(tactic| (k_here; k_dflt (refine LCg.CompSrc.range (n := _) (by rfl) (by k_asm) (by k_asm) (by assumption) (by first | decide | rfl) (by first | rfl | decide) (by first | size_fits | exact Nat.le_of_ble_eq_true rfl) ?_); intro g9; refine kct_range chr1 ?_ ?_))
local macro_rules | `(tactic| walk_at "CompEnd") => `(tactic| (k_here; (rename News _ _ _ _ => Nz); exact LCg.CompEnd.intro (by k_asm) Nz _ (fun _ hp => hp) (by assumption) True.intro ⟨rfl, _, rfl⟩))
local macro_rules | `(tactic| walk_at "subscriptTail Name BinOp str int") => `(tactic| (k_here; k_dflt (refine tail_strg (by first | assumption | omega) (by first | assumption | omega) (by decide) ?_); intro r9 t9 k9 hr9 hl9))
local macro_rules | `(tactic| walk_at "binaryOp Add str str") => `(tactic| (k_here; k_dflt (refine' add_gen ?hz ?_; (case hz => omega)); intro r8 t8 k8 hr8 hl8))
local macro_rules | `(tactic| walk_at "inplaceOp Add str str") => `(tactic| (k_here; k_dflt (refine' iadd_gen ?hz ?_; (case hz => omega)); intro r8 t8 k8 hr8))
local macro_rules | `(tactic| walk_at "binaryOp Mult str int") => `(tactic| (k_here; k_dflt (refine' mul_gen ?h0 ?h1 ?hx ?_; (case h0 => omega); (case h1 => omega); (case hx => decide +kernel)); intro r7 t7 k7 hr7 hl7))
noncomputable def mailT (cs : List Int) : Str := mailP cs 5 ++ Str.ofString ".ͺ\n.."
set_option maxHeartbeats 0 in
theorem mail_tells {w : World} {p : Program} {loose : List Str} {mean : ExcName → Option Value} {mg mb : Str → Option Value} (D : Addr) (c0 c1 c2 c3 c4 : Int) (t0 t1 t2 t3 t4 : Tok) (ep : Nat) (h0 : 0 ≤ c0) (h1 : 0 ≤ c1) (h2 : 0 ≤ c2) (h3 : 0 ≤ c3) (h4 : 0 ≤ c4)
   (dp un : Nat) (gd : Option (List Code)) (cn : Str) (cs : Scope) (a : Addr) (ccd : Value) (cl : List (Str × Addr)) (outer : List Env) (A₀ : Around) (base h₀ : Heap) (L : Addr) (m : Str → Option Value) (news : List (Addr × Obj)) (s : Shared) (Q E : Value → Shared → Prop)
    (B : Below A₀ base outer h₀) (F : Fr h₀ L s.heap m) (X : (K w.params).In h₀) (N0 : News h₀ L s.heap news) (hmem : (D, listOf #[.int c0 t0, .int c1 t1, .int c2 t2, .int c3 t3, .int c4 t4] ep) ∈ news) (T : Top p loose mean mg mb h₀) (hk : cs.kind = .function) (XB : XF w base) (hd : dp + 3 < recursionLimit) (hu : un + 60 < cLine)
    (hret : ∀ (t : Tok) (h' : Heap) (tk' : Nat), Fr h₀ L h' m → News h₀ L h' news → Q (.str (mailT [c0, c1, c2, c3, c4]) t) { s with heap := h', toks := tk' }) :
    wpAny (model pw w) (ktrTop dp un gd cn cs L a ccd cl outer) (call (.ref 228) [.ref D]) Q E s := by
  have : (K w.params).length = (K w.params).length ∧ PySem.Challenge.rw_re0164_01.foot = 7 := ⟨rfl, rfl⟩
  revert this
  k_fill
  intro _
  have N : News h₀ L s.heap ((D, listOf #[.int c0 t0, .int c1 t1, .int c2 t2, .int c3 t3, .int c4 t4] ep) :: news) := fun p hp => by
    rcases List.mem_cons.mp hp with rfl | hp
    · exact N0 _ hmem
    · exact N0 _ hp
  clear N0
  refine wpAny_call ?_
  (k_dflt (refine' code_def (binds := [(Str.ofString "cells", .ref D)]) ?k1 ?k2 ?k3 ?k4 ?k5 ?kA ?kF ?kK ?k6 ?k7 ?k8 ?k9 ?kB ?_ ?c2 ?c3 ?c4 ?c5; (case kA => exact rfl); (case kF => exact rfl); (case kK => assumption); (case k1 => k_asm); (case k2 => k_asm); (case k3 => k_asm); (case k4 => k_asm); (case k5 => k_asm); (case k6 => k_is); (case k7 => k_is); (case k8 => ktr_room); (case k9 => exact BindsTo.of_eq rfl); (case c5 => decide); (case kB => exact locs rfl); (case c2 => exact rfl); (case c3 => exact rfl); (case c4 => exact rfl); k_whole))
  intro g' L' h1 FG' F1 N1 B1 X1 T1
  (try dsimp only)
  (try k_fold)
  (repeat' ((fail_if_success (with_reducible show wpAny _ _ (pyIter (Value.ref _)) (fun it s₂ => LoopAtV _ _ _ _ _ _ _ _ _ it s₂) _ _)); first | (k_unfold; (try dsimp only)) | (k_end; wrow_close) | walk1 | (dsimp only; walk1) | (leave1; (try dsimp only)) | fail "no step"))
  rename IsRange _ _ 0 5 _ _ _ _ => Rz
  rename Fr g' _ _ _ => Fz
  rename News g' _ _ _ => Nz
  refine iter_range (n := 5) (MJ D [c0, c1, c2, c3, c4] _) (by rfl) Rz (by decide) (by decide) Fz Nz ⟨_, _, _, rfl, rfl, rfl, congrArg (fun z => some (Value.str z _)) (by decide +kernel : _ = unseenS), congrArg (fun z => some (Value.str z _)) (by decide +kernel : _ = turningS)⟩ ?_ ?_
  · rintro i u I oI m₁ news₁ h2' tk2 hi ⟨ta, tb, tc, rfl, e1, e2, e3, e4⟩ hoff F2 N2
    have F3 := Fr.ext F2 (kstB_ex _ _ [(Str.ofString "text", .str (mailP [c0, c1, c2, c3, c4] i) ta), (Str.ofString "cells", .ref D), (Str.ofString "unseen", .str unseenS tb), (Str.ofString "turning", .str turningS tc)]
      (by intro p hp; simp only [List.mem_cons, List.not_mem_nil, or_false] at hp; rcases hp with rfl | rfl | rfl | rfl <;> assumption))
    clear F2 e1 e2 e3 e4 Fz Nz Rz
    rw [show (0 : Int) + (i : Int) = (i : Int) by omega] at F3
    dsimp only [kstB] at F3
    have hPl : (mailP [c0, c1, c2, c3, c4] i).length ≤ 100 := by
      have := mailP_len [c0, c1, c2, c3, c4] i
      omega
    have hU : unseenS.length = 27 := rfl
    have hT : turningS.length = 15 := rfl
    have hc1 := Int.fmod_nonneg_of_pos (([c0, c1, c2, c3, c4].getD ((i : Int)).toNat 0).fdiv 4) (show (0 : Int) < 4 by decide)
    have hc2 := Int.fmod_lt_of_pos (([c0, c1, c2, c3, c4].getD ((i : Int)).toNat 0).fdiv 4) (show (0 : Int) < 4 by decide)
    have hc3 := Int.fmod_nonneg_of_pos (([c0, c1, c2, c3, c4].getD ((i : Int)).toNat 0).fdiv 16) (show (0 : Int) < 27 by decide)
    have hc4 := Int.fmod_lt_of_pos (([c0, c1, c2, c3, c4].getD ((i : Int)).toNat 0).fdiv 16) (show (0 : Int) < 27 by decide)
    have hc5 := Int.fmod_nonneg_of_pos (([c0, c1, c2, c3, c4].getD ((i : Int)).toNat 0).fdiv 16) (show (0 : Int) < 15 by decide)
    have hc6 := Int.fmod_lt_of_pos (([c0, c1, c2, c3, c4].getD ((i : Int)).toNat 0).fdiv 16) (show (0 : Int) < 15 by decide)
    clear hret B FG' hmem
    (repeat' ((fail_if_success (with_reducible show wpAny _ _ (eval (Expr.IfExp _ _ _ _) _) _ _ _)); first | (k_unfold; (try dsimp only)) | (k_end; wrow_close) | walk1 | (dsimp only; walk1) | (leave1; (try dsimp only)) | fail "no step"))
    rename _ = Txt.item unseenS _ => hf
    rename _ = Txt.item turningS _ => hs
    refine str_cut (R := rowB ([c0, c1, c2, c3, c4].getD ((i : Int)).toNat 0) i) ?_ ?_
    · k_steps
      all_goals (rename _ = _ ++ _ => hq; exact ⟨_, _, _, rfl, rfl, by rw [hq, hf, hs]; simp_all [rowB, rowF, rowS]⟩)
    · intro tq kq
      have hB := rowB_len ([c0, c1, c2, c3, c4].getD ((i : Int)).toNat 0) i
      generalize hG : rowB ([c0, c1, c2, c3, c4].getD ((i : Int)).toNat 0) i = bo at hB
      (repeat' ((fail_if_success (with_reducible show wpAny _ _ (subscriptTail _ _ (Value.ref _) (Value.int (Int.fmod _ _) _)) _ _ _)); first | (k_unfold; (try dsimp only)) | (k_end; wrow_close) | walk1 | (dsimp only; walk1) | (leave1; (try dsimp only)) | fail "no step"))
      k_dflt (refine kba_turn (value' := PySem.Expr.Name (PySem.Str.ofString "_") ⟨0, 0, 0, 0⟩) (fun _ => rfl) ?_)
      k_dflt (refine item4g (News.isList (by k_asm) (by k_mem)) (fmod_lo _ (by decide)) (fmod_hi _ (by decide)) (by first | decide +kernel | omega) (by first | decide +kernel | omega) (by first | decide +kernel | omega) (by first | decide +kernel | omega) ?_)
      intro r6 t6 hr6 hl6
      (repeat' ((fail_if_success (with_reducible show wpAny _ _ (subscriptTail _ _ (Value.ref _) (Value.int (Int.fmod _ _) _)) _ _ _)); first | (k_unfold; (try dsimp only)) | (k_end; wrow_close) | walk1 | (dsimp only; walk1) | (leave1; (try dsimp only)) | fail "no step"))
      k_dflt (refine kba_turn (value' := PySem.Expr.Name (PySem.Str.ofString "_") ⟨0, 0, 0, 0⟩) (fun _ => rfl) ?_)
      k_dflt (refine item3g (News.isList (by k_asm) (by k_mem)) (fmod_lo _ (by decide)) (fmod_hi _ (by decide)) (by first | decide +kernel | omega) (by first | decide +kernel | omega) (by first | decide +kernel | omega) ?_)
      intro r5 t5 hr5 hl5
      k_steps
      subst_vars
      (rename News g' _ _ _ => Nq)
      exact UnrEnd.intro (by k_asm) Nq _ (fun p hp => .tail _ (.tail _ (.tail _ hp))) hoff ⟨_, _, _, rfl, rfl, rfl, rfl, rfl⟩
  · rintro m₁ news₁ h2' tk2 ⟨ta, tb, tc, rfl, e1, e2, e3, e4⟩ F2 N2
    have F3 := Fr.ext F2 (kstB_ex0 [(Str.ofString "text", .str (mailP [c0, c1, c2, c3, c4] 5) ta), (Str.ofString "cells", .ref D), (Str.ofString "unseen", .str unseenS tb), (Str.ofString "turning", .str turningS tc)]
      (by intro p hp; simp only [List.mem_cons, List.not_mem_nil, or_false] at hp; rcases hp with rfl | rfl | rfl | rfl <;> assumption))
    clear F2 e1 e2 e3 e4 Fz Nz Rz
    dsimp only [kstB] at F3
    have hPl := mailP_len [c0, c1, c2, c3, c4] 5
    have hEl : (Str.ofString ".ͺ\n..").length = 5 := by decide +kernel
    k_steps
    rename _ = _ ++ _ => hq
    rename News h₀ L _ _ => Nf
    subst hq
    exact hret _ _ _ (by k_asm) (fun p hp => Nf p (.tail _ (.tail _ (.tail _ hp))))
end
section
open PySem PySem.W PyProof.Rows PySem.Spec PySem.Calls PyProof.V
open PyProof.Rows.LCg PyProof.Rows.LCt
set_option Elab.async false
set_option maxRecDepth 100000
noncomputable def dots (c : Int) : Int := (c.fdiv 4).fmod 4
theorem dots_le (c : Int) : (c.fdiv 4).fmod 4 ≤ ((3 : Nat) : Int) := by
  have := Int.fmod_lt_of_pos (c.fdiv 4) (show (0 : Int) < 4 by decide)
  omega
theorem sp_len (c : Int) : (Txt.mul (Str.ofString " ") ((c.fdiv 4).fmod 4)).length ≤ 1 * 3 := len_mul_leN (by decide) (dots_le c)
section
variable {prog : Program} {w : World} {A : Around} {E : Value → Shared → Prop} {s : Shared} {x y z : Str} {t u v : Tok} {Q : Value → Shared → Prop}
theorem add_le (hz : x.length + y.length ≤ 16777216) (h : ∀ t' k, (x ++ y).length = x.length + y.length → Q (.str (x ++ y) t') { s with toks := k }) : wpAny (model prog w) A (binaryOp .Add (.str x t) (.str y u)) Q E s :=
  SBL.add (fun t' k _ => h t' k (Str.length_append ..)) (by rw [sizeLine_eq]; omega)
end
local macro_rules | `(tactic| walk_at "binaryOp Add str str") => `(tactic| (k_here; k_dflt (refine' add_le ?a2 ?_; (case a2 => omega)); intro t8 k8 hk8))
noncomputable def colJ (c0 c1 c2 c3 c4 : Int) : Str := Txt.join (Str.ofString "") [Str.ofString "\t" ++ Txt.mul (Str.ofString " ") ((c0.fdiv 4).fmod 4), Str.ofString "\t" ++ Txt.mul (Str.ofString " ") ((c1.fdiv 4).fmod 4), Str.ofString "\t" ++ Txt.mul (Str.ofString " ") ((c2.fdiv 4).fmod 4), Str.ofString "\t" ++ Txt.mul (Str.ofString " ") ((c3.fdiv 4).fmod 4), Str.ofString "\t" ++ Txt.mul (Str.ofString " ") ((c4.fdiv 4).fmod 4)]
theorem colJ_len (c0 c1 c2 c3 c4 : Int) : (colJ c0 c1 c2 c3 c4).length ≤ 20 := by
  have h4 := StrLaws.join_length_le (Str.ofString "") [Str.ofString "\t" ++ Txt.mul (Str.ofString " ") ((c0.fdiv 4).fmod 4), Str.ofString "\t" ++ Txt.mul (Str.ofString " ") ((c1.fdiv 4).fmod 4), Str.ofString "\t" ++ Txt.mul (Str.ofString " ") ((c2.fdiv 4).fmod 4), Str.ofString "\t" ++ Txt.mul (Str.ofString " ") ((c3.fdiv 4).fmod 4), Str.ofString "\t" ++ Txt.mul (Str.ofString " ") ((c4.fdiv 4).fmod 4)]
  have h5 : (Str.ofString "").length = 0 := by decide +kernel
  have h6 : (Str.ofString "\t").length = 1 := by decide +kernel
  have e : colJ c0 c1 c2 c3 c4 = Str.join (Str.ofString "") _ := eq_of_beq (join_closes rfl)
  rw [e]
  refine Nat.le_trans h4 ?_
  have hm0 := sp_len c0
  have hm1 := sp_len c1
  have hm2 := sp_len c2
  have hm3 := sp_len c3
  have hm4 := sp_len c4
  simp only [List.map_cons, List.map_nil, List.sum_cons, List.sum_nil, Str.length_append, h5, h6]
  omega
noncomputable def cstep (size : Int) (col : Int) (c : Nat) : Int := if c = 32 then col + 1 else col + (size - col.fmod size)
noncomputable def colF (size : Int) (l : List Nat) : Int := l.foldl (cstep size) 0
theorem colF_snoc (size : Int) (l : List Nat) (c : Nat) : colF size (l ++ [c]) = cstep size (colF size l) c := by unfold colF; rw [List.foldl_append]; rfl
noncomputable def colText (c0 c1 c2 c3 c4 : Int) : Str := colJ c0 c1 c2 c3 c4 ++ Str.ofString "\t "
noncomputable def CJ (X : Str) (size : Int) (ts : Tok) (rest : List (Addr × Obj)) (i : Nat) (m : Str → Option Value) (news : List (Addr × Obj)) : Prop :=
  ∃ (tb : Tok), news = rest ∧ m (Str.ofString "column") = some (.int (colF size (X.cps.toList.take i)) tb) ∧ m (Str.ofString "size") = some (.int size ts)
local macro_rules | `(tactic| walk_at "eval ListComp") => `(tactic| (k_here; k_dflt (refine ListComp_LJ (F₀ := by k_asm) (by with_unfolding_all rfl) (by decide) (by rfl) (by decide) (by rfl) ?_)))
noncomputable def tabS (c : Int) : Str := Str.ofString "\t" ++ Txt.mul (Str.ofString " ") ((c.fdiv 4).fmod 4)
theorem tabS_len (c : Int) : (tabS c).length ≤ 4 := by
  have h6 : (Str.ofString "\t").length = 1 := by decide +kernel
  have := sp_len c
  unfold tabS
  rw [Str.length_append]; omega
noncomputable def colV (size c0 c1 c2 c3 c4 : Int) : Int := colF size (colText c0 c1 c2 c3 c4).cps.toList
theorem blank_eq (c : Nat) : ((⟨#[c]⟩ : Str) == Str.ofString " ") = decide (c = 32) := by
  have e : Str.ofString " " = ⟨#[32]⟩ := by decide +kernel
  rw [e]
  by_cases h : c = 32
  · subst h; simp
  · have : (⟨#[c]⟩ : Str) ≠ ⟨#[32]⟩ := by
      intro q
      have := congrArg (fun x : Str => x.cps.toList) q
      simp at this
      exact h this
    rw [beq_eq_false_iff_ne.mpr this, decide_eq_false h]
theorem cj_step {X : Str} {size : Int} {i c : Nat} (hc : X.cps[i]? = some c) : colF size (X.cps.toList.take (i + 1)) = cstep size (colF size (X.cps.toList.take i)) c := by
  rw [List.take_add_one, Array.getElem?_toList, hc]
  exact colF_snoc _ _ _
set_option maxHeartbeats 0 in
theorem col_tells {w : World} {p : Program} {loose : List Str} {mean : ExcName → Option Value} {mg mb : Str → Option Value} (D : Addr) (c0 c1 c2 c3 c4 size : Int) (t0 t1 t2 t3 t4 ts : Tok) (ep : Nat) (h0 : 0 ≤ c0) (h1 : 0 ≤ c1) (h2 : 0 ≤ c2) (h3 : 0 ≤ c3) (h4 : 0 ≤ c4) (hs : 1 ≤ size) (hs5 : size ≤ 5)
   (dp un : Nat) (gd : Option (List Code)) (cn : Str) (cs : Scope) (a : Addr) (ccd : Value) (cl : List (Str × Addr)) (outer : List Env) (A₀ : Around) (base h₀ : Heap) (L : Addr) (m : Str → Option Value) (news : List (Addr × Obj)) (s : Shared) (Q E : Value → Shared → Prop)
    (B : Below A₀ base outer h₀) (F : Fr h₀ L s.heap m) (X : (K w.params).In h₀) (N0 : News h₀ L s.heap news) (hmem : (D, listOf #[.int c0 t0, .int c1 t1, .int c2 t2, .int c3 t3, .int c4 t4] ep) ∈ news) (T : Top p loose mean mg mb h₀) (hk : cs.kind = .function) (XB : XF w base) (hd : dp + 3 < recursionLimit) (hu : un + 60 < cLine)
    (hret : ∀ (t : Tok) (h' : Heap) (tk' : Nat), Fr h₀ L h' m → News h₀ L h' news → Q (.int (colV size c0 c1 c2 c3 c4) t) { s with heap := h', toks := tk' }) :
    wpAny (model pw w) (ktrTop dp un gd cn cs L a ccd cl outer) (call (.ref 233) [.ref D, .int size ts]) Q E s := by
  have : (K w.params).length = (K w.params).length ∧ PySem.Challenge.rw_re0164_01.foot = 7 := ⟨rfl, rfl⟩
  revert this
  k_fill
  intro _
  have ht2 : (Str.ofString "\t ").length = 2 := by decide +kernel
  have hjl := colJ_len c0 c1 c2 c3 c4
  have N : News h₀ L s.heap ((D, listOf #[.int c0 t0, .int c1 t1, .int c2 t2, .int c3 t3, .int c4 t4] ep) :: news) := fun p hp => by
    rcases List.mem_cons.mp hp with rfl | hp
    · exact N0 _ hmem
    · exact N0 _ hp
  clear N0
  refine wpAny_call ?_
  (k_dflt (refine' code_def (binds := [(Str.ofString "cells", .ref D), (Str.ofString "size", .int size ts)]) ?k1 ?k2 ?k3 ?k4 ?k5 ?kA ?kF ?kK ?k6 ?k7 ?k8 ?k9 ?kB ?_ ?c2 ?c3 ?c4 ?c5; (case kA => exact rfl); (case kF => exact rfl); (case kK => assumption); (case k1 => k_asm); (case k2 => k_asm); (case k3 => k_asm); (case k4 => k_asm); (case k5 => k_asm); (case k6 => k_is); (case k7 => k_is); (case k8 => ktr_room); (case k9 => exact BindsTo.of_eq rfl); (case c5 => decide); (case kB => exact locs rfl); (case c2 => exact rfl); (case c3 => exact rfl); (case c4 => exact rfl); k_whole))
  intro g' L' h1 FG' F1 N1 B1 X1 T1
  (try dsimp only)
  (try k_fold)
  (repeat' ((fail_if_success (with_reducible show wpAny _ _ (pyIter (Value.str _ _)) (fun it s₂ => LoopAtV _ _ _ _ _ _ _ _ _ it s₂) _ _)); first | (k_unfold; (try dsimp only)) | (k_end; wrow_close) | walk1 | (dsimp only; walk1) | (leave1; (try dsimp only)) | fail "no step"))
  refine ⟨_, #[.int c0 t0, .int c1 t1, .int c2 t2, .int c3 t3, .int c4 t4], _, rfl, rfl, by k_asm, by k_asm, .inr ⟨_, .head _, rfl, _, rfl⟩, by rw [sizeLine_eq]; exact Nat.le_of_ble_eq_true rfl, fun s₃ hs₃ => restJ (fun i ys => StrsAre ys (([c0, c1, c2, c3, c4].take i).map tabS)) .nil (fun j v I8 oI8 C8 oC8 D8 m₈ ys h8 tk8 E8 hj hv hys hC8 hx8 F8 N8 off8 ne8 => ?_) ?_⟩
  · have hI5 : IntsAre [.int c0 t0, .int c1 t1, .int c2 t2, .int c3 t3, .int c4 t4] [c0, c1, c2, c3, c4] := by l_ints
    have hcj := List.getElem?_eq_getElem (l := [c0, c1, c2, c3, c4]) hj
    generalize [c0, c1, c2, c3, c4][j] = c at hcj
    obtain ⟨t, hvt⟩ := hI5.get j c hcj
    rw [show #[Value.int c0 t0, Value.int c1 t1, Value.int c2 t2, Value.int c3 t3, Value.int c4 t4] = [Value.int c0 t0, Value.int c1 t1, Value.int c2 t2, Value.int c3 t3, Value.int c4 t4].toArray from rfl, List.getElem?_toArray, hvt] at hv
    obtain rfl := Option.some.inj hv
    have hm := sp_len c
    have ht1 : (Str.ofString "\t").length = 1 := by decide +kernel
    k_steps
    refine LCg.CompEnd.intro (by k_asm) (by k_asm) _ (fun _ hp => hp) off8 (.inr ⟨_, .head _, rfl, _, rfl⟩) ⟨rfl, ?_⟩
    rw [List.take_add_one, hcj, List.map_append]
    exact kct_snoc hys
  · intro ys hy
    (try dsimp only)
    intro D9 h2 tk2 F2 N2 off2
    obtain ⟨_, rfl⟩ := hs₃
    (try dsimp only)
    k_steps
    refine join_listC (items := ys.toArray) (News.isList N2 (.head _)) (by simpa using hy) (by decide) ?_ ?_
    · have a0 := tabS_len c0
      have a1 := tabS_len c1
      have a2 := tabS_len c2
      have a3 := tabS_len c3
      have a4 := tabS_len c4
      simp only [List.map_cons, List.map_nil, List.sum_cons, List.sum_nil, List.length_cons, List.length_nil, List.size_toArray, List.take]
      omega
    intro t9 k9
    have hjl' : (Txt.join (Str.ofString "") [tabS c0, tabS c1, tabS c2, tabS c3, tabS c4]).length ≤ 20 := hjl
    have hT : colText c0 c1 c2 c3 c4 = Txt.join (Str.ofString "") [tabS c0, tabS c1, tabS c2, tabS c3, tabS c4] ++ Str.ofString "\t " := rfl
    generalize Txt.join (Str.ofString "") [tabS c0, tabS c1, tabS c2, tabS c3, tabS c4] = tx at hjl' hT ⊢
    have hret' := hret
    unfold colV at hret'
    rw [hT] at hret'
    clear hret hT hjl
    (repeat' ((fail_if_success (with_reducible show wpAny _ _ (pyIter (Value.str _ _)) (fun it s₂ => LoopAtV _ _ _ _ _ _ _ _ _ it s₂) _ _)); first | (k_unfold; (try dsimp only)) | (k_end; wrow_close) | walk1 | (dsimp only; walk1) | (leave1; (try dsimp only)) | fail "no step"))
    rename Fr g' _ _ _ => Fz
    rename News g' _ _ _ => Nz
    refine iter_text (CJ (tx ++ Str.ofString "\t ") size ts _) (by rfl) Fz Nz ⟨_, rfl, rfl, rfl⟩ ?_ ?_
    · rintro i c u I oI m₁ news₁ h2' tk2' hc ⟨tb, rfl, e1, e2⟩ hoff F3 N3
      have F4 := Fr.ext F3 (kstB_ex _ _ [(Str.ofString "column", .int (colF size ((tx ++ Str.ofString "\t ").cps.toList.take i)) tb), (Str.ofString "size", .int size ts)]
        (by intro p hp; simp only [List.mem_cons, List.not_mem_nil, or_false] at hp; rcases hp with rfl | rfl <;> assumption))
      clear F3 e1 e2 Fz Nz
      dsimp only [kstB] at F4
      have hst := cj_step (size := size) hc
      generalize colF size ((tx ++ Str.ofString "\t ").cps.toList.take i) = col at *
      k_steps
      · rename (_ == Str.ofString " ") = true => hq
        rw [blank_eq, decide_eq_true_eq] at hq
        have e9 : col + 1 = colF size (List.take (i + 1) (tx ++ Str.ofString "\t ").cps.toList) := by rw [hst, cstep, if_pos hq]
        exact UnrEnd.intro (by k_asm) (by k_asm) _ (fun p hp => hp) hoff ⟨_, rfl, congrArg (fun z => some (Value.int z _)) e9, rfl⟩
      · rename (_ == Str.ofString " ") = false => hq
        rw [blank_eq, decide_eq_false_iff_not] at hq
        have e9 : col + (size - col.fmod size) = colF size (List.take (i + 1) (tx ++ Str.ofString "\t ").cps.toList) := by rw [hst, cstep, if_neg hq]
        exact UnrEnd.intro (by k_asm) (by k_asm) _ (fun p hp => hp) hoff ⟨_, rfl, congrArg (fun z => some (Value.int z _)) e9, rfl⟩
    · rintro m₁ news₁ h2' tk2' ⟨tb, rfl, e1, e2⟩ F3 N3
      have F4 := Fr.ext F3 (kstB_ex0 [(Str.ofString "column", .int (colF size ((tx ++ Str.ofString "\t ").cps.toList.take (tx ++ Str.ofString "\t ").cps.size)) tb), (Str.ofString "size", .int size ts)]
        (by intro p hp; simp only [List.mem_cons, List.not_mem_nil, or_false] at hp; rcases hp with rfl | rfl <;> assumption))
      clear F3 e1 e2 Fz Nz
      dsimp only [kstB] at F4
      rw [← Array.length_toList, List.take_length] at F4
      k_steps
      rename News h₀ L _ _ => Nf
      exact hret' _ _ _ (by k_asm) (fun p hp => Nf p (.tail _ (.tail _ hp)))
end
section
open PySem PySem.W PyProof.Rows PySem.Spec PySem.Calls PyProof.V
open PyProof.Rows.LCg PyProof.Rows.LCt
set_option Elab.async false
set_option maxRecDepth 100000
local macro_rules | `(tactic| walk_at "call ref") => `(tactic| (k_here; k_dflt (refine use0 (b1_tells _ _) (by k_asm) (by k_asm) (by k_asm) (by k_asm) (by k_asm) (by first | exact rfl | assumption) (by assumption) (by ktr_room) (by ktr_units) ?_; intro t9 h9 tk9 F9 N9; (try dsimp only))))
local macro_rules | `(tactic| walk_at "call ref") => `(tactic| (k_here; k_dflt (refine use0 (c8_tells _ _) (by k_asm) (by k_asm) (by k_asm) (by k_asm) (by k_asm) (by first | exact rfl | assumption) (by assumption) (by ktr_room) (by ktr_units) ?_; intro t9 h9 tk9 F9 N9; (try dsimp only))))
local macro_rules | `(tactic| walk_at "exec Assign cons ListComp") => `(tactic| (k_here; (fail_if_success (rename StrsAre _ _ => zz)); k_dflt (refine Assign_ListComp_TS (F₀ := by k_asm) (by rfl) (by with_unfolding_all rfl) (by rfl) (by decide) (by rfl) (by decide) (by rfl) (by rfl) (by rfl) ?_)))
local macro_rules | `(tactic| walk_at "exec Assign cons ListComp") => `(tactic| (k_here; (fail_if_success (fail_if_success (rename StrsAre _ _ => zz))); k_dflt (refine Assign_ListComp_T (F₀ := by k_asm) (by rfl) (by with_unfolding_all rfl) (by rfl) (by decide) (by rfl) (by decide) (by rfl) (by rfl) (by rfl) ?_)))
theorem strs_at {f : Nat → Str} : ∀ {ys : List Value} {l : List Nat}, StrsAre ys (l.map f) → ∀ (i : Nat) (v : Value), ys[i]? = some v → ∃ c t, l[i]? = some c ∧ v = .str (f c) t
  | _, [], h, i, v, e => by cases h; simp at e
  | _, c :: l, h, i, v, e => by
    cases h with
    | cons _ t h =>
      cases i with
      | zero => simp at e; exact ⟨c, t, rfl, e.symm⟩
      | succ i => simpa using strs_at h i v (by simpa using e)
theorem strs_len {f : Nat → Str} {ys : List Value} {l : List Nat} (h : StrsAre ys (l.map f)) : ys.length = l.length := by rw [h.length, List.length_map]
noncomputable def keep1 (tb : Int) (c : Nat) : Bool := !(tb.fmod 2 == 1 && isB1 c)
noncomputable def keep2 (tb : Int) (c : Nat) : Bool := !(tb.fdiv 2 == 1 && isC8 c)
noncomputable def ones (c : Nat) : Str := ⟨#[c]⟩
section
variable {M : Model} {A : Around} {E : Value → Shared → Prop} {s : Shared} {env : Env} {scope : Scope} {cl : List (Str × Addr)} {C : Addr} {Q : Value → Shared → Prop} {h₀ : Heap} {L : Addr} {news : List (Addr × Obj)}
theorem ldCellN {x : Str} {pos : Pos} {c : Addr} {o : Obj} {v : Value} (N : News h₀ L s.heap news) (hm : (c, o) ∈ news) (hd0 : o.data = .cell (some v)) (hc : cl.lookup x = some c) (h : Q v s)
    (hk : (compEnvC scope cl C env).scope.kind = .function := by rfl) (hl : (compEnvC scope cl C env).kindOf x = some .cell := by rfl) (hd : (x == ("__debug__" : Str)) = false := by decide) :
    wpAny M A (eval (.Name x pos) (compEnvC scope cl C env)) Q E s := ldCellK hc ⟨o, (N _ hm).1, hd0⟩ h hk hl hd
end
local macro_rules | `(tactic| walk_at "eval Name") => `(tactic| (k_here; (with_reducible show wpAny _ _ (eval (Expr.Name _ _) (compEnvC _ _ _ _)) _ _ _); k_dflt (refine ldCellN (by k_asm) (by k_mem) (by assumption) (by rfl) ?_)))
noncomputable def relayL (tb : Int) (tx : Str) : List Nat := (tx.cps.toList.filter (keep1 tb)).filter (keep2 tb)
noncomputable def relayS (tb : Int) (tx : Str) : Str := ⟨(relayL tb tx).toArray⟩
noncomputable def relayT (tb : Int) (tx : Str) : Str := quoS (fixS (relayS tb tx))
theorem flat_ones (l : List Nat) : flat (l.map ones) = l := by
  induction l with
  | nil => rfl
  | cons c l ih => simp only [List.map_cons, flat, List.flatMap_cons] at *; rw [ih]; rfl
theorem join_ones' (l : List Nat) : Txt.join (Str.ofString "") (l.map ones) = ⟨l.toArray⟩ := by
  apply Str.ext'
  apply Array.toList_inj.mp
  rw [txt_join_flat _ (by decide +kernel), flat_ones]
theorem ones_sum (l : List Nat) : ((l.map ones).map (·.length)).sum = l.length := by
  induction l with
  | nil => rfl
  | cons c l ih =>
    show (ones c).length + ((l.map ones).map (·.length)).sum = l.length + 1
    rw [ih]
    show 1 + l.length = _
    omega
theorem sub43 {T C D1 D2 D3 x d : Addr × Obj} {rest : List (Addr × Obj)} : ∀ p ∈ T :: C :: x :: d :: rest, p ∈ T :: C :: x :: d :: D1 :: D2 :: D3 :: rest := fun p hp => by
  rcases List.mem_cons.mp hp with rfl | hp
  · exact .head _
  rcases List.mem_cons.mp hp with rfl | hp
  · exact .tail _ (.head _)
  rcases List.mem_cons.mp hp with rfl | hp
  · exact .tail _ (.tail _ (.head _))
  rcases List.mem_cons.mp hp with rfl | hp
  · exact .tail _ (.tail _ (.tail _ (.head _)))
  exact .tail _ (.tail _ (.tail _ (.tail _ (.tail _ (.tail _ (.tail _ hp))))))
theorem relay_tells {w : World} {p : Program} {loose : List Str} {mean : ExcName → Option Value} {mg mb : Str → Option Value} (tx : Str) (tk : Tok) (tb : Int) (tt : Tok) (h0 : 0 ≤ tb) (h3 : tb ≤ 3) (hlen : tx.length ≤ 50) (hpos : 0 < (relayL tb tx).length)
    (hl : (relayT tb tx).length ≤ 100) (hT : ∀ c ∈ (relayT tb tx).cps.toList, isB1 c = false → isC8 c = false → plainSign c) (pre post : List Nat) (hX : (leadText (relayT tb tx)).cps.toList = pre ++ 953 :: post) (hpre : ∀ c ∈ pre, c = 32 ∨ c = 9) :
    TellsW 8 120 w p loose mean mg mb 243 [.str tx tk, .int tb tt] (wrun pre) := by
  have : (K w.params).length = (K w.params).length ∧ PySem.Challenge.rw_re0164_01.foot = 7 := ⟨rfl, rfl⟩
  revert this
  k_fill
  intro _
  intro dp un gd cn cs a ccd cl outer A₀ base h₀ L m news s Q E B F X N T hk XB hd hu hret
  refine wpAny_call ?_
  (k_dflt (refine' code_defC (binds := [(Str.ofString "mail", .str tx tk), (Str.ofString "tables", .int tb tt)]) ?k1 ?k2 ?k3 ?k4 ?k5 ?kA ?kF ?kK ?k6 ?k7 ?k8 ?k9 ?kB ?kD ?_ ?c2 ?c3 ?c4; (case kA => exact rfl); (case kF => exact rfl); (case kK => assumption); (case k1 => k_asm); (case k2 => k_asm); (case k3 => k_asm); (case k4 => k_asm); (case k5 => k_asm); (case k6 => k_is); (case k7 => k_is); (case k8 => ktr_room); (case k9 => exact BindsTo.of_eq rfl); (case kB => exact rfl); (case kD => decide +kernel); (case c2 => exact rfl); (case c3 => exact rfl); (case c4 => exact rfl); k_whole; intro g' L' h' tk' cells' FG' F' N' Y' B' X' T' l1; (try k_lt l1); k_cells Y'; (try simp only [List.cons_append, List.nil_append] at N'); (try dsimp only); (try k_fold)))
  (rename Obj => oc)
  (rename oc.data = _ => dc0)
  have dc : oc.data = .cell (some (.int tb tt)) := dc0
  clear dc0
  have F2 := Fr.ext F' (m' := fun y => if y = Str.ofString "mail" then some (.str tx tk) else none) (fun y => by rfl)
  clear F'
  k_steps
  refine ⟨tx, _, _, rfl, rfl, by k_asm, by k_asm, ?_, fun s₂ hs₂ => restS (keep1 tb) ones rfl sign_hP (fun c t I oI C oC D m₂ ys h tk E' hc hC hx F N off ne => ?_) ?_⟩
  · rw [sizeLine_eq]; unfold PySem.Str.length at hlen; omega
  · k_steps
    all_goals (first | exact CompEnd.intro (by k_asm) (by k_asm) _ (fun _ hp => hp) off trivial ⟨rfl, by simp_all [keep1], _, rfl⟩ | exact CompEnd.intro (by k_asm) (by k_asm) _ (fun _ hp => hp) off trivial ⟨rfl, by simp_all [keep1]⟩)
  · intro ys hy
    (try dsimp only)
    intro D h1 tk1 F1 N1 off1
    (try dsimp only)
    have hyl := strs_len hy
    have hfl := List.length_filter_le (keep1 tb) tx.cps.toList
    have htl : tx.cps.toList.length ≤ 50 := by simpa [PySem.Str.length] using hlen
    k_steps
    refine CompSrcT.ledger (its := ys.toArray) (k := ys.length) (by rfl) (by k_asm) (by k_asm) (List.mem_cons_self ..) (by rw [sizeLine_eq]; simp; omega) (fun g9 => restS (cs := tx.cps.toList.filter (keep1 tb)) (keep2 tb) ones (by simp [hyl]) (fun i v _ hv => strs_at hy i v (by simpa using hv)) (fun c t I oI C oC D2 m₂ ys2 h tk E' hc hC hx F N off ne => ?_) ?_)
    · k_steps
      all_goals (first | exact CompEnd.intro (by k_asm) (by k_asm) _ (fun _ hp => hp) off (by lcg_src) ⟨rfl, by simp_all [keep2], _, rfl⟩ | exact CompEnd.intro (by k_asm) (by k_asm) _ (fun _ hp => hp) off (by lcg_src) ⟨rfl, by simp_all [keep2]⟩)
    · intro ys2 hy2
      (try dsimp only)
      intro D2 h2 tk2 F3 N3 off3
      (try dsimp only)
      k_steps
      have hfl2 := List.length_filter_le (keep2 tb) (tx.cps.toList.filter (keep1 tb))
      have hy2' : StrsAre ys2 (List.map ones (relayL tb tx)) := hy2
      have hrl : (relayL tb tx).length ≤ 50 := by unfold relayL; omega
      refine join_listC (ys := List.map ones (relayL tb tx)) (items := ys2.toArray) (News.isList N3 (.head _)) (by simpa using hy2') (by decide) (by rw [ones_sum, List.length_map]; omega) ?_
      intro t3 k3
      rw [join_ones', show (⟨(relayL tb tx).toArray⟩ : Str) = relayS tb tx from rfl]
      have hr1 : (relayS tb tx).length ≤ 100 := by
        show (relayL tb tx).toArray.size ≤ 100
        rw [List.size_toArray]; omega
      have hr2 : 0 < (relayS tb tx).length := by
        show 0 < (relayL tb tx).toArray.size
        rw [List.size_toArray]; exact hpos
      k_steps
      k_dflt (refine' use0 (quote_tells _ _ hr1 hr2) ?v1 ?v2 ?v3 ?v4 ?v5 ?vK ?vX ?vd ?vu ?vR; (case v1 => k_asm); (case v2 => k_asm); (case v3 => k_asm); (case v4 => k_asm); (case v5 => k_asm); (case vK => first | exact rfl | assumption); (case vX => assumption); (case vd => ktr_room); (case vu => ktr_units))
      intro t9 h9 tk9 F9 N9
      (try dsimp only)
      rw [show quoS (fixS (relayS tb tx)) = relayT tb tx from rfl]
      k_steps
      k_dflt (refine' useW (lead_tells _ _ hl hT pre post hX hpre) ?w1 ?w2 ?w3 ?w4 ?w5 ?wK ?wX ?wd ?wu ?wR; (case w1 => k_asm); (case w2 => k_asm); (case w3 => k_asm); (case w4 => k_asm); (case w5 => k_asm); (case wK => first | exact rfl | assumption); (case wX => assumption); (case wd => ktr_room); (case wu => ktr_units))
      intro x d T C xs tb' DD h' tk' hDD hxs F' N' hlt hord
      (try dsimp only)
      k_steps
      rename News h₀ L _ _ => Nf
      obtain ⟨_, rfl⟩ := hs₂
      exact hret x d T C xs tb' DD _ _ hDD hxs (by k_asm) (fun p hp => Nf p (sub43 p hp)) (fun p hp => hlt p (.tail _ (.tail _ (.tail _ hp)))) hord
end
section
open PySem PySem.W PyProof.Rows PySem.Spec PySem.Calls PyProof.V
set_option Elab.async false
set_option maxRecDepth 100000
theorem isList_keep {h h' : Heap} {a : Addr} {xs : Array Value} (x : h.IsList a xs) (k : ∀ b o, h.get? b = some o → h'.get? b = some o) : h'.IsList a xs := by
  obtain ⟨o, e, r⟩ := x
  exact ⟨o, k _ _ e, r⟩
section
variable {prog : Program} {w : World} {A : Around} {E : Value → Shared → Prop} {s : Shared}
theorem len_listI {C : Addr} {xs : List Value} {ns : List Int} {Q : Value → Shared → Prop} (ht : s.heap.IsList C xs.toArray) (hi : IntsAre xs ns) (hl : xs.length ≤ 300)
    (h : Q (.int (ns.length : Int) (s.toks + 1)) { s with toks := s.toks + 1 + 1 }) : wpAny (model prog w) A (call (.builtin "len") [.ref C]) Q E s := by
  have e := hi.length
  refine len_list ht (by rw [List.size_toArray]; omega) ?_
  rw [List.size_toArray, e]; exact h
theorem tail_listI {value slice : PySem.Expr} {C : Addr} {xs : List Value} {ns : List Int} {k : Int} {u : Tok} {Q : Value → Shared → Prop} (ht : s.heap.IsList C xs.toArray) (hi : IntsAre xs ns) (hl : xs.length ≤ 300)
    (h0 : 0 ≤ k) (h1 : k < ns.length) (h : ∀ t, Q (.int (ns.getD k.toNat 0) t) s)
    (hs : subscripted slice false (.ref C) (.int k u) = operate [.ref C, .int k u] (getItem (.ref C) (.int k u)) := by with_unfolding_all rfl) (hg : ∀ r, letTemporaryGo value (.ref C) r = pure () := by intro _; with_unfolding_all rfl) :
    wpAny (model prog w) A (subscriptTail value slice (.ref C) (.int k u)) Q E s := by
  have e := hi.length
  obtain ⟨t, hx⟩ := hi.get k.toNat _ (ints_getD h0 h1)
  exact item_list ht h0 (by omega) (by simpa using hx) (h t) hs hg
end
local macro_rules | `(tactic| walk_at "call builtin:len") => `(tactic| (k_here; (with_reducible show wpAny _ _ (call (Value.builtin "len") [Value.ref _]) _ _ _); k_dflt (refine' len_listI ?k1 ?k2 ?k3 ?_; (case k1 => exact isList_keep (by assumption) (Fr.keep (by k_asm))); (case k2 => assumption); (case k3 => omega))))
local macro_rules | `(tactic| walk_at "subscriptTail Name Name ref int") => `(tactic| (k_here; k_dflt (refine tail_listI (isList_keep (by assumption) (Fr.keep (by k_asm))) (by assumption) (by omega) (by omega) (by omega) ?_); intro _))
theorem set_nonneg {ns : List Int} (h : ∀ n ∈ ns, 0 ≤ n) (k : Nat) (v : Int) (hv : 0 ≤ v) : ∀ n ∈ ns.set k v, 0 ≤ n := fun n hn => by
  rcases List.mem_or_eq_of_mem_set hn with h1 | rfl
  · exact h n h1
  · exact hv
theorem getD_nonneg {ns : List Int} (h : ∀ n ∈ ns, 0 ≤ n) (k : Nat) : 0 ≤ ns.getD k 0 := by
  rw [List.getD_eq_getElem?_getD]
  cases e : ns[k]? with
  | none => exact Int.le_refl 0
  | some y => exact h y (List.mem_of_getElem? e)
noncomputable def CEJ (a : Addr) (rest : List (Addr × Obj)) (i : Nat) (m : Str → Option Value) (news : List (Addr × Obj)) : Prop :=
  ∃ (D : Addr) (vs : List Value) (ns : List Int) (ep : Nat), news = (D, listOf vs.toArray ep) :: rest ∧ IntsAre vs ns ∧ ns.length = 5 ∧ (∀ n ∈ ns, 0 ≤ n) ∧ (∀ p ∈ rest, p.1 < D) ∧ m (Str.ofString "cells") = some (.ref D) ∧ m (Str.ofString "script") = some (.ref a)
set_option maxHeartbeats 0 in
theorem cells_tells {w : World} {p : Program} {loose : List Str} {mean : ExcName → Option Value} {mg mb : Str → Option Value} (a0 : Addr) (xs : List Value) (ms : List Int) (hms : IntsAre xs ms) (hml : xs.length ≤ 63)
   (dp un : Nat) (gd : Option (List Code)) (cn : Str) (cs : Scope) (a : Addr) (ccd : Value) (cl : List (Str × Addr)) (outer : List Env) (A₀ : Around) (base h₀ : Heap) (L : Addr) (m : Str → Option Value) (news : List (Addr × Obj)) (s : Shared) (Q E : Value → Shared → Prop)
    (B : Below A₀ base outer h₀) (F : Fr h₀ L s.heap m) (X : (K w.params).In h₀) (N : News h₀ L s.heap news) (hl0 : base.IsList a0 xs.toArray) (T : Top p loose mean mg mb h₀) (hk : cs.kind = .function) (XB : XF w base) (hd : dp + 3 < recursionLimit) (hu : un + 60 < cLine)
    (hret : ∀ (D : Addr) (vs : List Value) (ns : List Int) (ep : Nat) (h' : Heap) (tk' : Nat), IntsAre vs ns → ns.length = 5 → (∀ n ∈ ns, 0 ≤ n) → Fr h₀ L h' m → News h₀ L h' ((D, listOf vs.toArray ep) :: news) → (∀ p ∈ news, p.1 < D) → Q (.ref D) { s with heap := h', toks := tk' }) :
    wpAny (model pw w) (ktrTop dp un gd cn cs L a ccd cl outer) (call (.ref 223) [.ref a0]) Q E s := by
  have : (K w.params).length = (K w.params).length ∧ PySem.Challenge.rw_re0164_01.foot = 7 := ⟨rfl, rfl⟩
  revert this
  k_fill
  intro _
  refine wpAny_call ?_
  (k_dflt (refine' code_def (binds := [(Str.ofString "script", .ref a0)]) ?k1 ?k2 ?k3 ?k4 ?k5 ?kA ?kF ?kK ?k6 ?k7 ?k8 ?k9 ?kB ?_ ?c2 ?c3 ?c4 ?c5; (case kA => exact rfl); (case kF => exact rfl); (case kK => assumption); (case k1 => k_asm); (case k2 => k_asm); (case k3 => k_asm); (case k4 => k_asm); (case k5 => k_asm); (case k6 => k_is); (case k7 => k_is); (case k8 => ktr_room); (case k9 => exact BindsTo.of_eq rfl); (case c5 => decide); (case kB => exact locs rfl); (case c2 => exact rfl); (case c3 => exact rfl); (case c4 => exact rfl); k_whole))
  intro g' L' h1 FG' F1 N1 B1 X1 T1
  (try dsimp only)
  (try k_fold)
  have hlg : g'.IsList a0 xs.toArray := by
    obtain ⟨ob, e1, e2⟩ := hl0
    exact ⟨ob, B1.stays _ _ e1, e2⟩
  (repeat' ((fail_if_success (with_reducible show wpAny _ _ (pyIter (Value.ref _)) (fun it s₂ => LoopAtV _ _ _ _ _ _ _ _ _ it s₂) _ _)); first | (k_unfold; (try dsimp only)) | (k_end; wrow_close) | walk1 | (dsimp only; walk1) | (leave1; (try dsimp only)) | fail "no step"))
  rename IsRange _ _ _ _ _ _ _ _ => Rz
  rename Fr g' _ _ _ => Fz
  rename News g' _ _ _ => Nz
  have hln := hms.length
  refine iter_range (n := ms.length) (CEJ a0 _) (by rfl) Rz ?sm ?rs Fz Nz ⟨_, _, [4, 13, 2, 7, 5], _, rfl, by l_ints, rfl, by decide, by assumption, rfl, rfl⟩ ?_ ?_
  case sm => exact small_one (by omega) (by omega) (by omega) (by omega)
  case rs => rw [rangeSize_one]; split <;> omega
  · rintro i u I oI m₁ news₁ h2 tk2 hi ⟨D, vs, ns, ep, rfl, hvs, h5, h0, hD, e1, e2⟩ hoff F2 N2
    have F3 := Fr.ext F2 (kstB_ex _ _ [(Str.ofString "cells", .ref D), (Str.ofString "script", .ref a0)]
      (by intro p hp; simp only [List.mem_cons, List.not_mem_nil, or_false] at hp; rcases hp with rfl | rfl <;> assumption))
    clear F2 e1 e2 Fz Nz Rz
    rw [show (0 : Int) + (i : Int) = (i : Int) by omega] at F3
    dsimp only [kstB] at F3
    have hDI : @Ne Nat D I := hoff _ (.head _)
    have hoffR := fun p hp => hoff p (List.mem_cons_of_mem _ hp)
    have hoff' : ∀ o, ∀ p ∈ (D, o) :: news, p.1 ≠ I := fun o => off_cons hDI hoffR
    have hm0 := Int.fmod_nonneg_of_pos (i : Int) (show (0 : Int) < 5 by decide)
    have hm1 := Int.fmod_lt_of_pos (i : Int) (show (0 : Int) < 5 by decide)
    clear hret hoffR B
    k_steps
    rename IntsAre (List.set _ _ _) _ => q2
    exact UnrEnd.intro (by k_asm) (by k_asm) _ (fun p hp => hp) (hoff' _) ⟨D, _, _, _, rfl, q2, by rw [List.length_set]; exact h5, set_nonneg h0 _ _ (Int.add_nonneg (getD_nonneg h0 _) (Int.fmod_nonneg_of_pos _ (by decide))), hD, rfl, rfl⟩
  · rintro m₁ news₁ h2 tk2 ⟨D, vs, ns, ep, rfl, hvs, h5, h0, hD, e1, e2⟩ F2 N2
    have F3 := Fr.ext F2 (kstB_ex0 [(Str.ofString "cells", .ref D), (Str.ofString "script", .ref a0)]
      (by intro p hp; simp only [List.mem_cons, List.not_mem_nil, or_false] at hp; rcases hp with rfl | rfl <;> assumption))
    clear F2 e1 e2 Fz Nz Rz
    dsimp only [kstB] at F3
    k_steps
    rename News h₀ L _ _ => Nf
    exact hret D vs ns ep _ _ hvs h5 h0 (by k_asm) Nf hD
end
section
open PySem PySem.W PyProof.Rows PySem.Spec PySem.Calls PyProof.V
open PyProof.Rows.LCg PyProof.Rows.LCt
set_option Elab.async false
set_option maxRecDepth 100000
theorem allLt_mem {d : Nat} : ∀ {l : List (Addr × Obj)}, AllLt d l → ∀ p ∈ l, p.1 < d
  | [], _, p, hp => by cases hp
  | q :: r, h, p, hp => by
    rcases List.mem_cons.mp hp with rfl | hp
    · exact h.1
    · exact allLt_mem h.2 p hp
theorem allLt_ne {d : Addr} {l : List (Addr × Obj)} (h : AllLt d l) : ∀ p ∈ l, @Ne Nat p.1 d := fun p hp => Nat.ne_of_lt (allLt_mem h p hp)
section
variable {prog : Program} {w : World} {A : Around} {E : Value → Shared → Prop} {s : Shared} {h₀ : Heap} {L : Addr} {m : Str → Option Value} {env : Env}
/-- a comprehension without a test over a range of any step -/
noncomputable def SrcStep (prog : Program) (w : World) (A : Around) (h₀ : Heap) (L : Addr) (m : Str → Option Value) (env : Env) (elt : PySem.Expr) (x : Str) (scope : Scope) (cl : List (Str × Addr)) (Fin : Shared → List Value → List (Addr × Obj) → Prop) (xv : Value) (s₁ : Shared) : Prop :=
  ∃ r a b c t u v n news, xv = .ref r ∧ A.handled = none ∧ Fr h₀ L s₁.heap m ∧ News h₀ L s₁.heap news ∧ IsRange s₁.heap r a b c t u v ∧ Builtin.Range.small a b c = true ∧ Builtin.Range.rangeSize a b c = ((n : Nat) : Int) ∧ n ≤ sizeLine ∧
    ∀ s₂ : Shared, (∃ h, s₂ = { s₁ with heap := h }) → CompRest prog w A h₀ L m env elt x scope cl s₂ (fun _ => True) (fun i v => ∃ t, v = .int (a + (i : Nat) * c) t) (Fin s₂) n 0 [] news
theorem range_stc {I : Addr} {a c : Int} {n : Nat} : ∀ i (h h' : Heap) (o : Obj) (nw : List (Addr × Obj)), IsRangeIter h I (a + (i : Nat) * c) ((n : Int) - (i : Nat)) c → h.get? I = some o → h'.get? I = some o → (∀ b o, h₀.get? b = some o → h'.get? b = some o) → News h₀ L h' nw → (fun _ : List (Addr × Obj) => True) nw → IsRangeIter h' I (a + (i : Nat) * c) ((n : Int) - (i : Nat)) c :=
  fun i h h' o nw st e e' _ _ _ => by
    have st' : h.get? I = some _ := st
    show h'.get? I = some _
    rw [e', ← e]; exact st'
theorem ListComp_US {elt iter : PySem.Expr} {x : Str} {px : Pos} {scope : Scope} {cl : List (Str × Addr)} {pos : Pos} {Q : Value → Shared → Prop} (F₀ : Fr h₀ L s.heap m)
    (hclos : closureFor scope env = pure cl) (hcell : ∀ y ∈ scope.names, y.2 ≠ .cell) (hkind : scope.kind = .function)
    (hnames : ∀ y ∈ scope.names, y.2 = .local → scope.names.lookup y.1 = some .local) (hx : scope.names.lookup x = some .local)
    (h : wpAny (model prog w) A (eval iter env) (SrcStep prog w A h₀ L m env elt x scope cl (fun s₂ => FinE h₀ L m s₂ Q)) E s)
    (hs : ∀ x, foldedSetIterable iter env x = pure x := by intro _; rfl) :
    wpAny (model prog w) A (eval (.ListComp elt [⟨.Name x px, iter, [], 0⟩] scope pos) env) Q E s := by
  rw [eval_ListComp]
  refine wpAny_comprehension_free (use := none) rfl hs hclos hkind hnames (wpAny_mono h (fun xv s₁ h₁ => ?_) fun _ _ e => e)
  obtain ⟨r, a, b, c, t, u, v, n, news, rfl, hh, F, N, hr, hsm, hn, hsz, R⟩ := h₁
  refine wpAny_pyIter_range hr hsm ?_
  refine block_U (S := fun _ => True) (Walks.range hh _ a c n) hsz (fun i h st => ⟨_, st⟩) range_stc hcell hkind hx (by show IsRangeIter _ _ _ _ _; rw [hn]; simpa using Heap.get?_push_size _ rfl) (fun b hb => ?_)
    (F.keeps fun _ _ e => Heap.get?_push_of_some _ e) (N.grown fun _ _ e => Heap.get?_push_of_some _ e) (Nat.ne_of_lt F.ns.lt) (next_is_new F) (fun p hp => Nat.ne_of_lt (Heap.lt_size (N p hp).1)) trivial (R _ ⟨_, rfl⟩) ?_
  · rw [List.mem_singleton.mp hb]
    show s₁.heap.objs.size < (s₁.heap.push _).objs.size
    rw [Heap.size_push]; exact Nat.lt_succ_self _
  · intro D C h tk m' ys news' F' N' o1 hn hC₀ hD₀ hCL hDL hCD offC fin
    refine ⟨m', hn, fun h'' hs'' => fin D h'' tk (F'.change hs'' hCL hC₀) (fun p hp => ?_) o1⟩
    refine ⟨hs''.extBut _ _ ?_ (N' p hp).1, (N' p hp).2⟩
    rcases List.mem_cons.mp hp with rfl | hp
    · exact Ne.symm hCD
    · exact offC p hp
end
noncomputable def IEl (news : List (Addr × Obj)) (r : Int) (y : Value) (news' : List (Addr × Obj)) : Prop := news' = news ∧ ∃ u : Tok, y = .int r u
theorem ints_snoc : ∀ {vs : List Value} {ns : List Int} {k : Int} {t : Tok}, IntsAre vs ns → IntsAre (vs ++ [.int k t]) (ns ++ [k])
  | _, _, _, _, .nil => .cons _ _ .nil
  | _, _, _, _, .cons _ _ h => .cons _ _ (ints_snoc h)
section
variable {prog : Program} {w : World} {A : Around} {h₀ : Heap} {L : Addr} {m : Str → Option Value} {env : Env} {elt : PySem.Expr} {x : Str} {scope : Scope} {cl : List (Str × Addr)} {s : Shared} {S : List (Addr × Obj) → Prop} {P : Nat → Value → Prop} {Fin : List Value → List (Addr × Obj) → Prop} {news : List (Addr × Obj)}
/-- a comprehension of ints: each turn's value told -/
theorem restI {n : Nat} {ks : List Int} (val : Int → Int) (hks : ks.length = n) (hP : ∀ i v, i < n → P i v → ∃ k t, ks[i]? = some k ∧ v = .int k t)
    (turn : ∀ k t I oI C oC D m₂ ys h tk (E' : Value → Shared → Prop), k ∈ ks → LCg.NsObj oC m₂ → m₂ x = some (.int k t) → Fr h₀ L h m → News h₀ L h ((I, oI) :: (C, oC) :: (D, LCg.lst ys) :: news) → LCg.Off3 I C D news → ((@Ne Nat I C) ∧ (@Ne Nat I D) ∧ (@Ne Nat C D)) →
      wpAny (model prog w) A (eval elt (compEnvC scope cl C env)) (LCg.CompEnd h₀ L m { s with heap := h, toks := tk } I oI C oC D (LCg.lst ys) S (IEl news (val k))) E' { s with heap := h, toks := tk })
    (fin : ∀ ys, IntsAre ys (ks.map val) → Fin ys news) : LCg.CompRest prog w A h₀ L m env elt x scope cl s S P Fin n 0 [] news := by
  have key : ∀ (j i : Nat) (ys : List Value), i + j = n → IntsAre ys ((ks.take i).map val) → LCg.CompRest prog w A h₀ L m env elt x scope cl s S P Fin j i ys news := by
    intro j
    induction j with
    | zero =>
      intro i ys hi hy
      have e : i = ks.length := by omega
      subst e
      rw [List.take_length] at hy
      exact LCg.CompRest.zero (fin ys hy)
    | succ j ih =>
      intro i ys hi hy
      refine LCg.CompRest.succ ?_
      intro v I oI C oC D m₂ h tk E' hv hC hx F N off ne
      obtain ⟨k, t, hc, hv'⟩ := hP i v (by omega) hv
      rw [hv'] at hx
      refine wpAny_mono (turn k t I oI C oC D m₂ ys h tk E' (List.mem_of_getElem? hc) hC hx F N off ne) (fun y s₃ hr => ?_) fun _ _ e => e
      obtain ⟨h', tk', nw, e, F', N', off', hS, hn, u, hy'⟩ := hr
      rw [hn] at N' off' hS
      refine ⟨h', tk', news, e, F', N', off', hS, ?_⟩
      rw [hy']
      refine ih (i + 1) _ (by omega) ?_
      rw [List.take_add_one, hc, List.map_append]
      exact ints_snoc hy
  exact key n 0 [] (by omega) (by simp only [List.take_zero, List.map_nil]; exact .nil)
end
end
section
open PySem PySem.W PyProof.Rows PySem.Spec PySem.Calls PyProof.V
open PyProof.Rows.LCg PyProof.Rows.LCt
set_option Elab.async false
set_option maxRecDepth 100000
local macro_rules | `(tactic| k_all) => `(tactic| first | assumption | exact allLt_ne (by assumption) | exact allLt_ne (And.right (by assumption)) | exact allLt_ne (And.right (And.right (by assumption))) | exact allLt_ne (And.right (And.right (And.right (by assumption)))) | exact allLt_ne (And.right (And.right (And.right (And.right (by assumption))))) | exact allLt_ne (And.right (And.right (And.right (And.right (And.right (by assumption)))))) | exact allLt_ne (And.right (And.right (And.right (And.right (And.right (And.right (by assumption))))))))
local macro_rules | `(tactic| walk_at "eval Name") => `(tactic| (k_here; (with_reducible show wpAny _ _ (eval (Expr.Name _ _) (compEnvC _ _ _ _)) _ _ _); k_dflt (refine ldCellN (by k_asm) (by k_mem) (by assumption) (by rfl) ?_)))
local macro_rules | `(tactic| walk_at "eval ListComp") => `(tactic| (k_here; k_dflt (refine ListComp_US (F₀ := by k_asm) (by with_unfolding_all rfl) (by decide) (by rfl) (by decide) (by rfl) ?_)))
local macro_rules | `(tactic| walk_at "subscriptTail") => `(tactic| (k_here; k_dflt (refine tail_listI (News.isList (by k_asm) (by k_mem)) (by assumption) (by first | decide | omega) (by omega) (by first | omega | (simp only [List.length_cons, List.length_nil]; omega)) ?_); intro _))
noncomputable def kl (d : Nat) : List Int := if d = 1 then [2, 3, 4] else if d = 2 then [4] else []
noncomputable def cnt (ms : List Int) : Nat → List Int
  | 0 => [0, 0, 0, 0, 0]
  | i + 1 => (cnt ms i).set (4 - i) (ms.getD (3 - i) 0 - ((kl (4 - i)).map fun k => (cnt ms i).getD k.toNat 0).sum)
theorem cnt_len (ms : List Int) : ∀ i, (cnt ms i).length = 5
  | 0 => rfl
  | i + 1 => by rw [cnt, List.length_set]; exact cnt_len ms i
theorem kl_bd (d : Nat) : ∀ k ∈ kl d, 2 ≤ k ∧ k ≤ 4 := by
  unfold kl
  split
  · decide
  · split
    · decide
    · decide
theorem cnt4 (c0 c1 c2 c3 : Int) : List.drop 1 (cnt [c0, c1, c2, c3] 4) = [c0 - (c1 - c3 + c2 + c3), c1 - c3, c2, c3] := by
  simp [cnt, kl]
  omega
theorem sub11 {p0 p1 p2 p3 p4 : Addr × Obj} {rest : List (Addr × Obj)} : ∀ p ∈ p0 :: rest, p ∈ p0 :: p1 :: p2 :: p3 :: p4 :: rest := fun p hp => by
  rcases List.mem_cons.mp hp with rfl | hp
  · exact .head _
  · exact .tail _ (.tail _ (.tail _ (.tail _ (.tail _ hp))))
noncomputable def CNJ (D D' : Addr) (ms : List Int) (rest : List (Addr × Obj)) (i : Nat) (m : Str → Option Value) (news : List (Addr × Obj)) : Prop :=
  ∃ (vs : List Value) (ep : Nat), news = (D', listOf vs.toArray ep) :: rest ∧ IntsAre vs (cnt ms i) ∧ m (Str.ofString "multiples") = some (.ref D)
set_option maxHeartbeats 0 in
theorem counts_tells {w : World} {p : Program} {loose : List Str} {mean : ExcName → Option Value} {mg mb : Str → Option Value} (D : Addr) (c0 c1 c2 c3 : Int) (t0 t1 t2 t3 : Tok) (ep : Nat)
   (dp un : Nat) (gd : Option (List Code)) (cn : Str) (cs : Scope) (a : Addr) (ccd : Value) (cl : List (Str × Addr)) (outer : List Env) (A₀ : Around) (base h₀ : Heap) (L : Addr) (m : Str → Option Value) (news : List (Addr × Obj)) (s : Shared) (Q E : Value → Shared → Prop)
    (B : Below A₀ base outer h₀) (F : Fr h₀ L s.heap m) (X : (K w.params).In h₀) (N0 : News h₀ L s.heap news) (hmem : (D, listOf #[.int c0 t0, .int c1 t1, .int c2 t2, .int c3 t3] ep) ∈ news) (T : Top p loose mean mg mb h₀) (hk : cs.kind = .function) (XB : XF w base) (hd : dp + 3 < recursionLimit) (hu : un + 60 < cLine)
    (hret : ∀ (D' : Addr) (vs : List Value) (h' : Heap) (tk' : Nat), IntsAre vs [c0 - (c1 - c3 + c2 + c3), c1 - c3, c2, c3] → Fr h₀ L h' m → News h₀ L h' ((D', listOf vs.toArray 0) :: news) → (∀ p ∈ news, p.1 < D') → Q (.ref D') { s with heap := h', toks := tk' }) :
    wpAny (model pw w) (ktrTop dp un gd cn cs L a ccd cl outer) (call (.ref 248) [.ref D]) Q E s := by
  have : (K w.params).length = (K w.params).length ∧ PySem.Challenge.rw_re0164_01.foot = 7 := ⟨rfl, rfl⟩
  revert this
  k_fill
  intro _
  have N : News h₀ L s.heap ((D, listOf #[.int c0 t0, .int c1 t1, .int c2 t2, .int c3 t3] ep) :: news) := fun p hp => by
    rcases List.mem_cons.mp hp with rfl | hp
    · exact N0 _ hmem
    · exact N0 _ hp
  clear N0
  refine wpAny_call ?_
  (k_dflt (refine' code_defC (binds := [(Str.ofString "multiples", .ref D)]) ?k1 ?k2 ?k3 ?k4 ?k5 ?kA ?kF ?kK ?k6 ?k7 ?k8 ?k9 ?kB ?kD ?_ ?c2 ?c3 ?c4; (case kA => exact rfl); (case kF => exact rfl); (case kK => assumption); (case k1 => k_asm); (case k2 => k_asm); (case k3 => k_asm); (case k4 => k_asm); (case k5 => k_asm); (case k6 => k_is); (case k7 => k_is); (case k8 => ktr_room); (case k9 => exact BindsTo.of_eq rfl); (case kB => exact rfl); (case kD => decide +kernel); (case c2 => exact rfl); (case c3 => exact rfl); (case c4 => exact rfl); k_whole; intro g' L' h' tk' cells' FG' F' N' Y' B' X' T' l1; (try k_lt l1); k_cells Y'; (try simp only [List.cons_append, List.nil_append] at N'); (try dsimp only); (try k_fold)))
  have l2 : AllLt (L' + 1) news := allLt_of fun p hp => Nat.lt_succ_of_lt (allLt_mem l1.2 p hp)
  have F2 := Fr.ext F' (m' := fun y => if y = Str.ofString "multiples" then some (.ref D) else none) (fun y => by rfl)
  clear F'
  (repeat' ((fail_if_success (with_reducible show wpAny _ _ (pyIter (Value.ref _)) (fun it s₂ => LoopAtV _ _ _ _ _ _ _ _ _ it s₂) _ _)); first | (k_unfold; (try dsimp only)) | (k_end; wrow_close) | walk1 | (dsimp only; walk1) | (leave1; (try dsimp only)) | fail "no step"))
  rename IsRange _ _ _ _ _ _ _ _ => Rz
  rename Fr g' _ _ _ => Fz
  rename News g' _ _ _ => Nz
  rename _ = Data.cell (some (Value.ref _)) => dcell
  rename _ ∧ L' + 1 < _ ∧ _ ∧ AllLt _ news => hD9
  refine iter_rangeC (n := 4) (CNJ D _ [c0, c1, c2, c3] _) (by rfl) Rz (by decide) (by decide) Fz Nz ⟨_, _, rfl, by l_ints, rfl⟩ ?_ ?_
  · rintro i u I oI m₁ news₁ h2 tk2 hi ⟨vs, ep9, rfl, hvs, e1⟩ hoff F2 N2
    have F3 := Fr.ext F2 (kstB_ex _ _ [(Str.ofString "multiples", .ref D)]
      (by intro p hp; simp only [List.mem_cons, List.not_mem_nil, or_false] at hp; rcases hp with rfl; assumption))
    clear F2 e1 Fz Nz Rz
    rw [show (4 : Int) + (i : Int) * -1 = ((4 - i : Nat) : Int) by omega] at F3
    dsimp only [kstB] at F3
    have h4 : (4 - i = 1 ∨ 4 - i = 2 ∨ 4 - i = 3 ∨ 4 - i = 4) := by omega
    have hi3 : 3 - i = (4 - i) - 1 := by omega
    have hstep : cnt [c0, c1, c2, c3] (i + 1) = (cnt [c0, c1, c2, c3] i).set (4 - i) ([c0, c1, c2, c3].getD ((4 - i) - 1) 0 - ((kl (4 - i)).map fun k => (cnt [c0, c1, c2, c3] i).getD k.toNat 0).sum) := by rw [← hi3]; rfl
    have hcl := cnt_len [c0, c1, c2, c3] i
    generalize cnt [c0, c1, c2, c3] i = cs9 at *
    generalize 4 - i = d at *
    have hd1 : 1 ≤ d ∧ d ≤ 4 := by omega
    have hvl := hvs.length
    have hI4 : IntsAre [.int c0 t0, .int c1 t1, .int c2 t2, .int c3 t3] [c0, c1, c2, c3] := by l_ints
    have hDI : @Ne Nat _ I := hoff _ (.head _)
    clear hret hmem B
    k_steps
    rename IsRange _ _ (2 * (d : Int)) 5 _ _ _ _ => Rr
    refine ⟨_, _, _, _, _, _, _, (kl d).length, _, rfl, rfl, by k_asm, by k_asm, Rr, ?_, ?_, ?_, fun s₂ hs₂ => restI (ks := kl d) (fun k => cs9.getD k.toNat 0) rfl ?_ (fun k t I9 oI9 C oC D9 m₂ ys h tk E' hc hC hx F N off ne => ?_) ?_⟩
    · rcases h4 with rfl | rfl | rfl | rfl <;> decide
    · rcases h4 with rfl | rfl | rfl | rfl <;> decide
    · rcases h4 with rfl | rfl | rfl | rfl <;> (rw [sizeLine_eq]; decide)
    · rintro j v hj ⟨t, rfl⟩
      refine ⟨_, t, ?_, rfl⟩
      rcases h4 with rfl | rfl | rfl | rfl
      · match j, hj with
        | 0, _ => rfl
        | 1, _ => rfl
        | 2, _ => rfl
      · match j, hj with
        | 0, _ => rfl
      · exact absurd hj (Nat.not_lt_zero _)
      · exact absurd hj (Nat.not_lt_zero _)
    · have hk := kl_bd d k hc
      k_steps
      exact LCg.CompEnd.intro (by k_asm) (by k_asm) _ (fun _ hp => hp) off trivial ⟨rfl, _, rfl⟩
    · intro ys hy
      (try dsimp only)
      intro D9 h1 tk1 F1 N1 off1
      (try dsimp only)
      simp only [LCg.Off1] at off1
      obtain ⟨_, rfl⟩ := hs₂
      k_steps
      rename IntsAre (List.set _ _ _) _ => q3
      rename News g' _ _ ((D9, _) :: _) => Nq
      have e5 : ((d : Int) - 1).toNat = d - 1 := by omega
      have hstep' : cnt [c0, c1, c2, c3] (i + 1) = cs9.set ((d : Int)).toNat ([c0, c1, c2, c3].getD ((d : Int) - 1).toNat 0 - ((kl d).map fun k => cs9.getD k.toNat 0).sum) := by
        rw [e5, Int.toNat_natCast]; exact hstep
      refine UnrEnd.intro (by k_asm) Nq _ (fun p hp => .tail _ hp) (off_cons hDI (fun p hp => hoff p (List.mem_cons_of_mem _ hp))) ⟨_, _, rfl, ?_, rfl⟩
      rw [hstep']
      exact q3
  · rintro m₁ news₁ h2 tk2 ⟨vs, ep9, rfl, hvs, e1⟩ F2 N2
    have F3 := Fr.ext F2 (kstB_ex0 [(Str.ofString "multiples", .ref D)]
      (by intro p hp; simp only [List.mem_cons, List.not_mem_nil, or_false] at hp; rcases hp with rfl; assumption))
    clear F2 e1 Fz Nz Rz
    dsimp only [kstB] at F3
    have hvl := hvs.length
    have hcl := cnt_len [c0, c1, c2, c3] 4
    k_steps
    rename IntsAre _ (List.drop _ _) => q2
    rename News h₀ L _ _ => Nf
    rw [cnt4] at q2
    exact hret _ _ _ _ q2 (by k_asm) (fun p hp => Nf p (sub11 p hp)) (by first | assumption | exact allLt_mem (by assumption) | exact allLt_mem (And.right (by assumption)) | exact allLt_mem (And.right (And.right (by assumption))) | exact allLt_mem (And.right (And.right (And.right (by assumption)))) | exact allLt_mem (And.right (And.right (And.right (And.right (by assumption))))))
end
end Mine
end
section
open PySem PySem.W PyProof.Rows
set_option Elab.async false
set_option maxRecDepth 100000
namespace Mine
/-! the mail as a list of rows, and what the text functions make of it -/
noncomputable def hid (x : Nat) : Prop := (isB1 x = true ∨ isC8 x = true) ∧ x ≠ 10 ∧ x ≠ 13 ∧ x ≠ 46 ∧ x ≠ 890
structure Rw where
  hd : List Nat
  n : Nat
  e : List Nat
noncomputable def okRow (r : Rw) : Prop := (∀ x ∈ r.hd, hid x) ∧ 1 ≤ r.n ∧ (r.e = [10] ∨ r.e = [13] ∨ r.e = [13, 10])
noncomputable def rtxt (r : Rw) : List Nat := r.hd ++ (List.replicate r.n 46 ++ r.e)
noncomputable def txt (rows : List Rw) : List Nat := rows.flatMap rtxt
theorem txt_cons (r : Rw) (rows : List Rw) : txt (r :: rows) = rtxt r ++ txt rows := by simp [txt]
noncomputable def even (r : Rw) : Rw := { r with e := [13, 10] }
theorem fix_plain : ∀ (l : List Nat) (p : Bool) (T : List Nat), (∀ x ∈ l, x ≠ 10 ∧ x ≠ 13) → l ≠ [] → fixF p (l ++ T) = l ++ fixF false T
  | [], _, _, _, h => absurd rfl h
  | [a], p, T, h, _ => by
    have := h a (by simp)
    simp [fixF, this.1, this.2]
  | a :: b :: r, p, T, h, _ => by
    have := h a (by simp)
    show fixF p (a :: ((b :: r) ++ T)) = _
    rw [fixF, if_neg this.2, if_neg this.1, fix_plain (b :: r) false T (fun x hx => h x (List.mem_cons_of_mem _ hx)) (by simp)]
    rfl
theorem fix_eol {e : List Nat} (he : e = [10] ∨ e = [13] ∨ e = [13, 10]) (T : List Nat) : ∃ p, fixF false (e ++ T) = [13, 10] ++ fixF p T := by
  rcases he with rfl | rfl | rfl
  · exact ⟨false, by simp [fixF]⟩
  · exact ⟨true, by simp [fixF]⟩
  · exact ⟨false, by simp [fixF]⟩
theorem body_plain {r : Rw} (h : okRow r) : (∀ x ∈ r.hd ++ List.replicate r.n 46, x ≠ 10 ∧ x ≠ 13) ∧ r.hd ++ List.replicate r.n 46 ≠ [] := by
  refine ⟨fun x hx => ?_, fun q => ?_⟩
  · rcases List.mem_append.mp hx with hx | hx
    · exact ⟨(h.1 x hx).2.1, (h.1 x hx).2.2.1⟩
    · rw [List.eq_of_mem_replicate hx]; decide
  · have := congrArg List.length q
    rw [List.length_append, List.length_replicate, List.length_nil] at this
    have := h.2.1
    omega
theorem fix_txt : ∀ (rows : List Rw), (∀ r ∈ rows, okRow r) → ∀ (p : Bool) (T : List Nat), fixF p (txt rows ++ 46 :: T) = txt (rows.map even) ++ 46 :: fixF false T
  | [], _, p, T => by simp [txt, fixF]
  | r :: rows, h, p, T => by
    have hr := h r List.mem_cons_self
    obtain ⟨h1, h2⟩ := body_plain hr
    rw [txt_cons, List.map_cons, txt_cons]
    unfold rtxt
    rw [← List.append_assoc r.hd, List.append_assoc, List.append_assoc, fix_plain _ p _ h1 h2]
    obtain ⟨p', hp⟩ := fix_eol hr.2.2 (txt rows ++ 46 :: T)
    rw [hp, fix_txt rows (fun x hx => h x (List.mem_cons_of_mem _ hx)) p' T]
    simp [even]
theorem quo_hit (r : List Nat) : quoF true (46 :: r) = 46 :: 46 :: quoF false r := by simp [quoF]
theorem quo_miss (p : Bool) {a : Nat} (h46 : a ≠ 46) (h10 : a ≠ 10) (r : List Nat) : quoF p (a :: r) = a :: quoF false r := by
  have : (a == 10) = false := beq_eq_false_iff_ne.mpr h10
  simp [quoF, h46, this]
noncomputable def quo (r : Rw) : Rw := { r with n := r.n + if r.hd = [] then 1 else 0 }
theorem quo_plain : ∀ (l : List Nat) (T : List Nat), (∀ x ∈ l, x ≠ 10) → quoF false (l ++ T) = l ++ quoF false T
  | [], T, _ => rfl
  | a :: r, T, h => by
    show quoF false (a :: (r ++ T)) = _
    have : (a == 10) = false := beq_eq_false_iff_ne.mpr (h a (by simp))
    rw [quoF, if_neg (by simp), this, quo_plain r T fun x hx => h x (List.mem_cons_of_mem _ hx)]
    rfl
theorem quo_eol (T : List Nat) : quoF false ([13, 10] ++ T) = [13, 10] ++ quoF true T := by
  simp [quoF]
theorem quo_txt : ∀ (rows : List Rw), (∀ r ∈ rows, okRow r ∧ r.e = [13, 10]) → ∀ (T : List Nat), quoF true (txt rows ++ T) = txt (rows.map quo) ++ quoF true T
  | [], _, T => by simp [txt]
  | r :: rows, h, T => by
    obtain ⟨hr, he⟩ := h r List.mem_cons_self
    obtain ⟨h1, h2⟩ := body_plain hr
    have ih := quo_txt rows (fun x hx => h x (List.mem_cons_of_mem _ hx)) T
    have hrep : ∀ n, ∀ x ∈ List.replicate n 46, x ≠ 10 := fun n x hx => by rw [List.eq_of_mem_replicate hx]; decide
    have e1 : quoF true (rtxt r ++ (txt rows ++ T)) = rtxt (quo r) ++ quoF true (txt rows ++ T) := by
      unfold rtxt quo
      dsimp only
      rw [he]
      cases hh : r.hd with
      | nil =>
        obtain ⟨m, hm⟩ : ∃ m, r.n = m + 1 := ⟨r.n - 1, by have := hr.2.1; omega⟩
        have e2 : ([] ++ (List.replicate r.n 46 ++ [13, 10])) ++ (txt rows ++ T) = 46 :: (List.replicate m 46 ++ ([13, 10] ++ (txt rows ++ T))) := by
          rw [hm, List.replicate_succ]; simp
        rw [e2, quo_hit, quo_plain _ _ (hrep m), quo_eol, hm, if_pos rfl, List.replicate_succ, List.replicate_succ]
        simp
      | cons a t =>
        rw [hh] at h1
        have ha := hr.1 a (by rw [hh]; simp)
        have e2 : ((a :: t) ++ (List.replicate r.n 46 ++ [13, 10])) ++ (txt rows ++ T) = a :: (t ++ (List.replicate r.n 46 ++ ([13, 10] ++ (txt rows ++ T)))) := by simp
        rw [e2, quo_miss true ha.2.2.2.1 ha.2.1, quo_plain t _ (fun x hx => (h1 x (by simp [hx])).1), quo_plain _ _ (hrep _), quo_eol, if_neg (by simp)]
        simp
    rw [txt_cons, List.map_cons, txt_cons, List.append_assoc, e1, ih, List.append_assoc]
noncomputable def filt (k : Nat → Bool) (r : Rw) : Rw := { r with hd := r.hd.filter k }
theorem filt_txt (k : Nat → Bool) (h46 : k 46 = true) (h10 : k 10 = true) (h13 : k 13 = true) : ∀ (rows : List Rw), (∀ r ∈ rows, okRow r) → (txt rows).filter k = txt (rows.map (filt k))
  | [], _ => rfl
  | r :: rows, h => by
    have hr := h r List.mem_cons_self
    rw [txt_cons, List.map_cons, txt_cons, List.filter_append, filt_txt k h46 h10 h13 rows fun x hx => h x (List.mem_cons_of_mem _ hx)]
    unfold rtxt filt
    rw [List.filter_append, List.filter_append]
    have e1 : (List.replicate r.n 46).filter k = List.replicate r.n 46 := by
      rw [List.filter_eq_self]
      intro x hx
      rw [List.eq_of_mem_replicate hx]; exact h46
    have e2 : r.e.filter k = r.e := by
      rcases hr.2.2 with e | e | e <;> rw [e] <;> simp [h10, h13]
    rw [e1, e2]
theorem filt_ok {k : Nat → Bool} {r : Rw} (h : okRow r) : okRow (filt k r) := ⟨fun x hx => h.1 x (List.mem_filter.mp hx).1, h.2⟩
theorem even_ok {r : Rw} (h : okRow r) : okRow (even r) := ⟨h.1, h.2.1, .inr (.inr rfl)⟩
theorem quo_ok {r : Rw} (h : okRow r) : okRow (quo r) := ⟨h.1, by have := h.2.1; show 1 ≤ r.n + _; omega, h.2.2⟩
/-! the lead -/
noncomputable def vis (c : Nat) : Bool := !isB1 c && !isC8 c
noncomputable def b3L (c : Nat) : List Nat := if c = 890 then [32, 953] else [c]
noncomputable def heardL (l : List Nat) : List Nat := (l.filter vis).flatMap b3L
theorem vis_hid {x : Nat} (h : hid x) : vis x = false := by
  unfold vis
  rcases h.1 with h | h <;> simp [h]
theorem vis46 : vis 46 = true := by decide +kernel
theorem vis10 : vis 10 = true := by decide +kernel
theorem vis13 : vis 13 = true := by decide +kernel
theorem vis890 : vis 890 = true := by decide +kernel
theorem heard_app (a b : List Nat) : heardL (a ++ b) = heardL a ++ heardL b := by simp [heardL]
theorem heard_row {r : Rw} (h : okRow r) (he : r.e = [13, 10]) : heardL (rtxt r) = List.replicate r.n 46 ++ [13, 10] := by
  unfold rtxt
  rw [heard_app, heard_app, he]
  have e1 : heardL r.hd = [] := by
    unfold heardL
    have : r.hd.filter vis = [] := by
      rw [List.filter_eq_nil_iff]
      intro x hx q
      rw [vis_hid (h.1 x hx)] at q
      cases q
    rw [this]; rfl
  have e2 : ∀ n, heardL (List.replicate n 46) = List.replicate n 46 := by
    intro n
    induction n with
    | zero => rfl
    | succ n ih =>
      rw [List.replicate_succ]
      show heardL ([46] ++ List.replicate n 46) = _
      rw [heard_app, ih]
      have : heardL [46] = [46] := by decide +kernel
      rw [this]; rfl
  have e3 : heardL [13, 10] = [13, 10] := by decide +kernel
  rw [e1, e2, e3]; rfl
theorem heard_txt : ∀ (rows : List Rw), (∀ r ∈ rows, okRow r ∧ r.e = [13, 10]) → heardL (txt rows) = rows.flatMap fun r => List.replicate r.n 46 ++ [13, 10]
  | [], _ => rfl
  | r :: rows, h => by
    rw [txt_cons, heard_app, heard_row (h r List.mem_cons_self).1 (h r List.mem_cons_self).2, heard_txt rows fun x hx => h x (List.mem_cons_of_mem _ hx)]
    simp
theorem repl_dots : ∀ (n : Nat) (T : List Nat), replS [13, 10, 46] [9] 0 (List.replicate n 46 ++ T) = List.replicate n 46 ++ replS [13, 10, 46] [9] 0 T
  | 0, T => rfl
  | n + 1, T => by
    rw [List.replicate_succ, List.cons_append, replS_cons, if_neg (by simp), repl_dots n T]; rfl
theorem repl_hit (T : List Nat) : replS [13, 10, 46] [9] 0 (13 :: 10 :: 46 :: T) = 9 :: replS [13, 10, 46] [9] 0 T := by
  rw [replS_cons, if_pos (by simp)]; rfl
theorem repl_rows : ∀ (rows : List Rw), (∀ r ∈ rows, 1 ≤ r.n) → ∀ (T : List Nat), replS [13, 10, 46] [9] 0 ((rows.flatMap fun r => [13, 10] ++ List.replicate r.n 46) ++ T) = (rows.flatMap fun r => 9 :: List.replicate (r.n - 1) 46) ++ replS [13, 10, 46] [9] 0 T
  | [], _, T => rfl
  | r :: rows, h, T => by
    obtain ⟨m, hm⟩ : ∃ m, r.n = m + 1 := ⟨r.n - 1, by have := h r List.mem_cons_self; omega⟩
    rw [List.flatMap_cons, List.flatMap_cons, hm, List.replicate_succ, List.append_assoc, List.append_assoc]
    show replS [13, 10, 46] [9] 0 (13 :: 10 :: 46 :: (List.replicate m 46 ++ _)) = _
    rw [repl_hit, repl_dots, repl_rows rows fun x hx => h x (List.mem_cons_of_mem _ hx)]
    simp
theorem repl_map : ∀ (l : List Nat), replS [46] [32] 0 l = l.map fun c => if c = 46 then 32 else c
  | [] => rfl
  | a :: r => by
    rw [replS_cons]
    by_cases h : a = 46
    · subst h
      rw [if_pos (by simp)]
      show [32] ++ replS [46] [32] 0 r = _
      rw [repl_map r]; rfl
    · rw [if_neg (by simpa using h), repl_map r, List.map_cons, if_neg h]
noncomputable def leadL (l : List Nat) : List Nat := replS [46] [32] 0 (replS [13, 10, 46] [9] 0 ([13, 10] ++ heardL l))
noncomputable def preL (ns : List Nat) (k : Nat) : List Nat := (ns.flatMap fun n => 9 :: List.replicate (n - 1) 32) ++ 9 :: List.replicate k 32
theorem shift_rows : ∀ (rows : List Rw) (T : List Nat), [13, 10] ++ ((rows.flatMap fun r => List.replicate r.n 46 ++ [13, 10]) ++ T) = (rows.flatMap fun r => [13, 10] ++ List.replicate r.n 46) ++ ([13, 10] ++ T)
  | [], T => rfl
  | r :: rows, T => by
    have ih := shift_rows rows T
    rw [List.flatMap_cons, List.flatMap_cons]
    simp only [List.append_assoc] at ih ⊢
    rw [ih]
theorem lead_txt (rows : List Rw) (h : ∀ r ∈ rows, okRow r ∧ r.e = [13, 10]) (k m : Nat) :
    leadL (txt rows ++ 46 :: (List.replicate k 46 ++ 890 :: 13 :: 10 :: 46 :: List.replicate m 46)) = preL (rows.map (·.n)) (k + 1) ++ 953 :: (9 :: List.replicate m 32) := by
  unfold leadL
  have e0 : heardL (46 :: (List.replicate k 46 ++ 890 :: 13 :: 10 :: 46 :: List.replicate m 46)) = 46 :: (List.replicate k 46 ++ 32 :: 953 :: 13 :: 10 :: 46 :: List.replicate m 46) := by
    have e2 : ∀ n, heardL (List.replicate n 46) = List.replicate n 46 := by
      intro n
      induction n with
      | zero => rfl
      | succ n ih =>
        rw [List.replicate_succ]
        show heardL ([46] ++ List.replicate n 46) = _
        rw [heard_app, ih]
        have : heardL [46] = [46] := by decide +kernel
        rw [this]; rfl
    show heardL ([46] ++ (List.replicate k 46 ++ ([890, 13, 10, 46] ++ List.replicate m 46))) = _
    rw [heard_app, heard_app, heard_app, e2, e2]
    have : heardL [46] = [46] := by decide +kernel
    have h2 : heardL [890, 13, 10, 46] = [32, 953, 13, 10, 46] := by decide +kernel
    rw [this, h2]; rfl
  rw [heard_app, heard_txt rows h, e0, shift_rows, repl_rows rows fun r hr => (h r hr).1.2.1]
  have e1 : replS [13, 10, 46] [9] 0 ([13, 10] ++ 46 :: (List.replicate k 46 ++ 32 :: 953 :: 13 :: 10 :: 46 :: List.replicate m 46)) = 9 :: (List.replicate k 46 ++ 32 :: 953 :: 9 :: List.replicate m 46) := by
    show replS [13, 10, 46] [9] 0 (13 :: 10 :: 46 :: _) = _
    rw [repl_hit, repl_dots]
    congr 2
    rw [replS_cons, if_neg (by simp), replS_cons, if_neg (by simp), repl_hit]
    have := repl_dots m []
    rw [List.append_nil] at this
    rw [this]
    simp [replS]
  rw [e1, repl_map]
  unfold preL
  simp only [List.map_append, List.map_cons, List.map_replicate, if_true, List.map_flatMap, List.append_assoc, List.cons_append]
  have e3 : (List.replicate (k + 1) 32 : List Nat) = List.replicate k 32 ++ [32] := by rw [List.replicate_succ']
  rw [e3, List.flatMap_map]
  simp
end Mine
end
section
open PySem PySem.W PyProof.Rows
set_option Elab.async false
set_option maxRecDepth 100000
namespace Mine
noncomputable def hdC (c : Int) (i : Nat) : List Nat := ([Str.ofString "", rowF c, rowS c, rowB c i].getD (c.fmod 4).toNat Str.empty).cps.toList
noncomputable def nC (c : Int) : Nat := ((c.fdiv 4).fmod 4 + 1).toNat
noncomputable def eC (i : Nat) : List Nat := ([Str.ofString "\n", Str.ofString "\r", Str.ofString "\r\n"].getD ((i : Int).fmod 3).toNat Str.empty).cps.toList
noncomputable def rwC (c : Int) (i : Nat) : Rw := ⟨hdC c i, nC c, eC i⟩
theorem mul_list (x : Str) (a : Nat) (hx : x.cps = #[a]) (n : Int) (h1 : 1 ≤ n) : (Txt.mul x n).cps.toList = List.replicate n.toNat a := by
  unfold Txt.mul
  rw [if_neg (by omega)]
  have hl : x.length = 1 := by unfold Str.length; rw [hx]; rfl
  by_cases h : n = 1
  · subst h
    rw [if_pos (by simp), hx]; rfl
  · have hc : ¬ ((n == 1 || x.length == 0) = true) := by
      rw [hl]
      simp [h]
    rw [if_neg hc, hx]
    show ((List.replicate n.toNat #[a]).foldl (· ++ ·) #[]).toList = _
    have : ∀ (m : Nat) (acc : Array Nat), ((List.replicate m #[a]).foldl (· ++ ·) acc).toList = acc.toList ++ List.replicate m a := by
      intro m
      induction m with
      | zero => intro acc; simp
      | succ m ih => intro acc; rw [List.replicate_succ, List.foldl_cons, ih, List.replicate_succ]; simp
    rw [this]; rfl
theorem n_bd (c : Int) : 1 ≤ (c.fdiv 4).fmod 4 + 1 ∧ (c.fdiv 4).fmod 4 + 1 ≤ 4 := by
  have h1 := Int.fmod_nonneg_of_pos (c.fdiv 4) (show (0 : Int) < 4 by decide)
  have h2 := Int.fmod_lt_of_pos (c.fdiv 4) (show (0 : Int) < 4 by decide)
  omega
theorem nC_bd (c : Int) : 1 ≤ nC c ∧ nC c ≤ 4 := by
  have := n_bd c
  unfold nC
  omega
theorem row_cps (c : Int) (i : Nat) : (rowT c i).cps.toList = rtxt (rwC c i) := by
  unfold rowT rtxt rwC hdC eC nC
  simp only [Str.cps_append, Array.toList_append]
  rw [mul_list (Str.ofString ".") 46 (by decide +kernel) _ (n_bd c).1, List.append_assoc]
noncomputable def rowsC (cs : List Int) : List Rw := [rwC (cs.getD 0 0) 0, rwC (cs.getD 1 0) 1, rwC (cs.getD 2 0) 2, rwC (cs.getD 3 0) 3, rwC (cs.getD 4 0) 4]
theorem mail_cps (cs : List Int) : (mailT cs).cps.toList = txt (rowsC cs) ++ [46, 890, 10, 46, 46] := by
  unfold mailT mailP mailP mailP mailP mailP mailP
  have e : (Str.ofString ".ͺ\n..").cps.toList = [46, 890, 10, 46, 46] := by decide +kernel
  have e0 : (Str.ofString "").cps.toList = [] := by decide +kernel
  simp only [Str.cps_append, Array.toList_append, e, e0, row_cps, rowsC, txt, List.flatMap_cons, List.flatMap_nil, List.nil_append, List.append_nil, List.append_assoc]
noncomputable def hidB (x : Nat) : Bool := (isB1 x || isC8 x) && x != 10 && x != 13 && x != 46 && x != 890
theorem hid_of {x : Nat} (h : hidB x = true) : hid x := by
  unfold hidB at h
  simp only [Bool.and_eq_true, Bool.or_eq_true, bne_iff_ne, ne_eq] at h
  exact ⟨h.1.1.1.1, h.1.1.1.2, h.1.1.2, h.1.2, h.2⟩
theorem item_of (x : Str) (i : Int) (h0 : 0 ≤ i) (h1 : i < x.length) : ∃ c, (Txt.item x i).cps.toList = [c] ∧ x.cps.toList[i.toNat]? = some c := by
  have hs : i.toNat < x.cps.size := by show i.toNat < x.length; omega
  have e : seqIndex? i x.length = some i.toNat := by
    unfold seqIndex?
    simp [show ¬ i < 0 by omega]; omega
  refine ⟨x.cps[i.toNat], ?_, by simp [hs]⟩
  unfold Txt.item Txt.charAt
  rw [e]
  simp [hs]
theorem un_all : unseenS.cps.toList.all (fun c => hidB c && isB1 c && !isC8 c) = true := by decide +kernel
theorem tu_all : turningS.cps.toList.all (fun c => hidB c && isC8 c && !isB1 c) = true := by decide +kernel
theorem rowF_sign (c : Int) : ∃ x, (rowF c).cps.toList = [x] ∧ hid x ∧ isB1 x = true ∧ isC8 x = false := by
  obtain ⟨x, h1, h2⟩ := item_of unseenS ((c.fdiv 16).fmod 27) (Int.fmod_nonneg_of_pos _ (by decide)) (Int.fmod_lt_of_pos _ (by decide))
  have := List.all_eq_true.mp un_all x (List.mem_of_getElem? h2)
  simp only [Bool.and_eq_true, Bool.not_eq_true'] at this
  exact ⟨x, h1, hid_of this.1.1, this.1.2, this.2⟩
theorem rowS_sign (c : Int) : ∃ x, (rowS c).cps.toList = [x] ∧ hid x ∧ isB1 x = false ∧ isC8 x = true := by
  obtain ⟨x, h1, h2⟩ := item_of turningS ((c.fdiv 16).fmod 15) (Int.fmod_nonneg_of_pos _ (by decide)) (Int.fmod_lt_of_pos _ (by decide))
  have := List.all_eq_true.mp tu_all x (List.mem_of_getElem? h2)
  simp only [Bool.and_eq_true, Bool.not_eq_true'] at this
  exact ⟨x, h1, hid_of this.1.1, this.2, this.1.2⟩
/-- how a row is hidden: 0, 1, 2, 3 -/
noncomputable def kC (c : Int) : Nat := (c.fmod 4).toNat
theorem kC_bd (c : Int) : kC c < 4 := by
  have h1 := Int.fmod_nonneg_of_pos c (show (0 : Int) < 4 by decide)
  have h2 := Int.fmod_lt_of_pos c (show (0 : Int) < 4 by decide)
  unfold kC
  omega
theorem hd_cases (c : Int) (i : Nat) : ∃ f s : Nat, hid f ∧ hid s ∧ isB1 f = true ∧ isC8 f = false ∧ isB1 s = false ∧ isC8 s = true ∧
    ((kC c = 0 ∧ hdC c i = []) ∨ (kC c = 1 ∧ hdC c i = [f]) ∨ (kC c = 2 ∧ hdC c i = [s]) ∨ (kC c = 3 ∧ (hdC c i = [s, f] ∨ hdC c i = [f, s]))) := by
  obtain ⟨f, f1, f2, f3, f4⟩ := rowF_sign c
  obtain ⟨s, s1, s2, s3, s4⟩ := rowS_sign c
  refine ⟨f, s, f2, s2, f3, f4, s3, s4, ?_⟩
  have hk := kC_bd c
  have e0 : (Str.ofString "").cps.toList = [] := by decide +kernel
  have key : ∀ k, k = kC c → k < 4 → ((kC c = 0 ∧ hdC c i = []) ∨ (kC c = 1 ∧ hdC c i = [f]) ∨ (kC c = 2 ∧ hdC c i = [s]) ∨ (kC c = 3 ∧ (hdC c i = [s, f] ∨ hdC c i = [f, s]))) := by
    intro k hk h4
    have hh : hdC c i = ([Str.ofString "", rowF c, rowS c, rowB c i].getD k Str.empty).cps.toList := by rw [hk]; rfl
    rw [← hk, hh]
    match k, h4 with
    | 0, _ => exact .inl ⟨rfl, e0⟩
    | 1, _ => exact .inr (.inl ⟨rfl, f1⟩)
    | 2, _ => exact .inr (.inr (.inl ⟨rfl, s1⟩))
    | 3, _ =>
      refine .inr (.inr (.inr ⟨rfl, ?_⟩))
      show (rowB c i).cps.toList = _ ∨ (rowB c i).cps.toList = _
      unfold rowB
      split
      · exact .inl (by simp only [Str.cps_append, Array.toList_append, f1, s1]; rfl)
      · exact .inr (by simp only [Str.cps_append, Array.toList_append, f1, s1]; rfl)
  exact key _ rfl hk
theorem eC_ok (i : Nat) : eC i = [10] ∨ eC i = [13] ∨ eC i = [13, 10] := by
  have h1 := Int.fmod_nonneg_of_pos (i : Int) (show (0 : Int) < 3 by decide)
  have h2 := Int.fmod_lt_of_pos (i : Int) (show (0 : Int) < 3 by decide)
  unfold eC
  have e0 : (Str.ofString "\n").cps.toList = [10] := by decide +kernel
  have e1 : (Str.ofString "\r").cps.toList = [13] := by decide +kernel
  have e2 : (Str.ofString "\r\n").cps.toList = [13, 10] := by decide +kernel
  generalize ((i : Int).fmod 3) = k at h1 h2
  obtain ⟨n, rfl⟩ : ∃ n : Nat, k = (n : Int) := ⟨k.toNat, by omega⟩
  have : n < 3 := by omega
  rw [Int.toNat_natCast]
  match n, this with
  | 0, _ => exact .inl e0
  | 1, _ => exact .inr (.inl e1)
  | 2, _ => exact .inr (.inr e2)
theorem rwC_ok (c : Int) (i : Nat) : okRow (rwC c i) := by
  refine ⟨fun x hx => ?_, (nC_bd c).1, eC_ok i⟩
  obtain ⟨f, s, hf, hs, _, _, _, _, h⟩ := hd_cases c i
  have hx : x ∈ hdC c i := hx
  rcases h with ⟨_, h⟩ | ⟨_, h⟩ | ⟨_, h⟩ | ⟨_, h | h⟩ <;> rw [h] at hx <;> simp at hx
  · rw [hx]; exact hf
  · rw [hx]; exact hs
  · rcases hx with rfl | rfl <;> assumption
  · rcases hx with rfl | rfl <;> assumption
theorem hd_len (c : Int) (i : Nat) : (hdC c i).length ≤ 2 := by
  obtain ⟨f, s, _, _, _, _, _, _, h⟩ := hd_cases c i
  rcases h with ⟨_, h⟩ | ⟨_, h⟩ | ⟨_, h⟩ | ⟨_, h | h⟩ <;> rw [h] <;> simp
theorem rows_ok (cs : List Int) : ∀ r ∈ rowsC cs, okRow r := by
  intro r hr
  unfold rowsC at hr
  simp only [List.mem_cons, List.not_mem_nil, or_false] at hr
  rcases hr with rfl | rfl | rfl | rfl | rfl <;> exact rwC_ok _ _
/-! the lead's text, over lists -/
theorem heard_map (l : List Nat) : flat (l.map b3) = l.flatMap b3L := by
  induction l with
  | nil => rfl
  | cons c r ih =>
    show (b3 c).cps.toList ++ flat (r.map b3) = b3L c ++ r.flatMap b3L
    rw [ih]
    congr 1
    unfold b3 b3L
    split <;> rfl
theorem lead_list (tx : Str) : (leadText tx).cps.toList = leadL tx.cps.toList := by
  unfold leadText leadL heardL
  have e1 : (Str.ofString "\r\n.").cps.toList = [13, 10, 46] := by decide +kernel
  have e2 : (Str.ofString "\t").cps.toList = [9] := by decide +kernel
  have e3 : (Str.ofString ".").cps.toList = [46] := by decide +kernel
  have e4 : (Str.ofString " ").cps.toList = [32] := by decide +kernel
  have e5 : (Str.ofString "\r\n").cps.toList = [13, 10] := by decide +kernel
  rw [replace_list _ _ _ (by decide), replace_list _ _ _ (by decide), e1, e2, e3, e4, Str.cps_append, Array.toList_append, e5, txt_join_flat _ (by decide +kernel), heard_map]
  rfl
theorem signs_txt {rows : List Rw} (h : ∀ r ∈ rows, okRow r) : ∀ c ∈ txt rows, hid c ∨ c = 46 ∨ c = 10 ∨ c = 13 := by
  intro c hc
  obtain ⟨r, hr, hc⟩ := List.mem_flatMap.mp hc
  unfold rtxt at hc
  rcases List.mem_append.mp hc with hc | hc
  · exact .inl ((h r hr).1 c hc)
  · rcases List.mem_append.mp hc with hc | hc
    · exact .inr (.inl (List.eq_of_mem_replicate hc))
    · rcases (h r hr).2.2 with e | e | e <;> rw [e] at hc <;> simp at hc <;> omega
theorem plain_of {c : Nat} (h : hid c ∨ c = 46 ∨ c = 10 ∨ c = 13 ∨ c = 890) (h1 : isB1 c = false) (h2 : isC8 c = false) : plainSign c := by
  rcases h with h | h | h | h | h
  · rcases h.1 with q | q
    · rw [h1] at q; cases q
    · rw [h2] at q; cases q
  · exact .inl h
  · exact .inr (.inl h)
  · exact .inr (.inr (.inl h))
  · exact .inr (.inr (.inr h))
theorem txt_len : ∀ (rows : List Rw), (∀ r ∈ rows, r.hd.length ≤ 2 ∧ r.n ≤ 5 ∧ r.e.length ≤ 2) → (txt rows).length ≤ 9 * rows.length
  | [], _ => by simp [txt]
  | r :: rows, h => by
    have ih := txt_len rows fun x hx => h x (List.mem_cons_of_mem _ hx)
    have := h r List.mem_cons_self
    rw [txt_cons, List.length_append, List.length_cons]
    unfold rtxt
    simp only [List.length_append, List.length_replicate]
    omega
end Mine
end
section
open PySem PySem.W PyProof.Rows
set_option Elab.async false
set_option maxRecDepth 100000
namespace Mine
theorem len_cps (x : Str) : x.length = x.cps.toList.length := by simp [Str.length]
theorem map_ok {f : Rw → Rw} {rows : List Rw} (h : ∀ r ∈ rows, okRow r) (hf : ∀ r, okRow r → okRow (f r)) : ∀ r ∈ rows.map f, okRow r := by
  intro r hr
  obtain ⟨x, hx, rfl⟩ := List.mem_map.mp hr
  exact hf x (h x hx)
theorem rows_len (cs : List Int) : ∀ r ∈ rowsC cs, r.hd.length ≤ 2 ∧ r.n ≤ 4 ∧ r.e.length ≤ 2 := by
  intro r hr
  unfold rowsC at hr
  simp only [List.mem_cons, List.not_mem_nil, or_false] at hr
  have he : ∀ i, (eC i).length ≤ 2 := fun i => by rcases eC_ok i with e | e | e <;> rw [e] <;> decide
  rcases hr with rfl | rfl | rfl | rfl | rfl <;> exact ⟨hd_len _ _, (nC_bd _).2, he _⟩
theorem mail_len (cs : List Int) : (mailT cs).length ≤ 50 ∧ 0 < (mailT cs).length := by
  rw [len_cps, mail_cps, List.length_append]
  have := txt_len (rowsC cs) fun r hr => ⟨(rows_len cs r hr).1, Nat.le_succ_of_le (rows_len cs r hr).2.1, (rows_len cs r hr).2.2⟩
  have e : (rowsC cs).length = 5 := rfl
  rw [e] at this
  simp only [List.length_cons, List.length_nil]
  omega
noncomputable def nsC (cs : List Int) : List Nat := (rowsC cs).map (·.n)
theorem fixed_cps (cs : List Int) : (fixS (mailT cs)).cps.toList = txt ((rowsC cs).map even) ++ 46 :: (List.replicate 0 46 ++ 890 :: 13 :: 10 :: 46 :: List.replicate 1 46) := by
  unfold fixS
  show fixF false (mailT cs).cps.toList = _
  rw [mail_cps, fix_txt (rowsC cs) (rows_ok cs) false [890, 10, 46, 46]]
  have : fixF false [890, 10, 46, 46] = [890, 13, 10, 46, 46] := by decide +kernel
  rw [this]; rfl
theorem fixed_len (cs : List Int) : (fixS (mailT cs)).length ≤ 100 := by
  have := fixS_len (mailT cs) (by have := (mail_len cs).1; omega)
  rw [len_cps, fixed_cps, List.length_append]
  have h := txt_len ((rowsC cs).map even) (by
    intro r hr
    obtain ⟨x, hx, rfl⟩ := List.mem_map.mp hr
    exact ⟨(rows_len cs x hx).1, Nat.le_succ_of_le (rows_len cs x hx).2.1, Nat.le_refl 2⟩)
  have e : ((rowsC cs).map even).length = 5 := rfl
  rw [e] at h
  simp only [List.length_cons, List.length_nil, List.length_append, List.length_replicate]
  omega
theorem fixed_signs (cs : List Int) : ∀ c ∈ (fixS (mailT cs)).cps.toList, isB1 c = false → isC8 c = false → plainSign c := by
  intro c hc
  rw [fixed_cps] at hc
  refine plain_of ?_
  rcases List.mem_append.mp hc with hc | hc
  · rcases signs_txt (map_ok (rows_ok cs) fun r hr => even_ok hr) c hc with h | h | h | h
    · exact .inl h
    · exact .inr (.inl h)
    · exact .inr (.inr (.inl h))
    · exact .inr (.inr (.inr (.inl h)))
  · simp at hc
    omega
theorem fixed_lead (cs : List Int) : (leadText (fixS (mailT cs))).cps.toList = preL (nsC cs) 1 ++ 953 :: (9 :: List.replicate 1 32) := by
  rw [lead_list, fixed_cps, lead_txt]
  · rw [List.map_map]; rfl
  · intro r hr
    obtain ⟨x, hx, rfl⟩ := List.mem_map.mp hr
    exact ⟨even_ok (rows_ok cs x hx), rfl⟩
theorem preL_signs (ns : List Nat) (k : Nat) : ∀ c ∈ preL ns k, c = 32 ∨ c = 9 := by
  intro c hc
  unfold preL at hc
  rcases List.mem_append.mp hc with hc | hc
  · obtain ⟨n, _, hc⟩ := List.mem_flatMap.mp hc
    rcases List.mem_cons.mp hc with h | h
    · exact .inr h
    · exact .inl (List.eq_of_mem_replicate h)
  · rcases List.mem_cons.mp hc with h | h
    · exact .inr h
    · exact .inl (List.eq_of_mem_replicate h)
/-! a relay -/
noncomputable def kt (tb : Int) (c : Nat) : Bool := keep2 tb c && keep1 tb c
theorem kt_true (tb : Int) {c : Nat} (h1 : isB1 c = false) (h2 : isC8 c = false) : kt tb c = true := by
  unfold kt keep1 keep2
  rw [h1, h2]; simp
theorem kt46 (tb : Int) : kt tb 46 = true := kt_true tb (by decide +kernel) (by decide +kernel)
theorem kt10 (tb : Int) : kt tb 10 = true := kt_true tb (by decide +kernel) (by decide +kernel)
theorem kt13 (tb : Int) : kt tb 13 = true := kt_true tb (by decide +kernel) (by decide +kernel)
theorem kt890 (tb : Int) : kt tb 890 = true := kt_true tb (by decide +kernel) (by decide +kernel)
theorem kt_filter (tb : Int) (l : List Nat) : (l.filter (keep1 tb)).filter (keep2 tb) = l.filter (kt tb) := List.filter_filter ..
theorem tail_filter {k : Nat → Bool} (h46 : k 46 = true) (h890 : k 890 = true) (h10 : k 10 = true) : [46, 890, 10, 46, 46].filter k = 46 :: [890, 10, 46, 46] := by
  simp only [List.filter_cons, h46, h890, h10, if_true, List.filter_nil]
theorem relay_list (tb : Int) (cs : List Int) : relayL tb (mailT cs) = txt ((rowsC cs).map (filt (kt tb))) ++ 46 :: [890, 10, 46, 46] := by
  unfold relayL
  rw [kt_filter, mail_cps, List.filter_append, filt_txt (kt tb) (kt46 tb) (kt10 tb) (kt13 tb) (rowsC cs) (rows_ok cs), tail_filter (kt46 tb) (kt890 tb) (kt10 tb)]
noncomputable def rel (tb : Int) (r : Rw) : Rw := quo (even (filt (kt tb) r))
theorem relayT_list (tb : Int) (x : Str) : (relayT tb x).cps.toList = quoF true (fixF false (relayL tb x)) := rfl
theorem relay_cps (tb : Int) (cs : List Int) : (relayT tb (mailT cs)).cps.toList = txt ((rowsC cs).map (rel tb)) ++ 46 :: (List.replicate 1 46 ++ 890 :: 13 :: 10 :: 46 :: List.replicate 2 46) := by
  rw [relayT_list, relay_list, fix_txt _ (map_ok (rows_ok cs) fun r hr => filt_ok hr) false [890, 10, 46, 46]]
  have : fixF false [890, 10, 46, 46] = [890, 13, 10, 46, 46] := by decide +kernel
  rw [this, List.map_map, quo_txt]
  · have : quoF true (46 :: [890, 13, 10, 46, 46]) = [46, 46, 890, 13, 10, 46, 46, 46] := by decide +kernel
    rw [this, List.map_map]; rfl
  · intro r hr
    obtain ⟨x, hx, rfl⟩ := List.mem_map.mp hr
    exact ⟨even_ok (filt_ok (rows_ok cs x hx)), rfl⟩
theorem relay_pos (tb : Int) (cs : List Int) : 0 < (relayL tb (mailT cs)).length := by
  rw [relay_list, List.length_append]
  simp
theorem rel_ok (tb : Int) (cs : List Int) : ∀ r ∈ (rowsC cs).map (rel tb), okRow r ∧ r.e = [13, 10] := by
  intro r hr
  obtain ⟨x, hx, rfl⟩ := List.mem_map.mp hr
  exact ⟨quo_ok (even_ok (filt_ok (rows_ok cs x hx))), rfl⟩
theorem relay_len (tb : Int) (cs : List Int) : (relayT tb (mailT cs)).length ≤ 100 := by
  rw [len_cps, relay_cps, List.length_append]
  have h := txt_len ((rowsC cs).map (rel tb)) (by
    intro r hr
    obtain ⟨x, hx, rfl⟩ := List.mem_map.mp hr
    obtain ⟨h1, h2, h3⟩ := rows_len cs x hx
    refine ⟨Nat.le_trans (List.length_filter_le _ _) h1, ?_, Nat.le_refl 2⟩
    show x.n + (if _ then 1 else 0) ≤ 5
    split <;> omega)
  have e : ((rowsC cs).map (rel tb)).length = 5 := rfl
  rw [e] at h
  simp only [List.length_cons, List.length_nil, List.length_append, List.length_replicate]
  omega
theorem relay_signs (tb : Int) (cs : List Int) : ∀ c ∈ (relayT tb (mailT cs)).cps.toList, isB1 c = false → isC8 c = false → plainSign c := by
  intro c hc
  rw [relay_cps] at hc
  refine plain_of ?_
  rcases List.mem_append.mp hc with hc | hc
  · rcases signs_txt (fun r hr => (rel_ok tb cs r hr).1) c hc with h | h | h | h
    · exact .inl h
    · exact .inr (.inl h)
    · exact .inr (.inr (.inl h))
    · exact .inr (.inr (.inr (.inl h)))
  · simp at hc
    omega
noncomputable def nsR (tb : Int) (cs : List Int) : List Nat := ((rowsC cs).map (rel tb)).map (·.n)
theorem relay_lead (tb : Int) (cs : List Int) : (leadText (relayT tb (mailT cs))).cps.toList = preL (nsR tb cs) 2 ++ 953 :: (9 :: List.replicate 2 32) := by
  rw [lead_list, relay_cps, lead_txt _ (rel_ok tb cs)]
  rfl
/-- is a row so hidden seen when these tables are struck out -/
noncomputable def vN (t h : Nat) : Nat := if h &&& t = h then 1 else 0
theorem rel_n (t : Nat) (ht : t < 4) (c : Int) (i : Nat) : (rel (t : Int) (rwC c i)).n = nC c + vN t (kC c) := by
  show nC c + (if (hdC c i).filter (kt (t : Int)) = [] then 1 else 0) = _
  congr 1
  obtain ⟨f, s, hf, hs, b1, c1, b2, c2, h⟩ := hd_cases c i
  have k1 : keep1 (t : Int) f = !((t : Int).fmod 2 == 1) := by unfold keep1; rw [b1]; simp
  have k2 : keep2 (t : Int) f = true := by unfold keep2; rw [c1]; simp
  have k3 : keep1 (t : Int) s = true := by unfold keep1; rw [b2]; simp
  have k4 : keep2 (t : Int) s = !((t : Int).fdiv 2 == 1) := by unfold keep2; rw [c2]; simp
  have hkf : kt (t : Int) f = !((t : Int).fmod 2 == 1) := by unfold kt; rw [k1, k2]; simp
  have hks : kt (t : Int) s = !((t : Int).fdiv 2 == 1) := by unfold kt; rw [k3, k4]; simp
  rcases h with ⟨e, h⟩ | ⟨e, h⟩ | ⟨e, h⟩ | ⟨e, h | h⟩ <;> rw [e, h] <;> simp only [List.filter_cons, List.filter_nil, hkf, hks] <;>
    (match t, ht with
      | 0, _ => rfl
      | 1, _ => rfl
      | 2, _ => rfl
      | 3, _ => rfl)
theorem nsR_eq (t : Nat) (ht : t < 4) (c0 c1 c2 c3 c4 : Int) : nsR (t : Int) [c0, c1, c2, c3, c4] = [nC c0 + vN t (kC c0), nC c1 + vN t (kC c1), nC c2 + vN t (kC c2), nC c3 + vN t (kC c3), nC c4 + vN t (kC c4)] := by
  unfold nsR rowsC
  simp only [List.map_cons, List.map_nil, rel_n t ht]
  rfl
theorem nsC_eq (c0 c1 c2 c3 c4 : Int) : nsC [c0, c1, c2, c3, c4] = [nC c0, nC c1, nC c2, nC c3, nC c4] := rfl
end Mine
end
section
open PySem PySem.W PyProof.Rows
set_option Elab.async false
set_option maxRecDepth 100000
set_option linter.unusedVariables false
namespace Mine
/-! levels and columns -/
/-- the column behind these signs, at a tab size -/
noncomputable def colN (z : Nat) (l : List Nat) : Nat := l.foldl (fun col c => if c = 32 then col + 1 else col + (z - col % z)) 0
noncomputable def lvlN (z : Nat) (ns : List Nat) (k : Nat) : Nat := k + z * ((ns.map fun n => (n - 1) / z).sum + ns.length + 1)
theorem tab_step (z q : Nat) (hz : 0 < z) : q + (z - q % z) = z * (q / z + 1) := by
  have h := Nat.div_add_mod q z
  have h2 := Nat.mod_lt q hz
  rw [Nat.mul_succ]
  omega
theorem blanks (z : Nat) : ∀ (n q : Nat), (List.replicate n 32).foldl (fun col c => if c = 32 then col + 1 else col + (z - col % z)) q = q + n
  | 0, q => rfl
  | n + 1, q => by
    rw [List.replicate_succ, List.foldl_cons, if_pos rfl, blanks z n (q + 1)]
    omega
theorem col_go (z : Nat) (hz : 0 < z) (k : Nat) : ∀ (ns : List Nat) (q : Nat), (preL ns k).foldl (fun col c => if c = 32 then col + 1 else col + (z - col % z)) q = k + z * (q / z + (ns.map fun n => (n - 1) / z).sum + ns.length + 1)
  | [], q => by
    show (9 :: List.replicate k 32).foldl _ q = _
    rw [List.foldl_cons, if_neg (by decide), blanks, tab_step z q hz]
    simp
    omega
  | n :: ns, q => by
    have e : preL (n :: ns) k = 9 :: (List.replicate (n - 1) 32 ++ preL ns k) := by simp [preL]
    rw [e, List.foldl_cons, if_neg (by decide), List.foldl_append, blanks, tab_step z q hz, col_go z hz k ns]
    have h : (z * (q / z + 1) + (n - 1)) / z = q / z + 1 + (n - 1) / z := by
      rw [Nat.mul_add_div hz]
    rw [h, List.map_cons, List.sum_cons, List.length_cons]
    congr 2
    omega
theorem col_pre (z : Nat) (hz : 0 < z) (ns : List Nat) (k : Nat) : colN z (preL ns k) = lvlN z ns k := by
  unfold colN lvlN
  rw [col_go z hz k ns 0]
  simp
/-! Whitespace's own reckoning -/
noncomputable def ilN (z : Nat) (ns : List Int) : Int := ilF z ns ((ns.length : Int) - z).toNat
theorem ilF_congr (z : Int) (ns ms : List Int) : ∀ k : Nat, (∀ j : Nat, j < k → ns.getD (z + (j : Int)).toNat 0 = ms.getD (z + (j : Int)).toNat 0) → ilF z ns k = ilF z ms k
  | 0, _ => rfl
  | k + 1, h => by
    rw [ilF, ilF, ilF_congr z ns ms k fun j hj => h j (Nat.lt_succ_of_lt hj), h k (Nat.lt_succ_self k)]
theorem ilF_more (z : Nat) (ns : List Int) : ∀ m k, ns.length ≤ z + k → ilF z ns (k + m) = ilF z ns k
  | 0, k, _ => rfl
  | m + 1, k, h => by
    show ilF z ns (k + m) + ((z : Int) + ((k + m : Nat) : Int)).fdiv (z : Int) * ns.getD ((z : Int) + ((k + m : Nat) : Int)).toNat 0 = _
    rw [ilF_more z ns m k h]
    have e : ((z : Int) + ((k + m : Nat) : Int)).toNat = z + (k + m) := by omega
    have h2 : ns.getD (z + (k + m)) 0 = 0 := by
      rw [List.getD_eq_getElem?_getD, List.getElem?_eq_none (by omega)]; rfl
    rw [e, h2, Int.mul_zero, Int.add_zero]
theorem ilN_at (z : Nat) (ns : List Int) (k : Nat) (h : ns.length ≤ z + k) : ilF z ns k = ilN z ns := by
  unfold ilN
  have : ((ns.length : Int) - (z : Int)).toNat = ns.length - z := by omega
  rw [this]
  obtain ⟨m, hm⟩ : ∃ m, k = (ns.length - z) + m := ⟨k - (ns.length - z), by omega⟩
  rw [hm]
  exact ilF_more z ns m _ (by omega)
theorem ilF_set (z : Nat) (hz : 0 < z) (ns : List Int) (b : Nat) (v : Int) (hb : b < ns.length) : ∀ k, ilF z (ns.set b (ns.getD b 0 + v)) k = ilF z ns k + (if z ≤ b ∧ b < z + k then ((b / z : Nat) : Int) * v else 0)
  | 0 => by
    rw [if_neg (by omega)]; rfl
  | k + 1 => by
    rw [ilF, ilF, ilF_set z hz ns b v hb k]
    have e : ((z : Int) + (k : Int)).toNat = z + k := by omega
    rw [e]
    have hd : ((z : Int) + (k : Int)).fdiv (z : Int) = (((z + k) / z : Nat) : Int) := by
      rw [Int.fdiv_eq_ediv_of_nonneg _ (by omega)]
      norm_cast
    rw [hd]
    by_cases h : z + k = b
    · subst h
      have h1 : (ns.set (z + k) (ns.getD (z + k) 0 + v)).getD (z + k) 0 = ns.getD (z + k) 0 + v := by
        rw [List.getD_eq_getElem?_getD, List.getElem?_set_self hb]; rfl
      rw [h1, if_neg (by omega), if_pos (by omega), Int.mul_add]
      omega
    · have h1 : (ns.set b (ns.getD b 0 + v)).getD (z + k) 0 = ns.getD (z + k) 0 := by
        rw [List.getD_eq_getElem?_getD, List.getElem?_set_ne (Ne.symm h), ← List.getD_eq_getElem?_getD]
      rw [h1]
      by_cases h2 : z ≤ b ∧ b < z + k
      · rw [if_pos h2, if_pos (by omega)]; omega
      · rw [if_neg h2, if_neg (by omega)]; omega
theorem grown_getD (ns : List Int) (b : Int) (hb : 0 ≤ b) (j : Nat) : (grown ns b).getD j 0 = ns.getD j 0 := by
  unfold grown
  split
  · have hr : (List.replicate (b - (ns.length : Int) + 1).toNat [(0 : Int)]).flatten = List.replicate (b - (ns.length : Int) + 1).toNat 0 := by simp
    rw [hr, List.getD_eq_getElem?_getD, List.getD_eq_getElem?_getD]
    by_cases h : j < ns.length
    · rw [List.getElem?_append_left h]
    · rw [List.getElem?_append_right (by omega), List.getElem?_eq_none (by omega : ns.length ≤ j), List.getElem?_replicate]
      split <;> rfl
  · rfl
theorem il_step (z : Nat) (hz : 0 < z) (ns : List Int) (b : Nat) : ilN z ((grown ns b).set b ((grown ns b).getD b 0 + 1)) = ilN z ns + ((b / z : Nat) : Int) := by
  have hl := grown_len ns (b : Int) (by omega)
  have hbl : b < (grown ns b).length := by omega
  have h1 : ilN z ((grown ns b).set b ((grown ns b).getD b 0 + 1)) = ilF z ((grown ns b).set b ((grown ns b).getD b 0 + 1)) (grown ns b).length := (ilN_at z _ _ (by rw [List.length_set]; omega)).symm
  rw [h1, ilF_set z hz _ b 1 hbl]
  have h2 : ilF z (grown ns b) (grown ns b).length = ilF z ns (grown ns b).length := ilF_congr _ _ _ _ fun j _ => grown_getD ns b (by omega) _
  rw [h2, ilN_at z ns _ (by omega)]
  by_cases h : z ≤ b
  · rw [if_pos ⟨h, by omega⟩, Int.mul_one]
  · rw [if_neg (fun q => h q.1), Nat.div_eq_of_lt (by omega)]
    rfl
theorem lev_inv (z : Nat) (hz : 0 < z) : ∀ l : List Nat, (∀ c ∈ l, c = 32 ∨ c = 9) → ∃ b K : Nat, (wrun l).b = (b : Int) ∧ ilN z (wrun l).ns + (wrun l).nt = (K : Int) ∧ colN z l = b + z * K := by
  intro l
  rw [← List.reverse_reverse l]
  induction l.reverse with
  | nil =>
    intro _
    have e : ilN z [] = 0 := (ilN_at z [] 0 (Nat.zero_le _)).symm
    refine ⟨0, 0, rfl, ?_, rfl⟩
    show ilN z [] + 0 = _
    rw [e]; rfl
  | cons c r ih =>
    intro h
    rw [List.reverse_cons] at h ⊢
    obtain ⟨b, K, h1, h2, h3⟩ := ih fun x hx => h x (List.mem_append_left _ hx)
    rw [wrun_snoc]
    have hcol : colN z (r.reverse ++ [c]) = if c = 32 then colN z r.reverse + 1 else colN z r.reverse + (z - colN z r.reverse % z) := by
      unfold colN; rw [List.foldl_append]; rfl
    rcases h c (List.mem_append_right _ (by simp)) with rfl | rfl
    · refine ⟨b + 1, K, ?_, ?_, ?_⟩
      · show (wrun r.reverse).b + 1 = _
        rw [h1]; rfl
      · exact h2
      · rw [hcol, if_pos rfl, h3]; omega
    · refine ⟨0, K + b / z + 1, ?_, ?_, ?_⟩
      · rfl
      · show ilN z ((grown (wrun r.reverse).ns (wrun r.reverse).b).set (wrun r.reverse).b.toNat ((grown (wrun r.reverse).ns (wrun r.reverse).b).getD (wrun r.reverse).b.toNat 0 + 1)) + ((wrun r.reverse).nt + 1) = _
        rw [h1, Int.toNat_natCast, il_step z hz]
        omega
      · rw [hcol, if_neg (by decide), tab_step z _ hz, h3]
        have : (b + z * K) / z = b / z + K := Nat.add_mul_div_left b K hz
        rw [this]
        congr 1
        rw [show b / z + K + 1 = K + b / z + 1 by omega]; omega
theorem lev_col (z : Nat) (hz : 0 < z) (l : List Nat) (h : ∀ c ∈ l, c = 32 ∨ c = 9) : levV (z : Int) (wrun l).ns (wrun l).b (wrun l).nt = (colN z l : Int) := by
  obtain ⟨b, K, h1, h2, h3⟩ := lev_inv z hz l h
  unfold levV
  have e : ilF (z : Int) (wrun l).ns (((wrun l).ns.length : Int) - (z : Int)).toNat = ilN z (wrun l).ns := rfl
  rw [e, h2, h1, h3]
  push_cast
  rfl
theorem lev_pre (z : Nat) (hz : 0 < z) (ns : List Nat) (k : Nat) : levV (z : Int) (wrun (preL ns k)).ns (wrun (preL ns k)).b (wrun (preL ns k)).nt = (lvlN z ns k : Int) := by
  rw [lev_col z hz _ (preL_signs ns k), col_pre z hz]
end Mine
end
section
open PySem PySem.W PyProof.Rows PyProof.V
set_option Elab.async false
set_option maxRecDepth 100000
set_option linter.unusedVariables false
namespace Mine
theorem mul_list0 (x : Str) (a : Nat) (hx : x.cps = #[a]) (n : Int) : (Txt.mul x n).cps.toList = List.replicate n.toNat a := by
  by_cases h : 1 ≤ n
  · exact mul_list x a hx n h
  · have e : n.toNat = 0 := by omega
    unfold Txt.mul
    rw [if_pos (by omega), e]; rfl
theorem col_text (c0 c1 c2 c3 c4 : Int) : (colJ c0 c1 c2 c3 c4 ++ Str.ofString "\t ").cps.toList = preL (nsC [c0, c1, c2, c3, c4]) 1 := by
  have e1 : (Str.ofString "\t ").cps.toList = [9, 32] := by decide +kernel
  have e2 : (Str.ofString "\t").cps.toList = [9] := by decide +kernel
  have hn : ∀ c : Int, ((c.fdiv 4).fmod 4).toNat = nC c - 1 := fun c => by
    have := n_bd c
    unfold nC
    omega
  unfold colJ
  rw [Str.cps_append, Array.toList_append, txt_join_flat _ (by decide +kernel), e1, nsC_eq]
  unfold flat preL
  simp only [List.flatMap_cons, List.flatMap_nil, Str.cps_append, Array.toList_append, e2, mul_list0 (Str.ofString " ") 32 (by decide +kernel), hn, List.append_nil, List.append_assoc, List.cons_append, List.nil_append]
  rfl
theorem fold_cols (z : Nat) (hz : 0 < z) : ∀ (l : List Nat) (q : Nat),
    List.foldl (cstep (z : Int)) (q : Int) l = ((l.foldl (fun col c => if c = 32 then col + 1 else col + (z - col % z)) q : Nat) : Int)
  | [], q => rfl
  | c :: l, q => by
    rw [List.foldl_cons, List.foldl_cons]
    have e : cstep (z : Int) (q : Int) c = (((if c = 32 then q + 1 else q + (z - q % z)) : Nat) : Int) := by
      unfold cstep
      by_cases h : c = 32
      · rw [if_pos h, if_pos h]; rfl
      · rw [if_neg h, if_neg h]
        have h2 := Nat.mod_lt q hz
        have h3 : (q : Int).fmod (z : Int) = ((q % z : Nat) : Int) := by
          rw [Int.fmod_eq_emod_of_nonneg _ (by omega)]; norm_cast
        rw [h3]; omega
    rw [e]
    exact fold_cols z hz l _
theorem colV_eq (z : Nat) (hz : 0 < z) (c0 c1 c2 c3 c4 : Int) : colV (z : Int) c0 c1 c2 c3 c4 = (lvlN z (nsC [c0, c1, c2, c3, c4]) 1 : Int) := by
  unfold colV colF colText
  rw [col_text]
  refine (fold_cols z hz (preL (nsC [c0, c1, c2, c3, c4]) 1) 0).trans ?_
  have h2 := col_pre z hz (nsC [c0, c1, c2, c3, c4]) 1
  unfold colN at h2
  rw [h2]
/-! the gaps -/
/-- what a row adds to a relay's gap, counted in sizes -/
noncomputable def wt (t z h n : Nat) : Nat := (n + vN t h - 1) / z - (n - 1) / z
noncomputable def gapA (t z : Nat) (c0 c1 c2 c3 c4 : Int) : Nat := wt t z (kC c0) (nC c0) + wt t z (kC c1) (nC c1) + wt t z (kC c2) (nC c2) + wt t z (kC c3) (nC c3) + wt t z (kC c4) (nC c4)
theorem wt_le (t z h n : Nat) (hn : 1 ≤ n) : (n - 1) / z ≤ (n + vN t h - 1) / z := Nat.div_le_div_right (by omega)
theorem sub2n {a b c d : Nat} (h : b ≤ a) (h' : d ≤ c) : (a + c) - (b + d) = (a - b) + (c - d) := by omega
theorem gap_eq (t : Nat) (ht : t < 4) (z : Nat) (c0 c1 c2 c3 c4 : Int) : (lvlN z (nsR (t : Int) [c0, c1, c2, c3, c4]) 2 : Int) - (lvlN z (nsC [c0, c1, c2, c3, c4]) 1 : Int) - 1 = (z : Int) * (gapA t z c0 c1 c2 c3 c4 : Int) := by
  rw [nsR_eq t ht, nsC_eq]
  unfold lvlN gapA
  have h0 := wt_le t z (kC c0) (nC c0) (nC_bd c0).1
  have h1 := wt_le t z (kC c1) (nC c1) (nC_bd c1).1
  have h2 := wt_le t z (kC c2) (nC c2) (nC_bd c2).1
  have h3 := wt_le t z (kC c3) (nC c3) (nC_bd c3).1
  have h4 := wt_le t z (kC c4) (nC c4) (nC_bd c4).1
  simp only [List.map_cons, List.map_nil, List.sum_cons, List.sum_nil, List.length_cons, List.length_nil]
  have e : ∀ (A B k : Nat), B ≤ A → ((2 + z * (A + k + 1) : Nat) : Int) - ((1 + z * (B + k + 1) : Nat) : Int) - 1 = (z : Int) * ((A - B : Nat) : Int) := by
    intro A B k h
    obtain ⟨d, rfl⟩ : ∃ d, A = B + d := ⟨A - B, by omega⟩
    rw [Nat.add_sub_cancel_left]
    have : z * (B + d + k + 1) = z * (B + k + 1) + z * d := by rw [← Nat.mul_add]; congr 1; omega
    rw [this]
    push_cast
    omega
  have l4 := Nat.add_le_add h4 (Nat.le_refl 0)
  have l3 := Nat.add_le_add h3 l4
  have l2 := Nat.add_le_add h2 l3
  have l1 := Nat.add_le_add h1 l2
  rw [e _ _ _ (Nat.add_le_add h0 l1)]
  congr 2
  unfold wt
  rw [sub2n h0 l1, sub2n h1 l2, sub2n h2 l3, sub2n h3 l4, sub2n h4 (Nat.le_refl 0)]
  simp only [Nat.add_assoc, Nat.sub_self, Nat.add_zero]
end Mine
end
section
open PySem PySem.W PyProof.Rows PySem.Spec PySem.Calls PyProof.V
open PyProof.Rows.LCg PyProof.Rows.LCt
set_option Elab.async false
set_option maxRecDepth 100000
namespace Mine
section
variable {prog : Program} {w : World} {A : Around} {E : Value → Shared → Prop} {s : Shared} {env : Env} {h₀ : Heap} {x : Str} {body : List Stmt} {Q : Flow → Shared → Prop}
structure TurnF (h₀ : Heap) (L : Addr) (m : Str → Option Value) (s : Shared) (I : Addr) (oI : Obj) (c : Addr) (J : List (Addr × Obj) → Prop) (s₂ : Shared) (h : Heap) (tk : Nat) (oc : Obj) (v : Option Value) (rest : List (Addr × Obj)) : Prop where
  e : s₂ = { s with heap := h, toks := tk }
  d : oc.data = .cell v
  F : Fr h₀ L h m
  N : News h₀ L h ((I, oI) :: (c, oc) :: rest)
  o1 : ∀ p ∈ rest, p.1 ≠ I
  o2 : ∀ p ∈ rest, p.1 ≠ c
  j : J rest
structure ForF (h₀ : Heap) (L : Addr) (m : Str → Option Value) (s₁ : Shared) (a k : Int) (n : Nat) (c I : Addr) (J : Nat → List (Addr × Obj) → Prop) (j : Nat) (s' : Shared) (h' : Heap) (tk : Nat) (oc : Obj) (v : Option Value) (rest : List (Addr × Obj)) (i : Nat) : Prop where
  e : s' = { s₁ with heap := h', toks := tk }
  st : IsRangeIter h' I (a + ((i : Nat) : Int) * k) ((n : Int) - (i : Nat)) k
  d : oc.data = .cell v
  F : Fr h₀ L h' m
  N : News h₀ L h' ((c, oc) :: rest)
  o1 : ∀ p ∈ rest, p.1 ≠ I
  o2 : ∀ p ∈ rest, p.1 ≠ c
  cI : c ≠ I
  jj : J i rest
  le : i ≤ n
  je : j = n + 1 - i
/-- the end of a turn of a loop whose target is a cell -/
noncomputable def TurnC (h₀ : Heap) (L : Addr) (m : Str → Option Value) (s : Shared) (I : Addr) (oI : Obj) (c : Addr) (J : List (Addr × Obj) → Prop) (Q : Flow → Shared → Prop) : Flow → Shared → Prop
  | .ret v, s₂ => Q (.ret v) s₂
  | .brk, s₂ => Q .next s₂
  | _, s₂ => ∃ h tk oc v rest, TurnF h₀ L m s I oI c J s₂ h tk oc v rest
noncomputable def CellLoop (prog : Program) (w : World) (A : Around) (h₀ : Heap) (env : Env) (x : Str) (body : List Stmt) (Q : Flow → Shared → Prop) (xv : Value) (s : Shared) : Prop :=
  ∃ r a b k t u v n c oc m vc rest, ∃ J : Nat → List (Addr × Obj) → Prop, xv = .ref r ∧ A.handled = none ∧ IsRange s.heap r a b k t u v ∧ Builtin.Range.small a b k = true ∧ Builtin.Range.rangeSize a b k = ((n : Nat) : Int) ∧
    env.scope.kind = .function ∧ env.kindOf x = some .cell ∧ env.cells.lookup x = some c ∧ oc.data = .cell vc ∧ Fr h₀ env.locals s.heap m ∧ News h₀ env.locals s.heap ((c, oc) :: rest) ∧ (∀ p ∈ rest, p.1 ≠ c) ∧ J 0 rest ∧
    (∀ i u I oI oc rest h tk (E' : Value → Shared → Prop), I = s.heap.objs.size → i < n → J i rest → (∀ p ∈ rest, p.1 ≠ I) → (∀ p ∈ rest, p.1 ≠ c) → c ≠ I → oc.data = .cell (some (.int (a + (i : Int) * k) u)) → Fr h₀ env.locals h m → News h₀ env.locals h ((I, oI) :: (c, oc) :: rest) →
      wpAny (model prog w) A (execs body env) (TurnC h₀ env.locals m { s with heap := h, toks := tk } I oI c (J (i + 1)) Q) E' { s with heap := h, toks := tk }) ∧
    ∀ h tk oc v rest, oc.data = .cell v → J n rest → (∀ p ∈ rest, p.1 ≠ c) → Fr h₀ env.locals h m → News h₀ env.locals h ((c, oc) :: rest) → Q .next { s with heap := h, toks := tk }
theorem For_cell {px pos : Pos} {iter : PySem.Expr} (h : wpAny (model prog w) A (eval iter env) (CellLoop prog w A h₀ env x body Q) E s)
    (hs : ∀ x, foldedSetIterable iter env x = pure x := by intro _; rfl) :
    wpAny (model prog w) A (exec (.For (.Name x px) iter body [] pos) env) Q E s := by
  refine wpAny_For (wpAny_mono h (fun xv s₁ h₁ => ?_) fun _ _ e => e) hs
  obtain ⟨r, a, b, k, t, u, v, n, c, oc, m, vc, rest, J, rfl, hh, hr, hsm, hn, hk, hx, hc, hoc, F, N, off, hJ, turn, done⟩ := h₁
  have hnew := next_is_new F
  refine wpAny_pyIter_range hr hsm ?_
  rw [hn]
  have W := Walks.range (prog := prog) (w := w) hh s₁.heap.objs.size a k n
  have hLI : env.locals ≠ s₁.heap.objs.size := Nat.ne_of_lt F.ns.lt
  refine codeAny_forLoop
    (fun j s' => ∃ h' tk oc v rest i, ForF h₀ env.locals m s₁ a k n c s₁.heap.objs.size J j s' h' tk oc v rest i) ?_ (n + 1)
    ⟨_, _, oc, vc, rest, 0, rfl, ?_, hoc, F.push _, (fun p hp => ⟨Heap.get?_push_of_some _ (N p hp).1, (N p hp).2⟩), fun p hp => Nat.ne_of_lt (Heap.lt_size (N p (List.mem_cons_of_mem _ hp)).1), off, Nat.ne_of_lt (Heap.lt_size (N _ List.mem_cons_self).1), hJ, Nat.zero_le _, rfl⟩
  · rintro j s' ⟨h', tk, oc', v', rest', i, rfl, hst, hoc', F', N', offI, offC, hcI, hJ', hi, rfl⟩
    have next : ∀ h₂ : Heap, (∀ b o, b ∉ [s₁.heap.objs.size] → h'.get? b = some o → h₂.get? b = some o) → Fr h₀ env.locals h₂ m ∧ News h₀ env.locals h₂ ((c, oc') :: rest') := fun h₂ hk₂ =>
      ⟨fr_but F' hk₂ hLI hnew, news_but N' hk₂ fun p hp => by
        rcases List.mem_cons.mp hp with rfl | hp
        · exact hcI
        · exact offI p hp⟩
    by_cases hlt : i < n
    · refine W.item i _ _ _ hlt hst fun v h₂ tk₂ hP hst₂ hk₂ => ?_
      obtain ⟨F₂, N₂⟩ := next h₂ hk₂
      obtain ⟨u₂, rfl⟩ := hP
      have hmem := N₂ (c, oc') List.mem_cons_self
      refine wpAny_assign_Name (wpAny_storeName_cell hk hx hc ⟨oc', hmem.1, hoc'⟩ fun h₃ hv₃ hs₃ => ?_)
      obtain ⟨oc₃, ho₃, hd₃⟩ := hv₃
      have F₃ : Fr h₀ env.locals h₃ m := F₂.change hs₃ hmem.2.1 hmem.2.2
      have hst₃ : IsRangeIter h₃ s₁.heap.objs.size (a + ((i + 1 : Nat) : Int) * k) ((n : Int) - ((i + 1 : Nat) : Int)) k := by
        show h₃.get? _ = some _
        exact hs₃.extBut _ _ (Ne.symm hcI) hst₂
      obtain ⟨oI, heI⟩ : ∃ oI, h₃.get? s₁.heap.objs.size = some oI := ⟨_, hst₃⟩
      have N₃ : News h₀ env.locals h₃ ((s₁.heap.objs.size, oI) :: (c, oc₃) :: rest') := fun p hp => by
        rcases List.mem_cons.mp hp with rfl | hp
        · exact ⟨heI, Ne.symm hLI, hnew⟩
        · rcases List.mem_cons.mp hp with rfl | hp
          · exact ⟨ho₃, hmem.2⟩
          · have z := N₂ p (List.mem_cons_of_mem _ hp)
            exact ⟨hs₃.extBut _ _ (offC p hp) z.1, z.2⟩
      refine wpAny_mono (turn i u₂ s₁.heap.objs.size oI oc₃ rest' h₃ _ _ rfl hlt hJ' offI offC hcI hd₃ F₃ N₃) (fun f s₄ h₄ => ?_) fun _ _ e => e
      have fin : (∃ h tk oc v rest, TurnF h₀ env.locals m s₁ s₁.heap.objs.size oI c (J (i + 1)) s₄ h tk oc v rest) →
          ∃ j, j < n + 1 - i ∧ ∃ h' tk oc v rest i, ForF h₀ env.locals m s₁ a k n c s₁.heap.objs.size J j s₄ h' tk oc v rest i := by
        rintro ⟨h₅, tk₅, oc₅, v₅, rest₅, rfl, hd₅, F₅, N₅, o1, o2, hJ₅⟩
        refine ⟨n + 1 - (i + 1), by omega, h₅, tk₅, oc₅, v₅, rest₅, i + 1, rfl, ?_, hd₅, F₅, fun p hp => N₅ p (List.mem_cons_of_mem _ hp), o1, o2, hcI, hJ₅, hlt, rfl⟩
        show h₅.get? _ = some _
        have z := (N₅ _ List.mem_cons_self).1
        have z2 : h₃.get? s₁.heap.objs.size = some _ := hst₃
        rw [z2] at heI
        rw [heI]; exact z
      cases f with
      | ret v => exact h₄
      | brk => exact h₄
      | next => exact fin (by obtain ⟨h, tk, oc, v, rest, e, x1, x2, x3, x4, x5, x6⟩ := h₄; exact ⟨h, tk, oc, v, rest, e, x1, x2, x3, x4, x5, x6⟩)
      | cont => exact fin (by obtain ⟨h, tk, oc, v, rest, e, x1, x2, x3, x4, x5, x6⟩ := h₄; exact ⟨h, tk, oc, v, rest, e, x1, x2, x3, x4, x5, x6⟩)
    · have hin : i = n := by omega
      subst hin
      refine W.done _ _ _ hst fun h₂ tk₂ hk₂ => wpAny_execs_nil ?_
      obtain ⟨F₂, N₂⟩ := next h₂ hk₂
      exact done h₂ tk₂ oc' v' rest' hoc' hJ' offC F₂ N₂
  · show (s₁.heap.push _).get? _ = some _
    rw [Heap.get?_push_size _ rfl]
    simp
end
end Mine
end
section
open PySem PySem.W PyProof.Rows PySem.Spec PySem.Calls PyProof.V
open PyProof.Rows.LCg PyProof.Rows.LCt
set_option Elab.async false
set_option maxRecDepth 100000
namespace Mine
section
variable {M : Model} {A : Around} {E : Value → Shared → Prop} {s : Shared}
theorem newEnv_cell {scope : Scope} {globals : Addr} {cl : List (Str × Addr)} {qual : Str} {x : Str} {outer : Env} {Q : Env → Shared → Prop}
    (h1 : ∀ n acc, cellsFrom n scope.names acc = (x, n) :: acc) (h2 : ∀ h, pushCells h scope.names = h.push { cls := .type "cell", data := .cell none })
    (hQ : Q { scope, locals := s.heap.objs.size, globals, cells := (x, s.heap.objs.size + 1) :: cl, qual, func := none, code := outer.code, frame := outer.frame, builtins := outer.builtins }
      { s with heap := (s.heap.push { cls := .type "dict", data := .dict #[] }).push { cls := .type "cell", data := .cell none } }) :
    wpAny M A (newFunctionEnv scope globals cl [] qual none .none (some outer)) Q E s := by
  simp only [newFunctionEnv, Option.isSome_some, if_true]
  refine wpAny_bind (wpAny_alloc ?_)
  refine wpAny_bind (wpAny_layCells _ (fun name kind cells => by cases hkc : kind == NameKind.cell <;> simp [hkc]) _ _ _ _ ?_)
  rw [h1, h2, show ({ s with heap := s.heap.push { cls := .type "dict", data := .dict #[] } } : Shared).heap.objs.size = s.heap.objs.size + 1 from Heap.size_push ..]
  refine wpAny_bind ?_
  rw [List.forIn_nil]
  exact wpAny_pure (wpAny_pure hQ)
end
section
variable {prog : Program} {w : World} {A : Around} {E : Value → Shared → Prop} {s : Shared} {h₀ : Heap} {L : Addr} {m : Str → Option Value} {env : Env}
theorem block_C {elt iter : PySem.Expr} {x : Str} {px : Pos} {scope : Scope} {cl : List (Str × Addr)} {pos : Pos} {s₂ : Shared} {I : Addr} {a c : Int} {n : Nat} {news : List (Addr × Obj)} {J : Nat → List Value → List (Addr × Obj) → Prop}
    {RR : Value → Addr → Result → Shared → Prop} (hh : A.handled = none) (hsz : n ≤ sizeLine)
    (h1 : ∀ n acc, cellsFrom n scope.names acc = (x, n) :: acc) (h2 : ∀ h, pushCells h scope.names = h.push { cls := .type "cell", data := .cell none })
    (hkind : scope.kind = .function) (hx : List.lookup x (relabel scope env).names = some .cell) (hst : IsRangeIter s₂.heap I (a + ((0 : Nat) : Int) * c) ((n : Int) - ((0 : Nat) : Int)) c)
    (F : Fr h₀ L s₂.heap m) (N : News h₀ L s₂.heap news) (hIL : L ≠ I) (hI₀ : h₀.get? I = none) (off : ∀ p ∈ news, p.1 ≠ I) (hJ : J 0 [] news)
    (turn : ∀ i u I oI C oC D K oK ys news h tk (E' : Value → Shared → Prop), i < n → J i ys news → oK.data = .cell (some (.int (a + (i : Int) * c) u)) → Fr h₀ L h m → News h₀ L h ((I, oI) :: (C, oC) :: (D, lst ys) :: (K, oK) :: news) → Off3 I C D ((K, oK) :: news) → (∀ p ∈ news, p.1 ≠ K) → ((@Ne Nat I C) ∧ (@Ne Nat I D) ∧ (@Ne Nat C D)) →
      wpAny (model prog w) A (eval elt (compEnvC scope ((x, K) :: cl) C env)) (CompEnd h₀ L m { s₂ with heap := h, toks := tk } I oI C oC D (lst ys) (fun _ => True) (fun y news' => ∃ news'', news' = (K, oK) :: news'' ∧ (∀ p ∈ news'', p.1 ≠ K) ∧ J (i + 1) (ys ++ [y]) news'')) E' { s₂ with heap := h, toks := tk })
    (hRR : ∀ D C h tk m' ys news', Fr h₀ L h m → News h₀ L h ((D, lst ys) :: news') → Off1 D news' → h.Ns C m' → h₀.get? C = none → h₀.get? D = none → C ≠ L → D ≠ L → C ≠ D → (∀ p ∈ news', p.1 ≠ C) → J n ys news' → RR (.ref D) C (.ok .next) { s₂ with heap := h, toks := tk }) :
    wpAny (model prog w) A (newList []) (fun acc s₃ => wpAny (model prog w) A (newFunctionEnv scope env.globals cl [] env.qual none .none (some env)) (fun cenv s₄ =>
      codeAny (model prog w) A (.compStart (.ListComp elt [⟨.Name x px, iter, [], 0⟩] scope pos) 0 (.ref I) acc { cenv with scope := relabel scope env }) (RR acc cenv.locals) s₄) E s₃) E s₂ := by
  have W := Walks.range (prog := prog) (w := w) hh I a c n
  refine wpAny_newObj_type (newEnv_cell h1 h2 ?_)
  dsimp only
  generalize hH2 : s₂.heap.push { cls := .type "list", dict := none, data := .seq ([] : List Value).toArray } = H2
  have hC : H2.objs.size = s₂.heap.objs.size + 1 := by rw [← hH2, Heap.size_push]
  generalize hh1 : (H2.push { cls := .type "dict", data := .dict #[] }).push { cls := .type "cell", data := .cell none } = h₁
  have hDC : s₂.heap.objs.size ≠ H2.objs.size := by rw [hC]; exact Nat.ne_of_lt (Nat.lt_succ_self _)
  have below : ∀ b, b < s₂.heap.objs.size → b ≠ H2.objs.size ∧ b ≠ s₂.heap.objs.size ∧ b ≠ H2.objs.size + 1 := fun b hb => ⟨by rw [hC]; exact Nat.ne_of_lt (Nat.lt_succ_of_lt hb), Nat.ne_of_lt hb, by rw [hC]; exact Nat.ne_of_lt (Nat.lt_succ_of_lt (Nat.lt_succ_of_lt hb))⟩
  have hIlt : I < s₂.heap.objs.size := Heap.lt_size hst
  have old2 : ∀ b o, H2.get? b = some o → h₁.get? b = some o := fun b o e => hh1 ▸ Heap.get?_push_of_some _ (Heap.get?_push_of_some _ e)
  have old : ∀ b o, s₂.heap.get? b = some o → h₁.get? b = some o := fun b o e => old2 b o (hH2 ▸ Heap.get?_push_of_some _ e)
  have hacc : h₁.get? s₂.heap.objs.size = some (lst []) := old2 _ _ (hH2 ▸ Heap.get?_push_size _ rfl)
  have hCobj : h₁.get? H2.objs.size = some { cls := .type "dict", data := .dict #[] } := hh1 ▸ Heap.get?_push_of_some _ (Heap.get?_push_size _ rfl)
  have hKobj : h₁.get? (H2.objs.size + 1) = some { cls := .type "cell", data := .cell none } := by
    rw [← hh1, ← show (H2.push { cls := .type "dict", data := .dict #[] }).objs.size = H2.objs.size + 1 from Heap.size_push ..]
    exact Heap.get?_push_size _ rfl
  have hns₁ : h₁.Ns H2.objs.size (fun _ => none) := (Heap.Ns.new H2 (.type "dict")).keeps fun b o e => hh1 ▸ Heap.get?_push_of_some _ e
  have hst₁ : IsRangeIter h₁ I (a + ((0 : Nat) : Int) * c) ((n : Int) - ((0 : Nat) : Int)) c := old _ _ hst
  have fresh : ∀ b, s₂.heap.objs.size ≤ b → s₂.heap.get? b = none := fun b hb => by
    cases e : s₂.heap.get? b with
    | none => rfl
    | some o' => exact absurd (Heap.lt_size e) (Nat.not_lt.mpr hb)
  have fresh₀ : ∀ b, s₂.heap.objs.size ≤ b → h₀.get? b = none := fun b hb => by
    cases e : h₀.get? b with
    | none => rfl
    | some o' => have := F.keep b o' e; rw [fresh b hb] at this; cases this
  have hD₀ : h₀.get? s₂.heap.objs.size = none := fresh₀ _ (Nat.le_refl _)
  have hC₀ : h₀.get? H2.objs.size = none := fresh₀ _ (by rw [hC]; exact Nat.le_succ _)
  have hK₀ : h₀.get? (H2.objs.size + 1) = none := fresh₀ _ (by rw [hC]; exact Nat.le_succ_of_le (Nat.le_succ _))
  have hLlt : L < s₂.heap.objs.size := F.ns.lt
  have hDL : s₂.heap.objs.size ≠ L := Ne.symm (below L hLlt).2.1
  have hCL : H2.objs.size ≠ L := Ne.symm (below L hLlt).1
  have hKL : H2.objs.size + 1 ≠ L := Ne.symm (below L hLlt).2.2
  have hCI : I ≠ H2.objs.size := (below I hIlt).1
  have hDI : I ≠ s₂.heap.objs.size := (below I hIlt).2.1
  have hKI : I ≠ H2.objs.size + 1 := (below I hIlt).2.2
  have hKC : H2.objs.size + 1 ≠ H2.objs.size := Nat.ne_of_gt (Nat.lt_succ_self _)
  have hKD : H2.objs.size + 1 ≠ s₂.heap.objs.size := by rw [hC]; exact Nat.ne_of_gt (Nat.lt_succ_of_lt (Nat.lt_succ_self _))
  have off₀ : Off3 I H2.objs.size s₂.heap.objs.size news := Off3.of fun p hp => ⟨off p hp, (below _ (Heap.lt_size (N p hp).1)).1, (below _ (Heap.lt_size (N p hp).1)).2.1⟩
  have offK₀ : ∀ p ∈ news, p.1 ≠ H2.objs.size + 1 := fun p hp => (below _ (Heap.lt_size (N p hp).1)).2.2
  have hCls : (relabel scope env).kind = .function := hkind
  generalize H2.objs.size + 1 = K at *
  generalize H2.objs.size = C at *
  have hRR' := hRR s₂.heap.objs.size
  clear hRR
  have loop : ∀ s₃ : Shared, s₃ = { s₂ with heap := h₁ } →
      codeAny (model prog w) A (.compLoop (.ListComp elt [⟨.Name x px, iter, [], 0⟩] scope pos) 0 (.ref I) (.ref s₂.heap.objs.size) (compEnvC scope ((x, K) :: cl) C env))
        (RR (.ref s₂.heap.objs.size) C) s₃ := by
    rintro s₃ rfl
    refine codeAny_compLoop_tests
      (fun k s' => ∃ h' tk i ys m' news' oK vK, s' = { s₂ with heap := h', toks := tk } ∧ i ≤ n ∧ k = n + 1 - i ∧ ys.length = i ∧ IsRangeIter h' I (a + ((i : Nat) : Int) * c) ((n : Int) - ((i : Nat) : Int)) c ∧ oK.data = .cell vK ∧ Fr h₀ L h' m ∧ h'.Ns C m' ∧
        News h₀ L h' ((s₂.heap.objs.size, lst ys) :: (K, oK) :: news') ∧ Off3 I C s₂.heap.objs.size news' ∧ (∀ p ∈ news', p.1 ≠ K) ∧ J i ys news') ?_ (n + 1)
      ⟨h₁, s₂.toks, 0, [], _, news, { cls := .type "cell", data := .cell none }, none, rfl, Nat.zero_le _, rfl, rfl, hst₁, rfl, F.keeps old, hns₁, fun p hp => ?_, off₀, offK₀, hJ⟩
    · rintro k s' ⟨h', tk, i, ys, m', news', oK, vK, rfl, hi, rfl, hyl, hst', hoK, F', hn', N', off', offK', J'⟩
      have off3 := off'.mem
      have next : ∀ h₂ : Heap, (∀ b o, b ∉ [I] → h'.get? b = some o → h₂.get? b = some o) → Fr h₀ L h₂ m ∧ News h₀ L h₂ ((s₂.heap.objs.size, lst ys) :: (K, oK) :: news') ∧ h₂.Ns C m' := fun h₂ hk₂ =>
        ⟨fr_but F' hk₂ hIL hI₀, news_but N' hk₂ fun p hp => by
          rcases List.mem_cons.mp hp with rfl | hp
          · exact Ne.symm hDI
          · rcases List.mem_cons.mp hp with rfl | hp
            · exact Ne.symm hKI
            · exact (off3 p hp).1, hn'.at' fun o e => hk₂ _ o (by simpa using Ne.symm hCI) e⟩
      by_cases hlt : i < n
      · refine W.item i _ _ _ hlt hst' fun v h₂ tk₂ hPv hst₂ hk₂ => ?_
        obtain ⟨F₂, N₂, hn₂⟩ := next h₂ hk₂
        obtain ⟨u₂, rfl⟩ := hPv
        have hmem := N₂ (K, oK) (.tail _ (.head _))
        refine wpAny_assign_Name (wpAny_storeName_cell (c := K) hCls hx (by simp [compEnvC]) ⟨oK, hmem.1, hoK⟩ fun h₃ hv₃ hs₃ => ?_)
        obtain ⟨oK₃, ho₃, hd₃⟩ := hv₃
        refine wpAny_tests_nil ?_
        simp only [if_true]
        have F₃ : Fr h₀ L h₃ m := F₂.change hs₃ hKL hK₀
        have hst₃ : IsRangeIter h₃ I (a + ((i + 1 : Nat) : Int) * c) ((n : Int) - ((i + 1 : Nat) : Int)) c := by
          show h₃.get? _ = some _
          exact hs₃.extBut _ _ hKI hst₂
        obtain ⟨oI, heI⟩ : ∃ oI, h₃.get? I = some oI := ⟨_, hst₃⟩
        obtain ⟨oC, heC, hoC⟩ := ns_obj (hn₂.sameBut hs₃ (Ne.symm hKC))
        have N₃ : News h₀ L h₃ ((I, oI) :: (C, oC) :: (s₂.heap.objs.size, lst ys) :: (K, oK₃) :: news') := fun p hp => by
          rcases List.mem_cons.mp hp with rfl | hp
          · exact ⟨heI, Ne.symm hIL, hI₀⟩
          · rcases List.mem_cons.mp hp with rfl | hp
            · exact ⟨heC, hCL, hC₀⟩
            · rcases List.mem_cons.mp hp with rfl | hp
              · have z := N₂ _ List.mem_cons_self
                exact ⟨hs₃.extBut _ _ (Ne.symm hKD) z.1, z.2⟩
              · rcases List.mem_cons.mp hp with rfl | hp
                · exact ⟨ho₃, hKL, hK₀⟩
                · have z := N₂ p (.tail _ (.tail _ hp))
                  exact ⟨hs₃.extBut _ _ (offK' p hp) z.1, z.2⟩
        have off₃ : Off3 I C s₂.heap.objs.size ((K, oK₃) :: news') := ⟨⟨Ne.symm hKI, hKC, hKD⟩, off'⟩
        refine wpAny_mono (turn i u₂ I oI C oC s₂.heap.objs.size K oK₃ ys news' h₃ _ _ hlt J' hd₃ F₃ N₃ off₃ offK' ⟨hCI, hDI, Ne.symm hDC⟩) (fun y s₄ h₄ => ?_) fun _ _ e => e
        obtain ⟨h₄, tk₄, news₄, rfl, F₄, N₄, off₄, -, news₅, rfl, offK₅, J₄⟩ := h₄
        have zI := (N₄ (I, oI) List.mem_cons_self).1
        have zC := (N₄ (C, oC) (List.mem_cons_of_mem _ List.mem_cons_self)).1
        have zD := (N₄ (s₂.heap.objs.size, lst ys) (List.mem_cons_of_mem _ (List.mem_cons_of_mem _ List.mem_cons_self))).1
        have N₄' : News h₀ L h₄ ((K, oK₃) :: news₅) := fun p hp => N₄ p (List.mem_cons_of_mem _ (List.mem_cons_of_mem _ (List.mem_cons_of_mem _ hp)))
        have hst₄ : IsRangeIter h₄ I (a + ((i + 1 : Nat) : Int) * c) ((n : Int) - ((i + 1 : Nat) : Int)) c := by
          show h₄.get? _ = some _
          have z2 : h₃.get? I = some _ := hst₃
          rw [z2] at heI
          rw [heI]; exact zI
        refine append_at (hsz := by show ys.toArray.size ≤ sizeLine; rw [List.size_toArray, hyl]; exact Nat.le_trans hi hsz) zD fun h₅ hs₅ hD₅ => ?_
        have off4 := off₄.mem
        refine ⟨n + 1 - (i + 1), by omega, h₅, tk₄, i + 1, ys ++ [y], _, news₅, oK₃, _, rfl, hlt, rfl, by rw [List.length_append, List.length_singleton, hyl], ?_, hd₃, F₄.change hs₅ hDL hD₀,
          (hoC.ns zC).sameBut hs₅ (Ne.symm hDC), fun p hp => ?_, off₄.2, offK₅, J₄⟩
        · show h₅.get? _ = some _
          exact hs₅.extBut _ _ hDI hst₄
        · rcases List.mem_cons.mp hp with rfl | hp
          · exact ⟨hD₅.trans (congrArg some (lst_snoc ys y)), hDL, hD₀⟩
          · exact ⟨hs₅.extBut _ _ (off4 p hp).2.2 (N₄' p hp).1, (N₄' p hp).2⟩
      · obtain rfl : i = n := Nat.le_antisymm hi (Nat.not_lt.mp hlt)
        refine W.done _ _ _ hst' fun h₂ tk₂ hk₂ => ?_
        obtain ⟨F₂, N₂, hn₂⟩ := next h₂ hk₂
        exact hRR' _ h₂ tk₂ _ ys news' F₂ (fun p hp => by
          rcases List.mem_cons.mp hp with rfl | hp
          · exact N₂ _ List.mem_cons_self
          · exact N₂ _ (.tail _ (.tail _ hp))) off'.one hn₂ hC₀ hD₀ hCL hDL (Ne.symm hDC) (fun p hp => (off3 p hp).2.1) J'
    · rcases List.mem_cons.mp hp with rfl | hp
      · exact ⟨hacc, hDL, hD₀⟩
      · rcases List.mem_cons.mp hp with rfl | hp
        · exact ⟨hKobj, hKL, hK₀⟩
        · exact ⟨old _ _ (N p hp).1, (N p hp).2⟩
  exact codeAny_compStart_list (loop _ rfl) (W.self 0 _ _ _ hst₁ (loop _ rfl))
noncomputable def SrcCell (prog : Program) (w : World) (A : Around) (h₀ : Heap) (L : Addr) (m : Str → Option Value) (env : Env) (elt : PySem.Expr) (x : Str) (scope : Scope) (cl : List (Str × Addr)) (Fin : Shared → List Value → List (Addr × Obj) → Prop) (xv : Value) (s₁ : Shared) : Prop :=
  ∃ r a b c t u v n news, ∃ J : Nat → List Value → List (Addr × Obj) → Prop, xv = .ref r ∧ A.handled = none ∧ Fr h₀ L s₁.heap m ∧ News h₀ L s₁.heap news ∧ IsRange s₁.heap r a b c t u v ∧ Builtin.Range.small a b c = true ∧ Builtin.Range.rangeSize a b c = ((n : Nat) : Int) ∧ n ≤ sizeLine ∧
    J 0 [] news ∧
    ∀ s₂ : Shared, (∃ h, s₂ = { s₁ with heap := h }) →
     (∀ i u I oI C oC D K oK ys news h tk (E' : Value → Shared → Prop), i < n → J i ys news → oK.data = .cell (some (.int (a + (i : Int) * c) u)) → Fr h₀ L h m → News h₀ L h ((I, oI) :: (C, oC) :: (D, lst ys) :: (K, oK) :: news) → Off3 I C D ((K, oK) :: news) → (∀ p ∈ news, p.1 ≠ K) → ((@Ne Nat I C) ∧ (@Ne Nat I D) ∧ (@Ne Nat C D)) →
      wpAny (model prog w) A (eval elt (compEnvC scope ((x, K) :: cl) C env)) (CompEnd h₀ L m { s₂ with heap := h, toks := tk } I oI C oC D (lst ys) (fun _ => True) (fun y news' => ∃ news'', news' = (K, oK) :: news'' ∧ (∀ p ∈ news'', p.1 ≠ K) ∧ J (i + 1) (ys ++ [y]) news'')) E' { s₂ with heap := h, toks := tk }) ∧
     ∀ ys news, J n ys news → Fin s₂ ys news
theorem ListComp_UC {elt iter : PySem.Expr} {x : Str} {px : Pos} {scope : Scope} {cl : List (Str × Addr)} {pos : Pos} {Q : Value → Shared → Prop} (F₀ : Fr h₀ L s.heap m)
    (hclos : closureFor scope env = pure cl) (h1 : ∀ n acc, cellsFrom n scope.names acc = (x, n) :: acc) (h2 : ∀ h, pushCells h scope.names = h.push { cls := .type "cell", data := .cell none }) (hkind : scope.kind = .function)
    (hnames : ∀ y ∈ scope.names, y.2 = .local → scope.names.lookup y.1 = some .local) (hx : List.lookup x (relabel scope env).names = some .cell)
    (h : wpAny (model prog w) A (eval iter env) (SrcCell prog w A h₀ L m env elt x scope cl (fun s₂ => FinE h₀ L m s₂ Q)) E s)
    (hs : ∀ x, foldedSetIterable iter env x = pure x := by intro _; rfl) :
    wpAny (model prog w) A (eval (.ListComp elt [⟨.Name x px, iter, [], 0⟩] scope pos) env) Q E s := by
  rw [eval_ListComp]
  refine wpAny_comprehension_free (use := none) rfl hs hclos hkind hnames (wpAny_mono h (fun xv s₁ h₁ => ?_) fun _ _ e => e)
  obtain ⟨r, a, b, c, t, u, v, n, news, J, rfl, hh, F, N, hr, hsm, hn, hsz, hJ, R⟩ := h₁
  refine wpAny_pyIter_range hr hsm ?_
  obtain ⟨turn, fin⟩ := R _ ⟨_, rfl⟩
  refine block_C (J := J) hh hsz h1 h2 hkind hx (by show (Heap.push _ _).get? _ = some _; rw [hn]; simpa using Heap.get?_push_size _ rfl)
    (F.keeps fun _ _ e => Heap.get?_push_of_some _ e) (N.grown fun _ _ e => Heap.get?_push_of_some _ e) (Nat.ne_of_lt F.ns.lt) (next_is_new F) (fun p hp => Nat.ne_of_lt (Heap.lt_size (N p hp).1)) hJ turn ?_
  intro D C h tk m' ys news' F' N' o1 hn' hC₀ hD₀ hCL hDL hCD offC hJ'
  refine ⟨m', hn', fun h'' hs'' => fin ys news' hJ' D h'' tk (F'.change hs'' hCL hC₀) (fun p hp => ?_) o1⟩
  refine ⟨hs''.extBut _ _ ?_ (N' p hp).1, (N' p hp).2⟩
  rcases List.mem_cons.mp hp with rfl | hp
  · exact Ne.symm hCD
  · exact offC p hp
end
end Mine
end
section
open PySem PySem.W PyProof.Rows PySem.Spec PySem.Calls PyProof.V
open PyProof.Rows.LCg PyProof.Rows.LCt
set_option Elab.async false
set_option maxRecDepth 100000
namespace Mine
theorem len63 {vs : List Value} {ns : List Int} (h : IntsAre vs ns) (h1 : ¬ (((63 : Nat) : Int) < ((ns.length : Nat) : Int))) : vs.length ≤ 63 := by
  have := h.length
  omega
theorem fivelist {vs : List Value} {ns : List Int} (h : IntsAre vs ns) (h5 : ns.length = 5) (h0 : ∀ n ∈ ns, 0 ≤ n) : ∃ c0 c1 c2 c3 c4 t0 t1 t2 t3 t4, vs = [.int c0 t0, .int c1 t1, .int c2 t2, .int c3 t3, .int c4 t4] ∧ 0 ≤ c0 ∧ 0 ≤ c1 ∧ 0 ≤ c2 ∧ 0 ≤ c3 ∧ 0 ≤ c4 := by
  cases h with
  | nil => cases h5
  | cons c0 t0 h => cases h with
    | nil => cases h5
    | cons c1 t1 h => cases h with
      | nil => cases h5
      | cons c2 t2 h => cases h with
        | nil => cases h5
        | cons c3 t3 h => cases h with
          | nil => cases h5
          | cons c4 t4 h => cases h with
            | cons c5 t5 h => simp at h5
            | nil => exact ⟨_, _, _, _, _, _, _, _, _, _, rfl, h0 _ (by simp), h0 _ (by simp), h0 _ (by simp), h0 _ (by simp), h0 _ (by simp)⟩
theorem preL_len : ∀ (ns : List Nat) (k : Nat), (∀ n ∈ ns, n ≤ 5) → (preL ns k).length ≤ 5 * ns.length + 1 + k
  | [], k, _ => by
    show (9 :: List.replicate k 32).length ≤ 5 * 0 + 1 + k
    rw [List.length_cons, List.length_replicate]; omega
  | n :: ns, k, h => by
    have e : preL (n :: ns) k = 9 :: (List.replicate (n - 1) 32 ++ preL ns k) := by simp [preL]
    have := preL_len ns k fun x hx => h x (List.mem_cons_of_mem _ hx)
    have := h n List.mem_cons_self
    rw [e, List.length_cons, List.length_append, List.length_replicate, List.length_cons]
    omega
theorem lead_xs_len {xs : List Value} {cs : List Int} (h : IntsAre xs (wrun (preL (nsC cs) 1)).ns) : xs.length ≤ 300 := by
  have h1 := h.length
  have h2 := (wrun_bd (preL (nsC cs) 1)).2.2.1
  have h3 := preL_len (nsC cs) 1 (by
    intro n hn
    unfold nsC at hn
    obtain ⟨r, hr, rfl⟩ := List.mem_map.mp hn
    exact Nat.le_succ_of_le (rows_len cs r hr).2.1)
  have h4 : (nsC cs).length = 5 := rfl
  omega
theorem relay_xs_len {xs : List Value} {tb : Int} {cs : List Int} (h : IntsAre xs (wrun (preL (nsR tb cs) 2)).ns) : xs.length ≤ 300 := by
  have h1 := h.length
  have h2 := (wrun_bd (preL (nsR tb cs) 2)).2.2.1
  have h3 := preL_len (nsR tb cs) 2 (by
    intro n hn
    unfold nsR at hn
    obtain ⟨r, hr, rfl⟩ := List.mem_map.mp hn
    obtain ⟨x, hx, rfl⟩ := List.mem_map.mp hr
    have := (rows_len cs x hx).2.1
    show x.n + (if _ then 1 else 0) ≤ 5
    split <;> omega)
  have h4 : (nsR tb cs).length = 5 := rfl
  omega
end Mine
end
section
open PySem PySem.W PyProof.Rows PySem.Spec PySem.Calls PyProof.V
open PyProof.Rows.LCg PyProof.Rows.LCt
set_option Elab.async false
set_option maxRecDepth 100000
namespace Mine
noncomputable def noE : PySem.Expr := .List [] default
noncomputable def lawSc : Scope := lawD.1.1.scope
noncomputable def forBody : List Stmt := match lawD.1.1.body with | [_, _, _, _, _, .For _ _ b _ _, _, _] => b | _ => []
noncomputable def gapsE : PySem.Expr := match forBody with | [_, .Assign _ e _, _, _, _] => e | _ => noE
noncomputable def testE : PySem.Expr := match forBody with | [_, _, .If (.Compare e _ _ _) _ _ _, _, _] => e | _ => noE
noncomputable def fewerE : PySem.Expr := match forBody with | [_, _, _, .Assign _ e _, _] => e | _ => noE
noncomputable def rowE : PySem.Expr := match forBody with | [_, _, _, _, .Expr (.Call _ [e] _ _) _] => e | _ => noE
end Mine
end
section
open PySem PySem.W PyProof.Rows PySem.Spec PySem.Calls PyProof.V
open PyProof.Rows.LCg PyProof.Rows.LCt
namespace Mine
local macro_rules | `(tactic| k_mem) => `(tactic| ((repeat' (with_reducible first | exact List.mem_cons_self | refine List.mem_cons_of_mem _ ?_)); assumption))
local macro_rules | `(tactic| k_ne) => `(tactic| (refine neN ?_; (try dsimp only); first | assumption | (refine Ne.symm ?_; assumption) | omega))
local macro_rules | `(tactic| k_all) => `(tactic| assumption)
local macro_rules | `(tactic| walk_at "eval Name") => `(tactic| (k_here; (with_reducible show wpAny _ _ (eval (Expr.Name _ _) (compEnvC _ _ _ _)) _ _ _); k_dflt (refine ldCellN (by k_asm) (by k_mem) (by assumption) (by rfl) ?_)))
section
open PySem PySem.W PyProof.Rows PySem.Spec PySem.Calls PyProof.V
open PyProof.Rows.LCg PyProof.Rows.LCt
set_option Elab.async false
set_option maxRecDepth 100000
set_option maxHeartbeats 0 in
theorem gaps_tells {w : World} {p : Program} {loose : List Str} {mean : ExcName → Option Value} {mg mb : Str → Option Value} {fa L : Addr} {cd : Value} {g : Heap} {m : Str → Option Value} {news : List (Addr × Obj)} {o2 o5 : Obj} {xU dU TU CU xR dR TR CR : Addr} {DU DR : Obj} {xsU xsR : List Value} {nsU nsR : List Int} {bU ntU bR ntR : Int} {tbU tbR : Tok} {s : Shared} {Q E : Value → Shared → Prop}
    (B : Below callerA g [] g) (X : (K w.params).In g) (T : Top p loose mean mg mb g) (XB : XF w g) (F : Fr g L s.heap m) (N : News g L s.heap news)
    (c2 : (L + 1 + 1, o2) ∈ news) (d2 : o2.data = .cell (some (.ref xU))) (c5 : (L + 1 + 1 + 1 + 1 + 1, o5) ∈ news) (d5 : o5.data = .cell (some (.ref xR)))
    (mU1 : (TU, tupO [.ref CU, .int bU tbU]) ∈ news) (mU2 : (CU, tupO xsU) ∈ news) (mU3 : (xU, instObj 100 dU) ∈ news) (mU4 : (dU, DU) ∈ news) (hDU : LeadD w DU ntU TU) (hxU : IntsAre xsU nsU) (hlU : xsU.length ≤ 300)
    (mR1 : (TR, tupO [.ref CR, .int bR tbR]) ∈ news) (mR2 : (CR, tupO xsR) ∈ news) (mR3 : (xR, instObj 100 dR) ∈ news) (mR4 : (dR, DR) ∈ news) (hDR : LeadD w DR ntR TR) (hxR : IntsAre xsR nsR) (hlR : xsR.length ≤ 300)
    (fin : ∀ D h tk ys, IntsAre ys ([1, 2, 3, 4].map fun z => levV z nsR bR ntR - levV z nsU bU ntU - 1) → Fr g L h m → News g L h ((D, lst ys) :: news) → (∀ p ∈ news, p.1 ≠ D) → Q (.ref D) { s with heap := h, toks := tk }) :
    wpAny (model PySem.Challenge.rw_re0164_01.row.prog w) (callerA.deeper (envOfC (Str.ofString "law") lawSc L fa cd)) (eval gapsE (envOfC (Str.ofString "law") lawSc L fa cd)) Q E s := by
  have hK : (∀ P, (K P).length = (K P).length) ∧ PySem.Challenge.rw_re0164_01.foot = 7 := ⟨fun _ => rfl, rfl⟩
  revert hK
  dsimp only [gapsE, forBody, lawSc, lawD]
  k_fill
  intro _
  have hDU' := hDU
  have hDR' := hDR
  k_dflt (obtain ⟨XU, tU1, tU2, kU1, kU2, kU3, kU4, kU5, ttU, nU, bU9, eU⟩ := hDU'; subst eU)
  k_dflt (obtain ⟨XR, tR1, tR2, kR1, kR2, kR3, kR4, kR5, ttR, nR, bR9, eR⟩ := hDR'; subst eR)
  k_dflt (refine ListComp_US (F₀ := by k_asm) (by with_unfolding_all rfl) (by decide) (by rfl) (by decide) (by rfl) ?_)
  k_steps
  rename IsRange _ _ _ _ _ _ _ _ => Rr
  refine ⟨_, _, _, _, _, _, _, 4, _, rfl, rfl, by k_asm, by k_asm, Rr, by decide, by decide, by rw [sizeLine_eq]; decide, fun s₂ hs₂ => restI (ks := [1, 2, 3, 4]) (fun z => levV z nsR bR ntR - levV z nsU bU ntU - 1) rfl ?_ (fun k t I9 oI9 C oC D9 m₂ ys h tk E' hc hC hx F9 N9 off ne => ?_) ?_⟩
  · rintro j v hj ⟨t, rfl⟩
    refine ⟨_, t, ?_, rfl⟩
    match j, hj with
    | 0, _ => rfl
    | 1, _ => rfl
    | 2, _ => rfl
    | 3, _ => rfl
  · have hk : 1 ≤ k ∧ k ≤ 4 := by
      revert hc; simp only [List.mem_cons, List.not_mem_nil, or_false]; omega
    obtain ⟨hk1, hk4⟩ := hk
    have hk5 : k ≤ 5 := by omega
    clear hc
    (repeat' ((fail_if_success (with_reducible show wpAny _ _ (call (Value.ref _) _) _ _ _)); first | (k_unfold; (try dsimp only)) | (k_end; wrow_close) | walk1 | (dsimp only; walk1) | (leave1; (try dsimp only)) | fail "no step"))
    refine lvl_tells _ _ _ _ _ _ _ _ _ _ _ _ hDR hxR hlR hk1 hk5 _ _ _ _ _ _ _ _ _ _ _ _ _ _ _ _ _ _ B (by k_asm) X (by k_asm) (by (repeat' (with_reducible refine List.mem_cons_of_mem _ ?_)); exact mR1) (by (repeat' (with_reducible refine List.mem_cons_of_mem _ ?_)); exact mR2) (by (repeat' (with_reducible refine List.mem_cons_of_mem _ ?_)); exact mR3) (by (repeat' (with_reducible refine List.mem_cons_of_mem _ ?_)); exact mR4) T rfl XB (by ktr_room) (by ktr_units) fun ta ha tka Fa Na => ?_
    (repeat' ((fail_if_success (with_reducible show wpAny _ _ (call (Value.ref _) _) _ _ _)); first | (k_unfold; (try dsimp only)) | (k_end; wrow_close) | walk1 | (dsimp only; walk1) | (leave1; (try dsimp only)) | fail "no step"))
    refine lvl_tells _ _ _ _ _ _ _ _ _ _ _ _ hDU hxU hlU hk1 hk5 _ _ _ _ _ _ _ _ _ _ _ _ _ _ _ _ _ _ B (by k_asm) X (by k_asm) (by (repeat' (with_reducible refine List.mem_cons_of_mem _ ?_)); exact mU1) (by (repeat' (with_reducible refine List.mem_cons_of_mem _ ?_)); exact mU2) (by (repeat' (with_reducible refine List.mem_cons_of_mem _ ?_)); exact mU3) (by (repeat' (with_reducible refine List.mem_cons_of_mem _ ?_)); exact mU4) T rfl XB (by ktr_room) (by ktr_units) fun tb hb tkb Fb Nb => ?_
    k_steps
    exact LCg.CompEnd.intro (by k_asm) (by k_asm) _ (fun _ hp => hp) off trivial ⟨rfl, _, rfl⟩
  · intro ys hy
    (try dsimp only)
    intro D9 h1 tk1 F1 N1 off1
    obtain ⟨_, rfl⟩ := hs₂
    exact fin D9 h1 tk1 ys hy F1 N1 (fresh1 off1)
end
section
open PySem PySem.W PyProof.Rows PySem.Spec PySem.Calls PyProof.V
open PyProof.Rows.LCg PyProof.Rows.LCt
set_option Elab.async false
set_option maxRecDepth 100000
local macro_rules | `(tactic| walk_at "subscriptTail") => `(tactic| (k_here; k_dflt (refine tail_listI (News.isList (by k_asm) (by k_mem)) (by assumption) (by omega) (by omega) (by omega) ?_); intro _))
set_option maxHeartbeats 0 in
theorem test_tells {w : World} {p : Program} {loose : List Str} {mean : ExcName → Option Value} {mg mb : Str → Option Value} {fa L : Addr} {cd : Value} {g : Heap} {m : Str → Option Value} {news : List (Addr × Obj)} {o6 : Obj} {D6 : Addr} {vs : List Value} {gs : List Int} {ep : Nat} {s : Shared} {Q E : Value → Shared → Prop}
    (B : Below callerA g [] g) (X : (K w.params).In g) (T : Top p loose mean mg mb g) (XB : XF w g) (F : Fr g L s.heap m) (N : News g L s.heap news)
    (c6 : (L + 1 + 1 + 1 + 1 + 1 + 1, o6) ∈ news) (d6 : o6.data = .cell (some (.ref D6))) (mG : (D6, PySem.W.listOf vs.toArray ep) ∈ news) (hG : IntsAre vs gs) (hg4 : gs.length = 4)
    (hz : ∀ z : Int, 2 ≤ z → z ≤ 4 → Int.fmod (gs.getD (z - 1).toNat 0) z = 0)
    (fin : ∀ D h tk, Fr g L h m → News g L h ((D, lst []) :: news) → (∀ p ∈ news, p.1 ≠ D) → Q (.ref D) { s with heap := h, toks := tk }) :
    wpAny (model PySem.Challenge.rw_re0164_01.row.prog w) (callerA.deeper (envOfC (Str.ofString "law") lawSc L fa cd)) (eval testE (envOfC (Str.ofString "law") lawSc L fa cd)) Q E s := by
  have hK : (∀ P, (K P).length = (K P).length) ∧ PySem.Challenge.rw_re0164_01.foot = 7 := ⟨fun _ => rfl, rfl⟩
  revert hK
  dsimp only [testE, forBody, lawSc, lawD]
  k_fill
  intro _
  have hvl := hG.length
  k_dflt (refine ListComp_TJ (F₀ := by k_asm) (by with_unfolding_all rfl) (by decide) (by rfl) (by decide) (by rfl) ?_)
  k_steps
  rename IsRange _ _ _ _ _ _ _ _ => Rr
  refine ⟨_, _, _, _, _, _, 3, _, rfl, rfl, by k_asm, by k_asm, Rr, by decide, by decide, by rw [sizeLine_eq]; decide, fun s₂ hs₂ => restJT (fun _ ys => ys = []) rfl (fun i v I9 oI9 C oC D9 m₂ ys h tk E' hi hv hys hC hx F9 N9 off ne => ?_) ?_⟩
  · obtain ⟨t, rfl⟩ := hv
    have hzi := hz (2 + (i : Int)) (by omega) (by omega)
    subst hys
    k_steps
    · exact absurd hzi (by assumption)
    · exact LCg.CompEnd.intro (by k_asm) (by k_asm) _ (fun _ hp => hp) off trivial ⟨rfl, rfl⟩
  · intro ys hy
    (try dsimp only)
    intro D9 h1 tk1 F1 N1 off1
    obtain ⟨_, rfl⟩ := hs₂
    subst hy
    exact fin D9 h1 tk1 F1 N1 (fresh1 off1)
end
section
open PySem PySem.W PyProof.Rows PySem.Spec PySem.Calls PyProof.V
open PyProof.Rows.LCg PyProof.Rows.LCt
set_option Elab.async false
set_option maxRecDepth 100000
local macro_rules | `(tactic| walk_at "no place 0") => `(tactic| fail)
local macro_rules | `(tactic| walk_at "subscriptTail") => `(tactic| (k_here; (with_reducible show wpAny _ _ (subscriptTail _ _ (Value.ref _) (Value.int _ _)) _ _ _); k_dflt (refine' item_list ?k1 ?k2 ?k3 ?k4 ?_; (case k1 => exact News.isList (by k_asm) (by k_mem)); (case k2 => omega); (case k3 => omega); (case k4 => first | assumption | (rw [List.getElem?_toArray]; assumption)))))
noncomputable def fewL (t : Nat) (refs : List Value) (i : Nat) : List Value := ((List.range i).filter (fun k => k &&& t == k)).map (fun k => refs.getD k .none)
theorem bitAnd34 : ∀ t < 4, ∀ i < t, (Builtin.bitAnd (0 + ((i : Nat) : Int)) ((t : Nat) : Int) = 0 + ((i : Nat) : Int)) = (i &&& t = i) := by
  have h : ∀ t < 4, ∀ i < t, (Builtin.bitAnd (0 + ((i : Nat) : Int)) ((t : Nat) : Int) = 0 + ((i : Nat) : Int)) ↔ (i &&& t = i) := by decide +kernel
  exact fun t ht i hi => propext (h t ht i hi)
theorem fewL_in {t i : Nat} {refs : List Value} (ht : t < 4) (hi : i < t) (h : Builtin.bitAnd (0 + ((i : Nat) : Int)) ((t : Nat) : Int) = 0 + ((i : Nat) : Int)) : fewL t refs i ++ [refs.getD i .none] = fewL t refs (i + 1) := by
  rw [bitAnd34 t ht i hi] at h
  simp [fewL, List.range_succ, List.filter_append, h]
theorem fewL_out {t i : Nat} {refs : List Value} (ht : t < 4) (hi : i < t) (h : Builtin.bitAnd (0 + ((i : Nat) : Int)) ((t : Nat) : Int) ≠ 0 + ((i : Nat) : Int)) : fewL t refs i = fewL t refs (i + 1) := by
  have h' : ¬ (i &&& t = i) := by rw [← bitAnd34 t ht i hi]; exact h
  simp [fewL, List.range_succ, List.filter_append, h']
set_option maxHeartbeats 0 in
theorem fewer_tells {w : World} {p : Program} {loose : List Str} {mean : ExcName → Option Value} {mg mb : Str → Option Value} {fa L : Addr} {cd : Value} {g : Heap} {m : Str → Option Value} {news : List (Addr × Obj)} {o3 o4 : Obj} {DA : Addr} {refs : List Value} {t : Nat} {u4 : Tok} {ep : Nat} {s : Shared} {Q E : Value → Shared → Prop}
    (B : Below callerA g [] g) (X : (K w.params).In g) (T : Top p loose mean mg mb g) (XB : XF w g) (F : Fr g L s.heap m) (N : News g L s.heap news)
    (c3 : (L + 1 + 1 + 1, o3) ∈ news) (d3 : o3.data = .cell (some (.ref DA))) (c4 : (L + 1 + 1 + 1 + 1, o4) ∈ news) (d4 : o4.data = .cell (some (.int (t : Int) u4))) (mA : (DA, PySem.W.listOf refs.toArray ep) ∈ news) (hlen : refs.length = t) (ht : t < 4)
    (fin : ∀ D h tk, Fr g L h m → News g L h ((D, lst (fewL t refs t)) :: news) → (∀ p ∈ news, p.1 ≠ D) → Q (.ref D) { s with heap := h, toks := tk }) :
    wpAny (model PySem.Challenge.rw_re0164_01.row.prog w) (callerA.deeper (envOfC (Str.ofString "law") lawSc L fa cd)) (eval fewerE (envOfC (Str.ofString "law") lawSc L fa cd)) Q E s := by
  have hK : (∀ P, (K P).length = (K P).length) ∧ PySem.Challenge.rw_re0164_01.foot = 7 := ⟨fun _ => rfl, rfl⟩
  revert hK
  dsimp only [fewerE, forBody, lawSc, lawD]
  k_fill
  intro _
  have h4 : t = 0 ∨ t = 1 ∨ t = 2 ∨ t = 3 := by omega
  k_dflt (refine ListComp_TJ (F₀ := by k_asm) (by with_unfolding_all rfl) (by decide) (by rfl) (by decide) (by rfl) ?_)
  k_steps
  rename IsRange _ _ _ _ _ _ _ _ => Rr
  refine ⟨_, _, _, _, _, _, t, _, rfl, rfl, by k_asm, by k_asm, Rr, ?_, ?_, ?_, fun s₂ hs₂ => restJT (fun i ys => ys = fewL t refs i) rfl (fun i v I9 oI9 C oC D9 m₂ ys h tk E' hi hv hys hC hx F9 N9 off ne => ?_) ?_⟩
  · rcases h4 with rfl | rfl | rfl | rfl <;> decide
  · rcases h4 with rfl | rfl | rfl | rfl <;> decide
  · rcases h4 with rfl | rfl | rfl | rfl <;> (rw [sizeLine_eq]; decide)
  · obtain ⟨t9, rfl⟩ := hv
    have hitem : refs[(0 + (i : Int)).toNat]? = some (refs.getD i .none) := by
      have e : (0 + (i : Int)).toNat = i := by omega
      rw [e, List.getD_eq_getElem?_getD, List.getElem?_eq_getElem (by omega)]; rfl
    subst hys
    k_steps
    · rename Builtin.bitAnd _ _ = _ => hb
      refine LCg.CompEnd.intro (by k_asm) (by k_asm) _ (fun _ hp => hp) off trivial ⟨rfl, ?_⟩
      exact fewL_in ht hi hb
    · rename Builtin.bitAnd _ _ ≠ _ => hb
      refine LCg.CompEnd.intro (by k_asm) (by k_asm) _ (fun _ hp => hp) off trivial ⟨rfl, ?_⟩
      exact fewL_out ht hi hb
  · intro ys hy
    (try dsimp only)
    intro D9 h1 tk1 F1 N1 off1
    obtain ⟨_, rfl⟩ := hs₂
    subst hy
    exact fin D9 h1 tk1 F1 N1 (fresh1 off1)
end
section
open PySem PySem.W PyProof.Rows PySem.Spec PySem.Calls PyProof.V
open PyProof.Rows.LCg PyProof.Rows.LCt
set_option Elab.async false
set_option maxRecDepth 100000
local macro_rules | `(tactic| walk_at "no place 0") => `(tactic| fail)
local macro_rules | `(tactic| walk_at "eval ListComp") => `(tactic| (k_here; k_dflt (refine ListComp_LJ (F₀ := by k_asm) (by with_unfolding_all rfl) (by decide) (by rfl) (by decide) (by rfl) ?_)))
local macro_rules | `(tactic| walk_at "subscriptTail") => `(tactic| (k_here; k_dflt (refine tail_listI (News.isList (by k_asm) (by k_mem)) (by assumption) (by omega) (by omega) (by omega) ?_); intro _))
noncomputable def rowV (gs : List Int) (rs : List (List Int)) (k : Int) : Int := (gs.getD k.toNat 0).fdiv (k + 1) - (rs.map fun r => r.getD k.toNat 0).sum
theorem take_snoc {rs : List (List Int)} {i : Nat} {r : List Int} (h : rs[i]? = some r) (f : List Int → Int) : (rs.take (i + 1)).map f = (rs.take i).map f ++ [f r] := by
  rw [List.take_add_one, h, List.map_append]; rfl
set_option maxHeartbeats 0 in
theorem row_tells {w : World} {p : Program} {loose : List Str} {mean : ExcName → Option Value} {mg mb : Str → Option Value} {fa L : Addr} {cd : Value} {g : Heap} {m : Str → Option Value} {news : List (Addr × Obj)} {o6 o7 : Obj} {D6 D7 : Addr} {vs fs : List Value} {gs : List Int} {rs : List (List Int)} {ep ep7 : Nat} {s : Shared} {Q E : Value → Shared → Prop}
    (B : Below callerA g [] g) (X : (K w.params).In g) (T : Top p loose mean mg mb g) (XB : XF w g) (F : Fr g L s.heap m) (N : News g L s.heap news)
    (c6 : (L + 1 + 1 + 1 + 1 + 1 + 1, o6) ∈ news) (d6 : o6.data = .cell (some (.ref D6))) (mG : (D6, PySem.W.listOf vs.toArray ep) ∈ news) (hG : IntsAre vs gs) (hg4 : gs.length = 4)
    (c7 : (L + 1 + 1 + 1 + 1 + 1 + 1 + 1, o7) ∈ news) (d7 : o7.data = .cell (some (.ref D7))) (mF : (D7, PySem.W.listOf fs.toArray ep7) ∈ news) (hfl : fs.length ≤ 4) (hrl : rs.length = fs.length)
    (hF : ∀ i, i < fs.length → ∃ (r : Addr) (us : List Value) (ks : List Int) (ep9 : Nat), fs[i]? = some (.ref r) ∧ (r, PySem.W.listOf us.toArray ep9) ∈ news ∧ rs[i]? = some ks ∧ IntsAre us ks ∧ ks.length = 4)
    (fin : ∀ D h tk ys, IntsAre ys ([0, 1, 2, 3].map (rowV gs rs)) → Fr g L h m → News g L h ((D, lst ys) :: news) → (∀ p ∈ news, p.1 ≠ D) → Q (.ref D) { s with heap := h, toks := tk }) :
    wpAny (model PySem.Challenge.rw_re0164_01.row.prog w) (callerA.deeper (envOfC (Str.ofString "law") lawSc L fa cd)) (eval rowE (envOfC (Str.ofString "law") lawSc L fa cd)) Q E s := by
  have hK : (∀ P, (K P).length = (K P).length) ∧ PySem.Challenge.rw_re0164_01.foot = 7 := ⟨fun _ => rfl, rfl⟩
  revert hK
  dsimp only [rowE, forBody, lawSc, lawD]
  k_fill
  intro _
  have hvl := hG.length
  k_dflt (refine ListComp_UC (F₀ := by k_asm) (by with_unfolding_all rfl) (by intros; rfl) (by intros; rfl) (by rfl) (by decide) (by rfl) ?_)
  k_steps
  rename IsRange _ _ _ _ _ _ _ _ => Rr
  refine ⟨_, _, _, _, _, _, _, 4, _, fun i ys nw => nw = news ∧ IntsAre ys ((List.range i).map fun (j : Nat) => rowV gs rs (j : Int)), rfl, rfl, by k_asm, by k_asm, Rr, by decide, by decide, by rw [sizeLine_eq]; decide, ⟨rfl, .nil⟩, fun s₂ hs₂ => ⟨?_, ?_⟩⟩
  · rintro i u I9 oI9 C oC D9 K9 oK9 ys nw h tk E' hi ⟨rfl, hys⟩ dK F9 N9 off9 offK ne9
    rw [show (0 + (i : Int) * 1) = (i : Int) by omega] at dK
    k_steps
    refine ⟨_, fs.toArray, _, rfl, rfl, by k_asm, by k_asm, .inr ⟨_, by k_mem, rfl, _, rfl⟩, by rw [sizeLine_eq, List.size_toArray]; omega, fun s₃ hs₃ => restJ (fun j zs => IntsAre zs ((rs.take j).map fun r => r.getD i 0)) .nil (fun j v I8 oI8 C8 oC8 D8 m₈ zs h8 tk8 E8 hj hv hzs hC8 hx8 F8 N8 off8 ne8 => ?_) ?_⟩
    · rw [List.size_toArray] at hj
      obtain ⟨r, us, ks, ep9, e1, e2, e3, e4, e5⟩ := hF j hj
      rw [List.getElem?_toArray, e1] at hv
      obtain rfl := Option.some.inj hv
      have hul := e4.length
      k_steps
      refine LCg.CompEnd.intro (by k_asm) (by k_asm) _ (fun _ hp => hp) off8 ?_ ⟨rfl, ?_⟩
      · exact .inr ⟨_, by k_mem, rfl, _, rfl⟩
      · rw [take_snoc e3]
        exact ints_snoc hzs
    · intro zs hz
      rw [List.size_toArray, ← hrl, List.take_length] at hz
      (try dsimp only)
      intro D8 h1 tk1 F1 N1 off1
      obtain ⟨_, rfl⟩ := hs₃
      have hzl := hz.length
      rw [List.length_map] at hzl
      k_steps
      refine LCg.CompEnd.intro (by k_asm) (by k_asm) _ (fun _ hp => List.mem_cons_of_mem _ hp) off9 trivial ⟨_, rfl, offK, rfl, ?_⟩
      rw [List.range_succ, List.map_append]
      exact ints_snoc hys
  · rintro ys nw ⟨rfl, hy⟩
    (try dsimp only)
    intro D9 h1 tk1 F1 N1 off1
    obtain ⟨_, rfl⟩ := hs₂
    exact fin D9 h1 tk1 ys hy F1 N1 (fresh1 off1)
end
section
open PySem PySem.W PyProof.Rows PySem.Spec PySem.Calls PyProof.V
open PyProof.Rows.LCg PyProof.Rows.LCt
set_option Elab.async false
set_option maxRecDepth 100000
noncomputable def gapI (t z : Nat) : List Int → Int
  | [c0, c1, c2, c3, c4] => (gapA t z c0 c1 c2 c3 c4 : Int)
  | _ => 0
/-- the numbers of a row of alone -/
noncomputable def rowA : Nat → Nat → List Int → Int
  | 0, k, cs => gapI 0 (k + 1) cs
  | 1, k, cs => gapI 1 (k + 1) cs - gapI 0 (k + 1) cs
  | 2, k, cs => gapI 2 (k + 1) cs - gapI 0 (k + 1) cs
  | _, k, cs => gapI 3 (k + 1) cs - (gapI 0 (k + 1) cs + (gapI 1 (k + 1) cs - gapI 0 (k + 1) cs) + (gapI 2 (k + 1) cs - gapI 0 (k + 1) cs))
noncomputable def Apart (ks : List Addr) (R : List (Addr × Obj)) : Prop := ∀ p ∈ R, ∀ c ∈ ks, p.1 ≠ c
noncomputable def keys (L DA : Addr) : List Addr := [L + 1, L + 1 + 1, L + 1 + 1 + 1, L + 1 + 1 + 1 + 1, L + 1 + 1 + 1 + 1 + 1, L + 1 + 1 + 1 + 1 + 1 + 1, L + 1 + 1 + 1 + 1 + 1 + 1 + 1, L + 1 + 1 + 1 + 1 + 1 + 1 + 1 + 1, DA]
theorem Apart.cons {ks : List Addr} {R : List (Addr × Obj)} {a : Addr} {o : Obj} (h : ∀ c ∈ ks, a ≠ c) (hR : Apart ks R) : Apart ks ((a, o) :: R) := fun p hp => by
  rcases List.mem_cons.mp hp with rfl | hp
  · exact h
  · exact hR p hp
theorem Apart.new {ks : List Addr} {news : List (Addr × Obj)} {D : Addr} (hk : ∀ c ∈ ks, ∃ o, (c, o) ∈ news) (off : ∀ p ∈ news, p.1 ≠ D) : ∀ c ∈ ks, D ≠ c := fun c hc => by
  obtain ⟨o, ho⟩ := hk c hc
  exact Ne.symm (off _ ho)
noncomputable def RowsIn (refs : List Value) (i : Nat) (cs : List Int) (R : List (Addr × Obj)) : Prop := ∀ k, k < i → ∃ (r : Addr) (vs : List Value), refs[k]? = some (.ref r) ∧ (r, lst vs) ∈ R ∧ IntsAre vs [rowA k 0 cs, rowA k 1 cs, rowA k 2 cs, rowA k 3 cs]
theorem RowsIn.up {refs : List Value} {i : Nat} {cs : List Int} {R R' : List (Addr × Obj)} (h : RowsIn refs i cs R) (u : ∀ p ∈ R, p ∈ R') : RowsIn refs i cs R' := fun k hk => by
  obtain ⟨r, vs, h1, h2, h3⟩ := h k hk
  exact ⟨r, vs, h1, u _ h2, h3⟩
theorem RowsIn.snoc {refs : List Value} {i : Nat} {cs : List Int} {R : List (Addr × Obj)} {r : Addr} {vs : List Value} (h : RowsIn refs i cs R) (hl : refs.length = i) (hm : (r, lst vs) ∈ R) (hi : IntsAre vs [rowA i 0 cs, rowA i 1 cs, rowA i 2 cs, rowA i 3 cs]) : RowsIn (refs ++ [.ref r]) (i + 1) cs R := fun k hk => by
  by_cases e : k < i
  · obtain ⟨r, vs, h1, h2, h3⟩ := h k e
    exact ⟨r, vs, by rw [List.getElem?_append_left (by omega)]; exact h1, h2, h3⟩
  · obtain rfl : k = i := by omega
    exact ⟨r, vs, by rw [List.getElem?_append_right (by omega), hl, Nat.sub_self]; rfl, hm, hi⟩
structure LawF (w : World) (L DA D9 xU dU TU CU : Addr) (DU : Obj) (xsU : List Value) (tbU : Tok) (WU : WSt) (cs : List Int) (vs : List Value) (ep9 : Nat) (i : Nat) (rest : List (Addr × Obj)) (o1 o2 o3 o5 o6 o7 o8 : Obj) (v5 v6 v7 v8 : Option Value) (refs : List Value) (ep : Nat) (R : List (Addr × Obj)) : Prop where
  e : rest = (L + 1 + 1 + 1 + 1 + 1 + 1 + 1 + 1, o8) :: (L + 1 + 1 + 1 + 1 + 1 + 1 + 1, o7) :: (L + 1 + 1 + 1 + 1 + 1 + 1, o6) :: (L + 1 + 1 + 1 + 1 + 1, o5) :: (L + 1 + 1 + 1, o3) :: (L + 1 + 1, o2) :: (L + 1, o1) :: (DA, PySem.W.listOf refs.toArray ep) :: R
  d1 : o1.data = .cell (some (.ref D9))
  d2 : o2.data = .cell (some (.ref xU))
  d3 : o3.data = .cell (some (.ref DA))
  d5 : o5.data = .cell v5
  d6 : o6.data = .cell v6
  d7 : o7.data = .cell v7
  d8 : o8.data = .cell v8
  hl : refs.length = i
  hr : RowsIn refs i cs R
  ap : Apart (keys L DA) R
  hd : @LT.lt Nat _ (L + 1 + 1 + 1 + 1 + 1 + 1 + 1 + 1) DA
  m1 : (TU, tupO [.ref CU, .int WU.b tbU]) ∈ R
  m2 : (CU, tupO xsU) ∈ R
  m3 : (xU, instObj 100 dU) ∈ R
  m4 : (dU, DU) ∈ R
  m9 : (D9, PySem.W.listOf vs.toArray ep9) ∈ R
noncomputable def LawJ (w : World) (L DA D9 xU dU TU CU : Addr) (DU : Obj) (xsU : List Value) (tbU : Tok) (WU : WSt) (cs : List Int) (vs : List Value) (ep9 : Nat) (i : Nat) (rest : List (Addr × Obj)) : Prop :=
  ∃ (o1 o2 o3 o5 o6 o7 o8 : Obj) (v5 v6 v7 v8 : Option Value) (refs : List Value) (ep : Nat) (R : List (Addr × Obj)), LawF w L DA D9 xU dU TU CU DU xsU tbU WU cs vs ep9 i rest o1 o2 o3 o5 o6 o7 o8 v5 v6 v7 v8 refs ep R
theorem TurnC.fin {h₀ h : Heap} {L : Addr} {m : Str → Option Value} {s : Shared} {I c : Addr} {oI oc : Obj} {v : Option Value} {J : List (Addr × Obj) → Prop} {Q : Flow → Shared → Prop} {rest : List (Addr × Obj)} {tk : Nat} (hd : oc.data = .cell v) (F : Fr h₀ L h m) (N : News h₀ L h ((I, oI) :: (c, oc) :: rest)) (o1 : ∀ p ∈ rest, p.1 ≠ I) (o2 : ∀ p ∈ rest, p.1 ≠ c) (j : J rest) :
    TurnC h₀ L m s I oI c J Q .next { s with heap := h, toks := tk } := ⟨h, tk, oc, v, rest, rfl, hd, F, N, o1, o2, j⟩
section
variable {w : World} {p : Program} {loose : List Str} {mean : ExcName → Option Value} {mg mb : Str → Option Value} {dp un : Nat} {gd : Option (List Code)} {cn : Str} {cs : Scope} {a : Addr} {ccd : Value} {cl : List (Str × Addr)} {outer : List Env} {A₀ : Around} {base h₀ : Heap} {L : Addr} {m : Str → Option Value} {news : List (Addr × Obj)} {s : Shared} {Q E : Value → Shared → Prop}
theorem relay_use {c0 c1 c2 c3 c4 tb : Int} {tk tt : Tok} (h0 : 0 ≤ tb) (h3 : tb ≤ 3) (B : Below A₀ base outer h₀) (F : Fr h₀ L s.heap m) (X : (K w.params).In h₀) (N : News h₀ L s.heap news) (T : Top p loose mean mg mb h₀) (hk : cs.kind = .function) (XB : XF w base) (hd : dp + 8 < recursionLimit) (hu : un + 120 < cLine)
    (ret : ∀ (W : WSt) (x d T C : Addr) (xs : List Value) (tb' : Tok) (D : Obj) (h' : Heap) (tk' : Nat), wrun (preL (nsR tb [c0, c1, c2, c3, c4]) 2) = W → xs.length ≤ 300 → LeadD w D W.nt T → IntsAre xs W.ns → Fr h₀ L h' m →
      News h₀ L h' ((T, tupO [.ref C, .int W.b tb']) :: (C, tupO xs) :: (x, instObj 100 d) :: (d, D) :: news) → (∀ p ∈ news, p.1 < d) → (@LT.lt Nat _ d x ∧ @LT.lt Nat _ x C ∧ @LT.lt Nat _ C T) → Q (.ref x) { s with heap := h', toks := tk' }) :
    wpAny (model pw w) (ktrTop dp un gd cn cs L a ccd cl outer) (call (.ref 243) [.str (mailT [c0, c1, c2, c3, c4]) tk, .int tb tt]) Q E s :=
  useW (relay_tells _ _ _ _ h0 h3 (mail_len _).1 (relay_pos _ _) (relay_len _ _) (relay_signs _ _) _ _ (relay_lead _ _) (preL_signs _ _)) B F X N T hk XB hd hu fun x d T C xs tb' D h' tk' h1 h2 => ret _ x d T C xs tb' D h' tk' rfl (relay_xs_len h2) h1 h2
end
end
section
open PySem PySem.W PyProof.Rows PySem.Spec PySem.Calls PyProof.V
open PyProof.Rows.LCg PyProof.Rows.LCt
set_option Elab.async false
set_option maxRecDepth 100000
theorem keys_in {L DA I : Addr} {oI o4 o8 o7 o6 o5 o3 o2 o1 oA : Obj} {R : List (Addr × Obj)} : ∀ c ∈ I :: keys L DA, ∃ o, (c, o) ∈ (I, oI) :: (L + 1 + 1 + 1 + 1, o4) :: (L + 1 + 1 + 1 + 1 + 1 + 1 + 1 + 1, o8) :: (L + 1 + 1 + 1 + 1 + 1 + 1 + 1, o7) :: (L + 1 + 1 + 1 + 1 + 1 + 1, o6) :: (L + 1 + 1 + 1 + 1 + 1, o5) :: (L + 1 + 1 + 1, o3) :: (L + 1 + 1, o2) :: (L + 1, o1) :: (DA, oA) :: R := by
  intro c hc
  simp only [keys, List.mem_cons, List.not_mem_nil, or_false] at hc
  rcases hc with rfl | rfl | rfl | rfl | rfl | rfl | rfl | rfl | rfl | rfl <;> exact ⟨_, by (repeat' (with_reducible first | exact List.mem_cons_self | refine List.mem_cons_of_mem _ ?_))⟩
theorem keys_up4 {ks : List Addr} {a b c d : Addr × Obj} {R : List (Addr × Obj)} (h : ∀ x ∈ ks, ∃ o, (x, o) ∈ R) : ∀ x ∈ ks, ∃ o, (x, o) ∈ a :: b :: c :: d :: R := fun x hx => by
  obtain ⟨o, ho⟩ := h x hx
  exact ⟨o, .tail _ (.tail _ (.tail _ (.tail _ ho)))⟩
theorem News.drop2 {h₀ h : Heap} {L : Addr} {a b : Addr × Obj} {R : List (Addr × Obj)} (N : News h₀ L h (a :: b :: R)) : News h₀ L h R := fun p hp => N p (.tail _ (.tail _ hp))
theorem News.swap {h₀ h : Heap} {L : Addr} {A B R : List (Addr × Obj)} (N : News h₀ L h (A ++ (B ++ R))) : News h₀ L h (B ++ (A ++ R)) := fun p hp => N p (by
  rcases List.mem_append.mp hp with hp | hp
  · exact List.mem_append_right _ (List.mem_append_left _ hp)
  · rcases List.mem_append.mp hp with hp | hp
    · exact List.mem_append_left _ hp
    · exact List.mem_append_right _ (List.mem_append_right _ hp))
noncomputable def gapL (i : Nat) (cs : List Int) : List Int := [1 * gapI i 1 cs, 2 * gapI i 2 cs, 3 * gapI i 3 cs, 4 * gapI i 4 cs]
theorem gap_val {i z : Nat} (hi : i < 4) (hz : 0 < z) (c0 c1 c2 c3 c4 : Int) {WR WU : WSt} (hR : wrun (preL (nsR (i : Int) [c0, c1, c2, c3, c4]) 2) = WR) (hU : wrun (preL (nsC [c0, c1, c2, c3, c4]) 1) = WU) :
    levV (z : Int) WR.ns WR.b WR.nt - levV (z : Int) WU.ns WU.b WU.nt - 1 = (z : Int) * gapI i z [c0, c1, c2, c3, c4] := by
  rw [← hR, ← hU, lev_pre z hz, lev_pre z hz]
  exact gap_eq i hi z c0 c1 c2 c3 c4
theorem gap_vals {i : Nat} (hi : i < 4) (c0 c1 c2 c3 c4 : Int) {WR WU : WSt} (hR : wrun (preL (nsR (i : Int) [c0, c1, c2, c3, c4]) 2) = WR) (hU : wrun (preL (nsC [c0, c1, c2, c3, c4]) 1) = WU) :
    ([1, 2, 3, 4].map fun z => levV z WR.ns WR.b WR.nt - levV z WU.ns WU.b WU.nt - 1) = gapL i [c0, c1, c2, c3, c4] := by
  have h1 : levV 1 WR.ns WR.b WR.nt - levV 1 WU.ns WU.b WU.nt - 1 = 1 * gapI i 1 [c0, c1, c2, c3, c4] := gap_val (z := 1) hi (by decide) c0 c1 c2 c3 c4 hR hU
  have h2 : levV 2 WR.ns WR.b WR.nt - levV 2 WU.ns WU.b WU.nt - 1 = 2 * gapI i 2 [c0, c1, c2, c3, c4] := gap_val (z := 2) hi (by decide) c0 c1 c2 c3 c4 hR hU
  have h3 : levV 3 WR.ns WR.b WR.nt - levV 3 WU.ns WU.b WU.nt - 1 = 3 * gapI i 3 [c0, c1, c2, c3, c4] := gap_val (z := 3) hi (by decide) c0 c1 c2 c3 c4 hR hU
  have h4 : levV 4 WR.ns WR.b WR.nt - levV 4 WU.ns WU.b WU.nt - 1 = 4 * gapI i 4 [c0, c1, c2, c3, c4] := gap_val (z := 4) hi (by decide) c0 c1 c2 c3 c4 hR hU
  clear hR hU
  simp only [List.map_cons, List.map_nil, h1, h2, h3, h4]
  rfl
theorem gap_test (i : Nat) (cs : List Int) : ∀ z : Int, 2 ≤ z → z ≤ 4 → Int.fmod ((gapL i cs).getD (z - 1).toNat 0) z = 0 := by
  intro z h2 h4
  obtain rfl | rfl | rfl : z = 2 ∨ z = 3 ∨ z = 4 := by omega
  · exact Int.mul_fmod_right 2 _
  · exact Int.mul_fmod_right 3 _
  · exact Int.mul_fmod_right 4 _
noncomputable def rsL (i : Nat) (cs : List Int) : List (List Int) := ((List.range i).filter (fun k => k &&& i == k)).map (fun k => [rowA k 0 cs, rowA k 1 cs, rowA k 2 cs, rowA k 3 cs])
theorem rs_len (i : Nat) (refs : List Value) (cs : List Int) : (rsL i cs).length = (fewL i refs i).length := by
  simp [rsL, fewL]
theorem few_len (i : Nat) (hi : i < 4) (refs : List Value) : (fewL i refs i).length ≤ 4 := by
  unfold fewL
  rw [List.length_map]
  refine Nat.le_trans (List.length_filter_le _ _) ?_
  rw [List.length_range]; omega
theorem few_at {i : Nat} {refs : List Value} {cs : List Int} {R : List (Addr × Obj)} (hrows : RowsIn refs i cs R) :
    ∀ j, j < (fewL i refs i).length → ∃ (r : Addr) (us : List Value) (ks : List Int) (ep9 : Nat), (fewL i refs i)[j]? = some (.ref r) ∧ (r, PySem.W.listOf us.toArray ep9) ∈ R ∧ (rsL i cs)[j]? = some ks ∧ IntsAre us ks ∧ ks.length = 4 := by
  intro j hj
  unfold fewL at hj ⊢
  rw [List.length_map] at hj
  have hk := List.getElem_mem hj
  have he := List.getElem?_eq_getElem hj
  unfold rsL
  generalize ((List.range i).filter (fun k => k &&& i == k))[j] = k at hk he
  have hki : k < i := List.mem_range.mp (List.mem_filter.mp hk).1
  obtain ⟨r, us, h1, h2, h3⟩ := hrows k hki
  refine ⟨r, us, _, us.length, ?_, h2, ?_, h3, rfl⟩
  · rw [List.getElem?_map, he]
    show some (refs.getD k .none) = _
    rw [List.getD_eq_getElem?_getD, h1]; rfl
  · rw [List.getElem?_map, he]; rfl
theorem mfd (z : Int) (hz : z ≠ 0) (x : Int) : (z * x).fdiv z = x := Int.mul_fdiv_cancel_left x hz
theorem row_vals (i : Nat) (hi : i < 4) (cs : List Int) : [0, 1, 2, 3].map (rowV (gapL i cs) (rsL i cs)) = [rowA i 0 cs, rowA i 1 cs, rowA i 2 cs, rowA i 3 cs] := by
  have h1 := mfd 1 (by decide) (gapI i 1 cs)
  have h2 := mfd 2 (by decide) (gapI i 2 cs)
  have h3 := mfd 3 (by decide) (gapI i 3 cs)
  have h4 := mfd 4 (by decide) (gapI i 4 cs)
  have e0 : rowV (gapL i cs) (rsL i cs) 0 = gapI i 1 cs - ((rsL i cs).map fun r => r.getD 0 0).sum := by
    show (1 * gapI i 1 cs).fdiv 1 - _ = _
    rw [h1]; rfl
  have e1 : rowV (gapL i cs) (rsL i cs) 1 = gapI i 2 cs - ((rsL i cs).map fun r => r.getD 1 0).sum := by
    show (2 * gapI i 2 cs).fdiv 2 - _ = _
    rw [h2]; rfl
  have e2 : rowV (gapL i cs) (rsL i cs) 2 = gapI i 3 cs - ((rsL i cs).map fun r => r.getD 2 0).sum := by
    show (3 * gapI i 3 cs).fdiv 3 - _ = _
    rw [h3]; rfl
  have e3 : rowV (gapL i cs) (rsL i cs) 3 = gapI i 4 cs - ((rsL i cs).map fun r => r.getD 3 0).sum := by
    show (4 * gapI i 4 cs).fdiv 4 - _ = _
    rw [h4]; rfl
  simp only [List.map_cons, List.map_nil, e0, e1, e2, e3]
  clear h1 h2 h3 h4 e0 e1 e2 e3
  obtain rfl | rfl | rfl | rfl : i = 0 ∨ i = 1 ∨ i = 2 ∨ i = 3 := by omega
  · simp [rsL, rowA]
  · have hf : ((List.range 1).filter (fun k => k &&& 1 == k)) = [0] := by decide
    simp [rsL, hf, rowA]
  · have hf : ((List.range 2).filter (fun k => k &&& 2 == k)) = [0] := by decide
    simp [rsL, hf, rowA]
  · have hf : ((List.range 3).filter (fun k => k &&& 3 == k)) = [0, 1, 2] := by decide
    simp only [rsL, hf, List.map_cons, List.map_nil, List.sum_cons, List.sum_nil, List.getD_cons_zero, List.getD_cons_succ, rowA, Int.add_zero, Int.add_assoc]
theorem apart_relay {ks : List Addr} {R news : List (Addr × Obj)} {D6 T C x d : Addr} {l6 oT oC ox oD : Obj} (h6 : ∀ c ∈ ks, D6 ≠ c) (hk : ∀ c ∈ ks, ∃ o, (c, o) ∈ news) (lR : ∀ p ∈ news, p.1 < d) (o : @LT.lt Nat _ d x ∧ @LT.lt Nat _ x C ∧ @LT.lt Nat _ C T) (ap : Apart ks R) :
    Apart ks ((D6, l6) :: (T, oT) :: (C, oC) :: (x, ox) :: (d, oD) :: R) := by
  have g : ∀ c ∈ ks, @LT.lt Nat _ c d := fun c hc => by
    obtain ⟨q, hq⟩ := hk c hc
    exact lR _ hq
  exact .cons h6 (.cons (fun c hc => Nat.ne_of_gt (Nat.lt_trans (g c hc) (Nat.lt_trans o.1 (Nat.lt_trans o.2.1 o.2.2)))) (.cons (fun c hc => Nat.ne_of_gt (Nat.lt_trans (g c hc) (Nat.lt_trans o.1 o.2.1))) (.cons (fun c hc => Nat.ne_of_gt (Nat.lt_trans (g c hc) o.1)) (.cons (fun c hc => Nat.ne_of_gt (g c hc)) ap))))
end
section
open PySem PySem.W PyProof.Rows PySem.Spec PySem.Calls PyProof.V
open PyProof.Rows.LCg PyProof.Rows.LCt
set_option Elab.async false
set_option maxRecDepth 100000
local macro_rules | `(tactic| k_mem) => `(tactic| ((repeat' (with_reducible first | exact List.mem_cons_self | refine List.mem_cons_of_mem _ ?_)); try assumption))
set_option maxHeartbeats 0 in
theorem turn_tells {w : World} {p : Program} {loose : List Str} {mean : ExcName → Option Value} {mg mb : Str → Option Value} (fa L a0 : Addr) (cd : Value) (g : Heap) (B : Below callerA g [] g) (X : (K w.params).In g) (T : Top p loose mean mg mb g) (XB : XF w g)
    (c0 c1 c2 c3 c4 : Int) (vs9 : List Value) (ep9 : Nat) (mt : Tok) (DA D9 xU dU TU CU : Addr) (DU : Obj) (xsU : List Value) (tbU : Tok) (WU : WSt) (hWU : wrun (preL (nsC [c0, c1, c2, c3, c4]) 1) = WU) (hDU : LeadD w DU WU.nt TU) (hxU : IntsAre xsU WU.ns)
    (i : Nat) (hi : i < 4) (u : Tok) (I : Addr) (oI o4 : Obj) (d4 : o4.data = .cell (some (.int (i : Int) u))) (rest : List (Addr × Obj)) (hJ : LawJ w L DA D9 xU dU TU CU DU xsU tbU WU [c0, c1, c2, c3, c4] vs9 ep9 i rest) (offI : ∀ p ∈ rest, p.1 ≠ I) (off4 : ∀ p ∈ rest, p.1 ≠ L + 1 + 1 + 1 + 1) (hDI : @LT.lt Nat _ DA I)
    (s : Shared) (F : Fr g L s.heap (fun y => if y = Str.ofString "mail" then some (.str (mailT [c0, c1, c2, c3, c4]) mt) else if y = Str.ofString "script" then some (.ref a0) else none)) (N : News g L s.heap ((I, oI) :: (L + 1 + 1 + 1 + 1, o4) :: rest)) (Q : Flow → Shared → Prop) (E : Value → Shared → Prop) :
    wpAny (model PySem.Challenge.rw_re0164_01.row.prog w) (callerA.deeper (envOfC (Str.ofString "law") lawSc L fa cd)) (execs forBody (envOfC (Str.ofString "law") lawSc L fa cd))
      (TurnC g L (fun y => if y = Str.ofString "mail" then some (.str (mailT [c0, c1, c2, c3, c4]) mt) else if y = Str.ofString "script" then some (.ref a0) else none) s I oI (L + 1 + 1 + 1 + 1) (LawJ w L DA D9 xU dU TU CU DU xsU tbU WU [c0, c1, c2, c3, c4] vs9 ep9 (i + 1)) Q) E s := by
  obtain ⟨o1, o2, o3, o5, o6, o7, o8, v5, v6, v7, v8, refs, ep, R, rfl, d1, d2, d3, d5, d6, d7, d8, hlen, hrows, ap, hLD, mU1, mU2, mU3, mU4, m9⟩ := hJ
  have hK : (∀ P, (K P).length = (K P).length) ∧ PySem.Challenge.rw_re0164_01.foot = 7 := ⟨fun _ => rfl, rfl⟩
  revert hK
  dsimp only [forBody, lawSc, lawD]
  k_fill
  intro _
  have eI : ∀ p ∈ R, p.1 ≠ I := fun p hp => offI p (by simp only [List.mem_cons]; simp [hp])
  have eA : ∀ p ∈ R, p.1 ≠ DA := fun p hp => ap p hp _ (by simp [keys])
  have e1 : ∀ p ∈ R, p.1 ≠ L + 1 := fun p hp => ap p hp _ (by simp [keys])
  have e2 : ∀ p ∈ R, p.1 ≠ L + 1 + 1 := fun p hp => ap p hp _ (by simp [keys])
  have e3 : ∀ p ∈ R, p.1 ≠ L + 1 + 1 + 1 := fun p hp => ap p hp _ (by simp [keys])
  have e4 : ∀ p ∈ R, p.1 ≠ L + 1 + 1 + 1 + 1 := fun p hp => ap p hp _ (by simp [keys])
  have e5 : ∀ p ∈ R, p.1 ≠ L + 1 + 1 + 1 + 1 + 1 := fun p hp => ap p hp _ (by simp [keys])
  have e6 : ∀ p ∈ R, p.1 ≠ L + 1 + 1 + 1 + 1 + 1 + 1 := fun p hp => ap p hp _ (by simp [keys])
  have e7 : ∀ p ∈ R, p.1 ≠ L + 1 + 1 + 1 + 1 + 1 + 1 + 1 := fun p hp => ap p hp _ (by simp [keys])
  clear offI off4
  have hxlU : xsU.length ≤ 300 := by rw [← hWU] at hxU; exact lead_xs_len hxU
  (repeat' ((fail_if_success (with_reducible show wpAny _ _ (eval (Expr.ListComp _ _ _ _) _) _ _ _)); (fail_if_success (with_reducible show wpAny _ _ (call (Value.ref 243) _) _ _ _)); first | (k_unfold; (try dsimp only)) | (k_end; wrow_close) | walk1 | (dsimp only; walk1) | (leave1; (try dsimp only)) | fail "no step"))
  (try dsimp only)
  refine relay_use (by omega) (by omega) B (by k_asm) X (by k_asm) T rfl XB (by ktr_room) (by ktr_units) fun WR xR dR TR CR xsR tbR DR hR tkR hWR hxlR hDR hxR FR NR lR0 oR => ?_
  have lR := lR0
  k_lt lR
  (repeat' ((fail_if_success (with_reducible show wpAny _ _ (eval (Expr.ListComp _ _ _ _) _) _ _ _)); (fail_if_success (with_reducible show wpAny _ _ (call (Value.ref 243) _) _ _ _)); first | (k_unfold; (try dsimp only)) | (k_end; wrow_close) | walk1 | (dsimp only; walk1) | (leave1; (try dsimp only)) | fail "no step"))
  (try dsimp only)
  rename _ = Data.cell (some (Value.ref xR)) => d5r
  rename Fr g L _ _ => Fy
  rename News g L _ _ => Ny
  refine gaps_tells B X T XB Fy Ny (by k_mem) d2 (by k_mem) d5r (by (repeat' (with_reducible refine List.mem_cons_of_mem _ ?_)); exact mU1) (by (repeat' (with_reducible refine List.mem_cons_of_mem _ ?_)); exact mU2) (by (repeat' (with_reducible refine List.mem_cons_of_mem _ ?_)); exact mU3) (by (repeat' (with_reducible refine List.mem_cons_of_mem _ ?_)); exact mU4) hDU hxU hxlU (by k_mem) (by k_mem) (by k_mem) (by k_mem) hDR hxR hxlR fun D6 h6 tk6 gs6 hG F6 N6 off6 => ?_
  rw [gap_vals hi c0 c1 c2 c3 c4 hWR hWU] at hG
  have ap2 := apart_relay (ks := I :: keys L DA) (R := R) (oT := tupO [Value.ref CR, Value.int WR.b tbR]) (oC := tupO xsR) (ox := instObj 100 dR) (oD := DR) (l6 := lst gs6) (Apart.new (keys_up4 keys_in) off6) keys_in lR0 oR (by
    intro p hp c hc
    rcases List.mem_cons.mp hc with rfl | hc
    · exact eI p hp
    · exact ap p hp c hc)
  have N7 := News.swap (A := [(D6, lst gs6), (TR, tupO [Value.ref CR, Value.int WR.b tbR]), (CR, tupO xsR), (xR, instObj 100 dR), (dR, DR)]) (B := [(I, oI), (L + 1 + 1 + 1 + 1, o4), (L + 1 + 1 + 1 + 1 + 1 + 1 + 1 + 1, o8), (L + 1 + 1 + 1 + 1 + 1 + 1 + 1, o7), (L + 1 + 1 + 1 + 1 + 1 + 1, o6), (L + 1 + 1 + 1 + 1 + 1, _), (L + 1 + 1 + 1, o3), (L + 1 + 1, o2), (L + 1, o1), (DA, PySem.W.listOf refs.toArray ep)]) (R := R) N6
  dsimp only [List.cons_append, List.nil_append] at N7
  have sub2 : ∀ p ∈ R, p ∈ (D6, lst gs6) :: (TR, tupO [Value.ref CR, Value.int WR.b tbR]) :: (CR, tupO xsR) :: (xR, instObj 100 dR) :: (dR, DR) :: R := fun p hp => .tail _ (.tail _ (.tail _ (.tail _ (.tail _ hp))))
  have mG : (D6, lst gs6) ∈ (D6, lst gs6) :: (TR, tupO [Value.ref CR, Value.int WR.b tbR]) :: (CR, tupO xsR) :: (xR, instObj 100 dR) :: (dR, DR) :: R := .head _
  clear N6 off6 Ny Fy lR lR0 oR eI eA e1 e2 e3 e4 e5 e6 e7
  generalize (D6, lst gs6) :: (TR, tupO [Value.ref CR, Value.int WR.b tbR]) :: (CR, tupO xsR) :: (xR, instObj 100 dR) :: (dR, DR) :: R = R2 at ap2 N7 sub2 mG
  have eI : ∀ p ∈ R2, p.1 ≠ I := fun p hp => ap2 p hp _ (by simp [keys])
  have eA : ∀ p ∈ R2, p.1 ≠ DA := fun p hp => ap2 p hp _ (by simp [keys])
  have e6 : ∀ p ∈ R2, p.1 ≠ L + 1 + 1 + 1 + 1 + 1 + 1 := fun p hp => ap2 p hp _ (by simp [keys])
  have e7 : ∀ p ∈ R2, p.1 ≠ L + 1 + 1 + 1 + 1 + 1 + 1 + 1 := fun p hp => ap2 p hp _ (by simp [keys])
  (repeat' ((fail_if_success (with_reducible show wpAny _ _ (eval (Expr.ListComp _ _ _ _) _) _ _ _)); (fail_if_success (with_reducible show wpAny _ _ (call (Value.ref 243) _) _ _ _)); first | (k_unfold; (try dsimp only)) | (k_end; wrow_close) | walk1 | (dsimp only; walk1) | (leave1; (try dsimp only)) | fail "no step"))
  (try dsimp only)
  rename _ = Data.cell (some (Value.ref D6)) => d6r
  rename Fr g L _ _ => Fy
  rename News g L _ _ => Ny
  refine test_tells B X T XB Fy Ny (by k_mem) d6r (by (repeat' (with_reducible refine List.mem_cons_of_mem _ ?_)); exact mG) hG rfl (gap_test i _) fun Dt ht tkt Ft Nt offt => ?_
  clear offt Fy Ny
  have hnil : IntsAre [] [] := .nil
  (repeat' ((fail_if_success (with_reducible show wpAny _ _ (eval (Expr.ListComp _ _ _ _) _) _ _ _)); (fail_if_success (with_reducible show wpAny _ _ (call (Value.ref 243) _) _ _ _)); first | (k_unfold; (try dsimp only)) | (k_end; wrow_close) | walk1 | (dsimp only; walk1) | (leave1; (try dsimp only)) | fail "no step"))
  (try dsimp only)
  rename Fr g L _ _ => Fy
  rename News g L _ _ => Ny0
  rename _ ∧ _ ∧ _ ∧ _ => l9
  clear l9
  have Ny := News.drop2 Ny0
  clear Ny0
  refine fewer_tells B X T XB Fy Ny (by k_mem) d3 (by k_mem) d4 (by k_mem) hlen hi fun D7 h7 tk7 F7 N7b off7 => ?_
  have ap3 := Apart.cons (ks := I :: keys L DA) (R := R2) (o := lst (fewL i refs i)) (Apart.new keys_in off7) ap2
  have N8 := News.swap (A := [(D7, lst (fewL i refs i))]) (B := [(I, oI), (L + 1 + 1 + 1 + 1, o4), (L + 1 + 1 + 1 + 1 + 1 + 1 + 1 + 1, o8), (L + 1 + 1 + 1 + 1 + 1 + 1 + 1, o7), (L + 1 + 1 + 1 + 1 + 1 + 1, _), (L + 1 + 1 + 1 + 1 + 1, _), (L + 1 + 1 + 1, o3), (L + 1 + 1, o2), (L + 1, o1), (DA, PySem.W.listOf refs.toArray ep)]) (R := R2) N7b
  dsimp only [List.cons_append, List.nil_append] at N8
  have sub3 : ∀ p ∈ R2, p ∈ (D7, lst (fewL i refs i)) :: R2 := fun p hp => .tail _ hp
  have mF : (D7, lst (fewL i refs i)) ∈ (D7, lst (fewL i refs i)) :: R2 := .head _
  clear N7b off7 Ny Fy eI eA e6 e7
  generalize (D7, lst (fewL i refs i)) :: R2 = R3 at ap3 N8 sub3 mF
  have eI : ∀ p ∈ R3, p.1 ≠ I := fun p hp => ap3 p hp _ (by simp [keys])
  have eA : ∀ p ∈ R3, p.1 ≠ DA := fun p hp => ap3 p hp _ (by simp [keys])
  have e7 : ∀ p ∈ R3, p.1 ≠ L + 1 + 1 + 1 + 1 + 1 + 1 + 1 := fun p hp => ap3 p hp _ (by simp [keys])
  (repeat' ((fail_if_success (with_reducible show wpAny _ _ (eval (Expr.ListComp _ _ _ _) _) _ _ _)); (fail_if_success (with_reducible show wpAny _ _ (call (Value.ref 243) _) _ _ _)); first | (k_unfold; (try dsimp only)) | (k_end; wrow_close) | walk1 | (dsimp only; walk1) | (leave1; (try dsimp only)) | fail "no step"))
  (try dsimp only)
  rename _ = Data.cell (some (Value.ref D7)) => d7r
  rename Fr g L _ _ => Fy
  rename News g L _ _ => Ny
  refine row_tells B X T XB Fy Ny (by k_mem) d6r (by (repeat' (with_reducible refine List.mem_cons_of_mem _ ?_)); exact sub3 _ mG) hG rfl (by k_mem) d7r (by (repeat' (with_reducible refine List.mem_cons_of_mem _ ?_)); exact mF) (few_len i hi refs) (rs_len i refs [c0, c1, c2, c3, c4]) (few_at (hrows.up (by intro p hp; (repeat' (with_reducible refine List.mem_cons_of_mem _ ?_)); exact sub3 _ (sub2 _ hp)))) fun D8 h8 tk8 ys8 hy8 F8 N8b off8 => ?_
  rw [row_vals i hi] at hy8
  have ap4 := Apart.cons (ks := I :: keys L DA) (R := R3) (o := lst ys8) (Apart.new keys_in off8) ap3
  have N9 := News.swap (A := [(D8, lst ys8)]) (B := [(I, oI), (L + 1 + 1 + 1 + 1, o4), (L + 1 + 1 + 1 + 1 + 1 + 1 + 1 + 1, o8), (L + 1 + 1 + 1 + 1 + 1 + 1 + 1, _), (L + 1 + 1 + 1 + 1 + 1 + 1, _), (L + 1 + 1 + 1 + 1 + 1, _), (L + 1 + 1 + 1, o3), (L + 1 + 1, o2), (L + 1, o1), (DA, PySem.W.listOf refs.toArray ep)]) (R := R3) N8b
  dsimp only [List.cons_append, List.nil_append] at N9
  have sub4 : ∀ p ∈ R3, p ∈ (D8, lst ys8) :: R3 := fun p hp => .tail _ hp
  have mY : (D8, lst ys8) ∈ (D8, lst ys8) :: R3 := .head _
  clear N8b off8 Ny Fy eI eA e7
  generalize (D8, lst ys8) :: R3 = R4 at ap4 N9 sub4 mY
  have eI : ∀ p ∈ R4, p.1 ≠ I := fun p hp => ap4 p hp _ (by simp [keys])
  have eA : ∀ p ∈ R4, p.1 ≠ DA := fun p hp => ap4 p hp _ (by simp [keys])
  have e4 : ∀ p ∈ R4, p.1 ≠ L + 1 + 1 + 1 + 1 := fun p hp => ap4 p hp _ (by simp [keys])
  have hrows4 := (hrows.up (fun p hp => sub4 _ (sub3 _ (sub2 _ hp)))).snoc hlen mY hy8
  (repeat' ((fail_if_success (with_reducible show wpAny _ _ (eval (Expr.ListComp _ _ _ _) _) _ _ _)); (fail_if_success (with_reducible show wpAny _ _ (call (Value.ref 243) _) _ _ _)); first | (k_unfold; (try dsimp only)) | (k_end; wrow_close) | walk1 | (dsimp only; walk1) | (leave1; (try dsimp only)) | fail "no step"))
  (try dsimp only)
  rename Fr g L _ _ => Fz
  rename News g L _ _ => Nz
  rw [show refs.toArray.push (Value.ref D8) = (refs ++ [Value.ref D8]).toArray from by simp] at Nz
  refine TurnC.fin d4 Fz Nz ?_ ?_ ⟨o1, o2, o3, _, _, _, o8, _, _, _, v8, refs ++ [Value.ref D8], ep + 1, R4, rfl, d1, d2, d3, d5r, d6r, d7r, d8, by rw [List.length_append, hlen]; rfl, hrows4, fun p hp c hc => ap4 p hp c (.tail _ hc), hLD, sub4 _ (sub3 _ (sub2 _ mU1)), sub4 _ (sub3 _ (sub2 _ mU2)), sub4 _ (sub3 _ (sub2 _ mU3)), sub4 _ (sub3 _ (sub2 _ mU4)), sub4 _ (sub3 _ (sub2 _ m9))⟩
  · intro p hp
    simp only [List.mem_cons] at hp
    rcases hp with rfl | rfl | rfl | rfl | rfl | rfl | rfl | rfl | hp
    all_goals first | exact eI p hp | (refine neN ?_; dsimp only; omega)
  · intro p hp
    simp only [List.mem_cons] at hp
    rcases hp with rfl | rfl | rfl | rfl | rfl | rfl | rfl | rfl | hp
    all_goals first | exact e4 p hp | (refine neN ?_; dsimp only; omega)
end
section
open PySem PySem.W PyProof.Rows PySem.Spec PySem.Calls PyProof.V
open PyProof.Rows.LCg PyProof.Rows.LCt
set_option Elab.async false
set_option maxRecDepth 100000
/-- texts of references to pairs of ints -/
inductive PairsIn (R : List (Addr × Obj)) : List Value → List (Int × Int) → Prop
  | nil : PairsIn R [] []
  | cons {r : Addr} {a b : Int} {t u : Tok} {n : Nat} {vs : List Value} {ps : List (Int × Int)} (hm : (r, { cls := .type "tuple", data := .seq #[.int a t, .int b u] n }) ∈ R) (h : PairsIn R vs ps) : PairsIn R (.ref r :: vs) ((a, b) :: ps)
theorem PairsIn.up {R R' : List (Addr × Obj)} (u : ∀ p ∈ R, p ∈ R') : ∀ {vs : List Value} {ps : List (Int × Int)}, PairsIn R vs ps → PairsIn R' vs ps
  | _, _, .nil => .nil
  | _, _, .cons hm h => .cons (u _ hm) (h.up u)
theorem PairsIn.snoc {R : List (Addr × Obj)} {r : Addr} {a b : Int} {t u : Tok} {n : Nat} (hm : (r, { cls := .type "tuple", data := .seq #[.int a t, .int b u] n }) ∈ R) : ∀ {vs : List Value} {ps : List (Int × Int)}, PairsIn R vs ps → PairsIn R (vs ++ [.ref r]) (ps ++ [(a, b)])
  | _, _, .nil => .cons hm .nil
  | _, _, .cons hm' h => .cons hm' (h.snoc hm)
section
variable {prog : Program} {w : World} {A : Around} {E : Value → Shared → Prop} {s : Shared}
/-- what pair a reference reads as -/
noncomputable def pairAt (h : Heap) : Value → Int × Int
  | .ref r => match h.get? r with
    | some ⟨_, _, .seq ⟨[.int a _, .int b _]⟩ _, _⟩ => (a, b)
    | _ => (0, 0)
  | _ => (0, 0)
theorem pairs_read {h₀ : Heap} {L : Addr} {R : List (Addr × Obj)} {h : Heap} (N : News h₀ L h R) : ∀ {vs : List Value} {ps : List (Int × Int)}, PairsIn R vs ps →
    vs.map (pairAt h) = ps ∧ ∀ y ∈ vs, ∃ r a b t u, y = .ref r ∧ IsTup h r #[.int a t, .int b u] ∧ pairAt h y = (a, b) ∧ ∃ o, (r, o) ∈ R
  | _, _, .nil => ⟨rfl, fun y hy => by cases hy⟩
  | _, _, .cons (r := r) (a := a) (b := b) (t := t) (u := u) hm hp => by
    obtain ⟨h1, h2⟩ := pairs_read N hp
    have e : pairAt h (.ref r) = (a, b) := by
      simp only [pairAt, N.get hm]
    refine ⟨by rw [List.map_cons, h1, e], fun y hy => ?_⟩
    rcases List.mem_cons.mp hy with rfl | hy
    · exact ⟨r, a, b, t, u, rfl, ⟨_, N.get hm, rfl, _, rfl⟩, e, _, hm⟩
    · exact h2 y hy
theorem eqAt_pair {l b : Addr} {a0 a1 b0 b1 : Int} {t0 t1 u0 u1 : Tok} (hl : s.heap.IsTuple l #[.int a0 t0, .int a1 t1]) (hb : s.heap.IsTuple b #[.int b0 u0, .int b1 u1]) (hne : l ≠ b) (hu : A.units < cLine) : SeqAt.EqAt A s (.ref l) (.ref b) ((a0, a1) == (b0, b1)) := by
  have h := SeqAt.EqAt.of_refs hne (SeqAt.RcAt.tuples (e := fun j => if j = 0 then a0 == b0 else a1 == b1) hl hb hu (fun j h1 h2 => by
    match j, h1 with
    | 0, _ => exact SeqAt.EqAt.int_int _ _ _ _
    | 1, _ => exact SeqAt.EqAt.int_int _ _ _ _))
  have e : ((List.range (min (#[Value.int a0 t0, Value.int a1 t1] : Array Value).size (#[Value.int b0 u0, Value.int b1 u1] : Array Value).size)).all (fun j => if j = 0 then a0 == b0 else a1 == b1) && (#[Value.int a0 t0, Value.int a1 t1] : Array Value).size == (#[Value.int b0 u0, Value.int b1 u1] : Array Value).size) = ((a0, a1) == (b0, b1)) := by
    show (((a0 == b0) && ((a1 == b1) && true)) && true) = ((a0 == b0) && (a1 == b1))
    simp
  rw [e] at h
  exact h
theorem count_pairs {h₀ : Heap} {L : Addr} {R : List (Addr × Obj)} {l x : Addr} {vs : List Value} {ps : List (Int × Int)} {a b : Int} {t u : Tok} {Q : Value → Shared → Prop} (hl : s.heap.IsList l vs.toArray) (N : News h₀ L s.heap R) (hp : PairsIn R vs ps)
    (hx : s.heap.IsTuple x #[.int a t, .int b u]) (hne : ∀ p ∈ R, p.1 ≠ x) (hu : A.in1.units < cLine)
    (h : Q (.int ((ps.countP (fun p => p == (a, b)) : Nat)) s.toks) { s with toks := s.toks + 1 }) : wpAny (model prog w) A (call (.builtin "list.count") [.ref l, .ref x]) Q E s := by
  obtain ⟨⟨cls, dd, data, sl⟩, ho, hc, n, hd⟩ := id hl
  simp only at hc hd
  subst hc hd
  obtain ⟨h1, h2⟩ := pairs_read N hp
  refine call_meets PySem.F.slot_list_count ⟨_, ho, rfl⟩ PySem.F.entry_list_count (PySem.F.args_list_count_2 _ _) (SeqAt.list_countAt l vs.toArray n dd sl (.ref x) (fun y => pairAt s.heap y == (a, b))) ⟨ho, fun y hy => ?_, ?_⟩
  · obtain ⟨r, a', b', t', u', rfl, hr, e, o9, hm⟩ := h2 y (by simpa using hy)
    rw [e]
    exact eqAt_pair hr hx (hne _ hm) hu
  · rw [show vs.toArray.toList = vs from rfl]
    rw [← h1, List.countP_map] at h
    exact h
end
end
section
open PySem PySem.W PyProof.Rows PySem.Spec PySem.Calls PyProof.V
open PyProof.Rows.LCg PyProof.Rows.LCt
set_option Elab.async false
set_option maxRecDepth 100000
local macro_rules | `(tactic| walk_at "no place 0") => `(tactic| fail)
noncomputable def drawnE : PySem.Expr := match lawD.1.1.body with | [_, _, _, _, _, _, .Assign _ e _, _] => e | _ => noE
noncomputable def pairC (c : Int) : Int × Int := (c.fmod 4, (c.fdiv 4).fmod 4 + 1)
local macro_rules | `(tactic| k_mem) => `(tactic| ((repeat' (with_reducible first | exact List.mem_cons_self | refine List.mem_cons_of_mem _ ?_)); try assumption))
theorem sub4d {T I C D : Addr × Obj} {rest : List (Addr × Obj)} : ∀ p ∈ I :: C :: D :: T :: rest, p ∈ T :: I :: C :: D :: rest := fun p hp => by
  rcases List.mem_cons.mp hp with rfl | hp
  · exact .tail _ (.head _)
  rcases List.mem_cons.mp hp with rfl | hp
  · exact .tail _ (.tail _ (.head _))
  rcases List.mem_cons.mp hp with rfl | hp
  · exact .tail _ (.tail _ (.tail _ (.head _)))
  rcases List.mem_cons.mp hp with rfl | hp
  · exact .head _
  exact .tail _ (.tail _ (.tail _ (.tail _ hp)))
set_option maxHeartbeats 0 in
theorem drawn_tells {w : World} {p : Program} {loose : List Str} {mean : ExcName → Option Value} {mg mb : Str → Option Value} {fa L : Addr} {cd : Value} {g : Heap} {m : Str → Option Value} {news : List (Addr × Obj)} {o1 : Obj} {D9 : Addr} {vs : List Value} {cs : List Int} {ep : Nat} {s : Shared} {Q E : Value → Shared → Prop}
    (B : Below callerA g [] g) (X : (K w.params).In g) (T : Top p loose mean mg mb g) (XB : XF w g) (F : Fr g L s.heap m) (N : News g L s.heap news)
    (c1 : (L + 1, o1) ∈ news) (d1 : o1.data = .cell (some (.ref D9))) (m9 : (D9, PySem.W.listOf vs.toArray ep) ∈ news) (hI : IntsAre vs cs) (hl : cs.length ≤ 300)
    (fin : ∀ D h tk ys add, PairsIn add ys (cs.map pairC) → (∀ p ∈ add, AllLt p.1 news) → Fr g L h m → News g L h ((D, lst ys) :: (add ++ news)) → (∀ p ∈ add ++ news, p.1 ≠ D) → Q (.ref D) { s with heap := h, toks := tk }) :
    wpAny (model PySem.Challenge.rw_re0164_01.row.prog w) (callerA.deeper (envOfC (Str.ofString "law") lawSc L fa cd)) (eval drawnE (envOfC (Str.ofString "law") lawSc L fa cd)) Q E s := by
  have hK : (∀ P, (K P).length = (K P).length) ∧ PySem.Challenge.rw_re0164_01.foot = 7 := ⟨fun _ => rfl, rfl⟩
  revert hK
  dsimp only [drawnE, lawSc, lawD]
  k_fill
  intro _
  have hvl := hI.length
  k_dflt (refine ListComp_LJ (F₀ := by k_asm) (by with_unfolding_all rfl) (by decide) (by rfl) (by decide) (by rfl) ?_)
  k_steps
  refine ⟨_, vs.toArray, _, rfl, rfl, by k_asm, by k_asm, .inr ⟨_, m9, rfl, _, rfl⟩, by rw [sizeLine_eq, List.size_toArray]; omega, fun s₃ hs₃ => restK (fun j ys nw => ∃ add, nw = add ++ news ∧ PairsIn add ys ((cs.take j).map pairC) ∧ ∀ p ∈ add, AllLt p.1 news) ⟨[], rfl, .nil, fun _ hp => by cases hp⟩ (fun j v I8 oI8 C8 oC8 D8 m₈ ys nw h8 tk8 E8 hj hv hJ hC8 hx8 F8 N8 off8 ne8 => ?_) ?_⟩
  · obtain ⟨add, hnw, hys, hlt⟩ := hJ
    have hsub : ∀ p ∈ news, p ∈ nw := fun p hp => by rw [hnw]; exact List.mem_append_right _ hp
    rw [List.size_toArray, hvl] at hj
    have hcj := List.getElem?_eq_getElem hj
    generalize cs[j] = c at hcj
    obtain ⟨t, hvt⟩ := hI.get j c hcj
    rw [List.getElem?_toArray, hvt] at hv
    obtain rfl := Option.some.inj hv
    k_steps
    rename News g L _ _ => Nt
    rename _ ∧ _ ∧ _ ∧ AllLt _ nw => lt
    refine LCg.CompEnd.intro (by k_asm) Nt (_ :: nw) sub4d ⟨⟨Nat.ne_of_gt lt.1, Nat.ne_of_gt lt.2.1, Nat.ne_of_gt lt.2.2.1⟩, off8⟩ (.inr ⟨_, .tail _ (hsub _ m9), rfl, _, rfl⟩) ⟨_ :: add, by rw [hnw]; rfl, ?_, ?_⟩
    rotate_left
    · intro q hq
      rcases List.mem_cons.mp hq with rfl | hq
      · have l4 := lt.2.2.2
        rw [hnw] at l4
        exact allLt_of fun q hq => allLt_mem l4 q (List.mem_append_right _ hq)
      · exact hlt q hq
    rw [List.take_add_one, hcj, List.map_append]
    exact (hys.up (fun _ h => .tail _ h)).snoc (.head _)
  · rintro ys nw ⟨add, rfl, hy, hlt⟩
    rw [List.size_toArray, hvl, List.take_length] at hy
    (try dsimp only)
    intro D9 h1 tk1 F1 N1 off1
    obtain ⟨_, rfl⟩ := hs₃
    exact fin D9 h1 tk1 ys add hy hlt F1 N1 (fresh1 off1)
end
section
open PySem PySem.W PyProof.Rows PySem.Spec PySem.Calls PyProof.V
set_option Elab.async false
set_option maxRecDepth 100000
/-- a row's share of one cell -/
noncomputable def shA (t z h n : Nat) : Int :=
  match t with
  | 0 => (wt 0 z h n : Int)
  | 1 => (wt 1 z h n : Int) - wt 0 z h n
  | 2 => (wt 2 z h n : Int) - wt 0 z h n
  | _ => (wt 3 z h n : Int) - ((wt 0 z h n : Int) + ((wt 1 z h n : Int) - wt 0 z h n) + ((wt 2 z h n : Int) - wt 0 z h n))
noncomputable def ind (t d h n : Nat) : Int := if h = t ∧ n = d then 1 else 0
noncomputable def outL (t : Nat) (cs : List Int) : List Int := [rowA t 0 cs - (rowA t 1 cs - rowA t 3 cs + rowA t 2 cs + rowA t 3 cs), rowA t 1 cs - rowA t 3 cs, rowA t 2 cs, rowA t 3 cs]
theorem row_sum (t : Nat) (ht : t < 4) (k : Nat) (c0 c1 c2 c3 c4 : Int) : rowA t k [c0, c1, c2, c3, c4] = shA t (k + 1) (kC c0) (nC c0) + shA t (k + 1) (kC c1) (nC c1) + shA t (k + 1) (kC c2) (nC c2) + shA t (k + 1) (kC c3) (nC c3) + shA t (k + 1) (kC c4) (nC c4) := by
  obtain rfl | rfl | rfl | rfl : t = 0 ∨ t = 1 ∨ t = 2 ∨ t = 3 := by omega
  all_goals (simp only [rowA, gapI, gapA, shA, Int.natCast_add]; try omega)
theorem cell_share0 : ∀ t < 4, ∀ h < 4, ∀ n < 4,
    shA t 1 h (n + 1) - (shA t 2 h (n + 1) - shA t 4 h (n + 1) + shA t 3 h (n + 1) + shA t 4 h (n + 1)) = ind t 1 h (n + 1) ∧ shA t 2 h (n + 1) - shA t 4 h (n + 1) = ind t 2 h (n + 1) ∧ shA t 3 h (n + 1) = ind t 3 h (n + 1) ∧ shA t 4 h (n + 1) = ind t 4 h (n + 1) := by
  decide +kernel
theorem cell_share (t : Nat) (ht : t < 4) (c : Int) :
    shA t 1 (kC c) (nC c) - (shA t 2 (kC c) (nC c) - shA t 4 (kC c) (nC c) + shA t 3 (kC c) (nC c) + shA t 4 (kC c) (nC c)) = ind t 1 (kC c) (nC c) ∧ shA t 2 (kC c) (nC c) - shA t 4 (kC c) (nC c) = ind t 2 (kC c) (nC c) ∧ shA t 3 (kC c) (nC c) = ind t 3 (kC c) (nC c) ∧ shA t 4 (kC c) (nC c) = ind t 4 (kC c) (nC c) := by
  have h1 := nC_bd c
  have h2 := kC_bd c
  have h := cell_share0 t ht (kC c) h2 (nC c - 1) (by omega)
  rw [show nC c - 1 + 1 = nC c by omega] at h
  exact h
theorem count_ind (t d : Nat) (c : Int) (ps : List (Int × Int)) : ((((pairC c :: ps).countP (fun p => p == ((t : Int), (d : Int)))) : Nat) : Int) = ind t d (kC c) (nC c) + ((ps.countP (fun p => p == ((t : Int), (d : Int))) : Nat) : Int) := by
  have h1 := Int.fmod_nonneg_of_pos c (show (0 : Int) < 4 by decide)
  have h2 := Int.fmod_nonneg_of_pos (c.fdiv 4) (show (0 : Int) < 4 by decide)
  have e1 : c.fmod 4 = (kC c : Int) := by unfold kC; omega
  have e2 : (c.fdiv 4).fmod 4 + 1 = (nC c : Int) := by unfold nC; omega
  rw [List.countP_cons]
  unfold pairC ind
  rw [e1, e2]
  have e : (((kC c : Int), (nC c : Int)) == ((t : Int), (d : Int))) = decide (kC c = t ∧ nC c = d) := by
    show (((kC c : Int) == (t : Int)) && ((nC c : Int) == (d : Int))) = _
    rw [Bool.eq_iff_iff]
    simp
    omega
  rw [e]
  by_cases hh : kC c = t ∧ nC c = d
  · simp [hh]; omega
  · simp [hh]
theorem out_val (t : Nat) (ht : t < 4) (c0 c1 c2 c3 c4 : Int) : outL t [c0, c1, c2, c3, c4] = [1, 2, 3, 4].map fun d => ((([c0, c1, c2, c3, c4].map pairC).countP (fun p => p == ((t : Int), d)) : Nat) : Int) := by
  have q : ∀ d : Nat, ((([c0, c1, c2, c3, c4].map pairC).countP (fun p => p == ((t : Int), (d : Int))) : Nat) : Int) = ind t d (kC c0) (nC c0) + (ind t d (kC c1) (nC c1) + (ind t d (kC c2) (nC c2) + (ind t d (kC c3) (nC c3) + ind t d (kC c4) (nC c4)))) := fun d => by
    simp only [List.map_cons, List.map_nil]
    rw [count_ind, count_ind, count_ind, count_ind, count_ind]
    simp
  have q1 := q 1
  have q2 := q 2
  have q3 := q 3
  have q4 := q 4
  obtain ⟨a1, a2, a3, a4⟩ := cell_share t ht c0
  obtain ⟨b1, b2, b3, b4⟩ := cell_share t ht c1
  obtain ⟨d1, d2, d3, d4⟩ := cell_share t ht c2
  obtain ⟨e1, e2, e3, e4⟩ := cell_share t ht c3
  obtain ⟨f1, f2, f3, f4⟩ := cell_share t ht c4
  have r0 : rowA t 0 [c0, c1, c2, c3, c4] = shA t 1 (kC c0) (nC c0) + shA t 1 (kC c1) (nC c1) + shA t 1 (kC c2) (nC c2) + shA t 1 (kC c3) (nC c3) + shA t 1 (kC c4) (nC c4) := row_sum t ht 0 c0 c1 c2 c3 c4
  have r1 : rowA t 1 [c0, c1, c2, c3, c4] = shA t 2 (kC c0) (nC c0) + shA t 2 (kC c1) (nC c1) + shA t 2 (kC c2) (nC c2) + shA t 2 (kC c3) (nC c3) + shA t 2 (kC c4) (nC c4) := row_sum t ht 1 c0 c1 c2 c3 c4
  have r2 : rowA t 2 [c0, c1, c2, c3, c4] = shA t 3 (kC c0) (nC c0) + shA t 3 (kC c1) (nC c1) + shA t 3 (kC c2) (nC c2) + shA t 3 (kC c3) (nC c3) + shA t 3 (kC c4) (nC c4) := row_sum t ht 2 c0 c1 c2 c3 c4
  have r3 : rowA t 3 [c0, c1, c2, c3, c4] = shA t 4 (kC c0) (nC c0) + shA t 4 (kC c1) (nC c1) + shA t 4 (kC c2) (nC c2) + shA t 4 (kC c3) (nC c3) + shA t 4 (kC c4) (nC c4) := row_sum t ht 3 c0 c1 c2 c3 c4
  unfold outL
  rw [r0, r1, r2, r3]
  clear r0 r1 r2 r3 q
  show [_, _, _, _] = [_, _, _, _]
  refine List.cons_eq_cons.mpr ⟨?_, List.cons_eq_cons.mpr ⟨?_, List.cons_eq_cons.mpr ⟨?_, List.cons_eq_cons.mpr ⟨?_, rfl⟩⟩⟩⟩
  · refine Eq.trans ?_ q1.symm
    rw [← a1, ← b1, ← d1, ← e1, ← f1]; omega
  · refine Eq.trans ?_ q2.symm
    rw [← a2, ← b2, ← d2, ← e2, ← f2]; omega
  · refine Eq.trans ?_ q3.symm
    rw [← a3, ← b3, ← d3, ← e3, ← f3]; omega
  · refine Eq.trans ?_ q4.symm
    rw [← a4, ← b4, ← d4, ← e4, ← f4]; omega
end
section
open PySem PySem.W PyProof.Rows PySem.Spec PySem.Calls PyProof.V
open PyProof.Rows.LCg PyProof.Rows.LCt
set_option Elab.async false
set_option maxRecDepth 100000
noncomputable def lhsE : PySem.Expr := match lawD.1.1.body with | [_, _, _, _, _, _, _, .Return (some (.Compare e _ _ _)) _] => e | _ => noE
noncomputable def rhsE : PySem.Expr := match lawD.1.1.body with | [_, _, _, _, _, _, _, .Return (some (.Compare _ _ [e] _)) _] => e | _ => noE
/-- references to lists of these ints -/
noncomputable def ListsIn (R : List (Addr × Obj)) (ys : List Value) (n : Nat) (f : Nat → List Int) : Prop := ys.length = n ∧ ∀ k, k < n → ∃ (r : Addr) (vs : List Value) (ep : Nat), ys[k]? = some (.ref r) ∧ (r, PySem.W.listOf vs.toArray ep) ∈ R ∧ IntsAre vs (f k)
theorem ListsIn.up {R R' : List (Addr × Obj)} {ys : List Value} {n : Nat} {f : Nat → List Int} (h : ListsIn R ys n f) (u : ∀ p ∈ R, p ∈ R') : ListsIn R' ys n f := ⟨h.1, fun k hk => by
  obtain ⟨r, vs, ep, h1, h2, h3⟩ := h.2 k hk
  exact ⟨r, vs, ep, h1, u _ h2, h3⟩⟩
theorem ListsIn.snoc {R : List (Addr × Obj)} {ys : List Value} {n : Nat} {f : Nat → List Int} {r : Addr} {vs : List Value} {ep : Nat} (h : ListsIn R ys n f) (hm : (r, PySem.W.listOf vs.toArray ep) ∈ R) (hi : IntsAre vs (f n)) : ListsIn R (ys ++ [.ref r]) (n + 1) f :=
  ⟨by rw [List.length_append, h.1]; rfl, fun k hk => by
    have hl := h.1
    by_cases e : k < n
    · obtain ⟨r, vs, ep, h1, h2, h3⟩ := h.2 k e
      exact ⟨r, vs, ep, by rw [List.getElem?_append_left (by omega)]; exact h1, h2, h3⟩
    · obtain rfl : k = n := by omega
      exact ⟨r, vs, ep, by rw [List.getElem?_append_right (by omega), hl, Nat.sub_self]; rfl, hm, hi⟩⟩
theorem ListsIn.nil {R : List (Addr × Obj)} {f : Nat → List Int} : ListsIn R [] 0 f := ⟨rfl, fun _ hk => absurd hk (Nat.not_lt_zero _)⟩
theorem ints4 {vs : List Value} {a b c d : Int} (h : IntsAre vs [a, b, c, d]) : ∃ t0 t1 t2 t3, vs = [.int a t0, .int b t1, .int c t2, .int d t3] := by
  cases h with
  | cons _ t0 h => cases h with
    | cons _ t1 h => cases h with
      | cons _ t2 h => cases h with
        | cons _ t3 h => cases h with
          | nil => exact ⟨_, _, _, _, rfl⟩
local macro_rules | `(tactic| k_mem) => `(tactic| ((repeat' (with_reducible first | exact List.mem_cons_self | refine List.mem_cons_of_mem _ ?_)); try assumption))
set_option maxHeartbeats 0 in
theorem lhs_tells {w : World} {p : Program} {loose : List Str} {mean : ExcName → Option Value} {mg mb : Str → Option Value} {fa L : Addr} {cd : Value} {g : Heap} {m : Str → Option Value} {news : List (Addr × Obj)} {o3 : Obj} {DA : Addr} {refs : List Value} {cs : List Int} {ep : Nat} {s : Shared} {Q E : Value → Shared → Prop}
    (B : Below callerA g [] g) (X : (K w.params).In g) (T : Top p loose mean mg mb g) (XB : XF w g) (F : Fr g L s.heap m) (N : News g L s.heap news)
    (c3 : (L + 1 + 1 + 1, o3) ∈ news) (d3 : o3.data = .cell (some (.ref DA))) (mA : (DA, PySem.W.listOf refs.toArray ep) ∈ news) (hlen : refs.length = 4) (hrows : RowsIn refs 4 cs news)
    (fin : ∀ D h tk ys nw, ListsIn nw ys 4 (fun k => outL k cs) → (∀ p ∈ news, p ∈ nw) → Fr g L h m → News g L h ((D, lst ys) :: nw) → (∀ p ∈ nw, p.1 ≠ D) → Q (.ref D) { s with heap := h, toks := tk }) :
    wpAny (model PySem.Challenge.rw_re0164_01.row.prog w) (callerA.deeper (envOfC (Str.ofString "law") lawSc L fa cd)) (eval lhsE (envOfC (Str.ofString "law") lawSc L fa cd)) Q E s := by
  have hK : (∀ P, (K P).length = (K P).length) ∧ PySem.Challenge.rw_re0164_01.foot = 7 := ⟨fun _ => rfl, rfl⟩
  revert hK
  dsimp only [lhsE, lawSc, lawD]
  k_fill
  intro _
  k_dflt (refine ListComp_LJ (F₀ := by k_asm) (by with_unfolding_all rfl) (by decide) (by rfl) (by decide) (by rfl) ?_)
  k_steps
  refine ⟨_, refs.toArray, _, rfl, rfl, by k_asm, by k_asm, .inr ⟨_, mA, rfl, _, rfl⟩, by rw [sizeLine_eq, List.size_toArray, hlen]; decide, fun s₃ hs₃ => restK (fun j ys nw => ListsIn nw ys j (fun k => outL k cs) ∧ ∀ p ∈ news, p ∈ nw) ⟨.nil, fun _ hp => hp⟩ (fun j v I8 oI8 C8 oC8 D8 m₈ ys nw h8 tk8 E8 hj hv hJ hC8 hx8 F8 N8 off8 ne8 => ?_) ?_⟩
  · obtain ⟨hys, hsub⟩ := hJ
    rw [List.size_toArray, hlen] at hj
    obtain ⟨r, us, h1, h2, h3⟩ := hrows j hj
    obtain ⟨t0, t1, t2, t3, rfl⟩ := ints4 h3
    rw [List.getElem?_toArray, h1] at hv
    obtain rfl := Option.some.inj hv
    have h2' := hsub _ h2
    (repeat' ((fail_if_success (with_reducible show wpAny _ _ (call (Value.ref 248) _) _ _ _)); first | (k_unfold; (try dsimp only)) | (k_end; wrow_close) | walk1 | (dsimp only; walk1) | (leave1; (try dsimp only)) | fail "no step"))
    refine counts_tells _ _ _ _ _ _ _ _ _ 4 _ _ _ _ _ _ _ _ _ _ _ _ _ _ _ _ _ _ B (by k_asm) X (by k_asm) (.tail _ (.tail _ (.tail _ h2'))) T rfl XB (by ktr_room) (by ktr_units) fun D' us' h' tk' hi F' N' lt => ?_
    k_lt lt
    k_steps
    refine LCg.CompEnd.intro (by k_asm) N' (_ :: nw) sub4d ⟨⟨Nat.ne_of_gt lt.1, Nat.ne_of_gt lt.2.1, Nat.ne_of_gt lt.2.2.1⟩, off8⟩ (.inr ⟨_, .tail _ (hsub _ mA), rfl, _, rfl⟩) ⟨?_, fun q hq => .tail _ (hsub q hq)⟩
    exact (hys.up (fun _ h => .tail _ h)).snoc (.head _) hi
  · rintro ys nw ⟨hy, hsub⟩
    rw [List.size_toArray, hlen] at hy
    (try dsimp only)
    intro D9 h1 tk1 F1 N1 off1
    obtain ⟨_, rfl⟩ := hs₃
    exact fin D9 h1 tk1 ys nw hy hsub F1 N1 (fresh1 off1)
end
section
open PySem PySem.W PyProof.Rows PySem.Spec PySem.Calls PyProof.V
open PyProof.Rows.LCg PyProof.Rows.LCt
set_option Elab.async false
set_option maxRecDepth 100000
local macro_rules | `(tactic| k_mem) => `(tactic| ((repeat' (with_reducible first | exact List.mem_cons_self | refine List.mem_cons_of_mem _ ?_)); try assumption))
local macro_rules | `(tactic| walk_at "eval ListComp") => `(tactic| (k_here; k_dflt (refine ListComp_US (F₀ := by k_asm) (by with_unfolding_all rfl) (by decide) (by rfl) (by decide) (by rfl) ?_)))
local macro_rules | `(tactic| walk_at "getMethod ref") => `(tactic| (k_here; (with_reducible show wpAny _ _ (getMethod (Value.ref _) (PySem.Str.ofString "count") _) _ _ _); k_dflt (refine' listMethod_K ?N ?m PySem.F.slot_list_count PySem.F.type_list_count ?_; (case N => k_asm); (case m => k_mem))))
noncomputable def cntL (ps : List (Int × Int)) (k : Nat) : List Int := [1, 2, 3, 4].map fun d => ((ps.countP (fun p => p == ((k : Int), d)) : Nat) : Int)
theorem sub5d {T I C D K : Addr × Obj} {rest : List (Addr × Obj)} : ∀ p ∈ I :: C :: D :: K :: T :: rest, p ∈ T :: I :: C :: D :: K :: rest := fun p hp => by
  rcases List.mem_cons.mp hp with rfl | hp
  · exact .tail _ (.head _)
  rcases List.mem_cons.mp hp with rfl | hp
  · exact .tail _ (.tail _ (.head _))
  rcases List.mem_cons.mp hp with rfl | hp
  · exact .tail _ (.tail _ (.tail _ (.head _)))
  rcases List.mem_cons.mp hp with rfl | hp
  · exact .tail _ (.tail _ (.tail _ (.tail _ (.head _))))
  rcases List.mem_cons.mp hp with rfl | hp
  · exact .head _
  exact .tail _ (.tail _ (.tail _ (.tail _ (.tail _ hp))))
set_option maxHeartbeats 0 in
theorem rhs_tells {w : World} {p : Program} {loose : List Str} {mean : ExcName → Option Value} {mg mb : Str → Option Value} {fa L : Addr} {cd : Value} {g : Heap} {m : Str → Option Value} {news : List (Addr × Obj)} {o8 : Obj} {DD : Addr} {dr : List Value} {ps : List (Int × Int)} {s : Shared} {Q E : Value → Shared → Prop}
    (B : Below callerA g [] g) (X : (K w.params).In g) (T : Top p loose mean mg mb g) (XB : XF w g) (F : Fr g L s.heap m) (N : News g L s.heap news)
    (c8 : (L + 1 + 1 + 1 + 1 + 1 + 1 + 1 + 1, o8) ∈ news) (d8 : o8.data = .cell (some (.ref DD))) (mD : (DD, lst dr) ∈ news) (hp : PairsIn news dr ps)
    (fin : ∀ D h tk ys nw, ListsIn nw ys 4 (cntL ps) → (∀ p ∈ news, p ∈ nw) → Fr g L h m → News g L h ((D, lst ys) :: nw) → (∀ p ∈ nw, p.1 ≠ D) → Q (.ref D) { s with heap := h, toks := tk }) :
    wpAny (model PySem.Challenge.rw_re0164_01.row.prog w) (callerA.deeper (envOfC (Str.ofString "law") lawSc L fa cd)) (eval rhsE (envOfC (Str.ofString "law") lawSc L fa cd)) Q E s := by
  have hK : (∀ P, (K P).length = (K P).length) ∧ PySem.Challenge.rw_re0164_01.foot = 7 := ⟨fun _ => rfl, rfl⟩
  revert hK
  dsimp only [rhsE, lawSc, lawD]
  k_fill
  intro _
  k_dflt (refine ListComp_UC (F₀ := by k_asm) (by with_unfolding_all rfl) (by intros; rfl) (by intros; rfl) (by rfl) (by decide) (by rfl) ?_)
  k_steps
  rename IsRange _ _ _ _ _ _ _ _ => Rr
  refine ⟨_, _, _, _, _, _, _, 4, _, fun i ys nw => ListsIn nw ys i (cntL ps) ∧ ∀ p ∈ news, p ∈ nw, rfl, rfl, by k_asm, by k_asm, Rr, by decide, by decide, by rw [sizeLine_eq]; decide, ⟨.nil, fun _ hp => hp⟩, fun s₂ hs₂ => ⟨?_, ?_⟩⟩
  · rintro i u I9 oI9 C oC D9 K9 oK9 ys nw h tk E' hi ⟨hys, hsub⟩ dK F9 N9 off9 offK ne9
    rw [show (0 + (i : Int) * 1) = (i : Int) by omega] at dK
    have c8' := hsub _ c8
    have mD' := hsub _ mD
    k_steps
    rename IsRange _ _ _ 5 _ _ _ _ => Rs
    refine ⟨_, _, _, _, _, _, _, 4, _, rfl, rfl, by k_asm, by k_asm, Rs, by decide, by decide, by rw [sizeLine_eq]; decide, fun s₃ hs₃ => restI (ks := [1, 2, 3, 4]) (fun d => ((ps.countP (fun p => p == ((i : Int), d)) : Nat) : Int)) rfl ?_ (fun k t I8 oI8 C8 oC8 D8 m₂ zs h8 tk8 E8 hc hC hx F8 N8 off8 ne8 => ?_) ?_⟩
    · rintro j v hj ⟨t, rfl⟩
      refine ⟨_, t, ?_, rfl⟩
      match j, hj with
      | 0, _ => rfl
      | 1, _ => rfl
      | 2, _ => rfl
      | 3, _ => rfl
    · clear hc
      (repeat' ((fail_if_success (with_reducible show wpAny _ _ (call (Value.builtin "list.count") _) _ _ _)); first | (k_unfold; (try dsimp only)) | (k_end; wrow_close) | walk1 | (dsimp only; walk1) | (leave1; (try dsimp only)) | fail "no step"))
      rename News g L _ _ => Nt
      rename _ ∧ _ ∧ _ ∧ _ => lt
      have Nn : News g L _ nw := fun q hq => Nt q (by (repeat' (with_reducible refine List.mem_cons_of_mem _ ?_)); exact hq)
      refine count_pairs (News.isList Nt (by k_mem)) Nn (hp.up hsub) ⟨_, Nt.get (.head _), rfl, _, rfl⟩ ?_ (by ktr_units) ?_
      · exact allLt_ne lt.2.2.2.2.2.2.2
      · exact LCg.CompEnd.intro (by k_asm) Nt _ (fun _ hp => .tail _ hp) off8 trivial ⟨rfl, _, rfl⟩
    · intro zs hz
      (try dsimp only)
      intro D8 h1 tk1 F1 N1 off1
      obtain ⟨_, rfl⟩ := hs₃
      have fr := fresh1 off1
      refine LCg.CompEnd.intro F1 N1 ((K9, oK9) :: (D8, lst zs) :: nw) sub5d ?_ trivial ⟨_, rfl, ?_, ?_, fun q hq => .tail _ (hsub q hq)⟩
      · exact ⟨off9.1, ⟨Ne.symm (fr _ (.head _)), Ne.symm (fr _ (.tail _ (.head _))), Ne.symm (fr _ (.tail _ (.tail _ (.head _))))⟩, off9.2⟩
      · intro q hq
        rcases List.mem_cons.mp hq with rfl | hq
        · exact Ne.symm (fr _ (.tail _ (.tail _ (.tail _ (.head _)))))
        · exact offK q hq
      · exact (hys.up (fun _ h => .tail _ h)).snoc (ep := zs.length) (.head _) hz
  · rintro ys nw ⟨hy, hsub⟩
    (try dsimp only)
    intro D9 h1 tk1 F1 N1 off1
    obtain ⟨_, rfl⟩ := hs₂
    exact fin D9 h1 tk1 ys nw hy hsub F1 N1 (fresh1 off1)
end
section
open PySem PySem.W PyProof.Rows PySem.Spec PySem.Calls PyProof.V
open PyProof.Rows.LCg PyProof.Rows.LCt
set_option Elab.async false
set_option maxRecDepth 100000
noncomputable def tailBody : List Stmt := match lawD.1.1.body with | [_, _, _, _, _, a, b, c] => [a, b, c] | _ => []
theorem lawJ_lt {w : World} {L DA D9 xU dU TU CU : Addr} {DU : Obj} {xsU : List Value} {tbU : Tok} {WU : WSt} {cs : List Int} {vs : List Value} {ep9 : Nat} {i : Nat} {rest : List (Addr × Obj)} {g h : Heap} {q : Addr × Obj} (hJ : LawJ w L DA D9 xU dU TU CU DU xsU tbU WU cs vs ep9 i rest) (N : News g L h (q :: rest)) : DA < h.objs.size := by
  obtain ⟨o1, o2, o3, o5, o6, o7, o8, v5, v6, v7, v8, refs, ep, R, rfl, _⟩ := hJ
  exact Heap.lt_size (N (DA, _) (.tail _ (.tail _ (.tail _ (.tail _ (.tail _ (.tail _ (.tail _ (.tail _ (.head _)))))))))).1
theorem News.pull {h₀ h : Heap} {L : Addr} {q c : Addr × Obj} {add A B' : List (Addr × Obj)} (N : News h₀ L h (q :: (add ++ (A ++ c :: B')))) : News h₀ L h (c :: q :: (add ++ (A ++ B'))) := fun p hp => N p (by
  rcases List.mem_cons.mp hp with rfl | hp
  · exact .tail _ (List.mem_append_right _ (List.mem_append_right _ (.head _)))
  rcases List.mem_cons.mp hp with rfl | hp
  · exact .head _
  refine .tail _ ?_
  rcases List.mem_append.mp hp with hp | hp
  · exact List.mem_append_left _ hp
  refine List.mem_append_right _ ?_
  rcases List.mem_append.mp hp with hp | hp
  · exact List.mem_append_left _ hp
  · exact List.mem_append_right _ (.tail _ hp))
section
variable {prog : Program} {w : World} {A : Around} {E : Value → Shared → Prop} {s : Shared}
theorem lists_same {h₀ : Heap} {L X Y : Addr} {R : List (Addr × Obj)} {ys zs : List Value} {n : Nat} {f f' : Nat → List Int} {Q : Value → Shared → Prop} (N : News h₀ L s.heap R) (hX : (X, lst ys) ∈ R) (hY : (Y, lst zs) ∈ R) (h1 : ListsIn R ys n f) (h2 : ListsIn R zs n f') (hf : ∀ k, k < n → f k = f' k)
    (hu : A.in1.units + 64 < cLine) (hu' : A.units < cLine) (h : Q (.bool true) s) : wpAny (model prog w) A (compareOp .Eq (.ref X) (.ref Y)) Q E s := by
  refine SeqAt.eq_listAt (e := fun _ => true) (News.isList N hX) (News.isList N hY) (by rw [List.size_toArray, List.size_toArray, h1.1, h2.1]) hu' (fun j q1 q2 => ?_) ?_
  · rw [List.size_toArray, h1.1] at q1
    obtain ⟨r, us, ep, a1, a2, a3⟩ := h1.2 j q1
    obtain ⟨r', us', ep', b1, b2, b3⟩ := h2.2 j q1
    have e1 : ys.toArray[j] = .ref r := by
      have := (List.getElem?_eq_some_iff.mp a1).2
      simpa using this
    have e2 : zs.toArray[j] = .ref r' := by
      have := (List.getElem?_eq_some_iff.mp b1).2
      simpa using this
    rw [e1, e2]
    have k := keq_ints (News.isList N a2) a3 (News.isList N b2) b3 hu
    rw [decide_eq_true (hf j q1)] at k
    exact k
  · rw [show ((List.range ys.toArray.size).all fun _ => true) = true by simp]
    exact h
end
local macro_rules | `(tactic| k_mem) => `(tactic| ((repeat' (with_reducible first | exact List.mem_cons_self | refine List.mem_cons_of_mem _ ?_)); try assumption))
set_option maxHeartbeats 0 in
theorem tail_tells {w : World} {p : Program} {loose : List Str} {mean : ExcName → Option Value} {mg mb : Str → Option Value} (fa L a0 : Addr) (cd : Value) (g : Heap) (B : Below callerA g [] g) (X : (K w.params).In g) (T : Top p loose mean mg mb g) (XB : XF w g)
    (c0 c1 c2 c3 c4 : Int) (vs9 : List Value) (ep9 : Nat) (mt : Tok) (DA D9 xU dU TU CU : Addr) (DU : Obj) (xsU : List Value) (tbU : Tok) (WU : WSt) (hWU : wrun (preL (nsC [c0, c1, c2, c3, c4]) 1) = WU) (hDU : LeadD w DU WU.nt TU) (hxU : IntsAre xsU WU.ns) (hI9 : IntsAre vs9 [c0, c1, c2, c3, c4])
    (o4 : Obj) (v4 : Option Value) (d4 : o4.data = .cell v4) (rest : List (Addr × Obj)) (hJ : LawJ w L DA D9 xU dU TU CU DU xsU tbU WU [c0, c1, c2, c3, c4] vs9 ep9 0 rest) (off4 : ∀ p ∈ rest, p.1 ≠ L + 1 + 1 + 1 + 1)
    (s : Shared) (F : Fr g L s.heap (fun y => if y = Str.ofString "mail" then some (.str (mailT [c0, c1, c2, c3, c4]) mt) else if y = Str.ofString "script" then some (.ref a0) else none)) (N : News g L s.heap ((L + 1 + 1 + 1 + 1, o4) :: rest)) (Q : Flow → Shared → Prop) (E : Value → Shared → Prop)
    (hret : ∀ h tk m', Fr g L h m' → Q (.ret (.bool true)) { s with heap := h, toks := tk }) :
    wpAny (model PySem.Challenge.rw_re0164_01.row.prog w) (callerA.deeper (envOfC (Str.ofString "law") lawSc L fa cd)) (execs tailBody (envOfC (Str.ofString "law") lawSc L fa cd)) Q E s := by
  have hK : (∀ P, (K P).length = (K P).length) ∧ PySem.Challenge.rw_re0164_01.foot = 7 := ⟨fun _ => rfl, rfl⟩
  revert hK
  dsimp only [tailBody, lawSc, lawD]
  k_fill
  intro _
  (repeat' ((fail_if_success (with_reducible show wpAny _ _ (exec (Stmt.For _ _ _ _ _) _) _ _ _)); first | (k_unfold; (try dsimp only)) | (k_end; wrow_close) | walk1 | (dsimp only; walk1) | (leave1; (try dsimp only)) | fail "no step"))
  (try dsimp only)
  refine For_cell (h₀ := g) ?_
  k_steps
  rename IsRange _ _ _ _ _ _ _ _ => Rr
  rename News g L _ _ => Nr
  have hDA := lawJ_lt hJ Nr
  refine ⟨_, _, _, _, _, _, _, 4, L + 1 + 1 + 1 + 1, o4, _, v4, rest, LawJ w L DA D9 xU dU TU CU DU xsU tbU WU [c0, c1, c2, c3, c4] vs9 ep9, rfl, rfl, Rr, by decide, by decide, rfl, rfl, rfl, d4, by k_asm, by k_asm, off4, hJ, ?_, ?_⟩
  · intro i u I oI oc rest h tk E' hI hi hJ' o1 o2 hcI hd F' N'
    rw [show (0 + (i : Int) * 1) = (i : Int) by omega] at hd
    refine turn_tells fa L a0 cd g B X T XB c0 c1 c2 c3 c4 vs9 ep9 mt DA D9 xU dU TU CU DU xsU tbU WU hWU hDU hxU i hi u I oI oc hd rest hJ' o1 o2 (by rw [hI]; exact hDA) _ (by exact F') (by exact N') _ E'
  · intro h tk oc v rest hoc hJ4 off F' N'
    clear hJ off4 Nr d4 Rr
    obtain ⟨o1, o2, o3, o5, o6, o7, o8, v5, v6, v7, v8, refs, ep, R, rfl, d1, d2, d3, d5, d6, d7, d8, hlen, hrows, ap, hLD, mU1, mU2, mU3, mU4, m9⟩ := hJ4
    (repeat' ((fail_if_success (with_reducible show wpAny _ _ (eval (Expr.ListComp _ _ _ _) _) _ _ _)); (fail_if_success (with_reducible show wpAny _ _ (compareOp CmpOp.Eq (Value.ref _) (Value.ref _)) _ _ _)); first | (k_unfold; (try dsimp only)) | (k_end; wrow_close) | walk1 | (dsimp only; walk1) | (leave1; (try dsimp only)) | fail "no step"))
    (try dsimp only)
    rename Fr g L _ _ => Fy
    rename News g L _ _ => Ny
    refine drawn_tells B X T XB Fy Ny (by k_mem) d1 (by (repeat' (with_reducible refine List.mem_cons_of_mem _ ?_)); exact m9) hI9 (by simp only [List.length_cons, List.length_nil]; decide) fun DD hD tkD ysD add hp hlt FD ND offD => ?_
    have N9 := News.pull (A := [(L + 1 + 1 + 1 + 1, oc)]) ND
    dsimp only [List.cons_append, List.nil_append] at N9
    have e9 : ∀ p ∈ (DD, lst ysD) :: (add ++ (L + 1 + 1 + 1 + 1, oc) :: (L + 1 + 1 + 1 + 1 + 1 + 1 + 1, o7) :: (L + 1 + 1 + 1 + 1 + 1 + 1, o6) :: (L + 1 + 1 + 1 + 1 + 1, o5) :: (L + 1 + 1 + 1, o3) :: (L + 1 + 1, o2) :: (L + 1, o1) :: (DA, PySem.W.listOf refs.toArray ep) :: R), p.1 ≠ L + 1 + 1 + 1 + 1 + 1 + 1 + 1 + 1 := by
      intro q hq
      rcases List.mem_cons.mp hq with rfl | hq
      · exact Ne.symm (offD _ (List.mem_append_right _ (.tail _ (.head _))))
      rcases List.mem_append.mp hq with hq | hq
      · exact Nat.ne_of_gt (allLt_mem (hlt q hq) _ (.tail _ (.head _)))
      simp only [List.mem_cons] at hq
      rcases hq with rfl | rfl | rfl | rfl | rfl | rfl | rfl | rfl | hq
      all_goals first | (refine neN ?_; dsimp only; omega) | exact ap q hq _ (by simp [keys])
    have q3 : (L + 1 + 1 + 1, o3) ∈ (DD, lst ysD) :: (add ++ (L + 1 + 1 + 1 + 1, oc) :: (L + 1 + 1 + 1 + 1 + 1 + 1 + 1, o7) :: (L + 1 + 1 + 1 + 1 + 1 + 1, o6) :: (L + 1 + 1 + 1 + 1 + 1, o5) :: (L + 1 + 1 + 1, o3) :: (L + 1 + 1, o2) :: (L + 1, o1) :: (DA, PySem.W.listOf refs.toArray ep) :: R) := .tail _ (List.mem_append_right _ (.tail _ (.tail _ (.tail _ (.tail _ (.head _))))))
    have qA : (DA, PySem.W.listOf refs.toArray ep) ∈ (DD, lst ysD) :: (add ++ (L + 1 + 1 + 1 + 1, oc) :: (L + 1 + 1 + 1 + 1 + 1 + 1 + 1, o7) :: (L + 1 + 1 + 1 + 1 + 1 + 1, o6) :: (L + 1 + 1 + 1 + 1 + 1, o5) :: (L + 1 + 1 + 1, o3) :: (L + 1 + 1, o2) :: (L + 1, o1) :: (DA, PySem.W.listOf refs.toArray ep) :: R) := .tail _ (List.mem_append_right _ (.tail _ (.tail _ (.tail _ (.tail _ (.tail _ (.tail _ (.tail _ (.head _)))))))))
    have hp9 := hp.up (R' := (DD, lst ysD) :: (add ++ (L + 1 + 1 + 1 + 1, oc) :: (L + 1 + 1 + 1 + 1 + 1 + 1 + 1, o7) :: (L + 1 + 1 + 1 + 1 + 1 + 1, o6) :: (L + 1 + 1 + 1 + 1 + 1, o5) :: (L + 1 + 1 + 1, o3) :: (L + 1 + 1, o2) :: (L + 1, o1) :: (DA, PySem.W.listOf refs.toArray ep) :: R)) fun q hq => .tail _ (List.mem_append_left _ hq)
    have hr9 := hrows.up (R' := (DD, lst ysD) :: (add ++ (L + 1 + 1 + 1 + 1, oc) :: (L + 1 + 1 + 1 + 1 + 1 + 1 + 1, o7) :: (L + 1 + 1 + 1 + 1 + 1 + 1, o6) :: (L + 1 + 1 + 1 + 1 + 1, o5) :: (L + 1 + 1 + 1, o3) :: (L + 1 + 1, o2) :: (L + 1, o1) :: (DA, PySem.W.listOf refs.toArray ep) :: R)) fun q hq => .tail _ (List.mem_append_right _ (.tail _ (.tail _ (.tail _ (.tail _ (.tail _ (.tail _ (.tail _ (.tail _ hq)))))))))
    have qD : (DD, lst ysD) ∈ (DD, lst ysD) :: (add ++ (L + 1 + 1 + 1 + 1, oc) :: (L + 1 + 1 + 1 + 1 + 1 + 1 + 1, o7) :: (L + 1 + 1 + 1 + 1 + 1 + 1, o6) :: (L + 1 + 1 + 1 + 1 + 1, o5) :: (L + 1 + 1 + 1, o3) :: (L + 1 + 1, o2) :: (L + 1, o1) :: (DA, PySem.W.listOf refs.toArray ep) :: R) := .head _
    clear ND offD hp hlt Fy Ny ap hrows m9 mU1 mU2 mU3 mU4
    generalize (DD, lst ysD) :: (add ++ (L + 1 + 1 + 1 + 1, oc) :: (L + 1 + 1 + 1 + 1 + 1 + 1 + 1, o7) :: (L + 1 + 1 + 1 + 1 + 1 + 1, o6) :: (L + 1 + 1 + 1 + 1 + 1, o5) :: (L + 1 + 1 + 1, o3) :: (L + 1 + 1, o2) :: (L + 1, o1) :: (DA, PySem.W.listOf refs.toArray ep) :: R) = R9 at N9 e9 q3 qA hp9 hr9 qD
    (repeat' ((fail_if_success (with_reducible show wpAny _ _ (eval (Expr.ListComp _ _ _ _) _) _ _ _)); (fail_if_success (with_reducible show wpAny _ _ (compareOp CmpOp.Eq (Value.ref _) (Value.ref _)) _ _ _)); first | (k_unfold; (try dsimp only)) | (k_end; wrow_close) | walk1 | (dsimp only; walk1) | (leave1; (try dsimp only)) | fail "no step"))
    (try dsimp only)
    rename _ = Data.cell (some (Value.ref DD)) => d8r
    rename Fr g L _ _ => Fy
    rename News g L _ _ => Ny
    refine lhs_tells B X T XB Fy Ny (.tail _ q3) d3 (.tail _ qA) hlen (hr9.up fun q hq => .tail _ hq) fun DX hX tkX ysX nwX hLX subX FX NX offX => ?_
    (repeat' ((fail_if_success (with_reducible show wpAny _ _ (eval (Expr.ListComp _ _ _ _) _) _ _ _)); (fail_if_success (with_reducible show wpAny _ _ (compareOp CmpOp.Eq (Value.ref _) (Value.ref _)) _ _ _)); first | (k_unfold; (try dsimp only)) | (k_end; wrow_close) | walk1 | (dsimp only; walk1) | (leave1; (try dsimp only)) | fail "no step"))
    (try dsimp only)
    refine rhs_tells B X T XB FX NX (.tail _ (subX _ (.head _))) d8r (.tail _ (subX _ (.tail _ qD))) (hp9.up fun q hq => .tail _ (subX _ (.tail _ hq))) fun DY hY tkY ysY nwY hLY subY FY NY offY => ?_
    (repeat' ((fail_if_success (with_reducible show wpAny _ _ (eval (Expr.ListComp _ _ _ _) _) _ _ _)); (fail_if_success (with_reducible show wpAny _ _ (compareOp CmpOp.Eq (Value.ref _) (Value.ref _)) _ _ _)); first | (k_unfold; (try dsimp only)) | (k_end; wrow_close) | walk1 | (dsimp only; walk1) | (leave1; (try dsimp only)) | fail "no step"))
    (try dsimp only)
    refine lists_same NY (.tail _ (subY _ (.head _))) (.head _) (hLX.up fun q hq => .tail _ (subY _ (.tail _ hq))) (hLY.up fun q hq => .tail _ hq) (fun k hk => out_val k hk c0 c1 c2 c3 c4) (by ktr_units) (by ktr_units) ?_
    k_steps
    exact hret _ _ _ FY
end
section
open PySem PySem.W PyProof.Rows PySem.Spec PySem.Calls PyProof.V
open PyProof.Rows.LCg PyProof.Rows.LCt
set_option Elab.async false
set_option maxRecDepth 100000
local macro_rules | `(tactic| walk_at "no place 0") => `(tactic| fail)
noncomputable def unsE : PySem.Expr := match lawD.1.1.body with | [_, _, _, .If (.Compare e _ _ _) _ _ _, _, _, _, _] => e | _ => noE
noncomputable def colE : PySem.Expr := match lawD.1.1.body with | [_, _, _, .If (.Compare _ _ [e] _) _ _ _, _, _, _, _] => e | _ => noE
theorem cols_eq (c0 c1 c2 c3 c4 : Int) {WU : WSt} (hU : wrun (preL (nsC [c0, c1, c2, c3, c4]) 1) = WU) : ([1, 2, 3, 4, 5].map fun z => levV z WU.ns WU.b WU.nt) = [1, 2, 3, 4, 5].map fun z => colV z c0 c1 c2 c3 c4 := by
  have q : ∀ z : Nat, 0 < z → levV (z : Int) WU.ns WU.b WU.nt = colV (z : Int) c0 c1 c2 c3 c4 := fun z hz => by
    rw [← hU, lev_pre z hz, colV_eq z hz]
  clear hU
  have h1 : levV 1 WU.ns WU.b WU.nt = colV 1 c0 c1 c2 c3 c4 := q 1 (by decide)
  have h2 : levV 2 WU.ns WU.b WU.nt = colV 2 c0 c1 c2 c3 c4 := q 2 (by decide)
  have h3 : levV 3 WU.ns WU.b WU.nt = colV 3 c0 c1 c2 c3 c4 := q 3 (by decide)
  have h4 : levV 4 WU.ns WU.b WU.nt = colV 4 c0 c1 c2 c3 c4 := q 4 (by decide)
  have h5 : levV 5 WU.ns WU.b WU.nt = colV 5 c0 c1 c2 c3 c4 := q 5 (by decide)
  simp only [List.map_cons, List.map_nil, h1, h2, h3, h4, h5]
set_option maxHeartbeats 0 in
theorem uns_tells {w : World} {p : Program} {loose : List Str} {mean : ExcName → Option Value} {mg mb : Str → Option Value} {fa L : Addr} {cd : Value} {g : Heap} {m : Str → Option Value} {news : List (Addr × Obj)} {o2 : Obj} {xU dU TU CU : Addr} {DU : Obj} {xsU : List Value} {nsU : List Int} {bU ntU : Int} {tbU : Tok} {s : Shared} {Q E : Value → Shared → Prop}
    (B : Below callerA g [] g) (X : (K w.params).In g) (T : Top p loose mean mg mb g) (XB : XF w g) (F : Fr g L s.heap m) (N : News g L s.heap news)
    (c2 : (L + 1 + 1, o2) ∈ news) (d2 : o2.data = .cell (some (.ref xU)))
    (mU1 : (TU, tupO [.ref CU, .int bU tbU]) ∈ news) (mU2 : (CU, tupO xsU) ∈ news) (mU3 : (xU, instObj 100 dU) ∈ news) (mU4 : (dU, DU) ∈ news) (hDU : LeadD w DU ntU TU) (hxU : IntsAre xsU nsU) (hlU : xsU.length ≤ 300)
    (fin : ∀ D h tk ys, IntsAre ys ([1, 2, 3, 4, 5].map fun z => levV z nsU bU ntU) → Fr g L h m → News g L h ((D, lst ys) :: news) → (∀ p ∈ news, p.1 ≠ D) → Q (.ref D) { s with heap := h, toks := tk }) :
    wpAny (model PySem.Challenge.rw_re0164_01.row.prog w) (callerA.deeper (envOfC (Str.ofString "law") lawSc L fa cd)) (eval unsE (envOfC (Str.ofString "law") lawSc L fa cd)) Q E s := by
  have hK : (∀ P, (K P).length = (K P).length) ∧ PySem.Challenge.rw_re0164_01.foot = 7 := ⟨fun _ => rfl, rfl⟩
  revert hK
  dsimp only [unsE, lawSc, lawD]
  k_fill
  intro _
  have hDU' := hDU
  k_dflt (obtain ⟨XU, tU1, tU2, kU1, kU2, kU3, kU4, kU5, ttU, nU, bU9, eU⟩ := hDU'; subst eU)
  k_dflt (refine ListComp_US (F₀ := by k_asm) (by with_unfolding_all rfl) (by decide) (by rfl) (by decide) (by rfl) ?_)
  k_steps
  rename IsRange _ _ _ _ _ _ _ _ => Rr
  refine ⟨_, _, _, _, _, _, _, 5, _, rfl, rfl, by k_asm, by k_asm, Rr, by decide, by decide, by rw [sizeLine_eq]; decide, fun s₂ hs₂ => restI (ks := [1, 2, 3, 4, 5]) (fun z => levV z nsU bU ntU) rfl ?_ (fun k t I9 oI9 C oC D9 m₂ ys h tk E' hc hC hx F9 N9 off ne => ?_) ?_⟩
  · rintro j v hj ⟨t, rfl⟩
    refine ⟨_, t, ?_, rfl⟩
    match j, hj with
    | 0, _ => rfl
    | 1, _ => rfl
    | 2, _ => rfl
    | 3, _ => rfl
    | 4, _ => rfl
  · have hk : 1 ≤ k ∧ k ≤ 5 := by
      revert hc; simp only [List.mem_cons, List.not_mem_nil, or_false]; omega
    clear hc
    (repeat' ((fail_if_success (with_reducible show wpAny _ _ (call (Value.ref _) _) _ _ _)); first | (k_unfold; (try dsimp only)) | (k_end; wrow_close) | walk1 | (dsimp only; walk1) | (leave1; (try dsimp only)) | fail "no step"))
    refine lvl_tells _ _ _ _ _ _ _ _ _ _ _ _ hDU hxU hlU hk.1 hk.2 _ _ _ _ _ _ _ _ _ _ _ _ _ _ _ _ _ _ B (by k_asm) X (by k_asm) (by (repeat' (with_reducible refine List.mem_cons_of_mem _ ?_)); exact mU1) (by (repeat' (with_reducible refine List.mem_cons_of_mem _ ?_)); exact mU2) (by (repeat' (with_reducible refine List.mem_cons_of_mem _ ?_)); exact mU3) (by (repeat' (with_reducible refine List.mem_cons_of_mem _ ?_)); exact mU4) T rfl XB (by ktr_room) (by ktr_units) fun t9 h9 tk9 F9 N9 => ?_
    k_steps
    exact LCg.CompEnd.intro (by k_asm) (by k_asm) _ (fun _ hp => hp) off trivial ⟨rfl, _, rfl⟩
  · intro ys hy
    (try dsimp only)
    intro D9 h1 tk1 F1 N1 off1
    obtain ⟨_, rfl⟩ := hs₂
    exact fin D9 h1 tk1 ys hy F1 N1 (fresh1 off1)
set_option maxHeartbeats 0 in
theorem cols_tells {w : World} {p : Program} {loose : List Str} {mean : ExcName → Option Value} {mg mb : Str → Option Value} {fa L : Addr} {cd : Value} {g : Heap} {m : Str → Option Value} {news : List (Addr × Obj)} {o1 : Obj} {D : Addr} {c0 c1 c2 c3 c4 : Int} {t0 t1 t2 t3 t4 : Tok} {ep : Nat} {s : Shared} {Q E : Value → Shared → Prop}
    (B : Below callerA g [] g) (X : (K w.params).In g) (T : Top p loose mean mg mb g) (XB : XF w g) (F : Fr g L s.heap m) (N : News g L s.heap news)
    (c1' : (L + 1, o1) ∈ news) (d1 : o1.data = .cell (some (.ref D))) (m9 : (D, PySem.W.listOf #[.int c0 t0, .int c1 t1, .int c2 t2, .int c3 t3, .int c4 t4] ep) ∈ news) (h0 : 0 ≤ c0) (h1 : 0 ≤ c1) (h2 : 0 ≤ c2) (h3 : 0 ≤ c3) (h4 : 0 ≤ c4)
    (fin : ∀ D h tk ys, IntsAre ys ([1, 2, 3, 4, 5].map fun z => colV z c0 c1 c2 c3 c4) → Fr g L h m → News g L h ((D, lst ys) :: news) → (∀ p ∈ news, p.1 ≠ D) → Q (.ref D) { s with heap := h, toks := tk }) :
    wpAny (model PySem.Challenge.rw_re0164_01.row.prog w) (callerA.deeper (envOfC (Str.ofString "law") lawSc L fa cd)) (eval colE (envOfC (Str.ofString "law") lawSc L fa cd)) Q E s := by
  have hK : (∀ P, (K P).length = (K P).length) ∧ PySem.Challenge.rw_re0164_01.foot = 7 := ⟨fun _ => rfl, rfl⟩
  revert hK
  dsimp only [colE, lawSc, lawD]
  k_fill
  intro _
  k_dflt (refine ListComp_US (F₀ := by k_asm) (by with_unfolding_all rfl) (by decide) (by rfl) (by decide) (by rfl) ?_)
  k_steps
  rename IsRange _ _ _ _ _ _ _ _ => Rr
  refine ⟨_, _, _, _, _, _, _, 5, _, rfl, rfl, by k_asm, by k_asm, Rr, by decide, by decide, by rw [sizeLine_eq]; decide, fun s₂ hs₂ => restI (ks := [1, 2, 3, 4, 5]) (fun z => colV z c0 c1 c2 c3 c4) rfl ?_ (fun k t I9 oI9 C oC D9 m₂ ys h tk E' hc hC hx F9 N9 off ne => ?_) ?_⟩
  · rintro j v hj ⟨t, rfl⟩
    refine ⟨_, t, ?_, rfl⟩
    match j, hj with
    | 0, _ => rfl
    | 1, _ => rfl
    | 2, _ => rfl
    | 3, _ => rfl
    | 4, _ => rfl
  · have hk : 1 ≤ k ∧ k ≤ 5 := by
      revert hc; simp only [List.mem_cons, List.not_mem_nil, or_false]; omega
    clear hc
    (repeat' ((fail_if_success (with_reducible show wpAny _ _ (call (Value.ref _) _) _ _ _)); first | (k_unfold; (try dsimp only)) | (k_end; wrow_close) | walk1 | (dsimp only; walk1) | (leave1; (try dsimp only)) | fail "no step"))
    refine col_tells _ _ _ _ _ _ _ _ _ _ _ _ _ _ h0 h1 h2 h3 h4 hk.1 hk.2 _ _ _ _ _ _ _ _ _ _ _ _ _ _ _ _ _ _ B (by k_asm) X (by k_asm) (by (repeat' (with_reducible refine List.mem_cons_of_mem _ ?_)); exact m9) T rfl XB (by ktr_room) (by ktr_units) fun t9 h9 tk9 F9 N9 => ?_
    k_steps
    exact LCg.CompEnd.intro (by k_asm) (by k_asm) _ (fun _ hp => hp) off trivial ⟨rfl, _, rfl⟩
  · intro ys hy
    (try dsimp only)
    intro D9 h1 tk1 F1 N1 off1
    obtain ⟨_, rfl⟩ := hs₂
    exact fin D9 h1 tk1 ys hy F1 N1 (fresh1 off1)
end
section
open PySem PySem.W PyProof.Rows PySem.Spec PySem.Calls PyProof.V
open PyProof.Rows.LCg PyProof.Rows.LCt
set_option Elab.async false
set_option maxRecDepth 100000
section
variable {prog : Program} {w : World} {A : Around} {E : Value → Shared → Prop} {s : Shared}
theorem ne_same {a b : Addr} {vs us : List Value} {ns ms : List Int} {Q : Value → Shared → Prop} (hl : s.heap.IsList a vs.toArray) (hi : IntsAre vs ns) (hl' : s.heap.IsList b us.toArray) (hi' : IntsAre us ms) (hu : A.units + 64 < cLine) (e : ns = ms)
    (h : Q (.bool false) s) : wpAny (model prog w) A (compareOp .NotEq (.ref a) (.ref b)) Q E s := by
  refine ne_intsK hl hi hl' hi' hu ?_
  rw [decide_eq_true e]
  exact h
end
local macro_rules | `(tactic| k_mem) => `(tactic| ((repeat' (with_reducible first | exact List.mem_cons_self | refine List.mem_cons_of_mem _ ?_)); try assumption))
theorem News.shuf {h₀ h : Heap} {L : Addr} {A B C D : List (Addr × Obj)} (N : News h₀ L h (A ++ (B ++ (C ++ D)))) : News h₀ L h (C ++ (B ++ (D ++ A))) := fun p hp => N p (by
  rcases List.mem_append.mp hp with hp | hp
  · exact List.mem_append_right _ (List.mem_append_right _ (List.mem_append_left _ hp))
  rcases List.mem_append.mp hp with hp | hp
  · exact List.mem_append_right _ (List.mem_append_left _ hp)
  rcases List.mem_append.mp hp with hp | hp
  · exact List.mem_append_right _ (List.mem_append_right _ (List.mem_append_right _ hp))
  · exact List.mem_append_left _ hp)
theorem keys_ne {L DA a : Addr} (h1 : @LT.lt Nat _ (L + 1 + 1 + 1 + 1 + 1 + 1 + 1 + 1) a) (h2 : @LT.lt Nat _ a DA) : ∀ c ∈ keys L DA, a ≠ c := by
  intro c hc
  simp only [keys, List.mem_cons, List.not_mem_nil, or_false] at hc
  rcases hc with rfl | rfl | rfl | rfl | rfl | rfl | rfl | rfl | rfl <;> (refine neN ?_; omega)
theorem off4_all {L DA a b c d e : Addr} {o8 o7 o6 o5 o3 o2 o1 oA oa ob oc od oe : Obj} (h : @LT.lt Nat _ (L + 1 + 1 + 1 + 1 + 1 + 1 + 1 + 1) DA) (ha : ∀ k ∈ keys L DA, a ≠ k) (hb : ∀ k ∈ keys L DA, b ≠ k) (hc : ∀ k ∈ keys L DA, c ≠ k) (hd : ∀ k ∈ keys L DA, d ≠ k) (he : ∀ k ∈ keys L DA, e ≠ k) :
    ∀ p ∈ [(L + 1 + 1 + 1 + 1 + 1 + 1 + 1 + 1, o8), (L + 1 + 1 + 1 + 1 + 1 + 1 + 1, o7), (L + 1 + 1 + 1 + 1 + 1 + 1, o6), (L + 1 + 1 + 1 + 1 + 1, o5), (L + 1 + 1 + 1, o3), (L + 1 + 1, o2), (L + 1, o1), (DA, oA), (a, oa), (b, ob), (c, oc), (d, od), (e, oe)], p.1 ≠ L + 1 + 1 + 1 + 1 := by
  have hk : L + 1 + 1 + 1 + 1 ∈ keys L DA := .tail _ (.tail _ (.tail _ (.head _)))
  intro p hp
  simp only [List.mem_cons, List.not_mem_nil, or_false] at hp
  rcases hp with rfl | rfl | rfl | rfl | rfl | rfl | rfl | rfl | rfl | rfl | rfl | rfl | rfl
  all_goals first | exact ha _ hk | exact hb _ hk | exact hc _ hk | exact hd _ hk | exact he _ hk | (refine neN ?_; dsimp only; omega)
set_option maxHeartbeats 0 in
theorem body_tells {w : World} {p : Program} {loose : List Str} {mean : ExcName → Option Value} {mg mb : Str → Option Value} (fa L a0 : Addr) (cd : Value) (g : Heap) (B : Below callerA g [] g) (X : (K w.params).In g) (T : Top p loose mean mg mb g) (XB : XF w g)
    (xs : List Value) (ms : List Int) (hms : IntsAre xs ms) (hml : xs.length ≤ 63) (hl0 : g.IsList a0 xs.toArray)
    (q1 q2 q3 q4 q5 q6 q7 q8 : Obj) (d1 : ∃ v, q1.data = .cell v) (d2 : ∃ v, q2.data = .cell v) (d3 : ∃ v, q3.data = .cell v) (d4 : ∃ v, q4.data = .cell v) (d5 : ∃ v, q5.data = .cell v) (d6 : ∃ v, q6.data = .cell v) (d7 : ∃ v, q7.data = .cell v) (d8 : ∃ v, q8.data = .cell v)
    (s : Shared) (F : Fr g L s.heap (fun y => if y = Str.ofString "script" then some (.ref a0) else none))
    (N : News g L s.heap [(L + 1 + 1 + 1 + 1 + 1 + 1 + 1 + 1, q8), (L + 1 + 1 + 1 + 1 + 1 + 1 + 1, q7), (L + 1 + 1 + 1 + 1 + 1 + 1, q6), (L + 1 + 1 + 1 + 1 + 1, q5), (L + 1 + 1 + 1 + 1, q4), (L + 1 + 1 + 1, q3), (L + 1 + 1, q2), (L + 1, q1)]) (Q : Flow → Shared → Prop) (E : Value → Shared → Prop)
    (hret : ∀ h tk m', Fr g L h m' → Q (.ret (.bool true)) { s with heap := h, toks := tk }) :
    wpAny (model PySem.Challenge.rw_re0164_01.row.prog w) (callerA.deeper (envOfC (Str.ofString "law") lawSc L fa cd)) (execs lawD.1.1.body (envOfC (Str.ofString "law") lawSc L fa cd)) Q E s := by
  obtain ⟨v1, d1⟩ := d1
  obtain ⟨v2, d2⟩ := d2
  obtain ⟨v3, d3⟩ := d3
  obtain ⟨v4, d4⟩ := d4
  obtain ⟨v5, d5⟩ := d5
  obtain ⟨v6, d6⟩ := d6
  obtain ⟨v7, d7⟩ := d7
  obtain ⟨v8, d8⟩ := d8
  have hK : (∀ P, (K P).length = (K P).length) ∧ PySem.Challenge.rw_re0164_01.foot = 7 := ⟨fun _ => rfl, rfl⟩
  revert hK
  dsimp only [lawSc, lawD]
  k_fill
  intro _
  (repeat' ((fail_if_success (with_reducible show wpAny _ _ (eval (Expr.ListComp _ _ _ _) _) _ _ _)); (fail_if_success (with_reducible show wpAny _ _ (compareOp CmpOp.NotEq (Value.ref _) (Value.ref _)) _ _ _)); (fail_if_success (with_reducible show wpAny _ _ (call (Value.ref _) _) _ _ _)); (fail_if_success (with_reducible show wpAny _ _ (execs (Stmt.For _ _ _ _ _ :: _) _) _ _ _)); first | (k_unfold; (try dsimp only)) | (k_end; wrow_close) | walk1 | (dsimp only; walk1) | (leave1; (try dsimp only)) | fail "no step"))
  (try dsimp only)
  refine cells_tells a0 xs ms hms hml _ _ _ _ _ _ _ _ _ _ _ _ _ _ _ _ _ _ B (by k_asm) X (by k_asm) hl0 T rfl XB (by ktr_room) (by ktr_units) fun D9 vs9 ns9 ep9 h9 tk9 hi9 h59 h09 F9 N9 l9 => ?_
  k_lt l9
  obtain ⟨c0, c1, c2, c3, c4, t0, t1, t2, t3, t4, e9, p0, p1, p2, p3, p4⟩ := fivelist hi9 h59 h09
  subst e9
  (repeat' ((fail_if_success (with_reducible show wpAny _ _ (eval (Expr.ListComp _ _ _ _) _) _ _ _)); (fail_if_success (with_reducible show wpAny _ _ (compareOp CmpOp.NotEq (Value.ref _) (Value.ref _)) _ _ _)); (fail_if_success (with_reducible show wpAny _ _ (call (Value.ref _) _) _ _ _)); (fail_if_success (with_reducible show wpAny _ _ (execs (Stmt.For _ _ _ _ _ :: _) _) _ _ _)); first | (k_unfold; (try dsimp only)) | (k_end; wrow_close) | walk1 | (dsimp only; walk1) | (leave1; (try dsimp only)) | fail "no step"))
  (try dsimp only)
  refine mail_tells D9 c0 c1 c2 c3 c4 t0 t1 t2 t3 t4 ep9 p0 p1 p2 p3 p4 _ _ _ _ _ _ _ _ _ _ _ _ _ _ _ _ _ _ B (by k_asm) X (by k_asm) (by k_mem) T rfl XB (by ktr_room) (by ktr_units) fun mt h10 tk10 F10 N10 => ?_
  (repeat' ((fail_if_success (with_reducible show wpAny _ _ (eval (Expr.ListComp _ _ _ _) _) _ _ _)); (fail_if_success (with_reducible show wpAny _ _ (compareOp CmpOp.NotEq (Value.ref _) (Value.ref _)) _ _ _)); (fail_if_success (with_reducible show wpAny _ _ (call (Value.ref _) _) _ _ _)); (fail_if_success (with_reducible show wpAny _ _ (execs (Stmt.For _ _ _ _ _ :: _) _) _ _ _)); first | (k_unfold; (try dsimp only)) | (k_end; wrow_close) | walk1 | (dsimp only; walk1) | (leave1; (try dsimp only)) | fail "no step"))
  (try dsimp only)
  refine use0 (eols_tells _ _ (Nat.le_trans (mail_len _).1 (by decide)) (mail_len _).2) B (by k_asm) X (by k_asm) T rfl XB (by ktr_room) (by ktr_units) fun t11 h11 tk11 F11 N11 => ?_
  (repeat' ((fail_if_success (with_reducible show wpAny _ _ (eval (Expr.ListComp _ _ _ _) _) _ _ _)); (fail_if_success (with_reducible show wpAny _ _ (compareOp CmpOp.NotEq (Value.ref _) (Value.ref _)) _ _ _)); (fail_if_success (with_reducible show wpAny _ _ (call (Value.ref _) _) _ _ _)); (fail_if_success (with_reducible show wpAny _ _ (execs (Stmt.For _ _ _ _ _ :: _) _) _ _ _)); first | (k_unfold; (try dsimp only)) | (k_end; wrow_close) | walk1 | (dsimp only; walk1) | (leave1; (try dsimp only)) | fail "no step"))
  (try dsimp only)
  refine useW (lead_tells _ _ (fixed_len _) (fixed_signs _) _ _ (fixed_lead _) (preL_signs _ _)) B (by k_asm) X (by k_asm) T rfl XB (by ktr_room) (by ktr_units) fun xU dU TU CU xsU tbU DU hU tkU hDU hxU FU NU lU oU => ?_
  have hlU := lead_xs_len hxU
  obtain ⟨WU, hWU⟩ : ∃ W, W = wrun (preL (nsC [c0, c1, c2, c3, c4]) 1) := ⟨_, rfl⟩
  rw [← hWU] at hDU hxU NU
  k_lt lU
  (repeat' ((fail_if_success (with_reducible show wpAny _ _ (eval (Expr.ListComp _ _ _ _) _) _ _ _)); (fail_if_success (with_reducible show wpAny _ _ (compareOp CmpOp.NotEq (Value.ref _) (Value.ref _)) _ _ _)); (fail_if_success (with_reducible show wpAny _ _ (call (Value.ref _) _) _ _ _)); (fail_if_success (with_reducible show wpAny _ _ (execs (Stmt.For _ _ _ _ _ :: _) _) _ _ _)); first | (k_unfold; (try dsimp only)) | (k_end; wrow_close) | walk1 | (dsimp only; walk1) | (leave1; (try dsimp only)) | fail "no step"))
  (try dsimp only)
  rename _ = Data.cell (some (Value.ref xU)) => d2r
  rename _ = Data.cell (some (Value.ref D9)) => d1r
  rename Fr g L _ _ => Fy
  rename News g L _ _ => Ny
  refine uns_tells B X T XB Fy Ny (by k_mem) d2r (.head _) (.tail _ (.head _)) (.tail _ (.tail _ (.head _))) (.tail _ (.tail _ (.tail _ (.head _)))) hDU hxU hlU fun DP hP tkP ysP hyP FP NP offP => ?_
  (repeat' ((fail_if_success (with_reducible show wpAny _ _ (eval (Expr.ListComp _ _ _ _) _) _ _ _)); (fail_if_success (with_reducible show wpAny _ _ (compareOp CmpOp.NotEq (Value.ref _) (Value.ref _)) _ _ _)); (fail_if_success (with_reducible show wpAny _ _ (call (Value.ref _) _) _ _ _)); (fail_if_success (with_reducible show wpAny _ _ (execs (Stmt.For _ _ _ _ _ :: _) _) _ _ _)); first | (k_unfold; (try dsimp only)) | (k_end; wrow_close) | walk1 | (dsimp only; walk1) | (leave1; (try dsimp only)) | fail "no step"))
  (try dsimp only)
  refine cols_tells B X T XB FP NP (by k_mem) d1r (by k_mem) p0 p1 p2 p3 p4 fun DQ hQ tkQ ysQ hyQ FQ NQ offQ => ?_
  (repeat' ((fail_if_success (with_reducible show wpAny _ _ (eval (Expr.ListComp _ _ _ _) _) _ _ _)); (fail_if_success (with_reducible show wpAny _ _ (compareOp CmpOp.NotEq (Value.ref _) (Value.ref _)) _ _ _)); (fail_if_success (with_reducible show wpAny _ _ (call (Value.ref _) _) _ _ _)); (fail_if_success (with_reducible show wpAny _ _ (execs (Stmt.For _ _ _ _ _ :: _) _) _ _ _)); first | (k_unfold; (try dsimp only)) | (k_end; wrow_close) | walk1 | (dsimp only; walk1) | (leave1; (try dsimp only)) | fail "no step"))
  (try dsimp only)
  refine ne_same (News.isList NQ (.tail _ (.head _))) hyP (News.isList NQ (.head _)) hyQ (by ktr_units) (cols_eq _ _ _ _ _ hWU.symm) ?_
  have NV := News.drop2 NQ
  clear NQ offQ NP offP
  (repeat' ((fail_if_success (with_reducible show wpAny _ _ (eval (Expr.ListComp _ _ _ _) _) _ _ _)); (fail_if_success (with_reducible show wpAny _ _ (compareOp CmpOp.NotEq (Value.ref _) (Value.ref _)) _ _ _)); (fail_if_success (with_reducible show wpAny _ _ (call (Value.ref _) _) _ _ _)); (fail_if_success (with_reducible show wpAny _ _ (execs (Stmt.For _ _ _ _ _ :: _) _) _ _ _)); first | (k_unfold; (try dsimp only)) | (k_end; wrow_close) | walk1 | (dsimp only; walk1) | (leave1; (try dsimp only)) | fail "no step"))
  (try dsimp only)
  rename _ = Data.cell (some (Value.ref _)) => d3r
  rename Fr g L _ _ => Fz
  rename News g L _ _ => Nz
  have Nw := News.shuf (A := [(_, _), (TU, tupO [Value.ref CU, Value.int WU.b tbU]), (CU, tupO xsU), (xU, instObj 100 dU), (dU, DU), (D9, PySem.W.listOf #[Value.int c0 t0, Value.int c1 t1, Value.int c2 t2, Value.int c3 t3, Value.int c4 t4] ep9)]) (B := [(L + 1 + 1 + 1 + 1 + 1 + 1 + 1 + 1, q8), (L + 1 + 1 + 1 + 1 + 1 + 1 + 1, q7), (L + 1 + 1 + 1 + 1 + 1 + 1, q6), (L + 1 + 1 + 1 + 1 + 1, q5)]) (C := [(L + 1 + 1 + 1 + 1, q4)]) (D := [(L + 1 + 1 + 1, _), (L + 1 + 1, _), (L + 1, _)]) Nz
  dsimp only [List.cons_append, List.nil_append] at Nw
  rename TU < _ ∧ _ => lz
  clear hms hml hl0
  refine tail_tells fa L a0 cd g B X T XB c0 c1 c2 c3 c4 _ ep9 mt _ D9 xU dU TU CU DU xsU tbU WU hWU.symm hDU hxU (by l_ints) q4 v4 d4 _ ⟨_, _, _, q5, q6, q7, q8, v5, v6, v7, v8, [], 0, [(TU, tupO [Value.ref CU, Value.int WU.b tbU]), (CU, tupO xsU), (xU, instObj 100 dU), (dU, DU), (D9, PySem.W.listOf #[Value.int c0 t0, Value.int c1 t1, Value.int c2 t2, Value.int c3 t3, Value.int c4 t4] ep9)], rfl, d1r, d2r, d3r, d5, d6, d7, d8, rfl, fun k hk => absurd hk (Nat.not_lt_zero _), ?_, lz.2.2.2.2.2.1, .head _, .tail _ (.head _), .tail _ (.tail _ (.head _)), .tail _ (.tail _ (.tail _ (.head _))), .tail _ (.tail _ (.tail _ (.tail _ (.head _))))⟩ ?_ _ Fz Nw Q E (fun h tk m' F => hret h tk m' F)
  · exact .cons (keys_ne (Nat.lt_trans lU.2.1 (Nat.lt_trans oU.1 (Nat.lt_trans oU.2.1 oU.2.2))) lz.1) (.cons (keys_ne (Nat.lt_trans lU.2.1 (Nat.lt_trans oU.1 oU.2.1)) lz.2.1) (.cons (keys_ne (Nat.lt_trans lU.2.1 oU.1) lz.2.2.1) (.cons (keys_ne lU.2.1 lz.2.2.2.1) (.cons (keys_ne l9.1 lz.2.2.2.2.1) fun p hp => by cases hp))))
  · exact off4_all lz.2.2.2.2.2.1 (keys_ne (Nat.lt_trans lU.2.1 (Nat.lt_trans oU.1 (Nat.lt_trans oU.2.1 oU.2.2))) lz.1) (keys_ne (Nat.lt_trans lU.2.1 (Nat.lt_trans oU.1 oU.2.1)) lz.2.1) (keys_ne (Nat.lt_trans lU.2.1 oU.1) lz.2.2.1) (keys_ne lU.2.1 lz.2.2.2.1) (keys_ne l9.1 lz.2.2.2.2.1)
end
section
open PySem PySem.W PyProof.Rows PySem.Spec PySem.Calls PyProof.V
open PyProof.Rows.LCg PyProof.Rows.LCt
set_option Elab.async false
set_option maxRecDepth 100000
set_option maxHeartbeats 0 in
theorem law_walk : WalkO q loose (XL q []) mySays PySem.Challenge.rw_re0164_01.row.toRowW lawD.1.1 lawD.1.2 fun f vs => PySem.call f vs := by
  dsimp only [lawD]
  have hK : (∀ P, (K P).length = (K P).length) ∧ PySem.Challenge.rw_re0164_01.foot = 7 := ⟨fun _ => rfl, rfl⟩
  revert hK
  k_fill
  intro _
  intro w s₀ s₁ mg mb G Y fa o pm cd doc dV kV ho hd hcd hD hmg hg args vals as hpre hlay hrd hwl hlo
  have KX : (K w.params).In s₁.heap := Y.1
  have XB : XF w s₁.heap := Y.2
  clear Y
  have X := (Ground.X G).1
  have V := (Ground.X G).2
  refine Ground.open G ?_
  intro T B D TE TW
  try (refine guard_noD D (by decide +kernel) ?_; clear D)
  obtain ⟨_, _, M⟩ := bmod_of_top T
  have TA := at_of_top T
  try (obtain ⟨_, _, he, B0⟩ := based_of_top T rfl hmg ho hd; have he' : cd = _ := he; subst he'; clear he)
  clear hmg
  wrow_args hpre hlay hrd hwl hlo
  all_goals (
    first | refine callC_kw (enter_call ?_) | refine enter_call ?_ | refine callC_kw (enter_callW ?_) | refine enter_callW ?_ | w_how
    w_top on
    try refine codeAny_mono ?_ (fun _ _ g => GoodW.toG g)
    have K0 := below_caller (Top.heap T)
    w_call any ho hd hcd hD T F
    clear hd TA
    k_drop
    skip)
  clear hcd
  rename Fr _ _ _ _ => Fz
  rename News _ _ _ _ => Nz
  rename IntsAre _ _ => hms
  rename Heap.IsList _ _ _ => hl0
  rename ¬ _ < _ => hlen
  rename Top _ _ _ _ _ _ => T
  rename Below callerA _ _ _ => B
  refine body_tells fa _ _ _ _ B KX T XB _ _ hms (len63 hms hlen) hl0 _ _ _ _ _ _ _ _ ⟨_, by assumption⟩ ⟨_, by assumption⟩ ⟨_, by assumption⟩ ⟨_, by assumption⟩ ⟨_, by assumption⟩ ⟨_, by assumption⟩ ⟨_, by assumption⟩ ⟨_, by assumption⟩ _ (Fr.ext Fz (fun y => by rfl)) Nz _ _ ?_
  intro h tk m' F'
  (try dsimp only)
  wrow_close
end
end Mine
end
section
open PySem PySem.W PyProof.Rows PySem.Calls
set_option Elab.async false
set_option maxRecDepth 100000
set_option maxHeartbeats 0
set_option linter.unusedVariables false
namespace Mine
theorem holds_of (walk : WalkO q loose (XL q []) mySays PySem.Challenge.rw_re0164_01.row.toRowW lawD.1.1 lawD.1.2 fun f vs => PySem.call f vs) : PySem.Challenge.rw_re0164_01.Holds := by
  w_on
  refine holds_law (by kernel_rfl) fun said => ?_
  refine W.holds_open (q := q) (loose := loose) (d := lawD.1.1) (kwd := lawD.1.2) (Xt := myXt) (XP := XL q []) (Yf := myObs) (Ya := myVal) (YP := mySays) (N := 100000) ?hl my_of my_keeps (fun s e => xl_of s (Bool.and_eq_true_iff.mp e).1) XL.keeps lawD.2 (by rfl) (by rfl) (fun s e => recFacts_of (Bool.and_eq_true_iff.mp e).2) (by rfl) (by first | assumption | decide +kernel) (by decide +kernel) ⟨rfl, rfl, rfl, rfl, rfl, by decide +kernel⟩ ?hw ?hc
  case hl => exact left_all
  case hw => w_witness2
  case hc => exact walk
end Mine
end
set_option maxRecDepth 100000 in
theorem PySem.Challenge.cw_re0164_01_holds : PySem.Challenge.rw_re0164_01.Holds :=
  Mine.holds_of Mine.law_walk
