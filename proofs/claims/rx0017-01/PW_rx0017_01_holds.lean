import PyProof.Rows.All
import Wide.All
import OpenK.AllK
import Wide.FinOn
import PySem.Challenge.RW_rx0017_01
set_option Elab.async false
set_option maxRecDepth 100000
set_option compiler.extract_closed false
open PySem
namespace Mine

section -- RxHead
open PySem PySem.W PyProof.Rows
/-- a def of the text as an object -/
noncomputable def fo (i : Nat) (k : Str → Arguments → FuncBody → Scope → FuncData) : Obj :=
  match PySem.Challenge.pw_rx0017_01.main.body[i]? with
  | some (.FunctionDef n a b _ _ _ c _ _ _) => { cls := .type "function", data := .func (k n a (.stmts b) c) }
  | _ => { cls := .none }
noncomputable def heapK : Params → Frag := fun P =>
  (nat_lit 2, Obj.mk Value.none none (Data.dict #[DictEntry.mk (PyData.keyHash P (Str.ofString "\x69mport.loaded._sre")) (Value.str (Str.ofString "\x69mport.loaded._sre") 183) (Value.bool true), DictEntry.mk (PyData.keyHash P (Str.ofString "class._frozen_importlib.BuiltinImporter")) (Value.str (Str.ofString "class._frozen_importlib.BuiltinImporter") 185) (Value.ref 14), DictEntry.mk (PyData.keyHash P (Str.ofString "watched.\x69mport")) (Value.str (Str.ofString "watched.\x69mport") 206) (Value.ref 18), DictEntry.mk (PyData.keyHash P (Str.ofString "class._frozen_importlib.ModuleSpec")) (Value.str (Str.ofString "class._frozen_importlib.ModuleSpec") 216) (Value.ref 22), DictEntry.mk (PyData.keyHash P (Str.ofString "sys.modules.booked-epoch")) (Value.str (Str.ofString "sys.modules.booked-epoch") 245) (Value.int 3 0), DictEntry.mk (PyData.keyHash P (Str.ofString "\x69mport.later-laid._sre")) (Value.str (Str.ofString "\x69mport.later-laid._sre") 270) (Value.bool true), DictEntry.mk (PyData.keyHash P (Str.ofString "watched.library")) (Value.str (Str.ofString "watched.library") 272) (Value.ref 27), DictEntry.mk (PyData.keyHash P (Str.ofString "watched.library-objects")) (Value.str (Str.ofString "watched.library-objects") 0) (Value.str (Str.ofString "\x0c") 0), DictEntry.mk (PyData.keyHash P (Str.ofString "watched.library-deep._sre")) (Value.str (Str.ofString "watched.library-deep._sre") 273) (Value.str (Str.ofString "\x04\x00\x00\x0b\x04\x00\x00\x0b\x04\x00\x00\x03\x04\x00\x00\x0b\x08\x04dict\x02") 0)] 9) #[]) ::
  (nat_lit 3, Obj.mk (Value.type "dict") none (Data.dict #[DictEntry.mk (PyData.keyHash P (Str.ofString "__name__")) (Value.str (Str.ofString "__name__") 165) (Value.str (Str.ofString "law_rx0017_01") 564), DictEntry.mk (PyData.keyHash P (Str.ofString "__doc__")) (Value.str (Str.ofString "__doc__") 166) Value.none, DictEntry.mk (PyData.keyHash P (Str.ofString "__package__")) (Value.str (Str.ofString "__package__") 167) Value.none, DictEntry.mk (PyData.keyHash P (Str.ofString "__loader__")) (Value.str (Str.ofString "__loader__") 168) (Value.builtin "__main__.__loader__#opaque"), DictEntry.mk (PyData.keyHash P (Str.ofString "__spec__")) (Value.str (Str.ofString "__spec__") 169) Value.none, DictEntry.mk (PyData.keyHash P (Str.ofString "__annotations__")) (Value.str (Str.ofString "__annotations__") 170) (Value.ref 6), DictEntry.mk (PyData.keyHash P (Str.ofString "__builtins__")) (Value.str (Str.ofString "__builtins__") 171) (Value.ref 4), DictEntry.mk (PyData.keyHash P (Str.ofString "__file__")) (Value.str (Str.ofString "__file__") 173) (Value.str (Str.ofString "/claim/cut.py") 172), DictEntry.mk (PyData.keyHash P (Str.ofString "__cached__")) (Value.str (Str.ofString "__cached__") 174) Value.none, DictEntry.mk (PyData.keyHash P (Str.ofString "_sre")) (Value.str (Str.ofString "_sre") 275) (Value.ref 12), DictEntry.mk (PyData.keyHash P (Str.ofString "_twin_re_1")) (Value.str (Str.ofString "_twin_re_1") 321) (Value.ref 36), DictEntry.mk (PyData.keyHash P (Str.ofString "translate")) (Value.str (Str.ofString "translate") 330) (Value.ref 43), DictEntry.mk (PyData.keyHash P (Str.ofString "_special_chars_map")) (Value.str (Str.ofString "_special_chars_map") 478) (Value.ref 45), DictEntry.mk (PyData.keyHash P (Str.ofString "escape")) (Value.str (Str.ofString "escape") 485) (Value.ref 55), DictEntry.mk (PyData.keyHash P (Str.ofString "_translate")) (Value.str (Str.ofString "_translate") 506) (Value.ref 62), DictEntry.mk (PyData.keyHash P (Str.ofString "_join_translated_parts")) (Value.str (Str.ofString "_join_translated_parts") 519) (Value.ref 69), DictEntry.mk (PyData.keyHash P (Str.ofString "_raise_serialization_error")) (Value.str (Str.ofString "_raise_serialization_error") 528) (Value.ref 76), DictEntry.mk (PyData.keyHash P (Str.ofString "_escape_cdata")) (Value.str (Str.ofString "_escape_cdata") 535) (Value.ref 83), DictEntry.mk (PyData.keyHash P (Str.ofString "_escape_attrib")) (Value.str (Str.ofString "_escape_attrib") 542) (Value.ref 90), DictEntry.mk (PyData.keyHash P (Str.ofString "_escape_attrib_html")) (Value.str (Str.ofString "_escape_attrib_html") 549) (Value.ref 97), DictEntry.mk (PyData.keyHash P (Str.ofString "_escape_cdata_c14n")) (Value.str (Str.ofString "_escape_cdata_c14n") 556) (Value.ref 104), DictEntry.mk (PyData.keyHash P (Str.ofString "_escape_attrib_c14n")) (Value.str (Str.ofString "_escape_attrib_c14n") 563) (Value.ref 111), DictEntry.mk (PyData.keyHash P (Str.ofString "_law_sign")) (Value.str (Str.ofString "_law_sign") 573) (Value.ref 118), DictEntry.mk (PyData.keyHash P (Str.ofString "_law_drawn")) (Value.str (Str.ofString "_law_drawn") 579) (Value.ref 123), DictEntry.mk (PyData.keyHash P (Str.ofString "_law_written")) (Value.str (Str.ofString "_law_written") 587) (Value.ref 130), DictEntry.mk (PyData.keyHash P (Str.ofString "_law_spelled")) (Value.str (Str.ofString "_law_spelled") 593) (Value.ref 135), DictEntry.mk (PyData.keyHash P (Str.ofString "_law_means")) (Value.str (Str.ofString "_law_means") 599) (Value.ref 140), DictEntry.mk (PyData.keyHash P (Str.ofString "_law_mark")) (Value.str (Str.ofString "_law_mark") 605) (Value.ref 147), DictEntry.mk (PyData.keyHash P (Str.ofString "_law_pieces")) (Value.str (Str.ofString "_law_pieces") 617) (Value.ref 154), DictEntry.mk (PyData.keyHash P (Str.ofString "_law_end")) (Value.str (Str.ofString "_law_end") 627) (Value.ref 161), DictEntry.mk (PyData.keyHash P (Str.ofString "_law_takes")) (Value.str (Str.ofString "_law_takes") 633) (Value.ref 166), DictEntry.mk (PyData.keyHash P (Str.ofString "law")) (Value.str (Str.ofString "law") 650) (Value.ref 173)] 32) #[]) ::
  (nat_lit 35, Obj.mk (Value.type "tuple") none (Data.seq #[Value.int 14 0, Value.int 14 0, Value.int 4 0, Value.int 1 0, Value.int 1 0, Value.int 9 0, Value.int 0 0, Value.int 64 0, Value.int 0 0, Value.int 1342177280 0, Value.int 0 0, Value.int 0 0, Value.int 0 0, Value.int 0 0, Value.int 0 0, Value.int 17 0, Value.int 0 0, Value.int 13 0, Value.int 11 0, Value.int 9 0, Value.int 0 0, Value.int 64 0, Value.int 0 0, Value.int 1342177280 0, Value.int 0 0, Value.int 0 0, Value.int 0 0, Value.int 0 0, Value.int 0 0, Value.int 17 0, Value.int 1 0, Value.int 1 0]) #[]) ::
  (nat_lit 36, Obj.mk (Value.type "re.Pattern") none (Data.fields #[Value.str (Str.ofString "([&~|])") 285, Value.int 32 320, Value.int 1 0, Value.none, Value.none, Value.ref 35, Value.int 0 0]) #[]) ::
  (nat_lit 37, Obj.mk (Value.type "tuple") none (Data.seq #[]) #[]) ::
  (nat_lit 39, Obj.mk (Value.type "tuple") none (Data.seq #[Value.str (Str.ofString "pat") 325, Value.str (Str.ofString "STAR") 326, Value.str (Str.ofString "parts") 327]) #[]) ::
  (nat_lit 40, Obj.mk (Value.type "tuple") none (Data.seq #[]) #[]) ::
  (nat_lit 42, Obj.mk (Value.type "code") none (Data.fields #[Value.str (Str.ofString "translate") 322, Value.str (Str.ofString "translate") 323, Value.str (Str.ofString "/claim/cut.py") 324, Value.int 4 0, Value.int 1 0, Value.int 0 0, Value.int 0 0, Value.int 3 0, Value.ref 37, Value.bool true, Value.int 276 0, Value.ref 38, Value.none, Value.ref 39, Value.ref 40, Value.ref 41, Value.int 328 0, Value.int 4 0, Value.str (Str.ofString "/claim/cut.py") 329]) #[]) ::
  (nat_lit 43, fo 3 fun n a b c => FuncData.mk n n a b c 3 [] Value.none Value.none Value.none (Value.str (Str.ofString "cpy313.fnmatch") 282) none (Value.ref 42) Value.none 0) ::
  (nat_lit 45, Obj.mk (Value.type "dict") none (Data.dict #[DictEntry.mk 40 (Value.int 40 334) (Value.str (Str.ofString "\\(") 338), DictEntry.mk 41 (Value.int 41 340) (Value.str (Str.ofString "\\)") 344), DictEntry.mk 91 (Value.int 91 346) (Value.str (Str.ofString "\\[") 350), DictEntry.mk 93 (Value.int 93 352) (Value.str (Str.ofString "\\]") 356), DictEntry.mk 123 (Value.int 123 358) (Value.str (Str.ofString "\\{") 362), DictEntry.mk 125 (Value.int 125 364) (Value.str (Str.ofString "\\}") 368), DictEntry.mk 63 (Value.int 63 370) (Value.str (Str.ofString "\\?") 374), DictEntry.mk 42 (Value.int 42 376) (Value.str (Str.ofString "\\*") 380), DictEntry.mk 43 (Value.int 43 382) (Value.str (Str.ofString "\\+") 386), DictEntry.mk 45 (Value.int 45 388) (Value.str (Str.ofString "\\-") 392), DictEntry.mk 124 (Value.int 124 394) (Value.str (Str.ofString "\\|") 398), DictEntry.mk 94 (Value.int 94 400) (Value.str (Str.ofString "\\^") 404), DictEntry.mk 36 (Value.int 36 406) (Value.str (Str.ofString "\\$") 410), DictEntry.mk 92 (Value.int 92 412) (Value.str (Str.ofString "\\\\") 416), DictEntry.mk 46 (Value.int 46 418) (Value.str (Str.ofString "\\.") 422), DictEntry.mk 38 (Value.int 38 424) (Value.str (Str.ofString "\\&") 428), DictEntry.mk 126 (Value.int 126 430) (Value.str (Str.ofString "\\~") 434), DictEntry.mk 35 (Value.int 35 436) (Value.str (Str.ofString "\\#") 440), DictEntry.mk 32 (Value.int 32 442) (Value.str (Str.ofString "\\ ") 446), DictEntry.mk 9 (Value.int 9 448) (Value.str (Str.ofString "\\\t") 452), DictEntry.mk 10 (Value.int 10 454) (Value.str (Str.ofString "\\\n") 458), DictEntry.mk 13 (Value.int 13 460) (Value.str (Str.ofString "\\\x0d") 464), DictEntry.mk 11 (Value.int 11 466) (Value.str (Str.ofString "\\\x0b") 470), DictEntry.mk 12 (Value.int 12 472) (Value.str (Str.ofString "\\\x0c") 476)] 24) #[]) ::
  (nat_lit 49, Obj.mk (Value.type "tuple") none (Data.seq #[]) #[]) ::
  (nat_lit 51, Obj.mk (Value.type "tuple") none (Data.seq #[Value.str (Str.ofString "pattern") 482]) #[]) ::
  (nat_lit 52, Obj.mk (Value.type "tuple") none (Data.seq #[]) #[]) ::
  (nat_lit 54, Obj.mk (Value.type "code") none (Data.fields #[Value.str (Str.ofString "escape") 479, Value.str (Str.ofString "escape") 480, Value.str (Str.ofString "/claim/cut.py") 481, Value.int 10 0, Value.int 1 0, Value.int 0 0, Value.int 0 0, Value.int 3 0, Value.ref 49, Value.bool true, Value.int 276 0, Value.ref 50, Value.none, Value.ref 51, Value.ref 52, Value.ref 53, Value.int 483 0, Value.int 10 0, Value.str (Str.ofString "/claim/cut.py") 484]) #[]) ::
  (nat_lit 55, fo 6 fun n a b c => FuncData.mk n n a b c 3 [] Value.none Value.none Value.none (Value.str (Str.ofString "re") 331) none (Value.ref 54) Value.none 0) ::
  (nat_lit 56, Obj.mk (Value.type "tuple") none (Data.seq #[]) #[]) ::
  (nat_lit 58, Obj.mk (Value.type "tuple") none (Data.seq #[Value.str (Str.ofString "pat") 491, Value.str (Str.ofString "STAR") 492, Value.str (Str.ofString "QUESTION_MARK") 493, Value.str (Str.ofString "res") 494, Value.str (Str.ofString "add") 495, Value.str (Str.ofString "i") 496, Value.str (Str.ofString "n") 497, Value.str (Str.ofString "c") 498, Value.str (Str.ofString "j") 499, Value.str (Str.ofString "stuff") 500, Value.str (Str.ofString "chunks") 501, Value.str (Str.ofString "k") 502, Value.str (Str.ofString "chunk") 503]) #[]) ::
  (nat_lit 59, Obj.mk (Value.type "tuple") none (Data.seq #[]) #[]) ::
  (nat_lit 61, Obj.mk (Value.type "code") none (Data.fields #[Value.str (Str.ofString "_translate") 488, Value.str (Str.ofString "_translate") 489, Value.str (Str.ofString "/claim/cut.py") 490, Value.int 17 0, Value.int 3 0, Value.int 0 0, Value.int 0 0, Value.int 3 0, Value.ref 56, Value.bool true, Value.int 276 0, Value.ref 57, Value.none, Value.ref 58, Value.ref 59, Value.ref 60, Value.int 504 0, Value.int 17 0, Value.str (Str.ofString "/claim/cut.py") 505]) #[]) ::
  (nat_lit 62, fo 8 fun n a b c => FuncData.mk n n a b c 3 [] Value.none Value.none Value.none (Value.str (Str.ofString "cpy313.fnmatch") 486) none (Value.ref 61) Value.none 0) ::
  (nat_lit 63, Obj.mk (Value.type "tuple") none (Data.seq #[]) #[]) ::
  (nat_lit 65, Obj.mk (Value.type "tuple") none (Data.seq #[Value.str (Str.ofString "inp") 510, Value.str (Str.ofString "STAR") 511, Value.str (Str.ofString "res") 512, Value.str (Str.ofString "add") 513, Value.str (Str.ofString "i") 514, Value.str (Str.ofString "n") 515, Value.str (Str.ofString "fixed") 516]) #[]) ::
  (nat_lit 66, Obj.mk (Value.type "tuple") none (Data.seq #[]) #[]) ::
  (nat_lit 68, Obj.mk (Value.type "code") none (Data.fields #[Value.str (Str.ofString "_join_translated_parts") 507, Value.str (Str.ofString "_join_translated_parts") 508, Value.str (Str.ofString "/claim/cut.py") 509, Value.int 79 0, Value.int 2 0, Value.int 0 0, Value.int 0 0, Value.int 3 0, Value.ref 63, Value.bool true, Value.int 276 0, Value.ref 64, Value.none, Value.ref 65, Value.ref 66, Value.ref 67, Value.int 517 0, Value.int 79 0, Value.str (Str.ofString "/claim/cut.py") 518]) #[]) ::
  (nat_lit 69, fo 9 fun n a b c => FuncData.mk n n a b c 3 [] Value.none Value.none Value.none (Value.str (Str.ofString "cpy313.fnmatch") 486) none (Value.ref 68) Value.none 0) ::
  (nat_lit 70, Obj.mk (Value.type "tuple") none (Data.seq #[]) #[]) ::
  (nat_lit 72, Obj.mk (Value.type "tuple") none (Data.seq #[Value.str (Str.ofString "text") 525]) #[]) ::
  (nat_lit 73, Obj.mk (Value.type "tuple") none (Data.seq #[]) #[]) ::
  (nat_lit 75, Obj.mk (Value.type "code") none (Data.fields #[Value.str (Str.ofString "_raise_serialization_error") 522, Value.str (Str.ofString "_raise_serialization_error") 523, Value.str (Str.ofString "/claim/cut.py") 524, Value.int 107 0, Value.int 1 0, Value.int 0 0, Value.int 0 0, Value.int 3 0, Value.ref 70, Value.bool true, Value.int 276 0, Value.ref 71, Value.none, Value.ref 72, Value.ref 73, Value.ref 74, Value.int 526 0, Value.int 107 0, Value.str (Str.ofString "/claim/cut.py") 527]) #[]) ::
  (nat_lit 76, fo 11 fun n a b c => FuncData.mk n n a b c 3 [] Value.none Value.none Value.none (Value.str (Str.ofString "cpy313.xml.etree.ElementTree") 520) none (Value.ref 75) Value.none 0) ::
  (nat_lit 77, Obj.mk (Value.type "tuple") none (Data.seq #[]) #[]) ::
  (nat_lit 79, Obj.mk (Value.type "tuple") none (Data.seq #[Value.str (Str.ofString "text") 532]) #[]) ::
  (nat_lit 80, Obj.mk (Value.type "tuple") none (Data.seq #[]) #[]) ::
  (nat_lit 82, Obj.mk (Value.type "code") none (Data.fields #[Value.str (Str.ofString "_escape_cdata") 529, Value.str (Str.ofString "_escape_cdata") 530, Value.str (Str.ofString "/claim/cut.py") 531, Value.int 109 0, Value.int 1 0, Value.int 0 0, Value.int 0 0, Value.int 3 0, Value.ref 77, Value.bool true, Value.int 276 0, Value.ref 78, Value.none, Value.ref 79, Value.ref 80, Value.ref 81, Value.int 533 0, Value.int 109 0, Value.str (Str.ofString "/claim/cut.py") 534]) #[]) ::
  (nat_lit 83, fo 12 fun n a b c => FuncData.mk n n a b c 3 [] Value.none Value.none Value.none (Value.str (Str.ofString "cpy313.xml.etree.ElementTree") 520) none (Value.ref 82) Value.none 0) ::
  (nat_lit 84, Obj.mk (Value.type "tuple") none (Data.seq #[]) #[]) ::
  (nat_lit 86, Obj.mk (Value.type "tuple") none (Data.seq #[Value.str (Str.ofString "text") 539]) #[]) ::
  (nat_lit 87, Obj.mk (Value.type "tuple") none (Data.seq #[]) #[]) ::
  (nat_lit 89, Obj.mk (Value.type "code") none (Data.fields #[Value.str (Str.ofString "_escape_attrib") 536, Value.str (Str.ofString "_escape_attrib") 537, Value.str (Str.ofString "/claim/cut.py") 538, Value.int 120 0, Value.int 1 0, Value.int 0 0, Value.int 0 0, Value.int 3 0, Value.ref 84, Value.bool true, Value.int 276 0, Value.ref 85, Value.none, Value.ref 86, Value.ref 87, Value.ref 88, Value.int 540 0, Value.int 120 0, Value.str (Str.ofString "/claim/cut.py") 541]) #[]) ::
  (nat_lit 90, fo 13 fun n a b c => FuncData.mk n n a b c 3 [] Value.none Value.none Value.none (Value.str (Str.ofString "cpy313.xml.etree.ElementTree") 520) none (Value.ref 89) Value.none 0) ::
  (nat_lit 91, Obj.mk (Value.type "tuple") none (Data.seq #[]) #[]) ::
  (nat_lit 93, Obj.mk (Value.type "tuple") none (Data.seq #[Value.str (Str.ofString "text") 546]) #[]) ::
  (nat_lit 94, Obj.mk (Value.type "tuple") none (Data.seq #[]) #[]) ::
  (nat_lit 96, Obj.mk (Value.type "code") none (Data.fields #[Value.str (Str.ofString "_escape_attrib_html") 543, Value.str (Str.ofString "_escape_attrib_html") 544, Value.str (Str.ofString "/claim/cut.py") 545, Value.int 139 0, Value.int 1 0, Value.int 0 0, Value.int 0 0, Value.int 3 0, Value.ref 91, Value.bool true, Value.int 276 0, Value.ref 92, Value.none, Value.ref 93, Value.ref 94, Value.ref 95, Value.int 547 0, Value.int 139 0, Value.str (Str.ofString "/claim/cut.py") 548]) #[]) ::
  (nat_lit 97, fo 14 fun n a b c => FuncData.mk n n a b c 3 [] Value.none Value.none Value.none (Value.str (Str.ofString "cpy313.xml.etree.ElementTree") 520) none (Value.ref 96) Value.none 0) ::
  (nat_lit 98, Obj.mk (Value.type "tuple") none (Data.seq #[]) #[]) ::
  (nat_lit 100, Obj.mk (Value.type "tuple") none (Data.seq #[Value.str (Str.ofString "text") 553]) #[]) ::
  (nat_lit 101, Obj.mk (Value.type "tuple") none (Data.seq #[]) #[]) ::
  (nat_lit 103, Obj.mk (Value.type "code") none (Data.fields #[Value.str (Str.ofString "_escape_cdata_c14n") 550, Value.str (Str.ofString "_escape_cdata_c14n") 551, Value.str (Str.ofString "/claim/cut.py") 552, Value.int 150 0, Value.int 1 0, Value.int 0 0, Value.int 0 0, Value.int 3 0, Value.ref 98, Value.bool true, Value.int 276 0, Value.ref 99, Value.none, Value.ref 100, Value.ref 101, Value.ref 102, Value.int 554 0, Value.int 150 0, Value.str (Str.ofString "/claim/cut.py") 555]) #[]) ::
  (nat_lit 104, fo 15 fun n a b c => FuncData.mk n n a b c 3 [] Value.none Value.none Value.none (Value.str (Str.ofString "cpy313.xml.etree.ElementTree") 520) none (Value.ref 103) Value.none 0) ::
  (nat_lit 105, Obj.mk (Value.type "tuple") none (Data.seq #[]) #[]) ::
  (nat_lit 107, Obj.mk (Value.type "tuple") none (Data.seq #[Value.str (Str.ofString "text") 560]) #[]) ::
  (nat_lit 108, Obj.mk (Value.type "tuple") none (Data.seq #[]) #[]) ::
  (nat_lit 110, Obj.mk (Value.type "code") none (Data.fields #[Value.str (Str.ofString "_escape_attrib_c14n") 557, Value.str (Str.ofString "_escape_attrib_c14n") 558, Value.str (Str.ofString "/claim/cut.py") 559, Value.int 163 0, Value.int 1 0, Value.int 0 0, Value.int 0 0, Value.int 3 0, Value.ref 105, Value.bool true, Value.int 276 0, Value.ref 106, Value.none, Value.ref 107, Value.ref 108, Value.ref 109, Value.int 561 0, Value.int 163 0, Value.str (Str.ofString "/claim/cut.py") 562]) #[]) ::
  (nat_lit 111, fo 16 fun n a b c => FuncData.mk n n a b c 3 [] Value.none Value.none Value.none (Value.str (Str.ofString "cpy313.xml.etree.ElementTree") 520) none (Value.ref 110) Value.none 0) ::
  (nat_lit 112, Obj.mk (Value.type "tuple") none (Data.seq #[]) #[]) ::
  (nat_lit 114, Obj.mk (Value.type "tuple") none (Data.seq #[Value.str (Str.ofString "n") 569, Value.str (Str.ofString "code") 570]) #[]) ::
  (nat_lit 115, Obj.mk (Value.type "tuple") none (Data.seq #[]) #[]) ::
  (nat_lit 117, Obj.mk (Value.type "code") none (Data.fields #[Value.str (Str.ofString "_law_sign") 566, Value.str (Str.ofString "_law_sign") 567, Value.str (Str.ofString "/claim/cut.py") 568, Value.int 181 0, Value.int 1 0, Value.int 0 0, Value.int 0 0, Value.int 3 0, Value.ref 112, Value.bool true, Value.int 276 0, Value.ref 113, Value.none, Value.ref 114, Value.ref 115, Value.ref 116, Value.int 571 0, Value.int 181 0, Value.str (Str.ofString "/claim/cut.py") 572]) #[]) ::
  (nat_lit 118, fo 18 fun n a b c => FuncData.mk n n a b c 3 [] Value.none Value.none Value.none (Value.str (Str.ofString "law_rx0017_01") 564) none (Value.ref 117) Value.none 0) ::
  (nat_lit 119, Obj.mk (Value.type "tuple") none (Data.seq #[]) #[]) ::
  (nat_lit 122, Obj.mk (Value.type "code") none (Data.fields #[Value.str (Str.ofString "_law_drawn") 574, Value.str (Str.ofString "_law_drawn") 575, Value.str (Str.ofString "/claim/cut.py") 576, Value.int 188 0, Value.int 1 0, Value.int 0 0, Value.int 0 0, Value.int 3 0, Value.ref 119, Value.bool true, Value.int 276 0, Value.ref 120, Value.none, Value.none, Value.none, Value.ref 121, Value.int 577 0, Value.int 188 0, Value.str (Str.ofString "/claim/cut.py") 578]) #[]) ::
  (nat_lit 123, fo 19 fun n a b c => FuncData.mk n n a b c 3 [] Value.none Value.none Value.none (Value.str (Str.ofString "law_rx0017_01") 564) none (Value.ref 122) Value.none 0) ::
  (nat_lit 124, Obj.mk (Value.type "tuple") none (Data.seq #[]) #[]) ::
  (nat_lit 126, Obj.mk (Value.type "tuple") none (Data.seq #[Value.str (Str.ofString "which") 583, Value.str (Str.ofString "text") 584]) #[]) ::
  (nat_lit 127, Obj.mk (Value.type "tuple") none (Data.seq #[]) #[]) ::
  (nat_lit 129, Obj.mk (Value.type "code") none (Data.fields #[Value.str (Str.ofString "_law_written") 580, Value.str (Str.ofString "_law_written") 581, Value.str (Str.ofString "/claim/cut.py") 582, Value.int 214 0, Value.int 2 0, Value.int 0 0, Value.int 0 0, Value.int 3 0, Value.ref 124, Value.bool true, Value.int 276 0, Value.ref 125, Value.none, Value.ref 126, Value.ref 127, Value.ref 128, Value.int 585 0, Value.int 214 0, Value.str (Str.ofString "/claim/cut.py") 586]) #[]) ::
  (nat_lit 130, fo 20 fun n a b c => FuncData.mk n n a b c 3 [] Value.none Value.none Value.none (Value.str (Str.ofString "law_rx0017_01") 564) none (Value.ref 129) Value.none 0) ::
  (nat_lit 131, Obj.mk (Value.type "tuple") none (Data.seq #[]) #[]) ::
  (nat_lit 134, Obj.mk (Value.type "code") none (Data.fields #[Value.str (Str.ofString "_law_spelled") 588, Value.str (Str.ofString "_law_spelled") 589, Value.str (Str.ofString "/claim/cut.py") 590, Value.int 224 0, Value.int 2 0, Value.int 0 0, Value.int 0 0, Value.int 3 0, Value.ref 131, Value.bool true, Value.int 276 0, Value.ref 132, Value.none, Value.none, Value.none, Value.ref 133, Value.int 591 0, Value.int 224 0, Value.str (Str.ofString "/claim/cut.py") 592]) #[]) ::
  (nat_lit 135, fo 21 fun n a b c => FuncData.mk n n a b c 3 [] Value.none Value.none Value.none (Value.str (Str.ofString "law_rx0017_01") 564) none (Value.ref 134) Value.none 0) ::
  (nat_lit 136, Obj.mk (Value.type "tuple") none (Data.seq #[]) #[]) ::
  (nat_lit 139, Obj.mk (Value.type "code") none (Data.fields #[Value.str (Str.ofString "_law_means") 594, Value.str (Str.ofString "_law_means") 595, Value.str (Str.ofString "/claim/cut.py") 596, Value.int 227 0, Value.int 2 0, Value.int 0 0, Value.int 0 0, Value.int 3 0, Value.ref 136, Value.bool true, Value.int 276 0, Value.ref 137, Value.none, Value.none, Value.none, Value.ref 138, Value.int 597 0, Value.int 227 0, Value.str (Str.ofString "/claim/cut.py") 598]) #[]) ::
  (nat_lit 140, fo 22 fun n a b c => FuncData.mk n n a b c 3 [] Value.none Value.none Value.none (Value.str (Str.ofString "law_rx0017_01") 564) none (Value.ref 139) Value.none 0) ::
  (nat_lit 141, Obj.mk (Value.type "tuple") none (Data.seq #[]) #[]) ::
  (nat_lit 143, Obj.mk (Value.type "tuple") none (Data.seq #[]) #[]) ::
  (nat_lit 144, Obj.mk (Value.type "tuple") none (Data.seq #[]) #[]) ::
  (nat_lit 146, Obj.mk (Value.type "code") none (Data.fields #[Value.str (Str.ofString "_law_mark") 600, Value.str (Str.ofString "_law_mark") 601, Value.str (Str.ofString "/claim/cut.py") 602, Value.int 235 0, Value.int 0 0, Value.int 0 0, Value.int 0 0, Value.int 3 0, Value.ref 141, Value.bool true, Value.int 276 0, Value.ref 142, Value.none, Value.ref 143, Value.ref 144, Value.ref 145, Value.int 603 0, Value.int 235 0, Value.str (Str.ofString "/claim/cut.py") 604]) #[]) ::
  (nat_lit 147, fo 23 fun n a b c => FuncData.mk n n a b c 3 [] Value.none Value.none Value.none (Value.str (Str.ofString "law_rx0017_01") 564) none (Value.ref 146) Value.none 0) ::
  (nat_lit 148, Obj.mk (Value.type "tuple") none (Data.seq #[]) #[]) ::
  (nat_lit 150, Obj.mk (Value.type "tuple") none (Data.seq #[Value.str (Str.ofString "text") 609, Value.str (Str.ofString "mark") 610, Value.str (Str.ofString "body") 611, Value.str (Str.ofString "pieces") 612, Value.str (Str.ofString "k") 613, Value.str (Str.ofString "how") 614]) #[]) ::
  (nat_lit 151, Obj.mk (Value.type "tuple") none (Data.seq #[]) #[]) ::
  (nat_lit 153, Obj.mk (Value.type "code") none (Data.fields #[Value.str (Str.ofString "_law_pieces") 606, Value.str (Str.ofString "_law_pieces") 607, Value.str (Str.ofString "/claim/cut.py") 608, Value.int 237 0, Value.int 2 0, Value.int 0 0, Value.int 0 0, Value.int 3 0, Value.ref 148, Value.bool true, Value.int 276 0, Value.ref 149, Value.none, Value.ref 150, Value.ref 151, Value.ref 152, Value.int 615 0, Value.int 237 0, Value.str (Str.ofString "/claim/cut.py") 616]) #[]) ::
  (nat_lit 154, fo 24 fun n a b c => FuncData.mk n n a b c 3 [] Value.none Value.none Value.none (Value.str (Str.ofString "law_rx0017_01") 564) none (Value.ref 153) Value.none 0) ::
  (nat_lit 155, Obj.mk (Value.type "tuple") none (Data.seq #[]) #[]) ::
  (nat_lit 157, Obj.mk (Value.type "tuple") none (Data.seq #[Value.str (Str.ofString "tests") 621, Value.str (Str.ofString "name") 622, Value.str (Str.ofString "place") 623, Value.str (Str.ofString "test") 624]) #[]) ::
  (nat_lit 158, Obj.mk (Value.type "tuple") none (Data.seq #[]) #[]) ::
  (nat_lit 160, Obj.mk (Value.type "code") none (Data.fields #[Value.str (Str.ofString "_law_end") 618, Value.str (Str.ofString "_law_end") 619, Value.str (Str.ofString "/claim/cut.py") 620, Value.int 277 0, Value.int 3 0, Value.int 0 0, Value.int 0 0, Value.int 3 0, Value.ref 155, Value.bool true, Value.int 276 0, Value.ref 156, Value.none, Value.ref 157, Value.ref 158, Value.ref 159, Value.int 625 0, Value.int 277 0, Value.str (Str.ofString "/claim/cut.py") 626]) #[]) ::
  (nat_lit 161, fo 25 fun n a b c => FuncData.mk n n a b c 3 [] Value.none Value.none Value.none (Value.str (Str.ofString "law_rx0017_01") 564) none (Value.ref 160) Value.none 0) ::
  (nat_lit 162, Obj.mk (Value.type "tuple") none (Data.seq #[]) #[]) ::
  (nat_lit 165, Obj.mk (Value.type "code") none (Data.fields #[Value.str (Str.ofString "_law_takes") 628, Value.str (Str.ofString "_law_takes") 629, Value.str (Str.ofString "/claim/cut.py") 630, Value.int 292 0, Value.int 3 0, Value.int 0 0, Value.int 0 0, Value.int 3 0, Value.ref 162, Value.bool true, Value.int 276 0, Value.ref 163, Value.none, Value.none, Value.none, Value.ref 164, Value.int 631 0, Value.int 292 0, Value.str (Str.ofString "/claim/cut.py") 632]) #[]) ::
  (nat_lit 166, fo 26 fun n a b c => FuncData.mk n n a b c 3 [] Value.none Value.none Value.none (Value.str (Str.ofString "law_rx0017_01") 564) none (Value.ref 165) Value.none 0) ::
  (nat_lit 167, Obj.mk (Value.type "tuple") none (Data.seq #[]) #[]) ::
  (nat_lit 169, Obj.mk (Value.type "tuple") none (Data.seq #[Value.str (Str.ofString "script") 637, Value.str (Str.ofString "pattern") 638, Value.str (Str.ofString "name") 639, Value.str (Str.ofString "which") 640, Value.str (Str.ofString "text") 641, Value.str (Str.ofString "meant") 642, Value.str (Str.ofString "star") 643, Value.str (Str.ofString "parts") 644, Value.str (Str.ofString "joined") 645, Value.str (Str.ofString "bare") 646, Value.str (Str.ofString "written") 647]) #[]) ::
  (nat_lit 170, Obj.mk (Value.type "tuple") none (Data.seq #[]) #[]) ::
  (nat_lit 172, Obj.mk (Value.type "code") none (Data.fields #[Value.str (Str.ofString "law") 634, Value.str (Str.ofString "law") 635, Value.str (Str.ofString "/claim/cut.py") 636, Value.int 309 0, Value.int 1 0, Value.int 0 0, Value.int 0 0, Value.int 3 0, Value.ref 167, Value.bool true, Value.int 276 0, Value.ref 168, Value.none, Value.ref 169, Value.ref 170, Value.ref 171, Value.int 648 0, Value.int 309 0, Value.str (Str.ofString "/claim/cut.py") 649]) #[]) ::
  (nat_lit 173, fo 27 fun n a b c => FuncData.mk n n a b c 3 [] Value.none Value.none Value.none (Value.str (Str.ofString "law_rx0017_01") 564) none (Value.ref 172) Value.none 0) :: []
def addsK : List Addr := nat_lit 2 :: nat_lit 3 :: nat_lit 35 :: nat_lit 36 :: nat_lit 37 :: nat_lit 39 :: nat_lit 40 :: nat_lit 42 :: nat_lit 43 :: nat_lit 45 :: nat_lit 49 :: nat_lit 51 :: nat_lit 52 :: nat_lit 54 :: nat_lit 55 :: nat_lit 56 :: nat_lit 58 :: nat_lit 59 :: nat_lit 61 :: nat_lit 62 :: nat_lit 63 :: nat_lit 65 :: nat_lit 66 :: nat_lit 68 :: nat_lit 69 :: nat_lit 70 :: nat_lit 72 :: nat_lit 73 :: nat_lit 75 :: nat_lit 76 :: nat_lit 77 :: nat_lit 79 :: nat_lit 80 :: nat_lit 82 :: nat_lit 83 :: nat_lit 84 :: nat_lit 86 :: nat_lit 87 :: nat_lit 89 :: nat_lit 90 :: nat_lit 91 :: nat_lit 93 :: nat_lit 94 :: nat_lit 96 :: nat_lit 97 :: nat_lit 98 :: nat_lit 100 :: nat_lit 101 :: nat_lit 103 :: nat_lit 104 :: nat_lit 105 :: nat_lit 107 :: nat_lit 108 :: nat_lit 110 :: nat_lit 111 :: nat_lit 112 :: nat_lit 114 :: nat_lit 115 :: nat_lit 117 :: nat_lit 118 :: nat_lit 119 :: nat_lit 122 :: nat_lit 123 :: nat_lit 124 :: nat_lit 126 :: nat_lit 127 :: nat_lit 129 :: nat_lit 130 :: nat_lit 131 :: nat_lit 134 :: nat_lit 135 :: nat_lit 136 :: nat_lit 139 :: nat_lit 140 :: nat_lit 141 :: nat_lit 143 :: nat_lit 144 :: nat_lit 146 :: nat_lit 147 :: nat_lit 148 :: nat_lit 150 :: nat_lit 151 :: nat_lit 153 :: nat_lit 154 :: nat_lit 155 :: nat_lit 157 :: nat_lit 158 :: nat_lit 160 :: nat_lit 161 :: nat_lit 162 :: nat_lit 165 :: nat_lit 166 :: nat_lit 167 :: nat_lit 169 :: nat_lit 170 :: nat_lit 172 :: nat_lit 173 :: []
noncomputable def vw : Program := view PySem.Challenge.pw_rx0017_01 [0, 2, 3, 5, 6, 8, 9, 11, 12, 13, 14, 15, 16, 18, 19, 20, 21, 22, 23, 24, 25, 26, 27]
end -- RxHead

section -- RxBase
open PySem PySem.W PyProof.Rows PySem.Calls
theorem enter {prog : Program} {w : World} {A : Around} {s : Shared} {K : Frag} {p : Program} {loose : List Str} {mean : ExcName → Option Value} {mg mb : Str → Option Value}
    {name qual : Str} {params : Arguments} {body : List Stmt} {scope : Scope} {dV kV doc pm cdv ct oc : Value} {an od : Option Addr} {osl : Array (Option Value)} {f : Addr} {vs : List Value}
    {Q E : Value → Shared → Prop} (binds : List (Str × Value))
    (X : K.In s.heap) (T : Top p loose mean mg mb s.heap)
    (ho : K.lookup f = some ⟨oc, od, .func (fnOf name qual params body scope dV kV doc pm an cdv ct), osl⟩) (hcd : codeIn K cdv qual = true) (hroom : A.depth < recursionLimit)
    (hbind : bindArgs (fnOf name qual params body scope dV kV doc pm an cdv ct) ⟨vs, []⟩ = pure binds) (hloc : ∀ y ∈ binds, scope.names.lookup y.1 = some .local)
    (h : ∀ L h₁, Fr s.heap L h₁ (fun y => binds.reverse.lookup y) → News s.heap L h₁ [] →
      wpAny (model prog w) (A.deeper (envOf qual scope L f cdv)) (execs body (envOf qual scope L f cdv))
        (fun fl s' => Q (match fl with | .ret v => v | _ => .none) s') (fun _ _ => False)
        { s with heap := h₁, toks := s.toks + binds.length })
    (hco : scope.isCoroutine = false) (hgen : scope.isGenerator = false) (hk : scope.kind = .function)
    (hcell : ∀ x ∈ scope.names, x.2 ≠ .cell) : wpAny (model prog w) A (call (.ref f) vs) Q E s := by
  refine wpAny_call (codeAny_call_def (fd := fnOf name qual params body scope dV kV doc pm an cdv ct) (body := body) (binds := binds) hroom (X _ _ ho) rfl T.nolimit (codeRec_of X hcd) rfl (BindsTo.of_eq hbind) hcell hloc (fun h₁ hns hk₁ => ?_) hco hgen hk)
  exact wpAny_mono (h s.heap.objs.size h₁ ⟨hns, hk₁, Nat.le_refl _⟩ News.nil) (fun _ _ q => q) (fun _ _ e => e.elim)

abbrev PP : Program := PySem.Challenge.rw_rx0017_01.row.prog
end -- RxBase

section -- RxCore
open PySem PySem.W PyProof.Rows PySem.Calls
theorem fillK : (PySem.Challenge.rw_rx0017_01 = PySem.Challenge.rw_rx0017_01) ∧ (heapK = heapK) := by
  k_fill
  exact ⟨rfl, rfl⟩

abbrev Grows (h h' : Heap) : Prop := ∀ b o, h.get? b = some o → h'.get? b = some o

theorem fr_grow {h₀ h h' : Heap} {L : Addr} {m : Str → Option Value} (F : Fr h₀ L h m) (k : Grows h h') : Fr h₀ L h' m :=
  ⟨F.ns.keeps k, fun b o e => k _ _ (F.keep b o e), F.above⟩
theorem news_grow {h₀ h h' : Heap} {L : Addr} {news : List (Addr × Obj)} (N : News h₀ L h news) (k : Grows h h') : News h₀ L h' news :=
  fun p hp => ⟨k _ _ (N p hp).1, (N p hp).2⟩

/-- the signs that no draw gives -/
def badL : List Nat := [42, 63, 93, 35, 59, 48, 49, 51, 57, 65, 68, 97, 103, 108, 109, 111, 112, 113, 116, 117, 120]
/-- a sign that a draw may give -/
def SignOk (c : Nat) : Prop := c ∉ badL

theorem isEmpty_occ {x : Str} {c : Nat} {b : Bool} (h : (Builtin.Str.occurrences x ⟨#[c]⟩ 0 x.length 1).isEmpty = b) : decide (c ∈ x.cps.toList) = !b := by
  rw [← PySem.StrLaws.found_one, h]

theorem enterC {prog : Program} {w : World} {A : Around} {s : Shared} {K : Frag} {p : Program} {loose : List Str} {mean : ExcName → Option Value} {mg mb : Str → Option Value}
    {name qual : Str} {params : Arguments} {body : List Stmt} {scope : Scope} {dV kV doc pm cdv ct oc : Value} {an od : Option Addr} {osl : Array (Option Value)} {f : Addr} {vs : List Value}
    {Q E : Value → Shared → Prop} (binds : List (Str × Value))
    (X : K.In s.heap) (T : Top p loose mean mg mb s.heap)
    (ho : K.lookup f = some ⟨oc, od, .func (fnOf name qual params body scope dV kV doc pm an cdv ct), osl⟩) (hcd : codeIn K cdv qual = true) (hroom : A.depth < recursionLimit)
    (hbind : bindArgs (fnOf name qual params body scope dV kV doc pm an cdv ct) ⟨vs, []⟩ = pure binds)
    (hkind : (binds.all fun y => scope.names.lookup y.1 == some .local || scope.names.lookup y.1 == some .cell) = true)
    (hnd : ((cellsFrom 0 scope.names []).map (·.1)).Nodup)
    (h : ∀ L h₁ tk cells, Fr s.heap L h₁ (bindL (envOfC qual scope L f cdv).kindOf binds fun _ => none) → News s.heap L h₁ cells →
      CellsAre (bindC (envOfC qual scope L f cdv).kindOf binds fun _ => none) (cellsFrom (L + 1) scope.names []) cells →
      wpAny (model prog w) (A.deeper (envOfC qual scope L f cdv)) (execs body (envOfC qual scope L f cdv))
        (fun fl s' => Q (match fl with | .ret v => v | _ => .none) s') (fun _ _ => False)
        { s with heap := h₁, toks := tk })
    (hco : scope.isCoroutine = false) (hgen : scope.isGenerator = false) (hk : scope.kind = .function) : wpAny (model prog w) A (call (.ref f) vs) Q E s := by
  refine wpAny_call (codeAny_call_function hroom (X _ _ ho) rfl hco hgen rfl (codeRec_of X hcd) ?_)
  rw [hbind]
  refine wpAny_pure (wpAny_newFunctionEnv_cells hk (kindsX hkind _) fun env' he s' x => ?_)
  subst he
  refine ⟨T.nolimit.keeps x.toInCall.keep, codeAny_func ?_⟩
  obtain ⟨h₁, tk, rfl, _⟩ := x.done
  obtain ⟨cells, NC, Y⟩ := Cl.news (h₀ := s.heap) (Nat.le_refl _) fun n c hm => ⟨x.cell n c (lookup_of_mem_nodup (cellsFrom_names scope.names 0 (s.heap.objs.size + 1) [] [] rfl ▸ hnd) hm), x.above n c hm⟩
  exact wpAny_mono (h s.heap.objs.size h₁ tk cells ⟨x.toInCall.ns, x.toInCall.keep, Nat.le_refl _⟩ NC Y) (fun _ _ q => q) (fun _ _ e => e.elim)
end -- RxCore

section -- RxBound
open PySem PySem.W PyProof.Rows PySem.Calls
open PySem
abbrev boundObj (id : String) (l : Addr) : Obj := { cls := .type "builtin_function_or_method", data := .fields #[.builtin id, .ref l] }

namespace B
theorem slot_md_get : Slot "method_descriptor" "__get__" "method_descriptor.__get__" :=
  .of (owner := "method_descriptor") (n := "__get__") (by rw [typeLookup_type, builtinLookup_eq_fast]; kernel_rfl) (by decide +kernel) (by decide +kernel) (by decide +kernel)
    (by first | exact .inl (by decide +kernel) | exact .inr (by decide +kernel)) (by rw [isSubtype_type]; kernel_rfl)
theorem entry_md_get : entryFor table "method_descriptor.__get__" = some Builtin.«method_descriptor.__get__» := entryFor_of_tree (by kernel_rfl)
theorem args_md_get (a b c : Value) : argsOk "method_descriptor.__get__" ⟨[a, b, c], []⟩ := by unfold argsOk; kernel_rfl
theorem md_set : typeLookup (.type "method_descriptor") "__set__" = pure none := by rw [typeLookup_type, builtinLookup_eq_fast]; kernel_rfl
theorem md_delete : typeLookup (.type "method_descriptor") "__delete__" = pure none := by rw [typeLookup_type, builtinLookup_eq_fast]; kernel_rfl
theorem type_app : typeOf (.builtin "list.append") = pure (.type "method_descriptor") := by show builtinType _ = _; rw [builtinType_eq_fast]; kernel_rfl
theorem owner_app : (".".intercalate ("list.append".cutAt '.').dropLast) = "list" := by
  have e0 : "list.append".cutAt '.' = ["list", "append"] := by first | rfl | decide +kernel
  rw [e0]; decide +kernel
theorem sub_app : isSubtype (.type "list") (.type (".".intercalate ("list.append".cutAt '.').dropLast)) = pure true := by
  rw [owner_app, isSubtype_type]; kernel_rfl
end B

section
variable {prog : Program} {w : World} {A : Around} {E : Value → Shared → Prop} {h : Heap} {g : Array GenState} {d : Drawn} {t : Nat} {os : OsState} {a : Addr} {o : Obj}

theorem app_get {R : Result → Shared → Prop} (hx : h.get? a = some o) (hc : o.cls = .type "list") (hq : R (.ok (.ret (.ref h.objs.size))) ⟨h.push (boundObj "list.append" a), g, d, t, os⟩) :
    codeAny (model prog w) A (.call (.builtin "method_descriptor.__get__") ⟨[.builtin "list.append", .ref a, .type "list"], []⟩) R ⟨h, g, d, t, os⟩ := by
  have hT : (⟨h, g, d, t, os⟩ : Shared).TypeIs (.ref a) "list" := ⟨_, hx, hc⟩
  have hT5 : (⟨h, g, d, t, os⟩ : Shared).TypeIs (.builtin "list.append") "method_descriptor" := B.type_app
  have f8 := B.sub_app
  refine codeAny_call_builtin B.slot_md_get.plain B.entry_md_get (B.slot_md_get.check _ _ _ _ _ _ _ _ hT5 (B.args_md_get _ _ _) ?_)
  repeat (any_goals (first | assumption | wp_step))

theorem app_entry {xs : Array Value} {k : Nat} {sl : Array (Option Value)} {tk : Tok} {Q : Fin → Shared → Prop} (hx : h.get? a = some { cls := .type "list", dict := none, data := .seq xs k, slots := sl }) (hq : Q (.done (.ret (.ref h.objs.size))) ⟨h.push (boundObj "list.append" a), g, d, t, os⟩) :
    wpAny (model prog w) A (Builtin.«object.__getattribute__» ⟨[.ref a, .str "append" tk], []⟩) Q E ⟨h, g, d, t, os⟩ := by
  have hT : (⟨h, g, d, t, os⟩ : Shared).TypeIs (.ref a) "list" := ⟨_, hx, rfl⟩
  have hT5 : (⟨h, g, d, t, os⟩ : Shared).TypeIs (.builtin "list.append") "method_descriptor" := B.type_app
  have f4 := slot_list_append.lookup
  have f5 := B.type_app
  have f6 := B.slot_md_get.lookup
  have f7 := B.md_set
  have f8 := B.md_delete
  have hname : (["__module__", "__name__", "__qualname__", "__doc__", "__annotations__"] : List Str).contains "append" = false := by decide +kernel
  unfold Builtin.«object.__getattribute__»
  repeat (any_goals (first | assumption | wp_step))
  refine app_get hx rfl ?_
  repeat (any_goals (first | assumption | wp_step))

theorem app_attr {xs : Array Value} {k : Nat} {sl : Array (Option Value)} {Q : Value → Shared → Prop} (hx : h.get? a = some { cls := .type "list", dict := none, data := .seq xs k, slots := sl }) (hq : Q (.ref h.objs.size) ⟨h.push (boundObj "list.append" a), g, d, t + 1, os⟩) :
    wpAny (model prog w) A (getAttr (.ref a) "append" true) Q E ⟨h, g, d, t, os⟩ := by
  have hT : ∀ tk', (⟨h, g, d, tk', os⟩ : Shared).TypeIs (.ref a) "list" := fun _ => ⟨_, hx, rfl⟩
  have f3 := F.slot_list_getattribute.lookup
  have f4 := F.slot_list_getattribute.bind (.ref a)
  have f5 := am_list_getattr_none
  unfold getAttr getAttrBy
  repeat (any_goals (first | assumption | exact hT _ | wp_step))
  refine codeAny_call_builtin F.slot_list_getattribute.plain F.entry_list_ga (F.slot_list_getattribute.check _ _ _ _ _ _ _ _ (hT _) (F.args_list_getattribute_2 _ _) (app_entry hx ?_))
  repeat (any_goals (first | assumption | wp_step))

theorem sub_list_module : isSubtype (.type "list") (.type "module") = pure false := by rw [isSubtype_type]; kernel_rfl
theorem sub_list_type : isSubtype (.type "list") (.type "type") = pure false := by rw [isSubtype_type]; kernel_rfl
theorem varargs_app : Manifest.varargsMethods.contains "list.append" = false := by decide +kernel
theorem bound_check {v : Value} {Q : Unit → Shared → Prop} {xs : Array Value} {k : Nat} {sl : Array (Option Value)} (hx : h.get? a = some { cls := .type "list", dict := none, data := .seq xs k, slots := sl }) (hq : Q () ⟨h, g, d, t, os⟩) :
    wpAny (model prog w) A (checkBoundCall "list.append" ⟨[.ref a, v], []⟩) Q E ⟨h, g, d, t, os⟩ := by
  have hT : ∀ tk', (⟨h, g, d, tk', os⟩ : Shared).TypeIs (.ref a) "list" := fun _ => ⟨_, hx, rfl⟩
  have f1 := sub_list_module
  have f2 := sub_list_type
  have f3 := varargs_app
  unfold checkBoundCall
  repeat (any_goals (first | assumption | exact hT _ | ((with_reducible show wpAny _ _ (Bind.checkArgs _ _ _) _ _ _); refine wpAny_of_eq (a := ()) (by kernel_rfl) ?_) | wp_step))

theorem bound_append {b : Addr} {v : Value} {Q : Value → Shared → Prop} {xs : Array Value} {k : Nat} {sl : Array (Option Value)} (hb : h.get? b = some (boundObj "list.append" a)) (hx : h.get? a = some { cls := .type "list", dict := none, data := .seq xs k, slots := sl })
    (hq : codeAny (model prog w) A (.builtin "list.append" ⟨[.ref a, v], []⟩) (fun r s' => match r with | .ok (.ret v) => Q v s' | .ok _ => False | .error e => E e s') ⟨h, g, d, t, os⟩) :
    wpAny (model prog w) A (call (.ref b) [v]) Q E ⟨h, g, d, t, os⟩ := by
  refine wpAny_call (codeAny_of_tree ?_)
  show wpAny _ _ (callAny (.ref b) _) _ _ _
  refine nd_load hb ?_
  show wpAny _ _ (do checkBoundCall "list.append" ⟨[.ref a, v], []⟩; again (.builtin "list.append" ⟨[.ref a, v], []⟩)) _ _ _
  exact wpAny_bind (bound_check hx (wpAny_pure ⟨Code.quiet_builtin _ (by decide +kernel), hq⟩))
end
end -- RxBound

section -- RxEsc
open PySem PySem.W PyProof.Rows PySem.Calls
open PySem
def escL : List Nat := [40, 41, 91, 93, 123, 125, 63, 42, 43, 45, 124, 94, 36, 92, 46, 38, 126, 35, 32, 9, 10, 13, 11, 12]
def escOf (c : Nat) : List Nat := if c ∈ escL then [92, c] else [c]

def escCheck (es : Array DictEntry) : Bool :=
  (es.toList.all fun e => match e.key with | .int k _ => (e.hash == hashInt k) && decide (0 ≤ k) && escL.contains k.toNat | _ => false) &&
  (escL.all fun c => match findBy Value.isInt es (c : Int) with | some (.str x _) => x == ⟨#[92, c]⟩ | _ => false)

theorem esc45 (P : Params) : ∃ es n, (heapK P).lookup 45 = some ⟨.type "dict", none, .dict es n, #[]⟩ ∧ escCheck es = true :=
  ⟨_, _, by k_is, by decide +kernel⟩

theorem escMap {prog : Program} {w : World} {h : Heap} (X : (heapK w.params).In h) : ∃ f : Int → Option Value, h.MapOf (intKind prog w) 45 f ∧
    (∀ c ∈ escL, ∃ t, f (c : Int) = some (.str ⟨#[92, c]⟩ t)) ∧ (∀ c : Nat, c ∉ escL → f (c : Int) = none) := by
  obtain ⟨es, n, hl, hc⟩ := esc45 w.params
  unfold escCheck at hc
  rw [Bool.and_eq_true] at hc
  obtain ⟨h1, h2⟩ := hc
  rw [List.all_eq_true] at h1 h2
  refine ⟨fun k => findBy Value.isInt es k, ⟨_, es, n, X _ _ hl, ⟨rfl, rfl, rfl⟩, rfl, fun e he => ?_, fun _ => rfl⟩, fun c hc => ?_, fun c hc => ?_⟩
  · have := h1 e (Array.mem_toList_iff.mpr he)
    split at this
    · rename_i k t hk
      simp only [Bool.and_eq_true, beq_iff_eq] at this
      exact ⟨k, by rw [hk]; exact intKind_is prog w k t, this.1.1⟩
    · cases this
  · have := h2 c hc
    split at this
    · rename_i x t hk
      exact ⟨t, by show findBy Value.isInt es (c : Int) = _; rw [hk, beq_iff_eq.mp this]⟩
    · cases this
  · show findBy Value.isInt es (c : Int) = none
    unfold findBy
    rw [← Array.find?_toList]
    have : List.find? (fun d => Value.isInt (c : Int) d.key) es.toList = none := by
      rw [List.find?_eq_none]
      intro e he
      have := h1 e he
      split at this
      · rename_i k t hk
        simp only [Bool.and_eq_true, decide_eq_true_eq] at this
        rw [hk]
        intro q
        simp only [Value.isInt, beq_iff_eq, decide_eq_true_eq] at q
        subst q
        exact hc (by simpa using this.2)
      · cases this
    rw [this]
    rfl
theorem sub_KeyError_Lookup : isSubtype (.type "KeyError") (.type "LookupError") = pure true := by rw [isSubtype_type]; kernel_rfl

open Builtin Builtin.Str in
theorem lookup_keep {prog : Program} {w : World} {A : Around} {E : Value → Shared → Prop} {s : Shared} {f : Int → Option Value} {c : Nat} {Q : Mapped → Shared → Prop} (hh : A.handled = none) (hm : s.heap.MapOf (intKind prog w) 45 f) (hf : f (c : Int) = none)
    (h : ∀ h' tk, Grows s.heap h' → Q .keep { s with heap := h', toks := tk }) : wpAny (model prog w) A (tableLookup (.ref 45) c) Q E s := by
  unfold tableLookup
  refine wpAny_bind (wpAny_attempt (wpAny_bind (wpAny_mkInt (wpAny_getItem_missing_of (k := (c : Int)) (intKind_is prog w _ _) (by decide) hh (s := { s with toks := s.toks + 1 }) hm hf fun h' e hx => ?_))))
  obtain ⟨ob, t, ho, hc, hd⟩ := hx.there
  refine wpAny_bind (wpAny_isInstance (T := "KeyError") (b := true) ⟨_, ho, hc⟩ sub_KeyError_Lookup ?_)
  exact wpAny_bind (wpAny_rule (wpAny_pure (h _ _ hx.keeps)))

open Builtin Builtin.Str in
theorem lookup_text {prog : Program} {w : World} {A : Around} {E : Value → Shared → Prop} {s : Shared} {f : Int → Option Value} {c : Nat} {x : Str} {t : Tok} {Q : Mapped → Shared → Prop} (hm : s.heap.MapOf (intKind prog w) 45 f) (hf : f (c : Int) = some (.str x t))
    (h : ∀ tk, Q (.text x) { s with toks := tk }) : wpAny (model prog w) A (tableLookup (.ref 45) c) Q E s := by
  unfold tableLookup
  refine wpAny_bind (wpAny_attempt (wpAny_bind (wpAny_mkInt (wpAny_getItem_of (k := (c : Int)) (intKind_is prog w _ _) (s := { s with toks := s.toks + 1 }) hm hf ?_))))
  dsimp only
  refine wpAny_bind (wpAny_of_eq (a := none) (by kernel_rfl) ?_)
  exact wpAny_bind (wpAny_of_eq (a := some x) rfl (wpAny_pure (h _)))

open Builtin Builtin.Str in
theorem call_translate {prog : Program} {w : World} {A : Around} {E : Value → Shared → Prop} {s : Shared} {f : Int → Option Value} {c : Nat} {t : Tok} {Q : Value → Shared → Prop} (hh : A.handled = none) (hm : s.heap.MapOf (intKind prog w) 45 f)
    (h1 : ∀ c ∈ escL, ∃ t, f (c : Int) = some (.str ⟨#[92, c]⟩ t)) (h2 : ∀ c : Nat, c ∉ escL → f (c : Int) = none)
    (h : ∀ h' tk t', Grows s.heap h' → Q (.str ⟨(escOf c).toArray⟩ t') { s with heap := h', toks := tk }) : wpAny (model prog w) A (call (.builtin "str.translate") [.str ⟨#[c]⟩ t, .ref 45]) Q E s := by
  refine wpAny_call_entry F.slot_str_translate (typeIs_str _ _ _) F.entry_str_translate ?_ (F.args_str_translate_2 _ _)
  unfold Builtin.«str.translate»
  refine wpAny_bind (wpAny_of_eq (a := (.str ⟨#[c]⟩ t, ⟨#[c]⟩, .ref 45)) rfl ?_)
  have fi : ∀ {β : Type} (b : β) (g : Nat → β → Sem (ForInStep β)), forIn (#[c] : Array Nat) b g = (g c b >>= fun r => match r with | .done b => pure b | .yield b => pure b) := by
    intro β b g
    rw [← Array.forIn_toList]
    simp only [List.forIn_cons, List.forIn_nil]
    rfl
  dsimp only
  rw [if_neg (show ¬ (((⟨#[c]⟩ : Str).length == 0) = true) from by simp [Str.length])]
  rw [fi]
  have tl : ∀ n : Nat, n ≤ 2 → tooLong n = false := fun n hn => by unfold tooLong sizeLine; simp; omega
  by_cases he : c ∈ escL
  · have hlt : (#[c].all fun x => decide (x < 128)) = true := by
      have : ∀ x ∈ escL, x < 128 := by decide
      simpa using this c he
    obtain ⟨tt, hft⟩ := h1 c he
    have ee : escOf c = [92, c] := by unfold escOf; rw [if_pos he]
    rw [ee] at h
    rw [hlt]
    refine wpAny_bind (wpAny_bind ?_)
    refine wpAny_bind ?_
    refine lookup_text hm hft fun tk => ?_
    refine wpAny_bind (wpAny_pure ?_)
    refine wpAny_bind (wpAny_rule ?_)
    refine wpAny_bind (lookup_text (s := { s with toks := tk }) hm hft fun tk => ?_)
    refine wpAny_pure (wpAny_pure ?_)
    show wpAny _ _ (if tooLong 2 = true then _ else retStr ⟨[92, c].toArray⟩) _ _ _
    rw [tl 2 (by decide), if_neg Bool.false_ne_true]
    exact wpAny_bind (wpAny_mkStr (wpAny_pure ⟨_, rfl, h _ _ _ fun _ _ e => e⟩))
  · have ee : escOf c = [c] := by unfold escOf; rw [if_neg he]
    rw [ee] at h
    cases hlt : (#[c].all fun x => decide (x < 128)) with
    | true =>
      refine wpAny_bind (wpAny_bind ?_)
      refine wpAny_bind ?_
      refine lookup_keep hh hm (h2 c he) fun h' tk G => ?_
      refine wpAny_bind (wpAny_pure ?_)
      refine wpAny_pure (wpAny_pure ?_)
      show wpAny _ _ (if tooLong 1 = true then _ else retStr ⟨[c].toArray⟩) _ _ _
      rw [tl 1 (by decide), if_neg Bool.false_ne_true]
      exact wpAny_bind (wpAny_mkStr (wpAny_pure ⟨_, rfl, h _ _ _ G⟩))
    | false =>
      refine wpAny_bind (wpAny_bind ?_)
      refine wpAny_bind ?_
      refine lookup_keep hh hm (h2 c he) fun h' tk G => ?_
      refine wpAny_pure (wpAny_pure ?_)
      show wpAny _ _ (if tooLong 1 = true then _ else retStr ⟨[c].toArray⟩) _ _ _
      rw [tl 1 (by decide), if_neg Bool.false_ne_true]
      exact wpAny_bind (wpAny_mkStr (wpAny_pure ⟨_, rfl, h _ _ _ G⟩))
theorem gm_translate {M : Model} {A : Around} {E : Value → Shared → Prop} {s : Shared} {x : Str} {t : Tok} {pl : Sem Bool} {Q : Value × List Value → Shared → Prop} (h : Q (.builtin "str.translate", [.str x t]) s) : wpAny M A (getMethod (.str x t) "translate" pl) Q E s := by
  with_reducible exact GM.of (.str x t) (typeIs_str _ _ _) F.slot_str_translate F.type_str_translate GM.noRef h

local macro_rules | `(tactic| walk_at "getMethod str") => `(tactic| ((with_reducible show wpAny _ _ (getMethod (Value.str _ _) (Str.ofString "translate") _) _ _ _); refine gm_translate ?_))

section
variable {w : World} {A : Around} {s : Shared} {mg mb : Str → Option Value} {loose : List Str} {mean : ExcName → Option Value}
theorem c_escape {c : Nat} {u : Tok} {E : Value → Shared → Prop} {Q : Value → Shared → Prop} (X : (heapK w.params).In s.heap) (T : Top vw loose mean mg mb s.heap)
   (hr : A.depth < recursionLimit) (hh : A.handled = none)
   (h : ∀ h' tk t, Grows s.heap h' → Q (.str ⟨(escOf c).toArray⟩ t) { s with heap := h', toks := tk }) :
   wpAny (model PP w) A (call (.ref 55) [.str ⟨#[c]⟩ u]) Q E s := by
  refine enter [("pattern", .str ⟨#[c]⟩ u)] X T (by k_is) (by k_is) hr rfl (locs (by rfl)) (fun L h₁ F N => ?_) rfl rfl rfl (by decide)
  repeat' (first | walk1 | (dsimp only; walk1))
  obtain ⟨f, hm, h1, h2⟩ := escMap (prog := PP) (X.keeps F.keep)
  exact call_translate hh hm h1 h2 fun h' tk t G => h _ _ _ fun b o e => G b o (F.keep b o e)
end
end -- RxEsc

section -- RxTx
open PySem PySem.W PyProof.Rows PySem.Calls
open PySem
/-- a text by its signs -/
abbrev Tx (l : List Nat) : Str := ⟨l.toArray⟩
theorem Tx_length (l : List Nat) : (Tx l).length = l.length := by simp [Str.length]
theorem Tx_inj {a b : List Nat} : (Tx a == Tx b) = decide (a = b) := by
  by_cases h : a = b
  · subst h; simp
  · rw [decide_eq_false h]
    refine beq_eq_false_iff_ne.mpr fun q => h ?_
    have := congrArg (fun y : Str => y.cps.toList) q
    simpa using this

theorem less1 {n i : Nat} (h : (i : Int) < (n : Int)) : n - (i + 1) < n - i := by omega
theorem succ1 {n i : Nat} (h : (i : Int) < (n : Int)) : i + 1 ≤ n := by omega
theorem lessN {n k c : Nat} (h : k < n) (hc : 0 < c) : n - (k + c) < n - k := by omega
theorem len_snoc {α : Type} {l : List α} {x : α} {k c : Nat} (h : l.length ≤ k) (hc : 0 < c) : (l ++ [x]).length ≤ k + c := by rw [List.length_append]; exact Nat.add_le_add h hc
theorem le_more {a k c : Nat} (h : a ≤ k) : a ≤ k + c := Nat.le_trans h (Nat.le_add_right _ _)
theorem l42 : Str.ofString "*" = Tx [42] := by decide +kernel
theorem l63 : Str.ofString "?" = Tx [63] := by decide +kernel
theorem l91 : Str.ofString "[" = Tx [91] := by decide +kernel
theorem l93 : Str.ofString "]" = Tx [93] := by decide +kernel
theorem l33 : Str.ofString "!" = Tx [33] := by decide +kernel
theorem l38 : Str.ofString "&" = Tx [38] := by decide +kernel
theorem l41 : Str.ofString ")" = Tx [41] := by decide +kernel
theorem l46 : Str.ofString "." = Tx [46] := by decide +kernel
theorem l59 : Str.ofString ";" = Tx [59] := by decide +kernel
theorem l92 : Str.ofString "\\" = Tx [92] := by decide +kernel
theorem l_ : Str.ofString "" = Tx [] := by decide +kernel
theorem lEB : Str.ofString "\\[" = Tx [92, 91] := by decide +kernel
theorem lDS : Str.ofString ".*" = Tx [46, 42] := by decide +kernel
theorem lHead : Str.ofString "(?s:" = Tx [40, 63, 115, 58] := by decide +kernel
theorem lTail : Str.ofString ")\\Z" = Tx [41, 92, 90] := by decide +kernel
theorem lGrp : Str.ofString "(?>.*?" = Tx [40, 63, 62, 46, 42, 63] := by decide +kernel

section
variable {prog : Program} {w : World} {A : Around} {E : Value → Shared → Prop} {s : Shared} {env : Env} {h₀ : Heap} {L : Addr} {m : Str → Option Value} {news : List (Addr × Obj)}

theorem sub_tx {value slice : Expr} {p : List Nat} {k : Int} {t u : Tok} {Q : Value → Shared → Prop} (h0 : 0 ≤ k) (h1 : k < (p.length : Int)) (h2 : p.length ≤ 1000000)
    (h : ∀ c, p[k.toNat]? = some c → Q (.str (Tx [c]) s.toks) { s with toks := s.toks + 1 })
    (hs : subscripted slice false (.str (Tx p) t) (.int k u) = operate [.str (Tx p) t, .int k u] (getItem (.str (Tx p) t) (.int k u)) := by with_unfolding_all rfl) :
    wpAny (model prog w) A (subscriptTail value slice (.str (Tx p) t) (.int k u)) Q E s := by
  have hk : k.toNat < p.length := by omega
  refine tail_any (typeIs_str s (Tx p) t) F.slot_str_getitem.lookup (P.getItem_str (c := p[k.toNat]) ?_ ?_ (h _ (List.getElem?_eq_getElem hk))) hs
  · simp; omega
  · have : seqIndex? k (Tx p).length = some k.toNat := by
      unfold seqIndex?
      rw [Tx_length]
      have : ¬ k < 0 := by omega
      simp [this, h0, h1]
    rw [this]
    simp [hk]

theorem eq_tx {a b : List Nat} {x y : Str} {t u : Tok} {Q : Value → Shared → Prop} (hx : x = Tx a) (hy : y = Tx b) (h : Q (.bool (decide (a = b))) s) : wpAny (model prog w) A (compareOp .Eq (.str x t) (.str y u)) Q E s := by
  subst hx hy
  refine eq_str ?_
  rw [Tx_inj]; exact h
theorem ne_tx {a b : List Nat} {x y : Str} {t u : Tok} {Q : Value → Shared → Prop} (hx : x = Tx a) (hy : y = Tx b) (h : Q (.bool (!decide (a = b))) s) : wpAny (model prog w) A (compareOp .NotEq (.str x t) (.str y u)) Q E s := by
  subst hx hy
  refine ne_str ?_
  show Q (.bool (!(Tx a == Tx b))) s
  rw [Tx_inj]; exact h
end
section
variable {prog : Program} {w : World} {A : Around} {E : Value → Shared → Prop} {s : Shared} {env : Env} {h₀ : Heap} {L : Addr} {m : Str → Option Value} {news : List (Addr × Obj)}

def NextOk (h₀ : Heap) (L : Addr) (I : Nat → (Str → Option Value) → List (Addr × Obj) → Prop) (n : Nat) (s s₃ : Shared) : Prop :=
  ∃ n' m' news' h' tk', n' < n ∧ s₃ = { s with heap := h', toks := tk' } ∧ Fr h₀ L h' m' ∧ News h₀ L h' news' ∧ I n' m' news'
theorem NextOk.intro {I : Nat → (Str → Option Value) → List (Addr × Obj) → Prop} {n n' : Nat} {h' : Heap} {tk' : Nat} {m' : Str → Option Value} {news' : List (Addr × Obj)} (F : Fr h₀ L h' m') (N : News h₀ L h' news') (hn : n' < n) (hI : I n' m' news') :
   NextOk h₀ L I n s { s with heap := h', toks := tk' } := ⟨n', m', news', h', tk', hn, rfl, F, N, hI⟩

theorem while_rule {test : Expr} {body : List Stmt} {pos : Pos} {Q : Flow → Shared → Prop} (I : Nat → (Str → Option Value) → List (Addr × Obj) → Prop) (n : Nat)
    (F : Fr h₀ L s.heap m) (N : News h₀ L s.heap news) (hI : I n m news)
    (turn : ∀ n m news h tk, I n m news → Fr h₀ L h m → News h₀ L h news →
      wpAny (model prog w) A (isTrue test env (eval test env)) (fun b s₂ =>
        if b then wpAny (model prog w) A (execs body env) (fun f s₃ => match f with
            | .next | .cont => NextOk h₀ L I n s s₃
            | .brk => Q .next s₃
            | .ret v => Q (.ret v) s₃) (fun _ _ => False) s₂
        else Q .next s₂) (fun _ _ => False) { s with heap := h, toks := tk }) :
    wpAny (model prog w) A (exec (.While test body [] pos) env) Q E s := by
  refine wpAny_While (codeAny_whileLoop (fun n s' => ∃ m news h tk, s' = { s with heap := h, toks := tk } ∧ Fr h₀ L h m ∧ News h₀ L h news ∧ I n m news) ?_ n ⟨m, news, s.heap, s.toks, rfl, F, N, hI⟩)
  rintro n s' ⟨m, news, h, tk, rfl, F, N, hI⟩
  refine wpAny_mono (turn n m news h tk hI F N) (fun b s₂ h₂ => ?_) (fun _ _ e => e.elim)
  cases b with
  | false =>
    simp only [Bool.false_eq_true, if_false] at h₂ ⊢
    exact wpAny_execs_nil h₂
  | true =>
    simp only [if_true] at h₂ ⊢
    refine wpAny_mono h₂ (fun f s₃ h₃ => ?_) (fun _ _ e => e.elim)
    cases f with
    | next => obtain ⟨n', m', news', h', tk', hl, e, F', N', hI'⟩ := h₃; exact ⟨n', hl, m', news', h', tk', e, F', N', hI'⟩
    | cont => obtain ⟨n', m', news', h', tk', hl, e, F', N', hI'⟩ := h₃; exact ⟨n', hl, m', news', h', tk', e, F', N', hI'⟩
    | brk => exact h₃
    | ret v => exact h₃

def CutOk (h₀ : Heap) (L : Addr) (news : List (Addr × Obj)) (P : (Str → Option Value) → Prop) (s : Shared) (f : Flow) (s' : Shared) : Prop :=
  f = .next ∧ ∃ m h' tk, s' = { s with heap := h', toks := tk } ∧ Fr h₀ L h' m ∧ News h₀ L h' news ∧ P m
theorem CutOk.intro {P : (Str → Option Value) → Prop} {h' : Heap} {tk : Nat} (F : Fr h₀ L h' m) (N : News h₀ L h' news) (hP : P m) : CutOk h₀ L news P s .next { s with heap := h', toks := tk } := ⟨rfl, m, h', tk, rfl, F, N, hP⟩
/-- one statement apart: what is said of the frame behind it -/
theorem cut {st : Stmt} {Q : Flow → Shared → Prop} (h₀ : Heap) (L : Addr) (news : List (Addr × Obj)) (P : (Str → Option Value) → Prop) (h1 : wpAny (model prog w) A (exec st env) (CutOk h₀ L news P s) (fun _ _ => False) s)
    (h2 : ∀ m h' tk, Fr h₀ L h' m → News h₀ L h' news → P m → Q .next { s with heap := h', toks := tk }) : wpAny (model prog w) A (exec st env) Q E s :=
  wpAny_mono h1 (fun f s' ⟨e, m, h', tk, e', F, N, hP⟩ => by subst e e'; exact h2 m h' tk F N hP) fun _ _ e => e.elim

theorem fr_pin {h : Heap} {x : Str} {v : Value} (F : Fr h₀ L h m) (e : m x = some v) : Fr h₀ L h (fun y => if y = x then some v else m y) := by
  have : (fun y => if y = x then some v else m y) = m := by
    funext y
    by_cases hy : y = x
    · rw [if_pos hy, hy, e]
    · rw [if_neg hy]
  rw [this]; exact F

theorem fr_pins {h : Heap} (F : Fr h₀ L h m) (binds : List (Str × Value)) (e : ∀ p ∈ binds, m p.1 = some p.2) : Fr h₀ L h (fun y => match binds.lookup y with | some v => some v | none => m y) := by
  have : (fun y => match binds.lookup y with | some v => some v | none => m y) = m := by
    funext y
    split
    · rename_i v hv
      have : ∀ (l : List (Str × Value)), l.lookup y = some v → (y, v) ∈ l := by
        intro l
        induction l with
        | nil => intro q; cases q
        | cons a r ih =>
          intro q
          rw [List.lookup_cons] at q
          cases hb : y == a.1 with
          | true => rw [hb] at q; cases q; rw [eq_of_beq hb]; exact .head _
          | false => rw [hb] at q; exact .tail _ (ih q)
      exact (e _ (this _ hv)).symm
    · rfl
  rw [this]; exact F

theorem keeps_B {M : Model} {b D : Addr} (h : Heap) (X : h.get? b = some (boundObj "list.append" D)) : ∃ k, (k = Keeper.frame ∨ k = Keeper.machine ∨ k = Keeper.boundFrame) ∧ Looks M h (keeperOf (.ref b)) k :=
  ⟨.machine, .inr (.inl rfl), (Looks.ld (part := none) X).andThen .now⟩
theorem callWith_B {M : Model} {b D : Addr} {e : Expr} {pos : Pos} {Q : Value → Shared → Prop} (_N : News h₀ L s.heap news) (_hb : (b, boundObj "list.append" D) ∈ news)
    (h : wpAny M A (eval e env) (fun v s₁ => s₁.heap.get? b = some (boundObj "list.append" D) ∧ wpAny M A (call (.ref b) [v]) Q E s₁) E s)
    (he : starEach [e] env = (false, eval e env) :: starEach [] env := by rfl) :
    wpAny M A (callWith pos (.ref b) [] (backTo pos (starEach [e] env)) []) Q E s := by
  refine callWith_of (P := fun h => h.get? b = some (boundObj "list.append" D)) ?_ keeps_B ?_
  · rw [he]; rfl
  · rw [he]
    refine evalArgs_plain ?_
    have := args_cons (e := e) (rest := []) (pos := pos) (env := env) (Q := fun vs s₁ => s₁.heap.get? b = some (boundObj "list.append" D) ∧ wpAny M A (call (.ref b) ([] ++ vs)) Q E s₁) (wpAny_mono h (fun v s₁ h₁ => args_nil h₁) (fun _ _ e => e)) he
    rw [he] at this
    exact this
theorem newsAnd {b : Addr} {o : Obj} {h : Heap} {P : Prop} (N : News h₀ L h news) (hb : (b, o) ∈ news) (p : P) : h.get? b = some o ∧ P := ⟨(N _ hb).1, p⟩

/-- res.append as a value -/
theorem attr_append {D : Addr} {its : Array Value} {n : Nat} {Q : Value → Shared → Prop} (F : Fr h₀ L s.heap m) (N : News h₀ L s.heap news) (hm : (D, listOf its n) ∈ news)
    (h : ∀ b h', Fr h₀ L h' m → News h₀ L h' ((b, boundObj "list.append" D) :: news) → (∀ p ∈ news, p.1 < b) → Q (.ref b) { s with heap := h', toks := s.toks + 1 }) :
    wpAny (model prog w) A (getAttr (.ref D) "append" true) Q E s :=
  app_attr (N _ hm).1 (h _ _ (F.push _) (N.push F _) fun p hp => Heap.lt_size (N p hp).1)

theorem call_append {b D : Addr} {its : Array Value} {n : Nat} {x : Value} {news' : List (Addr × Obj)} {Q : Value → Shared → Prop} (F : Fr h₀ L s.heap m) (N : News h₀ L s.heap news) (hb : (b, boundObj "list.append" D) ∈ news)
    (U : Upd D (listOf its n) (listOf (its.push x) (n + 1)) news news')
    (h : ∀ h', Fr h₀ L h' m → News h₀ L h' news' → Q .none { s with heap := h' }) (hsz : its.size ≤ sizeLine := by size_fits) : wpAny (model prog w) A (call (.ref b) [x]) Q E s := by
  obtain ⟨pre, post, rfl, rfl, a, c⟩ := U.split
  have z := N (D, listOf its n) (List.mem_append.mpr (.inr (.head _)))
  refine bound_append (N _ hb).1 z.1 (codeAny_builtin entry_list_append ?_)
  show wpAny _ _ (updateSeq D (·.push x) >>= fun _ => ret .none) _ _ s
  refine wpAny_bind ?_
  refine wpAny_updateSeq z.1 rfl (wpAny_pure ?_)
  have ho' := Heap.get?_update_self (Obj.mapSeq (·.push x)) z.1 (by show (Obj.mapSeq (·.push x) (listOf its n)).isFreed = false; rw [mapSeq_push]; rfl)
  rw [mapSeq_push] at ho'
  exact h _ (F.change (Heap.SameBut.update ..) z.2.1 z.2.2) (news_set N a c (Heap.SameBut.update ..) ho')
end


theorem size_of {vs : List Value} (h : vs.length ≤ 100000) : vs.toArray.size ≤ sizeLine := by rw [List.size_toArray, sizeLine_eq]; omega


section
variable {prog : Program} {w : World} {A : Around} {E : Value → Shared → Prop} {s : Shared} {env : Env} {h₀ : Heap} {L : Addr} {m : Str → Option Value} {news : List (Addr × Obj)}
theorem listOf_isList {h : Heap} {D : Addr} {its : Array Value} {n : Nat} (e : h.get? D = some (listOf its n)) : h.IsList D its := ⟨_, e, rfl, n, rfl⟩
theorem truthy_tx {D : Addr} {vs : List Value} {n : Nat} {Q : Bool → Shared → Prop} (N : News h₀ L s.heap news) (hm : (D, listOf vs.toArray n) ∈ news) (hl : vs.length ≤ 100000)
    (h : ∀ tk, Q (decide (vs ≠ [])) { s with toks := tk }) : wpAny (model prog w) A (truthy (.ref D)) Q E s := by
  refine wpAny_truthy_list (listOf_isList (N _ hm).1) (by rw [List.size_toArray]; omega) ?_
  have e : (!vs.toArray.isEmpty) = decide (vs ≠ []) := by cases vs <;> simp
  rw [e]
  exact h _
theorem truthy_nil {D : Addr} {n : Nat} {Q : Bool → Shared → Prop} (N : News h₀ L s.heap news) (hm : (D, listOf ([] : List Value).toArray n) ∈ news)
    (h : ∀ tk, Q false { s with toks := tk }) : wpAny (model prog w) A (truthy (.ref D)) Q E s := truthy_tx N hm (by simp) fun tk => by simpa using h tk
theorem truthy_snoc {D : Addr} {vs : List Value} {v : Value} {n : Nat} {Q : Bool → Shared → Prop} (N : News h₀ L s.heap news) (hm : (D, listOf (vs ++ [v]).toArray n) ∈ news) (hl : vs.length ≤ 1000)
    (h : ∀ tk, Q true { s with toks := tk }) : wpAny (model prog w) A (truthy (.ref D)) Q E s := truthy_tx N hm (by simp; omega) fun tk => by simpa using h tk
theorem sub_last {value slice : Expr} {D : Addr} {vs : List Value} {v : Value} {n : Nat} {k : Int} {u : Tok} {Q : Value → Shared → Prop} (N : News h₀ L s.heap news) (hm : (D, listOf (vs ++ [v]).toArray n) ∈ news) (hl : vs.length ≤ 100000) (hk : k = -1)
    (h : Q v s)
    (hs : subscripted slice false (.ref D) (.int k u) = operate [.ref D, .int k u] (getItem (.ref D) (.int k u)) := by with_unfolding_all rfl) :
    wpAny (model prog w) A (subscriptTail value slice (.ref D) (.int k u)) Q E s := by
  subst hk
  have hL := listOf_isList (N _ hm).1
  refine tail_any hL.typeIs slot_list_getitem.lookup (wpAny_getItem_list_neg hL (by decide) (by simp; omega) (by decide) (x := v) ?_ h) hs
  have : ((-1 : Int) + ((vs ++ [v]).toArray.size : Int)).toNat = vs.length := by simp; omega
  rw [this]
  simp
theorem isNot_str {x : Str} {t : Tok} {a : Addr} {Q : Value → Shared → Prop} (h : Q (.bool true) s) : wpAny (model prog w) A (compareOp .IsNot (.str x t) (.ref a)) Q E s := wpAny_bind (wpAny_pure (wpAny_pure h))
theorem isNot_self {a : Addr} {Q : Value → Shared → Prop} (h : Q (.bool false) s) : wpAny (model prog w) A (compareOp .IsNot (.ref a) (.ref a)) Q E s := by
  refine wpAny_bind (wpAny_of_eq (a := true) ?_ (wpAny_pure h))
  show (if (a == a) = true then pure true else _) = _
  rw [if_pos (beq_self_eq_true a)]
theorem is_str {x : Str} {t : Tok} {a : Addr} {Q : Value → Shared → Prop} (h : Q (.bool false) s) : wpAny (model prog w) A (compareOp .Is (.str x t) (.ref a)) Q E s := wpAny_bind (wpAny_pure (wpAny_pure h))
theorem is_self {a : Addr} {Q : Value → Shared → Prop} (h : Q (.bool true) s) : wpAny (model prog w) A (compareOp .Is (.ref a) (.ref a)) Q E s := by
  refine wpAny_bind (wpAny_of_eq (a := true) ?_ (wpAny_pure h))
  show (if (a == a) = true then pure true else _) = _
  rw [if_pos (beq_self_eq_true a)]
end

def CutN (h₀ : Heap) (L : Addr) (P : (Str → Option Value) → List (Addr × Obj) → Prop) (s : Shared) (f : Flow) (s' : Shared) : Prop :=
  f = .next ∧ ∃ m news h' tk, s' = { s with heap := h', toks := tk } ∧ Fr h₀ L h' m ∧ News h₀ L h' news ∧ P m news
section
variable {prog : Program} {w : World} {A : Around} {E : Value → Shared → Prop} {s : Shared} {env : Env} {h₀ : Heap} {L : Addr} {m : Str → Option Value} {news : List (Addr × Obj)}
theorem CutN.intro {P : (Str → Option Value) → List (Addr × Obj) → Prop} {h' : Heap} {tk : Nat} (F : Fr h₀ L h' m) (N : News h₀ L h' news) (hP : P m news) : CutN h₀ L P s .next { s with heap := h', toks := tk } := ⟨rfl, m, news, h', tk, rfl, F, N, hP⟩
theorem cutN {st : Stmt} {Q : Flow → Shared → Prop} (h₀ : Heap) (L : Addr) (P : (Str → Option Value) → List (Addr × Obj) → Prop) (h1 : wpAny (model prog w) A (exec st env) (CutN h₀ L P s) (fun _ _ => False) s)
    (h2 : ∀ m news h' tk, Fr h₀ L h' m → News h₀ L h' news → P m news → Q .next { s with heap := h', toks := tk }) : wpAny (model prog w) A (exec st env) Q E s :=
  wpAny_mono h1 (fun f s' ⟨e, m, news, h', tk, e', F, N, hP⟩ => by subst e e'; exact h2 m news h' tk F N hP) fun _ _ e => e.elim

theorem sub_at {value slice : Expr} {D : Addr} {vs : List Value} {v : Value} {k : Int} {u : Tok} {Q : Value → Shared → Prop} (F : Fr h₀ L s.heap m) (hl : h₀.IsList D vs.toArray) (h0 : 0 ≤ k) (h1 : k < 1000000) (hv : vs[k.toNat]? = some v)
    (h : Q v s)
    (hs : subscripted slice false (.ref D) (.int k u) = operate [.ref D, .int k u] (getItem (.ref D) (.int k u)) := by with_unfolding_all rfl) :
    wpAny (model prog w) A (subscriptTail value slice (.ref D) (.int k u)) Q E s := by
  have hL := hl.at fun o e => F.keep D o e
  exact tail_any hL.typeIs slot_list_getitem.lookup (wpAny_getItem_list hL h0 (by omega) (by simpa using hv) h) hs

theorem StrsAre.snoc {vs : List Value} {ys : List Str} (y : Str) (t : Tok) (h : StrsAre vs ys) : StrsAre (vs ++ [.str y t]) (ys ++ [y]) := by
  induction h with
  | nil => exact .cons y t .nil
  | cons z u _ ih => exact .cons z u ih
theorem join_empty : ∀ ls : List (List Nat), Str.join (Tx []) (ls.map Tx) = Tx ls.flatten
  | [] => rfl
  | [x] => by simp [Str.join]
  | x :: y :: r => by
    have ih := join_empty (y :: r)
    show Tx x ++ Tx [] ++ Str.join (Tx []) ((y :: r).map Tx) = _
    rw [ih]
    exact Str.ext' (by simp [Str.cps_append])
theorem join_tx {sepS : Str} {D : Addr} {vs : List Value} {ls : List (List Nat)} {n : Nat} {t : Tok} {Q : Value → Shared → Prop} (N : News h₀ L s.heap news) (hm : (D, listOf vs.toArray n) ∈ news) (hs : StrsAre vs (ls.map Tx)) (hsep : sepS = Tx [])
    (hw : ls.flatten.length ≤ 100000) (hn : ls.length ≤ 100000) (h : ∀ t' k, Q (.str (Tx ls.flatten) t') { s with toks := k }) : wpAny (model prog w) A (call (.builtin "str.join") [.str sepS t, .ref D]) Q E s := by
  subst hsep
  refine join_listW (listOf_isList (N _ hm).1) (by simpa using hs) (by simp [Str.length]) ?_ fun t' k => ?_
  · have : ((ls.map Tx).map (·.length)).sum = ls.flatten.length := by
      rw [List.length_flatten, List.map_map]
      congr 1
    rw [this, List.length_map]; omega
  · have e : Txt.join (Tx []) (ls.map Tx) = Tx ls.flatten := by rw [← join_empty]; exact StrLaws.glued_eq_join _ _
    rw [e]; exact h t' k
theorem len_at {D : Addr} {vs : List Value} {Q : Value → Shared → Prop} (F : Fr h₀ L s.heap m) (hl : h₀.IsList D vs.toArray) (h1 : vs.length ≤ 100000)
    (h : ∀ t tk, Q (.int vs.length t) { s with toks := tk }) : wpAny (model prog w) A (call (.builtin "len") [.ref D]) Q E s := by
  have hL := hl.at fun o e => F.keep D o e
  refine call_len_list hL (by rw [List.size_toArray]; omega) ?_
  rw [List.size_toArray]
  exact h _ _
theorem len_news {D : Addr} {vs : List Value} {n : Nat} {Q : Value → Shared → Prop} (N : News h₀ L s.heap news) (hm : (D, listOf vs.toArray n) ∈ news) (h1 : vs.length ≤ 100000)
    (h : ∀ t tk, Q (.int vs.length t) { s with toks := tk }) : wpAny (model prog w) A (call (.builtin "len") [.ref D]) Q E s := by
  refine call_len_list (listOf_isList (N _ hm).1) (by rw [List.size_toArray]; omega) ?_
  rw [List.size_toArray]
  exact h _ _
end

theorem len_head : (Str.ofString "(?s:").length = 4 := by decide +kernel
theorem len_tail : (Str.ofString ")\\Z").length = 3 := by decide +kernel
theorem len_grp : (Str.ofString "(?>.*?").length = 6 := by decide +kernel
theorem len_par : (Str.ofString ")").length = 1 := by decide +kernel
theorem len_empty : Str.empty.length = 0 := by decide +kernel
theorem tx_append (a b : List Nat) : Tx a ++ Tx b = Tx (a ++ b) := Str.ext' (by simp [Str.cps_append])
theorem empty_tx : Str.empty = Tx [] := rfl
section
variable {prog : Program} {w : World} {A : Around} {E : Value → Shared → Prop} {s : Shared}
theorem eq_int_tt {a b : Int} {t u : Tok} {Q : Value → Shared → Prop} (e : a = b) (h : Q (.bool true) s) : wpAny (model prog w) A (compareOp .Eq (.int a t) (.int b u)) Q E s := by
  refine eq_int ?_
  rw [show (a == b) = true from beq_iff_eq.mpr e]; exact h
theorem eq_int_ff {a b : Int} {t u : Tok} {Q : Value → Shared → Prop} (e : a ≠ b) (h : Q (.bool false) s) : wpAny (model prog w) A (compareOp .Eq (.int a t) (.int b u)) Q E s := by
  refine eq_int ?_
  rw [show (a == b) = false from beq_eq_false_iff_ne.mpr e]; exact h
end

theorem news_add {h₀ h h2 : Heap} {L a : Addr} {o : Obj} {m : Str → Option Value} {news : List (Addr × Obj)} (F : Fr h₀ L h m) (N : News h₀ L h news) (G : Grows h h2) (hn : h.get? a = none) (ha : h2.get? a = some o) : News h₀ L h2 ((a, o) :: news) := by
  intro p hp
  rcases List.mem_cons.mp hp with rfl | hp
  · refine ⟨ha, fun q => ?_, ?_⟩
    · obtain ⟨oL, _, _, hL, _⟩ := F.ns
      rw [← q] at hL
      rw [hn] at hL; cases hL
    · cases q : h₀.get? a with
      | none => rfl
      | some o' => rw [F.keep _ _ q] at hn; cases hn
  · exact news_grow N G p hp
end -- RxTx

section -- RxSl
open PySem PySem.W PyProof.Rows PySem.Calls
open PySem
open Builtin Builtin.Str
theorem slice_nat (l : List Nat) {a b : Nat} (hab : a ≤ b) (hb : b ≤ l.length) : Txt.slice (Tx l) (some (a : Int)) (some (b : Int)) = Tx ((l.drop a).take (b - a)) := by
  have hp := StrLaws.sliced_plain (Tx l) hab (by rw [Tx_length]; exact hb)
  unfold Txt.slice
  split
  · rename_i h
    have hl : (strSliceIndices (some (a : Int)) (some (b : Int)) 1 (Tx l).length).length = (Tx l).length := by
      simp only [Bool.and_eq_true, beq_iff_eq] at h; exact h.2
    rw [StrLaws.strSliceIndices_plain hab (by rw [Tx_length]; exact hb), List.length_map, List.length_range, Tx_length] at hl
    have ha : a = 0 := by omega
    have hb' : b = l.length := by omega
    subst ha hb'
    simp
  · exact congrArg (fun x : List Nat => (⟨x.toArray⟩ : Str)) (by rw [hp])

theorem slice_eq {l : List Nat} {lo hi lo' hi' : Option Int} (h : strSliceIndices lo hi 1 l.length = strSliceIndices lo' hi' 1 l.length) : Txt.slice (Tx l) lo hi = Txt.slice (Tx l) lo' hi' := by
  unfold Txt.slice
  rw [Tx_length, h]

theorem idx_min {j : Int} {n : Nat} (a2 : ¬ j < 0) : max 0 (min ((min j.toNat n : Nat) : Int) (n : Int)) = max 0 (min j (n : Int)) := by
  obtain ⟨k, rfl⟩ := Int.eq_ofNat_of_zero_le (Int.not_lt.mp a2)
  rw [Int.toNat_natCast]
  rcases Nat.le_total k n with h | h
  · rw [Nat.min_eq_left h]
  · rw [Nat.min_eq_right h, Int.min_eq_right (Int.ofNat_le.mpr h), Int.min_self]
theorem idx_clip (i j : Int) (n : Nat) (h0 : 0 ≤ i) (h1 : i ≤ n) (h2 : i ≤ j) : strSliceIndices (some i) (some j) 1 n = strSliceIndices (some (i.toNat : Int)) (some ((min j.toNat n : Nat) : Int)) 1 n := by
  have e1 : ((i.toNat : Nat) : Int) = i := by omega
  unfold strSliceIndices
  have a1 : ¬ i < 0 := by omega
  have a2 : ¬ j < 0 := by omega
  have a3 : ¬ ((min j.toNat n : Nat) : Int) < 0 := by omega
  have a4 : max 0 (min ((min j.toNat n : Nat) : Int) (n : Int)) = max 0 (min j (n : Int)) := idx_min a2
  simp only [e1, a1, a2, a3, if_false, show ((1 : Int) > 0) = True from by simp, if_true, a4]

/-- text[i:j], j may lie behind the end -/
theorem slice_tx (l : List Nat) (i j : Int) (h0 : 0 ≤ i) (h1 : i ≤ l.length) (h2 : i ≤ j) : Txt.slice (Tx l) (some i) (some j) = Tx ((l.drop i.toNat).take (j - i).toNat) := by
  rw [slice_eq (idx_clip i j l.length h0 h1 h2), slice_nat l (by omega) (by omega)]
  by_cases hj : j.toNat ≤ l.length
  · rw [Nat.min_eq_left hj]
    congr 2
    have : j.toNat - i.toNat = (j - i).toNat := by omega
    rw [this]
  · rw [Nat.min_eq_right (by omega)]
    have e1 : (l.drop i.toNat).take (l.length - i.toNat) = l.drop i.toNat := List.take_of_length_le (by rw [List.length_drop]; omega)
    have e2 : (l.drop i.toNat).take (j - i).toNat = l.drop i.toNat := List.take_of_length_le (by rw [List.length_drop]; omega)
    rw [e1, e2]
theorem slice_to (l : List Nat) (j : Int) (h2 : 0 ≤ j) : Txt.slice (Tx l) none (some j) = Tx (l.take j.toNat) := by
  rw [slice_eq (StrLaws.sliceIdx_none_lo _ _), slice_tx l 0 j (by decide) (by omega) h2]
  simp
theorem slice_neg (l : List Nat) (k : Nat) (hk : 0 < k) (h : k ≤ l.length) : Txt.slice (Tx l) (some (-(k : Int))) none = Tx (l.drop (l.length - k)) := by
  rw [slice_eq (StrLaws.sliceIdx_none_hi _ _), slice_eq (StrLaws.sliceIdx_neg_lo _ _ (by omega) (by omega)), slice_tx l _ _ (by omega) (by omega) (by omega)]
  have e1 : (-(k : Int) + l.length).toNat = l.length - k := by omega
  have e2 : ((l.length : Int) - (-(k : Int) + l.length)).toNat = k := by omega
  rw [e1, e2]
  congr 2
  exact List.take_of_length_le (by rw [List.length_drop]; omega)
theorem slice_mid (l : List Nat) (i k : Nat) (hk : 0 < k) (h : i + k ≤ l.length) : Txt.slice (Tx l) (some (i : Int)) (some (-(k : Int))) = Tx ((l.drop i).take (l.length - k - i)) := by
  rw [slice_eq (StrLaws.sliceIdx_neg_hi _ _ (by omega) (by omega)), slice_tx l _ _ (by omega) (by omega) (by omega)]
  have e2 : (-(k : Int) + (l.length : Int) - (i : Int)).toNat = l.length - k - i := by omega
  rw [e2]
  rfl

theorem lBad : Str.ofString "([{?*+|^$\\" = Tx [40, 91, 123, 63, 42, 43, 124, 94, 36, 92] := by decide +kernel
theorem lRef : Str.ofString "#;0139ADaglmopqtux" = Tx [35, 59, 48, 49, 51, 57, 65, 68, 97, 103, 108, 109, 111, 112, 113, 116, 117, 120] := by decide +kernel
section
variable {prog : Program} {w : World} {A : Around} {E : Value → Shared → Prop} {s : Shared} {a b : List Nat} {x y : Str} {t u : Tok} {Q : Value → Shared → Prop}
theorem eq_tx_tt (hx : x = Tx a) (hy : y = Tx b) (e : a = b) (h : Q (.bool true) s) : wpAny (model prog w) A (compareOp .Eq (.str x t) (.str y u)) Q E s := eq_tx hx hy (by rw [decide_eq_true e]; exact h)
theorem eq_tx_ff (hx : x = Tx a) (hy : y = Tx b) (e : ¬ a = b) (h : Q (.bool false) s) : wpAny (model prog w) A (compareOp .Eq (.str x t) (.str y u)) Q E s := eq_tx hx hy (by rw [decide_eq_false e]; exact h)
theorem ne_tx_tt (hx : x = Tx a) (hy : y = Tx b) (e : ¬ a = b) (h : Q (.bool true) s) : wpAny (model prog w) A (compareOp .NotEq (.str x t) (.str y u)) Q E s := ne_tx hx hy (by rw [decide_eq_false e]; exact h)
theorem ne_tx_ff (hx : x = Tx a) (hy : y = Tx b) (e : a = b) (h : Q (.bool false) s) : wpAny (model prog w) A (compareOp .NotEq (.str x t) (.str y u)) Q E s := ne_tx hx hy (by rw [decide_eq_true e]; exact h)
theorem in_tx {c : Nat} (hx : x = Tx [c]) (hy : y = Tx b) (h : Q (.bool (decide (c ∈ b))) s) : wpAny (model prog w) A (compareOp .In (.str x t) (.str y u)) Q E s := by
  subst hx hy
  refine in_str ?_
  have := StrLaws.found_one (Tx b) c
  rw [this]
  simpa using h
theorem in_tx_tt {c : Nat} (hx : x = Tx [c]) (hy : y = Tx b) (e : c ∈ b) (h : Q (.bool true) s) : wpAny (model prog w) A (compareOp .In (.str x t) (.str y u)) Q E s := in_tx hx hy (by rw [decide_eq_true e]; exact h)
theorem in_tx_ff {c : Nat} (hx : x = Tx [c]) (hy : y = Tx b) (e : ¬ c ∈ b) (h : Q (.bool false) s) : wpAny (model prog w) A (compareOp .In (.str x t) (.str y u)) Q E s := in_tx hx hy (by rw [decide_eq_false e]; exact h)
theorem isalnum_esc {c : Nat} (hx : x = Tx [c]) (hc : c ∈ escL) (h : Q (.bool false) s) : wpAny (model prog w) A (call (.builtin "str.isalnum") [.str x t]) Q E s := by
  subst hx
  refine SC.isalnum ?_
  have : ∀ c ∈ escL, Txt.isalnum (Tx [c]) = false := by decide +kernel
  rw [this c hc]; exact h
theorem sub_tx_k {value slice : Expr} {p : List Nat} {k : Int} {c : Nat} (h0 : 0 ≤ k) (h2 : p.length ≤ 1000000) (hv : p[k.toNat]? = some c)
    (h : Q (.str (Tx [c]) s.toks) { s with toks := s.toks + 1 })
    (hs : subscripted slice false (.str (Tx p) t) (.int k u) = operate [.str (Tx p) t, .int k u] (getItem (.str (Tx p) t) (.int k u)) := by with_unfolding_all rfl) :
    wpAny (model prog w) A (subscriptTail value slice (.str (Tx p) t) (.int k u)) Q E s := by
  have hk := (List.getElem?_eq_some_iff.mp hv).1
  exact sub_tx h0 (by omega) h2 (fun c' hc => by rw [hv] at hc; cases hc; exact h) hs
end
theorem restNe {rest : List (Addr × Obj)} {d : Addr} (h : ∀ q ∈ rest, q.1 ≠ d) : ∀ q ∈ rest, q.1 ≠ d := h
theorem restLt {rest : List (Addr × Obj)} {d e : Addr} (h : ∀ q ∈ rest, @LT.lt Nat _ q.1 e) (he : @LE.le Nat _ e d) : ∀ q ∈ rest, q.1 ≠ d := fun q hq => Nat.ne_of_lt (Nat.lt_of_lt_of_le (h q hq) he)
section
variable {prog : Program} {w : World} {A : Around} {E : Value → Shared → Prop} {s : Shared} {a b : Int} {t u : Tok} {Q : Value → Shared → Prop}
theorem ne_int_tt (e : a ≠ b) (h : Q (.bool true) s) : wpAny (model prog w) A (compareOp .NotEq (.int a t) (.int b u)) Q E s := by
  refine ne_int ?_
  rw [show (a != b) = true from bne_iff_ne.mpr e]; exact h
theorem ne_int_ff (e : a = b) (h : Q (.bool false) s) : wpAny (model prog w) A (compareOp .NotEq (.int a t) (.int b u)) Q E s := by
  refine ne_int ?_
  rw [show (a != b) = false from bne_eq_false_iff_eq.mpr e]; exact h
end
section
variable {prog : Program} {w : World} {A : Around} {E : Value → Shared → Prop} {s : Shared} {a b : List Nat} {x y : Str} {t u : Tok} {Q : Value → Shared → Prop} {r : Bool}
theorem eq_tx_b (hx : x = Tx a) (hy : y = Tx b) (e : decide (a = b) = r) (h : Q (.bool r) s) : wpAny (model prog w) A (compareOp .Eq (.str x t) (.str y u)) Q E s := eq_tx hx hy (by rw [e]; exact h)
theorem ne_tx_b (hx : x = Tx a) (hy : y = Tx b) (e : decide (a = b) = r) (h : Q (.bool !r) s) : wpAny (model prog w) A (compareOp .NotEq (.str x t) (.str y u)) Q E s := ne_tx hx hy (by rw [e]; exact h)
theorem in_tx_b {c : Nat} (hx : x = Tx [c]) (hy : y = Tx b) (e : decide (c ∈ b) = r) (h : Q (.bool r) s) : wpAny (model prog w) A (compareOp .In (.str x t) (.str y u)) Q E s := in_tx hx hy (by rw [e]; exact h)
end
end -- RxSl

section -- RxFor
open PySem PySem.W PyProof.Rows PySem.Calls
open PySem
/-- the end of a turn of a for loop: own is the ledger of the iterator -/
def ForOk (h₀ : Heap) (L : Addr) (wr : List Addr) (own : List (Addr × Obj)) (I : Nat → (Str → Option Value) → List (Addr × Obj) → Prop) (i : Nat) (s s₃ : Shared) : Prop :=
  ∃ m' news' h' tk', s₃ = { s with heap := h', toks := tk' } ∧ Fr h₀ L h' m' ∧ News h₀ L h' (own ++ news') ∧ (∀ p ∈ news', p.1 ∉ wr) ∧ I (i + 1) m' news'

section
variable {prog : Program} {w : World} {A : Around} {E : Value → Shared → Prop} {s : Shared} {env : Env} {h₀ : Heap}
theorem ForOk.intro {L : Addr} {wr : List Addr} {own news' : List (Addr × Obj)} {I : Nat → (Str → Option Value) → List (Addr × Obj) → Prop} {i : Nat} {h' : Heap} {tk' : Nat} {m' : Str → Option Value} (F : Fr h₀ L h' m') (N : News h₀ L h' (own ++ news'))
    (hw : ∀ p ∈ news', p.1 ∉ wr) (hI : I (i + 1) m' news') : ForOk h₀ L wr own I i s { s with heap := h', toks := tk' } := ⟨m', news', h', tk', rfl, F, N, hw, hI⟩

theorem forLoop_rule {R : Result → Shared → Prop} {target : Expr} {body : List Stmt} {it : Addr} {fp wr : List Addr} {n : Nat} {P : Nat → Value → Prop} {St : Nat → Heap → Prop} {m : Str → Option Value}
    {news : List (Addr × Obj)} (W : Walks prog w A it fp wr n P St) (I : Nat → (Str → Option Value) → List (Addr × Obj) → Prop)
    (hIo : ∀ i h, St i h → ∀ b ∈ wr, ∃ o, h.get? b = some o) (hLf : env.locals ∉ fp) (hwr : ∀ b ∈ wr, h₀.get? b = none) (hnw : ∀ p ∈ news, p.1 ∉ wr)
    (hst : St 0 s.heap) (F : Fr h₀ env.locals s.heap m) (N : News h₀ env.locals s.heap news) (hI : I 0 m news)
    (hgo : ∀ i (s' : Shared) v (Q' : Unit → Shared → Prop) (E' : Value → Shared → Prop), St i s'.heap → Q' () s' → wpAny (model prog w) A (letOwnedTupleGo target (.ref it) v) Q' E' s')
    (turn : ∀ i v h₁ tk₁ m news own, i < n → P i v → I i m news → (∀ p ∈ own, p.1 ∈ fp) → (∀ p ∈ news, p.1 ∉ wr) → (∀ b ∈ wr, ∃ o, (b, o) ∈ own) → Fr h₀ env.locals h₁ m → News h₀ env.locals h₁ (own ++ news) →
      wpAny (model prog w) A (assign target env v) (fun _ s₂ => wpAny (model prog w) A (execs body env) (fun f s₃ => match f with
        | .next | .cont => ForOk h₀ env.locals wr own I i s s₃
        | .brk => R (.ok .next) s₃
        | .ret v => R (.ok (.ret v)) s₃) (fun _ _ => False) s₂) (fun _ _ => False) { s with heap := h₁, toks := tk₁ })
    (done : ∀ m news h' tk, I n m news → Fr h₀ env.locals h' m → News h₀ env.locals h' news → R (.ok .next) { s with heap := h', toks := tk }) :
    codeAny (model prog w) A (.forLoop target (.ref it) body [] env) R s := by
  have hLw : env.locals ∉ wr := fun h => hLf (W.sub _ h)
  have old : ∀ b o, h₀.get? b = some o → b ∉ wr := fun b o e hb => by rw [hwr b hb] at e; cases e
  refine codeAny_forLoop_any
    (fun k s' => ∃ h' tk m' news' i, s' = { s with heap := h', toks := tk } ∧ St i h' ∧ Fr h₀ env.locals h' m' ∧ News h₀ env.locals h' news' ∧ (∀ p ∈ news', p.1 ∉ wr) ∧ I i m' news' ∧ i ≤ n ∧ k = n + 1 - i) ?_ (n + 1)
    ⟨s.heap, s.toks, m, news, 0, rfl, hst, F, N, hnw, hI, Nat.zero_le _, rfl⟩
  rintro k s' ⟨h', tk, m', news', i, rfl, hst', F', N', hw', hI', hi, rfl⟩
  have next : ∀ h₁ : Heap, (∀ b o, b ∉ wr → h'.get? b = some o → h₁.get? b = some o) → Fr h₀ env.locals h₁ m' ∧ News h₀ env.locals h₁ news' := fun h₁ hk₁ =>
    ⟨⟨F'.ns.at' fun o e => hk₁ _ o hLw e, fun b o e => hk₁ b o (old b o e) (F'.keep b o e), F'.above⟩, fun p hp => ⟨hk₁ _ _ (hw' p hp) (N' p hp).1, (N' p hp).2⟩⟩
  by_cases hlt : i < n
  · refine W.item i _ _ _ hlt hst' fun v h₁ tk₁ hP hst₁ hk₁ => ?_
    obtain ⟨F₁, N₁⟩ := next h₁ hk₁
    refine hgo (i + 1) _ v _ _ hst₁ ?_
    · refine wpAny_mono (turn i v h₁ tk₁ m' news' (ownOf h₀ fp h₁) hlt hP hI' ownOf_sub hw' (fun b hb => by obtain ⟨o, e⟩ := hIo _ _ hst₁ b hb; exact ⟨o, mem_ownOf (W.sub _ hb) (hwr b hb) e⟩) F₁ ((news_ownOf hLf).append N₁)) (fun _ s₂ h₂ => wpAny_mono h₂ (fun f s₃ h₃ => ?_) fun _ _ e => e.elim) fun _ _ e => e.elim
      have fin : ForOk h₀ env.locals wr (ownOf h₀ fp h₁) I i s s₃ → ∃ m_1, m_1 < n + 1 - i ∧ ∃ h' tk m' news' i, s₃ = { s with heap := h', toks := tk } ∧ St i h' ∧ Fr h₀ env.locals h' m' ∧ News h₀ env.locals h' news' ∧ (∀ p ∈ news', p.1 ∉ wr) ∧ I i m' news' ∧ i ≤ n ∧ m_1 = n + 1 - i := by
        rintro ⟨m₂, news₂, h₃', tk₃, rfl, F₃, N₃, hw₃, hI₃⟩
        refine ⟨n + 1 - (i + 1), by omega, h₃', tk₃, m₂, news₂, i + 1, rfl, ?_, F₃, N₃.right, hw₃, hI₃, hlt, rfl⟩
        refine W.frame _ _ _ hst₁ fun b hb o e => ?_
        cases hn : h₀.get? b with
        | some o₀ =>
          have : o₀ = o := by have := F₁.keep b o₀ hn; rw [e] at this; exact (Option.some.inj this).symm
          exact this ▸ F₃.keep b o₀ hn
        | none => exact (N₃ _ (List.mem_append_left _ (mem_ownOf hb hn e))).1
      cases f with
      | ret v => exact h₃
      | brk => exact h₃
      | cont => exact fin h₃
      | next => exact fin h₃
  · have hin : i = n := by omega
    subst hin
    refine W.done _ _ _ hst' fun h₁ tk₁ hk₁ => wpAny_execs_nil ?_
    obtain ⟨F₁, N₁⟩ := next h₁ hk₁
    exact done m' news' h₁ tk₁ hI' F₁ N₁
end
end -- RxFor

section -- RxFor2
open PySem PySem.W PyProof.Rows PySem.Calls
open PySem
section
variable {prog : Program} {w : World} {A : Around} {E : Value → Shared → Prop} {s : Shared} {env : Env} {h₀ : Heap}
/-- a turn of a for loop, with the target still to be bound -/
def Turn (prog : Program) (w : World) (A : Around) (h₀ : Heap) (env : Env) (target : Expr) (body : List Stmt) (wr : List Addr) (n : Nat) (P : Nat → Value → Prop) (fp : List Addr) (I : Nat → (Str → Option Value) → List (Addr × Obj) → Prop) (Q : Flow → Shared → Prop) (s : Shared) : Prop :=
  ∀ i v h₁ tk₁ m news own, i < n → P i v → I i m news → (∀ p ∈ own, p.1 ∈ fp) → (∀ p ∈ news, p.1 ∉ wr) → (∀ b ∈ wr, ∃ o, (b, o) ∈ own) → Fr h₀ env.locals h₁ m → News h₀ env.locals h₁ (own ++ news) →
      wpAny (model prog w) A (assign target env v) (fun _ s₂ => wpAny (model prog w) A (execs body env) (fun f s₃ => match f with
        | .next | .cont => ForOk h₀ env.locals wr own I i s s₃
        | .brk => Q .next s₃
        | .ret v => Q (.ret v) s₃) (fun _ _ => False) s₂) (fun _ _ => False) { s with heap := h₁, toks := tk₁ }

theorem for_list {Q : Flow → Shared → Prop} {x : Str} {px : Pos} {iter : Expr} {body : List Stmt} {pos : Pos} (hh : A.handled = none) (a : Addr) (vs : List Value) (I : Nat → (Str → Option Value) → List (Addr × Obj) → Prop)
    (h : wpAny (model prog w) A (eval iter env) (fun xv s₁ => xv = .ref a ∧ ∃ h' tk m news, s₁ = { s with heap := h', toks := tk } ∧ Fr h₀ env.locals h' m ∧ News h₀ env.locals h' news ∧ h'.IsList a vs.toArray ∧ I 0 m news) (fun _ _ => False) s)
    (haL : a ≠ env.locals)
    (turn : ∀ it, Turn prog w A h₀ env (.Name x px) body [it] vs.length (fun i v => vs[i]? = some v) [it, a] I Q s)
    (done : ∀ m news h' tk, I vs.length m news → Fr h₀ env.locals h' m → News h₀ env.locals h' news → Q .next { s with heap := h', toks := tk })
    (hs : ∀ x, foldedSetIterable iter env x = pure x := by intro _; rfl) :
    wpAny (model prog w) A (exec (.For (.Name x px) iter body [] pos) env) Q E s := by
  refine wpAny_For (wpAny_mono h (fun xv s₁ h₁ => ?_) fun _ _ e => e.elim) hs
  obtain ⟨rfl, h', tk, m, news, rfl, F, N, hl, hI⟩ := h₁
  have hlt : ∀ b o, h'.get? b = some o → b ≠ h'.objs.size := fun b o e => Nat.ne_of_lt (Heap.lt_size e)
  obtain ⟨ol, hol, _⟩ := id hl
  obtain ⟨oL, _, _, hoL, _⟩ := id F.ns
  refine wpAny_pyIter_list hl ?_
  have W := Walks.list (prog := prog) (w := w) hh h'.objs.size a (hlt _ _ hol) vs.toArray
  rw [List.size_toArray] at W
  refine forLoop_rule (R := fun r s' => match r with | .ok f => Q f s' | .error e => cameBackBy (model prog w) A env E e s') W I (fun i h st b hb => by obtain ⟨o, e, _⟩ := st.1; rw [List.mem_singleton.mp hb]; exact ⟨o, e⟩) ?_ ?_ ?_ ⟨⟨_, Heap.get?_push_size _ rfl, rfl, rfl⟩, hl.push _⟩ (F.push _) (N.pushKeep _) hI (fun _ _ _ _ _ _ h => wpAny_of_eq (a := ()) rfl h) (fun i v h₁ tk₁ m news own a b c d e f g j => ?_) (fun m news h' tk a b c => done m news h' tk a b c)
  · intro hm
    simp only [List.mem_cons, List.not_mem_nil, or_false] at hm
    rcases hm with hm | hm
    · exact hlt _ _ hoL hm
    · exact haL hm.symm
  · intro b hb
    simp only [List.mem_cons, List.not_mem_nil, or_false] at hb
    subst hb
    cases q : h₀.get? h'.objs.size with
    | none => rfl
    | some o => exact absurd rfl (hlt _ _ (F.keep _ _ q))
  · intro p hp
    simp only [List.mem_cons, List.not_mem_nil, or_false]
    exact hlt _ _ (N p hp).1
  · exact turn _ i v h₁ tk₁ m news own a (by simpa using b) c d e f g j
end
end -- RxFor2

section -- RxCo
open PySem PySem.W PyProof.Rows PySem.Calls
open PySem
theorem letGo_listiter {prog : Program} {w : World} {A : Around} {E : Value → Shared → Prop} {target : Expr} {I l : Addr} {i : Nat} {v : Value} {Q' : Unit → Shared → Prop} {s' : Shared} (hit : s'.heap.IsListIter I l i) (h : Q' () s') :
    wpAny (model prog w) A (letOwnedTupleGo target (.ref I) v) Q' E s' := by
  obtain ⟨o, ho, hc, hd⟩ := hit
  unfold letOwnedTupleGo
  cases target <;> first
    | exact wpAny_pure h
    | (cases v <;> first
        | exact wpAny_pure h
        | (refine wpAny_bind (wpAny_load ho ?_)
           rw [hc, hd]
           exact wpAny_pure h))

section
variable {prog : Program} {w : World} {A : Around} {E : Value → Shared → Prop} {s : Shared} {env : Env} {h₀ : Heap}
theorem for_listT {Q : Flow → Shared → Prop} {target : Expr} {iter : Expr} {body : List Stmt} {pos : Pos} (hh : A.handled = none) (a : Addr) (vs : List Value) (I : Nat → (Str → Option Value) → List (Addr × Obj) → Prop)
    (h : wpAny (model prog w) A (eval iter env) (fun xv s₁ => xv = .ref a ∧ ∃ h' tk m news, s₁ = { s with heap := h', toks := tk } ∧ Fr h₀ env.locals h' m ∧ News h₀ env.locals h' news ∧ h'.IsList a vs.toArray ∧ I 0 m news) (fun _ _ => False) s)
    (haL : a ≠ env.locals)
    (turn : ∀ it, Turn prog w A h₀ env target body [it] vs.length (fun i v => vs[i]? = some v) [it, a] I Q s)
    (done : ∀ m news h' tk, I vs.length m news → Fr h₀ env.locals h' m → News h₀ env.locals h' news → Q .next { s with heap := h', toks := tk })
    (hs : ∀ x, foldedSetIterable iter env x = pure x := by intro _; rfl) :
    wpAny (model prog w) A (exec (.For target iter body [] pos) env) Q E s := by
  refine wpAny_For (wpAny_mono h (fun xv s₁ h₁ => ?_) fun _ _ e => e.elim) hs
  obtain ⟨rfl, h', tk, m, news, rfl, F, N, hl, hI⟩ := h₁
  have hlt : ∀ b o, h'.get? b = some o → b ≠ h'.objs.size := fun b o e => Nat.ne_of_lt (Heap.lt_size e)
  obtain ⟨ol, hol, _⟩ := id hl
  obtain ⟨oL, _, _, hoL, _⟩ := id F.ns
  refine wpAny_pyIter_list hl ?_
  have W := Walks.list (prog := prog) (w := w) hh h'.objs.size a (hlt _ _ hol) vs.toArray
  rw [List.size_toArray] at W
  refine forLoop_rule (R := fun r s' => match r with | .ok f => Q f s' | .error e => cameBackBy (model prog w) A env E e s') W I (fun i h st b hb => by obtain ⟨o, e, _⟩ := st.1; rw [List.mem_singleton.mp hb]; exact ⟨o, e⟩) ?_ ?_ ?_ ⟨⟨_, Heap.get?_push_size _ rfl, rfl, rfl⟩, hl.push _⟩ (F.push _) (N.pushKeep _) hI (fun _ _ _ _ _ st h => letGo_listiter st.1 h) (fun i v h₁ tk₁ m news own a b c d e f g j => ?_) (fun m news h' tk a b c => done m news h' tk a b c)
  · intro hm
    simp only [List.mem_cons, List.not_mem_nil, or_false] at hm
    rcases hm with hm | hm
    · exact hlt _ _ hoL hm
    · exact haL hm.symm
  · intro b hb
    simp only [List.mem_cons, List.not_mem_nil, or_false] at hb
    subst hb
    cases q : h₀.get? h'.objs.size with
    | none => rfl
    | some o => exact absurd rfl (hlt _ _ (F.keep _ _ q))
  · intro p hp
    simp only [List.mem_cons, List.not_mem_nil, or_false]
    exact hlt _ _ (N p hp).1
  · exact turn _ i v h₁ tk₁ m news own a (by simpa using b) c d e f g j

theorem for_strI {Q : Flow → Shared → Prop} {x : Str} {px : Pos} {body : List Stmt} {y : Str} {St : Nat → Heap → Prop} {h' : Heap} {tk : Nat} {o : Obj} (hh : A.handled = none) (I : Nat → (Str → Option Value) → List (Addr × Obj) → Prop) {m : Str → Option Value} {news : List (Addr × Obj)}
    (F : Fr h₀ env.locals h' m) (N : News h₀ env.locals h' news) (hI : I 0 m news) (W : Walks prog w A h'.objs.size [h'.objs.size] [h'.objs.size] y.cps.size (SignAt y) St) (hIo : ∀ i h, St i h → ∃ o, h.get? h'.objs.size = some o) (hst : St 0 (h'.push o))
    (turn : ∀ it, Turn prog w A h₀ env (.Name x px) body [it] y.cps.size (SignAt y) [it] I Q s)
    (done : ∀ m news h' tk, I y.cps.size m news → Fr h₀ env.locals h' m → News h₀ env.locals h' news → Q .next { s with heap := h', toks := tk }) :
    codeAny (model prog w) A (.forLoop (.Name x px) (.ref h'.objs.size) body [] env) (fun r s' => match r with | .ok f => Q f s' | .error e => cameBackBy (model prog w) A env E e s') { s with heap := h'.push o, toks := tk } := by
  have hlt : ∀ b o, h'.get? b = some o → b ≠ h'.objs.size := fun b o e => Nat.ne_of_lt (Heap.lt_size e)
  obtain ⟨oL, _, _, hoL, _⟩ := id F.ns
  refine forLoop_rule (R := fun r s' => match r with | .ok f => Q f s' | .error e => cameBackBy (model prog w) A env E e s') W I (fun i h st b hb => by rw [List.mem_singleton.mp hb]; exact hIo i h st) ?_ ?_ ?_ hst (F.push _) (N.pushKeep _) hI (fun _ _ _ _ _ _ h => wpAny_of_eq (a := ()) rfl h) (fun i v h₁ tk₁ m news own a b c d e f g j => ?_) (fun m news h' tk a b c => done m news h' tk a b c)
  · intro hm
    simp only [List.mem_cons, List.not_mem_nil, or_false] at hm
    exact hlt _ _ hoL hm
  · intro b hb
    simp only [List.mem_cons, List.not_mem_nil, or_false] at hb
    subst hb
    cases q : h₀.get? h'.objs.size with
    | none => rfl
    | some o => exact absurd rfl (hlt _ _ (F.keep _ _ q))
  · intro p hp
    simp only [List.mem_cons, List.not_mem_nil, or_false]
    exact hlt _ _ (N p hp).1
  · exact turn _ i v h₁ tk₁ m news own a b c d e f g j
theorem for_str {Q : Flow → Shared → Prop} {x : Str} {px : Pos} {iter : Expr} {body : List Stmt} {pos : Pos} (hh : A.handled = none) (y : Str) (t : Tok) (I : Nat → (Str → Option Value) → List (Addr × Obj) → Prop)
    (h : wpAny (model prog w) A (eval iter env) (fun xv s₁ => xv = .str y t ∧ ∃ h' tk m news, s₁ = { s with heap := h', toks := tk } ∧ Fr h₀ env.locals h' m ∧ News h₀ env.locals h' news ∧ I 0 m news) (fun _ _ => False) s)
    (turn : ∀ it, Turn prog w A h₀ env (.Name x px) body [it] y.cps.size (SignAt y) [it] I Q s)
    (done : ∀ m news h' tk, I y.cps.size m news → Fr h₀ env.locals h' m → News h₀ env.locals h' news → Q .next { s with heap := h', toks := tk })
    (hs : ∀ x, foldedSetIterable iter env x = pure x := by intro _; rfl) :
    wpAny (model prog w) A (exec (.For (.Name x px) iter body [] pos) env) Q E s := by
  refine wpAny_For (wpAny_mono h (fun xv s₁ h₁ => ?_) fun _ _ e => e.elim) hs
  obtain ⟨rfl, h', tk, m, news, rfl, F, N, hI⟩ := h₁
  cases ha : y.cps.all (· < 128)
  · exact wpAny_pyIter_wide ha (for_strI hh I F N hI (Walks.strWide hh _ y t) (fun i h st => by obtain ⟨o, e, _⟩ := st; exact ⟨o, e⟩) ⟨_, Heap.get?_push_size _ rfl, rfl, rfl⟩ turn done)
  · exact wpAny_pyIter_ascii ha (for_strI hh I F N hI (Walks.strAscii hh _ y t) (fun i h st => by obtain ⟨o, e, _⟩ := st; exact ⟨o, e⟩) ⟨_, Heap.get?_push_size _ rfl, rfl, rfl⟩ turn done)

def RgOk (h₀ : Heap) (L : Addr) (s : Shared) (n : Nat) (I : Nat → (Str → Option Value) → List (Addr × Obj) → Prop) (xv : Value) (s₁ : Shared) : Prop :=
  ∃ r t u v, xv = .ref r ∧ ∃ h' tk m news, s₁ = { s with heap := h', toks := tk } ∧ Fr h₀ L h' m ∧ News h₀ L h' news ∧ IsRange h' r 0 n 1 t u v ∧ I 0 m news
theorem for_range {Q : Flow → Shared → Prop} {x : Str} {px : Pos} {iter : Expr} {body : List Stmt} {pos : Pos} (hh : A.handled = none) (n : Nat) (I : Nat → (Str → Option Value) → List (Addr × Obj) → Prop) (hn : n ≤ 100000)
    (h : wpAny (model prog w) A (eval iter env) (RgOk h₀ env.locals s n I) (fun _ _ => False) s)
    (turn : ∀ it, Turn prog w A h₀ env (.Name x px) body [it] n (fun i v => ∃ t, v = .int (i : Int) t) [it] I Q s)
    (done : ∀ m news h' tk, I n m news → Fr h₀ env.locals h' m → News h₀ env.locals h' news → Q .next { s with heap := h', toks := tk })
    (hs : ∀ x, foldedSetIterable iter env x = pure x := by intro _; rfl) :
    wpAny (model prog w) A (exec (.For (.Name x px) iter body [] pos) env) Q E s := by
  refine wpAny_For (wpAny_mono h (fun xv s₁ h₁ => ?_) fun _ _ e => e.elim) hs
  obtain ⟨r, t, u, v, rfl, h', tk, m, news, rfl, F, N, hr, hI⟩ := h₁
  have hlt : ∀ b o, h'.get? b = some o → b ≠ h'.objs.size := fun b o e => Nat.ne_of_lt (Heap.lt_size e)
  obtain ⟨oL, _, _, hoL, _⟩ := id F.ns
  have hsm : Builtin.Range.small 0 n 1 = true := small_one (by omega) (by omega) (by omega) (by omega)
  have hrs : Builtin.Range.rangeSize 0 n 1 = ((n : Nat) : Int) := by
    unfold Builtin.Range.rangeSize; simp; omega
  refine wpAny_pyIter_range hr hsm ?_
  have W := LCg.range_walks (prog := prog) (w := w) (I := h'.objs.size) hh 0 n
  refine forLoop_rule (R := fun r s' => match r with | .ok f => Q f s' | .error e => cameBackBy (model prog w) A env E e s') W I (fun i h st b hb => by rw [List.mem_singleton.mp hb]; exact ⟨_, st⟩) ?_ ?_ ?_ (by show IsRangeIter _ _ _ _ _; rw [hrs]; simpa using Heap.get?_push_size _ rfl) (F.push _) (N.pushKeep _) hI (fun _ _ _ _ _ _ h => wpAny_of_eq (a := ()) rfl h) (fun i v h₁ tk₁ m news own a b c d e f g j => ?_) (fun m news h' tk a b c => done m news h' tk a b c)
  · intro hm
    simp only [List.mem_cons, List.not_mem_nil, or_false] at hm
    exact hlt _ _ hoL hm
  · intro b hb
    simp only [List.mem_cons, List.not_mem_nil, or_false] at hb
    subst hb
    cases q : h₀.get? h'.objs.size with
    | none => rfl
    | some o => exact absurd rfl (hlt _ _ (F.keep _ _ q))
  · intro p hp
    simp only [List.mem_cons, List.not_mem_nil, or_false]
    exact hlt _ _ (N p hp).1
  · exact turn _ i v h₁ tk₁ m news own a (by simpa using b) c d e f g j
end

section
variable {prog : Program} {w : World} {A : Around} {h₀ : Heap} {L : Addr} {m : Str → Option Value} {env : Env} {elt : Expr} {x : Str} {scope : Scope} {cl : List (Str × Addr)} {s : Shared} {S : List (Addr × Obj) → Prop} {P : Nat → Value → Prop} {Fin : List Value → List (Addr × Obj) → Prop} {news : List (Addr × Obj)}
/-- a comprehension, said item by item: g i y, y is what the item i becomes -/
theorem rest_inv {n : Nat} (g : Nat → Value → Prop)
    (turn : ∀ i v I oI C oC D m₂ ys h tk (E' : Value → Shared → Prop), i < n → P i v → LCg.NsObj oC m₂ → m₂ x = some v → Fr h₀ L h m → News h₀ L h ((I, oI) :: (C, oC) :: (D, LCg.lst ys) :: news) → LCg.Off3 I C D news → ((@Ne Nat I C) ∧ (@Ne Nat I D) ∧ (@Ne Nat C D)) →
      wpAny (model prog w) A (eval elt (compEnvC scope cl C env)) (LCg.CompEnd h₀ L m { s with heap := h, toks := tk } I oI C oC D (LCg.lst ys) S (fun y news' => news' = news ∧ g i y)) E' { s with heap := h, toks := tk })
    (fin : ∀ ys : List Value, ys.length = n → (∀ i y, ys[i]? = some y → g i y) → Fin ys news) : LCg.CompRest prog w A h₀ L m env elt x scope cl s S P Fin n 0 [] news := by
  have key : ∀ (j i : Nat) (ys : List Value), i + j = n → ys.length = i → (∀ i y, ys[i]? = some y → g i y) → LCg.CompRest prog w A h₀ L m env elt x scope cl s S P Fin j i ys news := by
    intro j
    induction j with
    | zero => intro i ys hi hl hy; exact LCg.CompRest.zero (fin ys (by omega) hy)
    | succ j ih =>
      intro i ys hi hl hy
      refine LCg.CompRest.succ ?_
      intro v I oI C oC D m₂ h tk E' hv hC hx F N off ne
      refine wpAny_mono (turn i v I oI C oC D m₂ ys h tk E' (by omega) hv hC hx F N off ne) (fun y s₂ hq => ?_) fun _ _ e => e
      obtain ⟨h', tk', nw, e, F', N', off', hS, hn, hg⟩ := hq
      rw [hn] at N' off' hS
      refine ⟨h', tk', news, e, F', N', off', hS, ih (i + 1) _ (by omega) (by simp [hl]) fun i' y' hy' => ?_⟩
      by_cases hlt : i' < ys.length
      · rw [List.getElem?_append_left hlt] at hy'; exact hy i' y' hy'
      · have : i' < (ys ++ [y]).length := (List.getElem?_eq_some_iff.mp hy').1
        have : i' = ys.length := by simp at this; omega
        subst this
        rw [List.getElem?_append_right (Nat.le_refl _)] at hy'
        simp at hy'
        subst hy'
        rw [hl]; exact hg
  exact key n 0 [] (by omega) rfl (by simp)
end
end -- RxCo

section -- RxFi
open PySem PySem.W PyProof.Rows PySem.Calls PySem.SeqAt
open PySem
theorem ints_filter : ∀ {vs : List Value} {ks : List Int}, IntsAre vs ks → IntsAre (vs.filter fun v => match v with | .int a _ => decide (0 ≤ a) | _ => false) (ks.filter (0 ≤ ·))
  | _, _, .nil => .nil
  | _, _, .cons n t h => by
    have ih := ints_filter h
    by_cases q : 0 ≤ n
    · simp only [List.filter_cons, decide_eq_true q, if_true]; exact .cons n t ih
    · simp only [List.filter_cons, decide_eq_false q, Bool.false_eq_true, if_false]; exact ih
theorem paired_same {F : Value → Value → Prop} (hF : ∀ a b, F a b → b = a) : ∀ {l₁ l₂ : List Value}, Paired F l₁ l₂ → l₂ = l₁
  | _, _, .nil => rfl
  | _, _, .cons h r => by rw [hF _ _ h, paired_same hF r]
theorem all_at {vs us : List Value} (hl : us.length = vs.length) (h : ∀ (j : Nat) (v : Value), us[j]? = some v → vs.toArray[j]? = some v) : us = vs := by
  apply List.ext_getElem hl
  intro i h1 h2
  have := h i us[i] (List.getElem?_eq_getElem h1)
  simp only [List.getElem?_toArray] at this
  rw [List.getElem?_eq_getElem h2] at this
  exact (Option.some.inj this).symm

section
variable {prog : Program} {w : World} {A : Around} {E : Value → Shared → Prop} {s : Shared} {env : Env} {h₀ : Heap} {m : Str → Option Value} {news : List (Addr × Obj)}
theorem assign_filter {D : Addr} {vs : List Value} {ks : List Int} {nD : Nat} {x y : Str} {pe px py pi pc pk pw pos spos : Pos} {k0 : Nat} {scope : Scope} {cl : List (Str × Addr)} {Q : Flow → Shared → Prop} (F : Fr h₀ env.locals s.heap m) (N : News h₀ env.locals s.heap news) (hm : (D, listOf vs.toArray nD) ∈ news)
    (hI : IntsAre vs ks) (hh : A.handled = none) (hsz : vs.length ≤ 2000) (hmy : m y = some (.ref D))
    (h : ∀ h' tk D' vs' n', Fr h₀ env.locals h' (fun z => if z = y then some (.ref D') else m z) → News h₀ env.locals h' ((D', listOf (List.toArray vs') n') :: news) → IntsAre vs' (ks.filter (0 ≤ ·)) → vs'.length ≤ 2000 → Q .next { s with heap := h', toks := tk })
    (hsw : swapsWith (.ListComp (.Name x pe) [⟨.Name x px, .Name y pi, [.Compare (.Name x pc) [.GtE] [.Constant (.int 0) k0 pk] pw], 0⟩] scope pos) (some (.Name y py)) spos.line env = pure true)
    (hclos : closureFor scope env = pure cl) (hcell : ∀ z ∈ scope.names, z.2 ≠ .cell) (hkind : scope.kind = .function)
    (hnames : ∀ z ∈ scope.names, z.2 = .local → scope.names.lookup z.1 = some .local) (hx : scope.names.lookup x = some .local)
    (hy : env.kindOf y = some .local) (hp : (env.scope.kind == .class || (env.scope.kind == .module && env.locals != env.globals)) = false)
    (hk : env.scope.kind = .function) (hd : (y == ("__debug__" : Str)) = false) (hdx : (x == ("__debug__" : Str)) = false)
    (hkx : ∀ C, (compEnvC scope cl C env).scope.kind = .function) (hlx : ∀ C, (compEnvC scope cl C env).kindOf x = some .local) :
    wpAny (model prog w) A (exec (.Assign [.Name y py] (.ListComp (.Name x pe) [⟨.Name x px, .Name y pi, [.Compare (.Name x pc) [.GtE] [.Constant (.int 0) k0 pk] pw], 0⟩] scope pos) spos) env) Q E s := by
  have hl : s.heap.IsList D vs.toArray := listOf_isList (N _ hm).1
  refine wpAny_Assign_ListComp_free (fun v => match v with | .int a _ => decide (0 ≤ a) | _ => false) (fun v y => y = v) hsw hclos hcell hkind hnames hx hy hp ?_ (by intro _; rfl)
  refine wpAny_Name (wpAny_loadName_local hk hy F.ns hmy ?_) hd
  have hlt : ∀ b o, s.heap.get? b = some o → b ≠ s.heap.objs.size := fun b o e => Nat.ne_of_lt (Heap.lt_size e)
  obtain ⟨ol, hol, _⟩ := id hl
  obtain ⟨oL, _, _, hoL, _⟩ := id F.ns
  refine wpAny_pyIter_list hl ?_
  have up : ∀ b o, s.heap.get? b = some o → (s.heap.push { cls := .type "list_iterator", data := .fields #[.ref D, .int 0 0] }).get? b = some o := fun b o e => Heap.get?_push_of_some _ e
  refine ⟨_, _, _, _, _, _, m, rfl, Walks.list hh s.heap.objs.size D (hlt _ _ hol) vs.toArray, by rw [List.size_toArray, sizeLine_eq]; omega, ⟨⟨_, Heap.get?_push_size _ rfl, rfl, rfl⟩, hl.push _⟩, ?_, ?_, (F.keeps up).ns, ⟨?_, ?_⟩, ?_⟩
  · intro b hb
    show b < (s.heap.push _).objs.size
    rw [Heap.size_push]
    rcases List.mem_cons.mp hb with rfl | hb
    · exact Nat.lt_succ_self _
    · rw [List.mem_singleton.mp hb]; exact Nat.lt_succ_of_lt (Heap.lt_size hol)
  · intro hb
    exact hlt _ _ hoL (List.mem_singleton.mp hb)
  · intro C i v s₃ m₃ E' hC hv hn hmx hkp htk
    refine wpAny_tests_one (wpAny_isTrue_Compare1 (wpAny_Name (wpAny_loadName_local (hkx C) (hlx C) hn hmx ?_) hdx))
    have : ∃ a u, v = .int a u := by
      have hv' : vs[i]? = some v := by simpa using hv
      obtain ⟨a, u, e, _⟩ := hI.at i v hv'
      exact ⟨a, u, e⟩
    obtain ⟨a, u, rfl⟩ := this
    refine wpAny_Constant_int (ge_int (wpAny_truthy_bool ?_))
    exact ⟨rfl, _, _, rfl, fun _ _ e => e⟩
  · intro C i v s₃ m₃ E' hC hv _ hn hmx hkp htk
    exact wpAny_Name (wpAny_loadName_local (hkx C) (hlx C) hn hmx ⟨rfl, _, _, rfl, fun _ _ e => e⟩) hdx
  · intro D' h' tk ys us hD' hl' hpl hul hP hpair hns hkp
    obtain ⟨n', hpl⟩ := hpl
    have eu : us = vs := all_at (by simpa using hul) hP
    subst eu
    have ey := paired_same (fun a b (q : b = a) => q) hpair
    have ey' : ys = (us.filter fun v => match v with | .int a _ => decide (0 ≤ a) | _ => false).toArray := by rw [← ey]
    subst ey'
    have hL0 : h₀.get? env.locals = none := Heap.get?_none_of_le F.above
    have hI0 : h₀.get? s.heap.objs.size = none := by
      cases q : h₀.get? s.heap.objs.size with
      | none => rfl
      | some o => exact absurd rfl (hlt _ _ (F.keep _ _ q))
    have kp : ∀ b o, b ≠ env.locals → s.heap.get? b = some o → h'.get? b = some o := fun b o hb e => hkp b o hb (fun q => hlt _ _ e (List.mem_singleton.mp q)) (up b o e)
    have hDs : s.heap.get? D' = none := by
      cases q : s.heap.get? D' with
      | none => rfl
      | some o => have := up _ _ q; rw [hD'] at this; cases this
    refine h h' tk D' _ n' ⟨hns, fun b o e => kp b o (fun q => by rw [q, hL0] at e; cases e) (F.keep b o e), F.above⟩ (fun p hp => ?_) (ints_filter hI) (Nat.le_trans (List.length_filter_le _ _) hsz)
    rcases List.mem_cons.mp hp with rfl | hp
    · refine ⟨hpl, fun q => ?_, ?_⟩
      · rw [show D' = env.locals from q] at hDs; rw [hoL] at hDs; cases hDs
      · cases q : h₀.get? D' with
        | none => rfl
        | some o => have := F.keep _ _ q; rw [hDs] at this; cases this
    · exact ⟨kp _ _ (N p hp).2.1 (N p hp).1, (N p hp).2⟩
end
end -- RxFi

section -- RxCs
open PySem PySem.W PyProof.Rows PySem.Calls PySem.SeqAt
open PySem
theorem paired_at {α β : Type} {F : α → β → Prop} : ∀ {l₁ : List α} {l₂ : List β}, Paired F l₁ l₂ → ∀ (i : Nat) (b : β), l₂[i]? = some b → ∃ a, l₁[i]? = some a ∧ F a b
  | _, _, .nil, i, b, h => by simp at h
  | _, _, .cons (a := a) h r, 0, b, e => by
    simp only [List.getElem?_cons_zero, Option.some.injEq] at e
    subst e; exact ⟨a, rfl, h⟩
  | _, _, .cons h r, i + 1, b, e => by
    simp only [List.getElem?_cons_succ] at e ⊢
    exact paired_at r i b e
theorem off1_of {D : Addr} : ∀ {l : List (Addr × Obj)}, (∀ p ∈ l, p.1 ≠ D) → LCg.Off1 D l
  | [], _ => trivial
  | _ :: _, h => ⟨h _ List.mem_cons_self, off1_of fun p hp => h p (List.mem_cons_of_mem _ hp)⟩
section
variable {prog : Program} {w : World} {A : Around} {E : Value → Shared → Prop} {s : Shared} {env : Env} {h₀ : Heap} {L : Addr} {m : Str → Option Value} {news : List (Addr × Obj)}
/-- a comprehension over the signs of a text, its items told without a store -/
theorem ListComp_str {elt iter : Expr} {x : Str} {px pos : Pos} {scope : Scope} {cl : List (Str × Addr)} {Q : Value → Shared → Prop} (y : List Nat) (G : Nat → Value → Prop) (F : Fr h₀ L s.heap m) (N : News h₀ L s.heap news) (hh : A.handled = none) (hy : y.length ≤ 100000)
    (hit : wpAny (model prog w) A (eval iter env) (fun xv s₁ => ∃ t tk, xv = .str (Tx y) t ∧ s₁ = { s with toks := tk }) E s)
    (hel : ∀ C c u m₃ (s₃ : Shared) E', c ∈ y → s₃.heap.Ns C m₃ → m₃ x = some (.str (Tx [c]) u) → Fr h₀ L s₃.heap m → News h₀ L s₃.heap news →
      wpAny (model prog w) A (eval elt (compEnvC scope cl C env)) (fun v s₄ => G c v ∧ Keeps s₃ s₄) E' s₃)
    (h : ∀ D h' tk vs n', Fr h₀ L h' m → News h₀ L h' ((D, listOf (List.toArray vs) n') :: news) → LCg.Off1 D news → vs.length = y.length → (∀ (i : Nat) (v : Value), vs[i]? = some v → ∃ c, y[i]? = some c ∧ G c v) → Q (.ref D) { s with heap := h', toks := tk })
    (hclos : closureFor scope env = pure cl) (hcell : ∀ z ∈ scope.names, z.2 ≠ .cell) (hkind : scope.kind = .function)
    (hnames : ∀ z ∈ scope.names, z.2 = .local → scope.names.lookup z.1 = some .local) (hx : scope.names.lookup x = some .local)
    (hs : ∀ x, foldedSetIterable iter env x = pure x := by intro _; rfl) :
    wpAny (model prog w) A (eval (.ListComp elt [⟨.Name x px, iter, [], 0⟩] scope pos) env) Q E s := by
  refine wpAny_ListComp_free (fun _ => true) (fun v b => ∃ c u, v = .str ⟨#[c]⟩ u ∧ G c b) hclos hcell hkind hnames hx (wpAny_mono hit (fun xv s₁ h₁ => ?_) fun _ _ e => e) hs
  obtain ⟨t, tk, rfl, rfl⟩ := h₁
  refine wpAny_pyIter_str fun o St W hst => ?_
  have up : ∀ b ob, s.heap.get? b = some ob → (s.heap.push o).get? b = some ob := fun b ob e => Heap.get?_push_of_some _ e
  have hlt : ∀ b o, s.heap.get? b = some o → b ≠ s.heap.objs.size := fun b o e => Nat.ne_of_lt (Heap.lt_size e)
  obtain ⟨oL, _, _, hoL, _⟩ := id F.ns
  have keepF : ∀ h' : Heap, (∀ b ob, b ∉ [s.heap.objs.size] → (s.heap.push o).get? b = some ob → h'.get? b = some ob) → Fr h₀ L h' m ∧ News h₀ L h' news := fun h' k => by
    have kk : ∀ b ob, s.heap.get? b = some ob → h'.get? b = some ob := fun b ob e => k b ob (fun q => hlt _ _ e (List.mem_singleton.mp q)) (up b ob e)
    exact ⟨F.keeps kk, news_grow N kk⟩
  refine ⟨_, _, _, _, _, _, rfl, W A hh, by show (Tx y).cps.size ≤ _; rw [sizeLine_eq]; simp; omega, hst, ?_, ⟨?_, ?_⟩, ?_⟩
  · intro b hb
    show b < (s.heap.push _).objs.size
    rw [Heap.size_push, List.mem_singleton.mp hb]; exact Nat.lt_succ_self _
  · intro C i v s₃ m₃ E' hC hv hn hmx hkp htk
    exact wpAny_tests_nil ⟨rfl, _, _, rfl, fun _ _ e => e⟩
  · intro C i v s₃ m₃ E' hC hv _ hn hmx hkp htk
    obtain ⟨c, u, hc, rfl⟩ := hv
    obtain ⟨F', N'⟩ := keepF s₃.heap hkp
    refine wpAny_mono (hel C c u m₃ s₃ E' (List.mem_of_getElem? (by simpa using hc)) hn hmx F' N') (fun v s₄ q => ⟨⟨c, u, rfl, q.1⟩, q.2⟩) fun _ _ e => e
  · intro D h' tk' ys us hD' hl' hpl hul hP hpair hkp
    obtain ⟨n', hpl⟩ := hpl
    obtain ⟨F', N'⟩ := keepF h' hkp
    have efil : us.filter (fun _ => true) = us := by simp
    rw [efil] at hpair
    have hlen := hpair.length
    have hDs : s.heap.get? D = none := by
      cases q : s.heap.get? D with
      | none => rfl
      | some o => have := up _ _ q; rw [hD'] at this; cases this
    refine h D h' tk' ys.toList n' F' (fun p hp => ?_) ?_ ?_ ?_
    · rcases List.mem_cons.mp hp with rfl | hp
      · refine ⟨hpl, fun q => ?_, ?_⟩
        · rw [show D = L from q] at hDs; rw [hoL] at hDs; cases hDs
        · cases q : h₀.get? D with
          | none => rfl
          | some o => have := F.keep _ _ q; rw [hDs] at this; cases this
      · exact N' p hp
    · exact off1_of fun p hp q => by rw [← show p.1 = D from q] at hDs; rw [(N p hp).1] at hDs; cases hDs
    · rw [← hlen, hul]; simp
    · intro i v hv
      obtain ⟨a, ha, c, u, rfl, hg⟩ := paired_at hpair i v hv
      obtain ⟨c', u', hc', e⟩ := hP i _ ha
      refine ⟨c, ?_, hg⟩
      have : c' = c := by
        have := congrArg (fun z => match z with | Value.str x _ => x.cps.toList | _ => []) e
        simpa using this.symm
      subst this
      simpa using hc'
theorem add_news {l b : Addr} {vs ws : List Value} {n k : Nat} {Q : Value → Shared → Prop} (F : Fr h₀ L s.heap m) (N : News h₀ L s.heap news) (h1 : (l, listOf vs.toArray n) ∈ news) (h2 : (b, listOf ws.toArray k) ∈ news) (hsz : vs.length + ws.length ≤ 100000)
    (h : ∀ a h', Fr h₀ L h' m → News h₀ L h' ((a, listOf (vs ++ ws).toArray 0) :: news) → (∀ p ∈ news, p.1 < a) → Q (.ref a) { s with heap := h' }) :
    wpAny (model prog w) A (binaryOp .Add (.ref l) (.ref b)) Q E s :=
  add_arrays F N (listOf_isList (N _ h1).1) (listOf_isList (N _ h2).1) (fun h' F' N' => h _ h' F' N' fun p hp => Heap.lt_size (N p hp).1) (by rw [List.size_toArray, List.size_toArray, sizeLine_eq]; omega)
theorem sub_news {value slice : Expr} {D : Addr} {vs : List Value} {v : Value} {n : Nat} {k : Int} {u : Tok} {Q : Value → Shared → Prop} (N : News h₀ L s.heap news) (hm : (D, listOf vs.toArray n) ∈ news) (h0 : 0 ≤ k) (h1 : k < 1000000) (hv : vs[k.toNat]? = some v)
    (h : Q v s)
    (hs : subscripted slice false (.ref D) (.int k u) = operate [.ref D, .int k u] (getItem (.ref D) (.int k u)) := by with_unfolding_all rfl) :
    wpAny (model prog w) A (subscriptTail value slice (.ref D) (.int k u)) Q E s :=
  tail_any (listOf_isList (N _ hm).1).typeIs slot_list_getitem.lookup (wpAny_getItem_list (listOf_isList (N _ hm).1) h0 (by omega) (by simpa using hv) h) hs
theorem bools_in {bs : List Bool} : ((bs.map Value.bool).toArray.any fun v => match v with | .bool b => b == true | _ => false) = bs.contains true := by
  rw [← Array.any_toList]
  simp only [List.any_map]
  induction bs with
  | nil => rfl
  | cons b bs ih =>
    rw [List.any_cons, ih, List.contains_cons]
    cases b <;> rfl
theorem in_bools {D : Addr} {bs : List Bool} {Q : Value → Shared → Prop} (hl : s.heap.IsList D (bs.map Value.bool).toArray)
    (h : Q (.bool (bs.contains true)) s) : wpAny (model prog w) A (compareOp .In (.bool true) (.ref D)) Q E s := by
  refine in_listAt (fun v => match v with | .bool b => b == true | _ => false) hl (fun y hy => ?_) ?_
  · have : y ∈ bs.map Value.bool := by simpa using hy
    obtain ⟨b, _, rfl⟩ := List.mem_map.mp this
    exact EqAt.bool_bool b true
  · rw [bools_in]; exact h
theorem in_two {D : Addr} {x a b : List Nat} {t u v : Tok} {aS : Str} {Q : Value → Shared → Prop} (hl : s.heap.IsTuple D #[.str aS t, .str (Tx b) u]) (ha : aS = Tx a)
    (h : Q (.bool (decide (x = a) || decide (x = b))) s) : wpAny (model prog w) A (compareOp .In (.str (Tx x) v) (.ref D)) Q E s := by
  subst ha
  refine in_tupleAt (fun y => match y with | .str z _ => z == Tx x | _ => false) hl (fun y hy => ?_) ?_
  · simp only [List.mem_toArray, List.mem_cons, List.not_mem_nil, or_false] at hy
    rcases hy with rfl | rfl
    · exact EqAt.str_str _ t (Tx x) v
    · exact EqAt.str_str _ u (Tx x) v
  · have e : ∀ c : List Nat, (Tx c == Tx x) = decide (x = c) := fun c => by rw [Tx_inj]; exact decide_eq_decide.mpr eq_comm
    simpa [e] using h
end
end -- RxCs

section -- RxObj
open PySem PySem.W PyProof.Rows PySem.Calls
open PySem
namespace B
theorem slot_object_init : Slot "object" "__init__" "object.__init__" :=
  .of (owner := "object") (n := "__init__") (by rw [typeLookup_type, builtinLookup_eq_fast]; kernel_rfl) (by decide +kernel) (by decide +kernel) (by decide +kernel)
    (by first | exact .inl (by decide +kernel) | exact .inr (by decide +kernel)) (by rw [isSubtype_type]; kernel_rfl)
theorem mro_object : mroOf (.type "object") = pure [.type "object"] := by rw [mroOf_type]; kernel_rfl
theorem lookup_object_new : typeLookup (.type "object") "__new__" = pure (some (.builtin "object.__new__")) := by rw [typeLookup_type, builtinLookup_eq_fast]; kernel_rfl
theorem tc_object : TypeCalled "object" "object.__new__" "object.__init__" where
  notType := by decide
  canCreate := by decide +kernel
  mro := ⟨_, _, mro_object⟩
  made := madeBy_type mro_object lookup_object_new (by decide +kernel)
  plain := by decide +kernel
  sub := by rw [isSubtype_type]; kernel_rfl
  init := slot_object_init
theorem entry_object_new : entryFor table "object.__new__" = some Builtin.«object.__new__» := entryFor_of_tree (by kernel_rfl)
theorem madeHere_object : Bind.madeHere "object.__new__" (.type "object") = pure () := by
  unfold Bind.madeHere
  have e : Bind.staticBase (.type "object") = pure (.type "object") := by first | rfl | kernel_rfl
  rw [e]
  simp only [pure_bind, tc_object.made]
  first | rfl | kernel_rfl | (simp; rfl)
theorem isType_object : isType (.type "object") = pure true := by kernel_rfl
theorem hasDict_object : typeHasDict (.type "object") = false := by decide +kernel
theorem refuse_object : (Option.elim (Manifest.find? "object") false fun x => List.any (Manifest.BuiltinType.mro x) fun t => Option.elim (Manifest.find? t) false fun x => Manifest.BuiltinType.noNew x) = false := by decide +kernel
theorem object_new_meets : Meets (Builtin.«object.__new__» ⟨[.type "object"], []⟩) (fun _ R s => R (.ok (.ret (.ref s.heap.objs.size))) { s with heap := s.heap.push { cls := .type "object" } }) := by
  refine Meets.of_wp fun prog w A R s hs => ?_
  unfold Builtin.«object.__new__»
  dsimp only
  refine wpAny_bind (wpAny_of_eq isType_object ?_)
  rw [if_neg (by decide)]
  rw [refuse_object, if_neg (by decide)]
  refine wpAny_bind (wpAny_of_eq madeHere_object ?_)
  rw [if_neg (by decide)]
  rw [hasDict_object, if_neg (by decide)]
  refine wpAny_bind (wpAny_pure ?_)
  refine wpAny_bind (wpAny_newObj_type (T := "object") (data := .plain) (dict := none) ?_ (by trivial))
  rw [if_neg (by decide +kernel)]
  exact wpAny_pure ⟨_, rfl, hs⟩
theorem typeCall_object : checkTypeCall "object" ⟨[], []⟩ = pure () := by kernel_rfl
theorem newCall_object : checkBuiltinCall "object.__new__" ⟨[.type "object"], []⟩ = pure () := by kernel_rfl
theorem args_object_init_1 (a : Value) : argsOk "object.__init__" ⟨[a], []⟩ := by unfold argsOk; kernel_rfl
theorem object_init_meets1 (self : Value) : Meets (Builtin.«object.__init__» ⟨[self], []⟩) (fun _ R s => R (.ok (.ret .none)) s) :=
  Meets.of_wp fun prog w A R s hs => wpAny_pure ⟨_, rfl, hs⟩
theorem call_object {prog : Program} {w : World} {A : Around} {E : Value → Shared → Prop} {s : Shared} {Q : Value → Shared → Prop} (h : Q (.ref s.heap.objs.size) { s with heap := s.heap.push { cls := .type "object" } }) :
    wpAny (model prog w) A (call (.type "object") []) Q E s := by
  refine callType_meets (Q₁ := fun obj s₁ => obj = .ref s.heap.objs.size ∧ s₁ = { s with heap := s.heap.push { cls := .type "object" } }) tc_object typeCall_object newCall_object entry_object_new F.entry_object_init object_new_meets ⟨rfl, rfl⟩ ?_
  rintro obj s₁ ⟨rfl, rfl⟩
  exact ⟨⟨_, Heap.get?_push_size _ rfl, rfl⟩, args_object_init_1 _, _, object_init_meets1 _, rfl, h⟩
end B
section
variable {prog : Program} {w : World} {A : Around} {E : Value → Shared → Prop} {s : Shared} {h₀ : Heap} {L : Addr} {m : Str → Option Value} {news : List (Addr × Obj)}
theorem call_object_K {Q : Value → Shared → Prop} (F : Fr h₀ L s.heap m) (N : News h₀ L s.heap news)
    (h : ∀ l h', Fr h₀ L h' m → News h₀ L h' ((l, { cls := .type "object" }) :: news) → Q (.ref l) { s with heap := h' }) : wpAny (model prog w) A (call (.type "object") []) Q E s :=
  B.call_object (h _ _ (F.push _) (N.push F _))
end
end -- RxObj

section -- RxSign
open PySem PySem.W PyProof.Rows PySem.Calls
set_option maxHeartbeats 4000000


theorem sign_menu (k : Int) (h0 : 0 ≤ k) (h1 : k < 16) : ∃ c, SignOk c ∧ Txt.item (Str.ofString "&<>\"\r\n\tbc.[|\\(^-") k = ⟨#[c]⟩ := by
  have hk : k.toNat < 16 := by omega
  refine ⟨(Str.ofString "&<>\"\r\n\tbc.[|\\(^-").cps.getD k.toNat 0, ?_, item_meets ⟨h0, ?_⟩⟩
  · have : ∀ j : Fin 16, (Str.ofString "&<>\"\r\n\tbc.[|\\(^-").cps.getD j.val 0 ∉ badL := by decide +kernel
    exact this ⟨k.toNat, hk⟩
  · have : (Str.ofString "&<>\"\r\n\tbc.[|\\(^-").length = 16 := by decide +kernel
    rw [this]; exact h1

theorem sign_chr {c : Nat} (h : (Builtin.Str.occurrences (Str.ofString "*?]#;0139ADaglmopqtux") ⟨#[c]⟩ 0 (Str.ofString "*?]#;0139ADaglmopqtux").length 1).isEmpty = true) : SignOk c := by
  have := isEmpty_occ h
  have e : (Str.ofString "*?]#;0139ADaglmopqtux").cps.toList = badL := by decide +kernel
  rw [e] at this
  simpa [SignOk] using this

theorem zE : Str.ofString "z" = ⟨#[122]⟩ := by decide +kernel
theorem z_ok : SignOk 122 := by unfold SignOk; decide

section
variable {w : World} {A : Around} {s : Shared} {mg mb : Str → Option Value} {loose : List Str} {mean : ExcName → Option Value}

theorem c_sign {n : Int} {u : Tok} {E : Value → Shared → Prop} {Q : Value → Shared → Prop} (X : (heapK w.params).In s.heap) (T : Top vw loose mean mg mb s.heap)
   (hr : A.depth < recursionLimit) (hn : 0 ≤ n) (hn2 : n < 1000000000)
   (h : ∀ h' tk c t, SignOk c → Grows s.heap h' → Q (.str ⟨#[c]⟩ t) { s with heap := h', toks := tk }) :
   wpAny (model PP w) A (call (.ref 118) [.int n u]) Q E s := by
  refine enter [("n", .int n u)] X T (by k_is) (by k_is) hr rfl (locs (by rfl)) (fun L h₁ F N => ?_) rfl rfl rfl (by decide)
  repeat' (first | walk1 | (dsimp only; walk1))
  · obtain ⟨c, hc, e⟩ := sign_menu (Int.fmod (Int.fdiv n 2) 16) (Int.fmod_nonneg_of_pos _ (by decide)) (Int.fmod_lt_of_pos _ (by decide))
    dsimp only
    rw [e]
    exact h _ _ _ _ hc F.keep
  all_goals dsimp only
  all_goals first
    | exact h _ _ _ _ (sign_chr (by assumption)) (Fr.keep (by assumption))
    | (rw [zE]; exact h _ _ _ _ z_ok (Fr.keep (by assumption)))
   
end
end -- RxSign

section -- RxWr
open PySem PySem.W PyProof.Rows PySem.Calls
open PySem
def repl (c : Nat) (z x : List Nat) : List Nat := x.flatMap fun k => if k = c then z else [k]

theorem repl_free {c : Nat} {z : List Nat} : ∀ {x : List Nat}, c ∉ x → repl c z x = x
  | [], _ => rfl
  | k :: r, h => by
    simp only [List.mem_cons, not_or] at h
    have ih : repl c z r = r := repl_free h.2
    unfold repl at ih ⊢
    rw [List.flatMap_cons, if_neg (Ne.symm h.1), ih]; rfl

theorem join_repl (c : Nat) (z : List Nat) : ∀ parts : List Str, (∀ p ∈ parts, c ∉ p.cps.toList) → repl c z (Str.join ⟨#[c]⟩ parts).cps.toList = (Str.join (Tx z) parts).cps.toList
  | [], _ => rfl
  | [x], h => repl_free (h x (.head _))
  | x :: y :: r, h => by
    have ih := join_repl c z (y :: r) fun p hp => h p (.tail _ hp)
    show repl c z (x ++ ⟨#[c]⟩ ++ Str.join ⟨#[c]⟩ (y :: r)).cps.toList = (x ++ Tx z ++ Str.join (Tx z) (y :: r)).cps.toList
    have e : ∀ a b d : Str, (a ++ b ++ d).cps.toList = a.cps.toList ++ b.cps.toList ++ d.cps.toList := fun a b d => by simp [Str.cps_append]
    rw [e, e, ← ih]
    have hx := repl_free (z := z) (h x (.head _))
    unfold repl at hx ⊢
    rw [List.flatMap_append, List.flatMap_append, hx]
    simp

theorem replace_repl (x z : List Nat) (c : Nat) : Txt.replace (Tx x) ⟨#[c]⟩ (Tx z) = Tx (repl c z x) := by
  have h1 := StrLaws.replace_one (Tx x) (Tx z) c
  have h2 := join_repl c z _ (StrLaws.split_free (Tx x) c)
  have h3 := StrLaws.replace_one (Tx x) ⟨#[c]⟩ c
  rw [Txt.replace_self] at h3
  rw [← h3] at h2
  rw [h1]
  apply Str.ext'
  show _ = (repl c z x).toArray
  rw [← Array.toList_inj]
  simpa using h2.symm

section
variable {prog : Program} {w : World} {A : Around} {E : Value → Shared → Prop} {s : Shared} {cn : Str} {cs : Scope} {L a : Addr} {cd : Value} {h₀ : Heap} {m : Str → Option Value} {news : List (Addr × Obj)}

theorem if_replace {cS zS : Str} {x z : List Nat} {c : Nat} {t : Tok} {pl : Sem Bool} {k1 k2 k3 : Nat} {p1 p2 p3 p4 p5 p6 p7 p8 p9 p10 p11 : Pos} {Q : Flow → Shared → Prop}
    (F : Fr h₀ L s.heap m) (N : News h₀ L s.heap news) (hm : m "text" = some (.str (Tx x) t)) (htk : 1 ≤ s.toks) (hc : cS = ⟨#[c]⟩) (hz : zS = Tx z) (hzl : z.length ≤ 10) (hzn : z.length ≠ 1) (hx : x.length ≤ 1500000)
    (h : ∀ h' tk t', 1 ≤ tk → Fr h₀ L h' (fun y => if y = "text" then some (.str (Tx (repl c z x)) t') else m y) → News h₀ L h' news → Q .next { s with heap := h', toks := tk })
    (hk : cs.kind = .function := by rfl) (hl : (envOf cn cs L a cd).kindOf "text" = some .local := by rfl)
    (hb : behindInMarks .In (.Name "text" p2) = false := by with_unfolding_all rfl)
    (hs : swapsWith (.Call (.Attribute (.Name "text" p5) "replace" p6) [.Constant (.str cS) k2 p7, .Constant (.str zS) k3 p8] [] p9) (some (.Name "text" p4)) p10.line (envOf cn cs L a cd) = pure false := by rfl)
    (he : eval (.Call (.Attribute (.Name "text" p5) "replace" p6) [.Constant (.str cS) k2 p7, .Constant (.str zS) k3 p8] [] p9) (envOf cn cs L a cd) = (do
      let ov ← eval (.Name "text" p5) (envOf cn cs L a cd)
      standAt p6.atName
      let (f, first) ← holding [ov] (getMethod ov "replace" pl)
      callWith p9 f first (backTo p9 (starEach [.Constant (.str cS) k2 p7, .Constant (.str zS) k3 p8] (envOf cn cs L a cd))) []) := by rfl) :
    wpAny (model prog w) A (exec (.If (.Compare (.Constant (.str cS) k1 p1) [.In] [.Name "text" p2] p3)
      [.Assign [.Name "text" p4] (.Call (.Attribute (.Name "text" p5) "replace" p6) [.Constant (.str cS) k2 p7, .Constant (.str zS) k3 p8] [] p9) p10] [] p11) (envOf cn cs L a cd)) Q E s := by
  subst hc hz
  refine wpAny_If (wpAny_isTrue_Compare1 (wpAny_Constant_str (ld (s := { s with toks := s.toks + 1 }) F hm (in_str (wpAny_truthy_bool ?_)) hk hl)) hb)
  rw [StrLaws.found_one]
  by_cases hcx : c ∈ (Tx x).cps.toList
  · rw [decide_eq_true hcx, if_pos rfl]
    refine wpAny_execs_cons (wpAny_Assign_Name ?_ hs)
    refine MethodCall_ (pl := pl) (ld (s := { s with toks := s.toks + 1 }) F hm (GM.replace ?_) hk hl) he
    refine callWith_method1 (args_cons (wpAny_Constant_str (args_cons (wpAny_Constant_str (args_nil ?_)))))
    refine wpAny_mono (wpAny_toks_of (n := 1) (Q := fun v s' => ∃ t' k, v = Value.str (Tx (repl c z x)) t' ∧ s' = { s with toks := k }) ?_
      (SC.replace (t := t) (show s.toks + 1 ≠ 0 by omega) (show s.toks + 1 + 1 ≠ 0 by omega) (show s.toks + 1 ≠ s.toks + 1 + 1 by omega) ?_ ?_ fun t' k => ⟨t', k, by rw [replace_repl], rfl⟩)) ?_ fun _ _ e => e.2
    · show 1 ≤ s.toks + 1 + 1 + 1; omega
    · refine beq_eq_false_iff_ne.mpr fun q => hzn ?_
      have := congrArg (fun y : Str => y.length) q
      simpa [Str.length] using this.symm
    · have e1 : (Tx x).length = x.length := by simp [Str.length]
      have e2 : (Tx z).length = z.length := by simp [Str.length]
      rw [e1, e2]
      have : (x.length + 1) * z.length ≤ (x.length + 1) * 10 := Nat.mul_le_mul_left _ hzl
      omega
    · rintro v s' ⟨h1, t', k, rfl, rfl⟩
      refine stN (s := { s with toks := k }) F N (fun h' F' N' => ?_) hk hl
      exact wpAny_execs_nil (h h' (k + 1) t' (by omega) F' N')
  · rw [decide_eq_false hcx, if_neg Bool.false_ne_true]
    have hf : repl c z x = x := repl_free (by simpa using hcx)
    rw [hf] at h
    refine wpAny_execs_nil (h _ _ t (by show 1 ≤ s.toks + 1; omega) ?_ N)
    have e : (fun y : Str => if y = ("text" : Str) then some (Value.str (Tx x) t) else m y) = m := by
      funext y
      by_cases hy : y = "text"
      · rw [if_pos hy, hy, hm]
      · rw [if_neg hy]
    rw [e]; exact F
end

theorem repl_length {c : Nat} {z : List Nat} (hz : z.length ≤ 6) : ∀ x : List Nat, (repl c z x).length ≤ 6 * x.length
  | [] => by simp [repl]
  | k :: r => by
    have ih := repl_length (c := c) hz r
    unfold repl at ih ⊢
    rw [List.flatMap_cons, List.length_append, List.length_cons]
    have : (if k = c then z else [k]).length ≤ 6 := by split; omega; simp
    omega
theorem repl_flat (c : Nat) (z : List Nat) (f : Nat → List Nat) (x : List Nat) : repl c z (x.flatMap f) = x.flatMap fun k => repl c z (f k) := by
  unfold repl; exact List.flatMap_assoc

/-- how the escape number w spells a sign -/
def spC (w k : Nat) : List Nat :=
  if k = 38 then [38, 97, 109, 112, 59]
  else if k = 60 then (if w = 2 then [60] else [38, 108, 116, 59])
  else if k = 62 then (if w = 4 then [62] else [38, 103, 116, 59])
  else if k = 34 then (if w = 0 ∨ w = 3 then [34] else [38, 113, 117, 111, 116, 59])
  else if k = 13 then (if w = 1 then [38, 35, 49, 51, 59] else if w = 3 ∨ w = 4 then [38, 35, 120, 68, 59] else [13])
  else if k = 10 then (if w = 1 then [38, 35, 49, 48, 59] else if w = 4 then [38, 35, 120, 65, 59] else [10])
  else if k = 9 then (if w = 1 then [38, 35, 48, 57, 59] else if w = 4 then [38, 35, 120, 57, 59] else [9])
  else [k]

theorem sp_0 (x : List Nat) : repl 62 [38, 103, 116, 59] (repl 60 [38, 108, 116, 59] (repl 38 [38, 97, 109, 112, 59] (x))) = x.flatMap (spC 0) := by
  have h1 : ∀ k, repl 62 [38, 103, 116, 59] (repl 60 [38, 108, 116, 59] (repl 38 [38, 97, 109, 112, 59] ([k]))) = spC 0 k := fun k => by
    by_cases a1 : k = 38
    · subst a1; decide
    by_cases a2 : k = 60
    · subst a2; decide
    by_cases a3 : k = 62
    · subst a3; decide
    by_cases a4 : k = 34
    · subst a4; decide
    by_cases a5 : k = 13
    · subst a5; decide
    by_cases a6 : k = 10
    · subst a6; decide
    by_cases a7 : k = 9
    · subst a7; decide
    simp [repl, spC, a1, a2, a3, a4, a5, a6, a7]
  have h2 : x = x.flatMap fun k => [k] := by simp
  conv => lhs; rw [h2]
  simp only [repl_flat]
  exact congrArg (fun f => x.flatMap f) (funext h1)

theorem sp_1 (x : List Nat) : repl 9 [38, 35, 48, 57, 59] (repl 10 [38, 35, 49, 48, 59] (repl 13 [38, 35, 49, 51, 59] (repl 34 [38, 113, 117, 111, 116, 59] (repl 62 [38, 103, 116, 59] (repl 60 [38, 108, 116, 59] (repl 38 [38, 97, 109, 112, 59] (x))))))) = x.flatMap (spC 1) := by
  have h1 : ∀ k, repl 9 [38, 35, 48, 57, 59] (repl 10 [38, 35, 49, 48, 59] (repl 13 [38, 35, 49, 51, 59] (repl 34 [38, 113, 117, 111, 116, 59] (repl 62 [38, 103, 116, 59] (repl 60 [38, 108, 116, 59] (repl 38 [38, 97, 109, 112, 59] ([k]))))))) = spC 1 k := fun k => by
    by_cases a1 : k = 38
    · subst a1; decide
    by_cases a2 : k = 60
    · subst a2; decide
    by_cases a3 : k = 62
    · subst a3; decide
    by_cases a4 : k = 34
    · subst a4; decide
    by_cases a5 : k = 13
    · subst a5; decide
    by_cases a6 : k = 10
    · subst a6; decide
    by_cases a7 : k = 9
    · subst a7; decide
    simp [repl, spC, a1, a2, a3, a4, a5, a6, a7]
  have h2 : x = x.flatMap fun k => [k] := by simp
  conv => lhs; rw [h2]
  simp only [repl_flat]
  exact congrArg (fun f => x.flatMap f) (funext h1)

theorem sp_2 (x : List Nat) : repl 34 [38, 113, 117, 111, 116, 59] (repl 62 [38, 103, 116, 59] (repl 38 [38, 97, 109, 112, 59] (x))) = x.flatMap (spC 2) := by
  have h1 : ∀ k, repl 34 [38, 113, 117, 111, 116, 59] (repl 62 [38, 103, 116, 59] (repl 38 [38, 97, 109, 112, 59] ([k]))) = spC 2 k := fun k => by
    by_cases a1 : k = 38
    · subst a1; decide
    by_cases a2 : k = 60
    · subst a2; decide
    by_cases a3 : k = 62
    · subst a3; decide
    by_cases a4 : k = 34
    · subst a4; decide
    by_cases a5 : k = 13
    · subst a5; decide
    by_cases a6 : k = 10
    · subst a6; decide
    by_cases a7 : k = 9
    · subst a7; decide
    simp [repl, spC, a1, a2, a3, a4, a5, a6, a7]
  have h2 : x = x.flatMap fun k => [k] := by simp
  conv => lhs; rw [h2]
  simp only [repl_flat]
  exact congrArg (fun f => x.flatMap f) (funext h1)

theorem sp_3 (x : List Nat) : repl 13 [38, 35, 120, 68, 59] (repl 62 [38, 103, 116, 59] (repl 60 [38, 108, 116, 59] (repl 38 [38, 97, 109, 112, 59] (x)))) = x.flatMap (spC 3) := by
  have h1 : ∀ k, repl 13 [38, 35, 120, 68, 59] (repl 62 [38, 103, 116, 59] (repl 60 [38, 108, 116, 59] (repl 38 [38, 97, 109, 112, 59] ([k])))) = spC 3 k := fun k => by
    by_cases a1 : k = 38
    · subst a1; decide
    by_cases a2 : k = 60
    · subst a2; decide
    by_cases a3 : k = 62
    · subst a3; decide
    by_cases a4 : k = 34
    · subst a4; decide
    by_cases a5 : k = 13
    · subst a5; decide
    by_cases a6 : k = 10
    · subst a6; decide
    by_cases a7 : k = 9
    · subst a7; decide
    simp [repl, spC, a1, a2, a3, a4, a5, a6, a7]
  have h2 : x = x.flatMap fun k => [k] := by simp
  conv => lhs; rw [h2]
  simp only [repl_flat]
  exact congrArg (fun f => x.flatMap f) (funext h1)

theorem sp_4 (x : List Nat) : repl 13 [38, 35, 120, 68, 59] (repl 10 [38, 35, 120, 65, 59] (repl 9 [38, 35, 120, 57, 59] (repl 34 [38, 113, 117, 111, 116, 59] (repl 60 [38, 108, 116, 59] (repl 38 [38, 97, 109, 112, 59] (x)))))) = x.flatMap (spC 4) := by
  have h1 : ∀ k, repl 13 [38, 35, 120, 68, 59] (repl 10 [38, 35, 120, 65, 59] (repl 9 [38, 35, 120, 57, 59] (repl 34 [38, 113, 117, 111, 116, 59] (repl 60 [38, 108, 116, 59] (repl 38 [38, 97, 109, 112, 59] ([k])))))) = spC 4 k := fun k => by
    by_cases a1 : k = 38
    · subst a1; decide
    by_cases a2 : k = 60
    · subst a2; decide
    by_cases a3 : k = 62
    · subst a3; decide
    by_cases a4 : k = 34
    · subst a4; decide
    by_cases a5 : k = 13
    · subst a5; decide
    by_cases a6 : k = 10
    · subst a6; decide
    by_cases a7 : k = 9
    · subst a7; decide
    simp [repl, spC, a1, a2, a3, a4, a5, a6, a7]
  have h2 : x = x.flatMap fun k => [k] := by simp
  conv => lhs; rw [h2]
  simp only [repl_flat]
  exact congrArg (fun f => x.flatMap f) (funext h1)

section
variable {w : World} {A : Around} {s : Shared} {mg mb : Str → Option Value} {loose : List Str} {mean : ExcName → Option Value} {x : List Nat} {u : Tok} {E : Value → Shared → Prop} {Q : Value → Shared → Prop}

theorem c_esc0 (X : (heapK w.params).In s.heap) (T : Top vw loose mean mg mb s.heap)
   (hr : A.depth < recursionLimit) (hx : x.length ≤ 7)
   (h : ∀ h' tk t, Grows s.heap h' → Q (.str (Tx (x.flatMap (spC 0))) t) { s with heap := h', toks := tk }) :
   wpAny (model PP w) A (call (.ref 83) [.str (Tx x) u]) Q E s := by
  refine enter [("text", .str (Tx x) u)] X T (by k_is) (by k_is) hr rfl (locs (by rfl)) (fun L h₁ F N => ?_) rfl rfl rfl (by decide)
  refine wpAny_execs_cons (wpAny_Try_except ?_)
  refine wpAny_execs_cons (if_replace (c := 38) (z := [38, 97, 109, 112, 59]) (x := x) F N rfl (show 1 ≤ s.toks + 1 by omega) (by decide) (by decide) (by decide) (by decide) (by omega) fun h0 tk0 t0 k0 F0 N0 => ?_)
  dsimp only
  refine wpAny_execs_cons (if_replace (c := 60) (z := [38, 108, 116, 59]) (x := (repl 38 [38, 97, 109, 112, 59] x)) F0 N0 rfl k0 (by decide) (by decide) (by decide) (by decide) (by have := repl_length (c := 38) (z := [38, 97, 109, 112, 59]) (by decide) x; omega) fun h1 tk1 t1 k1 F1 N1 => ?_)
  dsimp only
  refine wpAny_execs_cons (if_replace (c := 62) (z := [38, 103, 116, 59]) (x := (repl 60 [38, 108, 116, 59] (repl 38 [38, 97, 109, 112, 59] x))) F1 N1 rfl k1 (by decide) (by decide) (by decide) (by decide) (by have := repl_length (c := 38) (z := [38, 97, 109, 112, 59]) (by decide) x; have := repl_length (c := 60) (z := [38, 108, 116, 59]) (by decide) (repl 38 [38, 97, 109, 112, 59] x); omega) fun h2 tk2 t2 k2 F2 N2 => ?_)
  dsimp only
  refine wpAny_execs_cons (wpAny_Return_some (ld F2 rfl ?_))
  dsimp only
  rw [sp_0]
  exact h _ _ _ F2.keep

theorem c_esc1 (X : (heapK w.params).In s.heap) (T : Top vw loose mean mg mb s.heap)
   (hr : A.depth < recursionLimit) (hx : x.length ≤ 7)
   (h : ∀ h' tk t, Grows s.heap h' → Q (.str (Tx (x.flatMap (spC 1))) t) { s with heap := h', toks := tk }) :
   wpAny (model PP w) A (call (.ref 90) [.str (Tx x) u]) Q E s := by
  refine enter [("text", .str (Tx x) u)] X T (by k_is) (by k_is) hr rfl (locs (by rfl)) (fun L h₁ F N => ?_) rfl rfl rfl (by decide)
  refine wpAny_execs_cons (wpAny_Try_except ?_)
  refine wpAny_execs_cons (if_replace (c := 38) (z := [38, 97, 109, 112, 59]) (x := x) F N rfl (show 1 ≤ s.toks + 1 by omega) (by decide) (by decide) (by decide) (by decide) (by omega) fun h0 tk0 t0 k0 F0 N0 => ?_)
  dsimp only
  refine wpAny_execs_cons (if_replace (c := 60) (z := [38, 108, 116, 59]) (x := (repl 38 [38, 97, 109, 112, 59] x)) F0 N0 rfl k0 (by decide) (by decide) (by decide) (by decide) (by have := repl_length (c := 38) (z := [38, 97, 109, 112, 59]) (by decide) x; omega) fun h1 tk1 t1 k1 F1 N1 => ?_)
  dsimp only
  refine wpAny_execs_cons (if_replace (c := 62) (z := [38, 103, 116, 59]) (x := (repl 60 [38, 108, 116, 59] (repl 38 [38, 97, 109, 112, 59] x))) F1 N1 rfl k1 (by decide) (by decide) (by decide) (by decide) (by have := repl_length (c := 38) (z := [38, 97, 109, 112, 59]) (by decide) x; have := repl_length (c := 60) (z := [38, 108, 116, 59]) (by decide) (repl 38 [38, 97, 109, 112, 59] x); omega) fun h2 tk2 t2 k2 F2 N2 => ?_)
  dsimp only
  refine wpAny_execs_cons (if_replace (c := 34) (z := [38, 113, 117, 111, 116, 59]) (x := (repl 62 [38, 103, 116, 59] (repl 60 [38, 108, 116, 59] (repl 38 [38, 97, 109, 112, 59] x)))) F2 N2 rfl k2 (by decide) (by decide) (by decide) (by decide) (by have := repl_length (c := 38) (z := [38, 97, 109, 112, 59]) (by decide) x; have := repl_length (c := 60) (z := [38, 108, 116, 59]) (by decide) (repl 38 [38, 97, 109, 112, 59] x); have := repl_length (c := 62) (z := [38, 103, 116, 59]) (by decide) (repl 60 [38, 108, 116, 59] (repl 38 [38, 97, 109, 112, 59] x)); omega) fun h3 tk3 t3 k3 F3 N3 => ?_)
  dsimp only
  refine wpAny_execs_cons (if_replace (c := 13) (z := [38, 35, 49, 51, 59]) (x := (repl 34 [38, 113, 117, 111, 116, 59] (repl 62 [38, 103, 116, 59] (repl 60 [38, 108, 116, 59] (repl 38 [38, 97, 109, 112, 59] x))))) F3 N3 rfl k3 (by decide) (by decide) (by decide) (by decide) (by have := repl_length (c := 38) (z := [38, 97, 109, 112, 59]) (by decide) x; have := repl_length (c := 60) (z := [38, 108, 116, 59]) (by decide) (repl 38 [38, 97, 109, 112, 59] x); have := repl_length (c := 62) (z := [38, 103, 116, 59]) (by decide) (repl 60 [38, 108, 116, 59] (repl 38 [38, 97, 109, 112, 59] x)); have := repl_length (c := 34) (z := [38, 113, 117, 111, 116, 59]) (by decide) (repl 62 [38, 103, 116, 59] (repl 60 [38, 108, 116, 59] (repl 38 [38, 97, 109, 112, 59] x))); omega) fun h4 tk4 t4 k4 F4 N4 => ?_)
  dsimp only
  refine wpAny_execs_cons (if_replace (c := 10) (z := [38, 35, 49, 48, 59]) (x := (repl 13 [38, 35, 49, 51, 59] (repl 34 [38, 113, 117, 111, 116, 59] (repl 62 [38, 103, 116, 59] (repl 60 [38, 108, 116, 59] (repl 38 [38, 97, 109, 112, 59] x)))))) F4 N4 rfl k4 (by decide) (by decide) (by decide) (by decide) (by have := repl_length (c := 38) (z := [38, 97, 109, 112, 59]) (by decide) x; have := repl_length (c := 60) (z := [38, 108, 116, 59]) (by decide) (repl 38 [38, 97, 109, 112, 59] x); have := repl_length (c := 62) (z := [38, 103, 116, 59]) (by decide) (repl 60 [38, 108, 116, 59] (repl 38 [38, 97, 109, 112, 59] x)); have := repl_length (c := 34) (z := [38, 113, 117, 111, 116, 59]) (by decide) (repl 62 [38, 103, 116, 59] (repl 60 [38, 108, 116, 59] (repl 38 [38, 97, 109, 112, 59] x))); have := repl_length (c := 13) (z := [38, 35, 49, 51, 59]) (by decide) (repl 34 [38, 113, 117, 111, 116, 59] (repl 62 [38, 103, 116, 59] (repl 60 [38, 108, 116, 59] (repl 38 [38, 97, 109, 112, 59] x)))); omega) fun h5 tk5 t5 k5 F5 N5 => ?_)
  dsimp only
  refine wpAny_execs_cons (if_replace (c := 9) (z := [38, 35, 48, 57, 59]) (x := (repl 10 [38, 35, 49, 48, 59] (repl 13 [38, 35, 49, 51, 59] (repl 34 [38, 113, 117, 111, 116, 59] (repl 62 [38, 103, 116, 59] (repl 60 [38, 108, 116, 59] (repl 38 [38, 97, 109, 112, 59] x))))))) F5 N5 rfl k5 (by decide) (by decide) (by decide) (by decide) (by have := repl_length (c := 38) (z := [38, 97, 109, 112, 59]) (by decide) x; have := repl_length (c := 60) (z := [38, 108, 116, 59]) (by decide) (repl 38 [38, 97, 109, 112, 59] x); have := repl_length (c := 62) (z := [38, 103, 116, 59]) (by decide) (repl 60 [38, 108, 116, 59] (repl 38 [38, 97, 109, 112, 59] x)); have := repl_length (c := 34) (z := [38, 113, 117, 111, 116, 59]) (by decide) (repl 62 [38, 103, 116, 59] (repl 60 [38, 108, 116, 59] (repl 38 [38, 97, 109, 112, 59] x))); have := repl_length (c := 13) (z := [38, 35, 49, 51, 59]) (by decide) (repl 34 [38, 113, 117, 111, 116, 59] (repl 62 [38, 103, 116, 59] (repl 60 [38, 108, 116, 59] (repl 38 [38, 97, 109, 112, 59] x)))); have := repl_length (c := 10) (z := [38, 35, 49, 48, 59]) (by decide) (repl 13 [38, 35, 49, 51, 59] (repl 34 [38, 113, 117, 111, 116, 59] (repl 62 [38, 103, 116, 59] (repl 60 [38, 108, 116, 59] (repl 38 [38, 97, 109, 112, 59] x))))); omega) fun h6 tk6 t6 k6 F6 N6 => ?_)
  dsimp only
  refine wpAny_execs_cons (wpAny_Return_some (ld F6 rfl ?_))
  dsimp only
  rw [sp_1]
  exact h _ _ _ F6.keep

theorem c_esc2 (X : (heapK w.params).In s.heap) (T : Top vw loose mean mg mb s.heap)
   (hr : A.depth < recursionLimit) (hx : x.length ≤ 7)
   (h : ∀ h' tk t, Grows s.heap h' → Q (.str (Tx (x.flatMap (spC 2))) t) { s with heap := h', toks := tk }) :
   wpAny (model PP w) A (call (.ref 97) [.str (Tx x) u]) Q E s := by
  refine enter [("text", .str (Tx x) u)] X T (by k_is) (by k_is) hr rfl (locs (by rfl)) (fun L h₁ F N => ?_) rfl rfl rfl (by decide)
  refine wpAny_execs_cons (wpAny_Try_except ?_)
  refine wpAny_execs_cons (if_replace (c := 38) (z := [38, 97, 109, 112, 59]) (x := x) F N rfl (show 1 ≤ s.toks + 1 by omega) (by decide) (by decide) (by decide) (by decide) (by omega) fun h0 tk0 t0 k0 F0 N0 => ?_)
  dsimp only
  refine wpAny_execs_cons (if_replace (c := 62) (z := [38, 103, 116, 59]) (x := (repl 38 [38, 97, 109, 112, 59] x)) F0 N0 rfl k0 (by decide) (by decide) (by decide) (by decide) (by have := repl_length (c := 38) (z := [38, 97, 109, 112, 59]) (by decide) x; omega) fun h1 tk1 t1 k1 F1 N1 => ?_)
  dsimp only
  refine wpAny_execs_cons (if_replace (c := 34) (z := [38, 113, 117, 111, 116, 59]) (x := (repl 62 [38, 103, 116, 59] (repl 38 [38, 97, 109, 112, 59] x))) F1 N1 rfl k1 (by decide) (by decide) (by decide) (by decide) (by have := repl_length (c := 38) (z := [38, 97, 109, 112, 59]) (by decide) x; have := repl_length (c := 62) (z := [38, 103, 116, 59]) (by decide) (repl 38 [38, 97, 109, 112, 59] x); omega) fun h2 tk2 t2 k2 F2 N2 => ?_)
  dsimp only
  refine wpAny_execs_cons (wpAny_Return_some (ld F2 rfl ?_))
  dsimp only
  rw [sp_2]
  exact h _ _ _ F2.keep

theorem c_esc3 (X : (heapK w.params).In s.heap) (T : Top vw loose mean mg mb s.heap)
   (hr : A.depth < recursionLimit) (hx : x.length ≤ 7)
   (h : ∀ h' tk t, Grows s.heap h' → Q (.str (Tx (x.flatMap (spC 3))) t) { s with heap := h', toks := tk }) :
   wpAny (model PP w) A (call (.ref 104) [.str (Tx x) u]) Q E s := by
  refine enter [("text", .str (Tx x) u)] X T (by k_is) (by k_is) hr rfl (locs (by rfl)) (fun L h₁ F N => ?_) rfl rfl rfl (by decide)
  refine wpAny_execs_cons (wpAny_Try_except ?_)
  refine wpAny_execs_cons (if_replace (c := 38) (z := [38, 97, 109, 112, 59]) (x := x) F N rfl (show 1 ≤ s.toks + 1 by omega) (by decide) (by decide) (by decide) (by decide) (by omega) fun h0 tk0 t0 k0 F0 N0 => ?_)
  dsimp only
  refine wpAny_execs_cons (if_replace (c := 60) (z := [38, 108, 116, 59]) (x := (repl 38 [38, 97, 109, 112, 59] x)) F0 N0 rfl k0 (by decide) (by decide) (by decide) (by decide) (by have := repl_length (c := 38) (z := [38, 97, 109, 112, 59]) (by decide) x; omega) fun h1 tk1 t1 k1 F1 N1 => ?_)
  dsimp only
  refine wpAny_execs_cons (if_replace (c := 62) (z := [38, 103, 116, 59]) (x := (repl 60 [38, 108, 116, 59] (repl 38 [38, 97, 109, 112, 59] x))) F1 N1 rfl k1 (by decide) (by decide) (by decide) (by decide) (by have := repl_length (c := 38) (z := [38, 97, 109, 112, 59]) (by decide) x; have := repl_length (c := 60) (z := [38, 108, 116, 59]) (by decide) (repl 38 [38, 97, 109, 112, 59] x); omega) fun h2 tk2 t2 k2 F2 N2 => ?_)
  dsimp only
  refine wpAny_execs_cons (if_replace (c := 13) (z := [38, 35, 120, 68, 59]) (x := (repl 62 [38, 103, 116, 59] (repl 60 [38, 108, 116, 59] (repl 38 [38, 97, 109, 112, 59] x)))) F2 N2 rfl k2 (by decide) (by decide) (by decide) (by decide) (by have := repl_length (c := 38) (z := [38, 97, 109, 112, 59]) (by decide) x; have := repl_length (c := 60) (z := [38, 108, 116, 59]) (by decide) (repl 38 [38, 97, 109, 112, 59] x); have := repl_length (c := 62) (z := [38, 103, 116, 59]) (by decide) (repl 60 [38, 108, 116, 59] (repl 38 [38, 97, 109, 112, 59] x)); omega) fun h3 tk3 t3 k3 F3 N3 => ?_)
  dsimp only
  refine wpAny_execs_cons (wpAny_Return_some (ld F3 rfl ?_))
  dsimp only
  rw [sp_3]
  exact h _ _ _ F3.keep

theorem c_esc4 (X : (heapK w.params).In s.heap) (T : Top vw loose mean mg mb s.heap)
   (hr : A.depth < recursionLimit) (hx : x.length ≤ 7)
   (h : ∀ h' tk t, Grows s.heap h' → Q (.str (Tx (x.flatMap (spC 4))) t) { s with heap := h', toks := tk }) :
   wpAny (model PP w) A (call (.ref 111) [.str (Tx x) u]) Q E s := by
  refine enter [("text", .str (Tx x) u)] X T (by k_is) (by k_is) hr rfl (locs (by rfl)) (fun L h₁ F N => ?_) rfl rfl rfl (by decide)
  refine wpAny_execs_cons (wpAny_Try_except ?_)
  refine wpAny_execs_cons (if_replace (c := 38) (z := [38, 97, 109, 112, 59]) (x := x) F N rfl (show 1 ≤ s.toks + 1 by omega) (by decide) (by decide) (by decide) (by decide) (by omega) fun h0 tk0 t0 k0 F0 N0 => ?_)
  dsimp only
  refine wpAny_execs_cons (if_replace (c := 60) (z := [38, 108, 116, 59]) (x := (repl 38 [38, 97, 109, 112, 59] x)) F0 N0 rfl k0 (by decide) (by decide) (by decide) (by decide) (by have := repl_length (c := 38) (z := [38, 97, 109, 112, 59]) (by decide) x; omega) fun h1 tk1 t1 k1 F1 N1 => ?_)
  dsimp only
  refine wpAny_execs_cons (if_replace (c := 34) (z := [38, 113, 117, 111, 116, 59]) (x := (repl 60 [38, 108, 116, 59] (repl 38 [38, 97, 109, 112, 59] x))) F1 N1 rfl k1 (by decide) (by decide) (by decide) (by decide) (by have := repl_length (c := 38) (z := [38, 97, 109, 112, 59]) (by decide) x; have := repl_length (c := 60) (z := [38, 108, 116, 59]) (by decide) (repl 38 [38, 97, 109, 112, 59] x); omega) fun h2 tk2 t2 k2 F2 N2 => ?_)
  dsimp only
  refine wpAny_execs_cons (if_replace (c := 9) (z := [38, 35, 120, 57, 59]) (x := (repl 34 [38, 113, 117, 111, 116, 59] (repl 60 [38, 108, 116, 59] (repl 38 [38, 97, 109, 112, 59] x)))) F2 N2 rfl k2 (by decide) (by decide) (by decide) (by decide) (by have := repl_length (c := 38) (z := [38, 97, 109, 112, 59]) (by decide) x; have := repl_length (c := 60) (z := [38, 108, 116, 59]) (by decide) (repl 38 [38, 97, 109, 112, 59] x); have := repl_length (c := 34) (z := [38, 113, 117, 111, 116, 59]) (by decide) (repl 60 [38, 108, 116, 59] (repl 38 [38, 97, 109, 112, 59] x)); omega) fun h3 tk3 t3 k3 F3 N3 => ?_)
  dsimp only
  refine wpAny_execs_cons (if_replace (c := 10) (z := [38, 35, 120, 65, 59]) (x := (repl 9 [38, 35, 120, 57, 59] (repl 34 [38, 113, 117, 111, 116, 59] (repl 60 [38, 108, 116, 59] (repl 38 [38, 97, 109, 112, 59] x))))) F3 N3 rfl k3 (by decide) (by decide) (by decide) (by decide) (by have := repl_length (c := 38) (z := [38, 97, 109, 112, 59]) (by decide) x; have := repl_length (c := 60) (z := [38, 108, 116, 59]) (by decide) (repl 38 [38, 97, 109, 112, 59] x); have := repl_length (c := 34) (z := [38, 113, 117, 111, 116, 59]) (by decide) (repl 60 [38, 108, 116, 59] (repl 38 [38, 97, 109, 112, 59] x)); have := repl_length (c := 9) (z := [38, 35, 120, 57, 59]) (by decide) (repl 34 [38, 113, 117, 111, 116, 59] (repl 60 [38, 108, 116, 59] (repl 38 [38, 97, 109, 112, 59] x))); omega) fun h4 tk4 t4 k4 F4 N4 => ?_)
  dsimp only
  refine wpAny_execs_cons (if_replace (c := 13) (z := [38, 35, 120, 68, 59]) (x := (repl 10 [38, 35, 120, 65, 59] (repl 9 [38, 35, 120, 57, 59] (repl 34 [38, 113, 117, 111, 116, 59] (repl 60 [38, 108, 116, 59] (repl 38 [38, 97, 109, 112, 59] x)))))) F4 N4 rfl k4 (by decide) (by decide) (by decide) (by decide) (by have := repl_length (c := 38) (z := [38, 97, 109, 112, 59]) (by decide) x; have := repl_length (c := 60) (z := [38, 108, 116, 59]) (by decide) (repl 38 [38, 97, 109, 112, 59] x); have := repl_length (c := 34) (z := [38, 113, 117, 111, 116, 59]) (by decide) (repl 60 [38, 108, 116, 59] (repl 38 [38, 97, 109, 112, 59] x)); have := repl_length (c := 9) (z := [38, 35, 120, 57, 59]) (by decide) (repl 34 [38, 113, 117, 111, 116, 59] (repl 60 [38, 108, 116, 59] (repl 38 [38, 97, 109, 112, 59] x))); have := repl_length (c := 10) (z := [38, 35, 120, 65, 59]) (by decide) (repl 9 [38, 35, 120, 57, 59] (repl 34 [38, 113, 117, 111, 116, 59] (repl 60 [38, 108, 116, 59] (repl 38 [38, 97, 109, 112, 59] x)))); omega) fun h5 tk5 t5 k5 F5 N5 => ?_)
  dsimp only
  refine wpAny_execs_cons (wpAny_Return_some (ld F5 rfl ?_))
  dsimp only
  rw [sp_4]
  exact h _ _ _ F5.keep

theorem c_written {k : Nat} {v : Tok} (X : (heapK w.params).In s.heap) (T : Top vw loose mean mg mb s.heap)
   (hr : A.depth + 1 < recursionLimit) (hx : x.length ≤ 7) (hk : k < 5)
   (h : ∀ h' tk t, Grows s.heap h' → Q (.str (Tx (x.flatMap (spC k))) t) { s with heap := h', toks := tk }) :
   wpAny (model PP w) A (call (.ref 130) [.int k v, .str (Tx x) u]) Q E s := by
  refine enter [("which", .int k v), ("text", .str (Tx x) u)] X T (by k_is) (by k_is) (by omega) rfl (locs (by rfl)) (fun L h₁ F N => ?_) rfl rfl rfl (by decide)
  have hd : (A.deeper (envOf "_law_written" (Scope.mk ScopeKind.function [] false false []) L 130 (Value.ref 129))).depth < recursionLimit := hr
  have hk' : k = 0 ∨ k = 1 ∨ k = 2 ∨ k = 3 ∨ k = 4 := by omega
  rcases hk' with rfl | rfl | rfl | rfl | rfl
  all_goals (repeat' (first | walk1 | (dsimp only; walk1)))
  · exact c_esc0 (X.keeps F.keep) (T.keeps F.keep) hd hx fun h' tk t G => h _ _ _ fun b o e => G b o (F.keep b o e)
  · exact c_esc1 (X.keeps F.keep) (T.keeps F.keep) hd hx fun h' tk t G => h _ _ _ fun b o e => G b o (F.keep b o e)
  · exact c_esc2 (X.keeps F.keep) (T.keeps F.keep) hd hx fun h' tk t G => h _ _ _ fun b o e => G b o (F.keep b o e)
  · exact c_esc3 (X.keeps F.keep) (T.keeps F.keep) hd hx fun h' tk t G => h _ _ _ fun b o e => G b o (F.keep b o e)
  · exact c_esc4 (X.keeps F.keep) (T.keeps F.keep) hd hx fun h' tk t G => h _ _ _ fun b o e => G b o (F.keep b o e)
end
end -- RxWr

section -- RxPl
open PySem
/-- the signs that stand behind the & of a reference -/
def refL : List Nat := [35, 59, 48, 49, 51, 57, 65, 68, 97, 103, 108, 109, 111, 112, 113, 116, 117, 120]
def after59 : List Nat → Option (List Nat)
  | [] => none
  | c :: r => if c = 59 then some r else after59 r
def endS : List (List Nat) → List Nat → Option (List Nat)
  | [], r => some r
  | _ :: _, [] => none
  | t :: ts, c :: r =>
    if 1 < t.length then
      (if c = 38 then (match after59 (c :: r) with | none => none | some r' => endS ts r') else if c ∈ refL then none else endS ts r)
    else if t ≠ [] ∧ t ≠ [c] then none else endS ts r
def firstS (ts : List (List Nat)) : List Nat → Option (List Nat)
  | [] => endS ts []
  | c :: r => match endS ts (c :: r) with | some u => some u | none => firstS ts r
def anyS (ts : List (List Nat)) : List Nat → Bool
  | [] => endS ts [] == some []
  | c :: r => endS ts (c :: r) == some [] || anyS ts r

/-- a pattern without a star upon a name: what is left -/
def matchE : List Nat → List Nat → Option (List Nat)
  | [], n => some n
  | _ :: _, [] => none
  | e :: es, x :: n => if e = 63 ∨ e = x then matchE es n else none
def firstE (es : List Nat) : List Nat → Option (List Nat)
  | [] => matchE es []
  | c :: r => match matchE es (c :: r) with | some u => some u | none => firstE es r
def anyE (es : List Nat) : List Nat → Bool
  | [] => matchE es [] == some []
  | c :: r => matchE es (c :: r) == some [] || anyE es r
/-- what a shell pattern means -/
def gm : List Nat → List Nat → Bool
  | [], n => n.isEmpty
  | p :: ps, [] => p = 42 && gm ps []
  | p :: ps, x :: n => if p = 42 then gm ps (x :: n) || gm (p :: ps) n else (p = 63 || p = x) && gm ps n
termination_by p n => p.length + n.length

/-- a way of spelling: sp spells a sign, qm is the test that stands for a question mark -/
structure Way where
  sp : Nat → List Nat
  qm : List Nat
def Way.tests (W : Way) (es : List Nat) : List (List Nat) := es.flatMap fun e => if e = 63 then [W.qm] else (W.sp e).map fun c => [c]
def Way.all (W : Way) (n : List Nat) : List Nat := n.flatMap W.sp

theorem endS_append (a b : List (List Nat)) : ∀ r, endS (a ++ b) r = (endS a r).bind (endS b) := by
  induction a with
  | nil => intro r; rfl
  | cons t ts ih =>
    intro r
    cases r with
    | nil => rfl
    | cons c r =>
      simp only [List.cons_append, endS]
      split
      · split
        · cases after59 (c :: r) with
          | none => rfl
          | some r' => exact ih r'
        · split
          · rfl
          · exact ih r
      · split
        · rfl
        · exact ih r

/-- what is asked of a way of spelling, over the signs that count -/
structure Way.Good (W : Way) (ok : Nat → Prop) : Prop where
  same : ∀ e, ok e → ∀ R, endS ((W.sp e).map fun c => [c]) (W.sp e ++ R) = some R
  other : ∀ e x, ok e → ok x → e ≠ x → ∀ R, endS ((W.sp e).map fun c => [c]) (W.sp x ++ R) = none
  mark : ∀ x, ok x → ∀ R, endS [W.qm] (W.sp x ++ R) = some R
  ne : ∀ e, ok e → W.sp e ≠ []
  inner : ∀ e x, (e = 63 ∨ ok e) → ok x → ∀ u v, W.sp x = u ++ v → u ≠ [] → v ≠ [] → ∀ R, endS (W.tests [e]) (v ++ R) = none

theorem tests_cons (W : Way) (e : Nat) (es : List Nat) : W.tests (e :: es) = W.tests [e] ++ W.tests es := by
  unfold Way.tests; simp
theorem end_match {W : Way} {ok : Nat → Prop} (G : W.Good ok) : ∀ (es : List Nat), (∀ e ∈ es, e = 63 ∨ ok e) → ∀ n, (∀ x ∈ n, ok x) → endS (W.tests es) (W.all n) = (matchE es n).map W.all
  | [], _, n, _ => rfl
  | e :: es, he, [], _ => by
    have : ∃ t ts, W.tests (e :: es) = t :: ts := by
      rw [tests_cons]
      unfold Way.tests
      by_cases h : e = 63
      · simp [h]
      · have := G.ne e ((he e (.head _)).resolve_left h)
        cases hs : W.sp e with
        | nil => exact absurd hs this
        | cons a b => simp [h, hs]
    obtain ⟨t, ts, h⟩ := this
    rw [h]; rfl
  | e :: es, he, x :: n, hn => by
    have ih := end_match G es (fun e h => he e (.tail _ h)) n (fun x h => hn x (.tail _ h))
    rw [tests_cons, endS_append]
    have hx := hn x (.head _)
    have ha : W.all (x :: n) = W.sp x ++ W.all n := by simp [Way.all]
    rw [ha]
    by_cases h63 : e = 63
    · have ht : W.tests [e] = [W.qm] := by simp [Way.tests, h63]
      rw [ht, G.mark x hx]
      simp only [Option.bind_some, matchE, h63, true_or, if_true]
      exact ih
    · have ht : W.tests [e] = (W.sp e).map fun c => [c] := by simp [Way.tests, h63]
      have hoe := (he e (.head _)).resolve_left h63
      rw [ht]
      by_cases hex : e = x
      · subst hex
        rw [G.same e hoe]
        simp only [Option.bind_some, matchE, or_true, if_true]
        exact ih
      · rw [G.other e x hoe hx hex]
        simp [matchE, h63, hex]
theorem end_inner {W : Way} {ok : Nat → Prop} (G : W.Good ok) {e : Nat} {es : List Nat} (he : e = 63 ∨ ok e) {x : Nat} (hx : ok x) {u v : List Nat} (h : W.sp x = u ++ v) (hu : u ≠ []) (hv : v ≠ []) (R : List Nat) : endS (W.tests (e :: es)) (v ++ R) = none := by
  rw [tests_cons, endS_append, G.inner e x he hx u v h hu hv]; rfl
end -- RxPl

section -- RxFind
open PySem PySem.W PyProof.Rows PySem.Calls
open PySem
theorem after59_none : ∀ l : List Nat, (∀ i, i < l.length → l.getD i 0 ≠ 59) → after59 l = none
  | [], _ => rfl
  | c :: r, h => by
    have h0 := h 0 (by simp)
    simp only [List.getD_cons_zero] at h0
    unfold after59
    rw [if_neg h0]
    exact after59_none r fun i hi => by simpa using h (i + 1) (by simp; omega)
theorem after59_some : ∀ (l : List Nat) (j : Nat), j < l.length → l.getD j 0 = 59 → (∀ i, i < j → l.getD i 0 ≠ 59) → after59 l = some (l.drop (j + 1))
  | [], _, h, _, _ => absurd h (Nat.not_lt_zero _)
  | c :: r, 0, _, h, _ => by
    simp only [List.getD_cons_zero] at h
    unfold after59
    rw [if_pos h]; rfl
  | c :: r, j + 1, hj, h, hn => by
    have h0 := hn 0 (by omega)
    simp only [List.getD_cons_zero] at h0
    unfold after59
    rw [if_neg h0]
    exact after59_some r j (by simpa using hj) (by simpa using h) fun i hi => by simpa using hn (i + 1) (by omega)
theorem find59 (n : List Nat) (k : Nat) (hk : k ≤ n.length) : (Txt.find3 (Tx n) (Tx [59]) k = -1 ∧ after59 (n.drop k) = none) ∨
    ∃ j : Nat, Txt.find3 (Tx n) (Tx [59]) k = (j : Int) ∧ k ≤ j ∧ j < n.length ∧ after59 (n.drop k) = some (n.drop (j + 1)) := by
  have eI : PySem.fromIndex (Tx n).length (k : Int) = k := by unfold PySem.fromIndex; rw [if_neg (by omega), Int.max_eq_right (by omega)]; omega
  have hg : ∀ i, (Tx n).cps.getD i 0 = n.getD i 0 := fun i => by simp [Array.getD_eq_getD_getElem?, List.getD_eq_getElem?_getD]
  rcases StrLaws.find3_spec (Tx n) 59 (k : Int) with ⟨h1, hn⟩ | ⟨j, h1, hlo, hlt, hj, hn⟩
  · refine .inl ⟨h1, after59_none _ fun i hi => ?_⟩
    rw [List.length_drop] at hi
    have := hn (k + i) (by omega) (by rw [Tx_length]; omega)
    rw [hg] at this
    simpa [List.getD_eq_getElem?_getD, List.getElem?_drop] using this
  · rw [eI] at hlo hn
    rw [Tx_length] at hlt
    refine .inr ⟨j, h1, hlo, hlt, ?_⟩
    rw [after59_some (n.drop k) (j - k) (by rw [List.length_drop]; omega) ?_ ?_]
    · rw [List.drop_drop]; congr 2; omega
    · rw [hg] at hj
      have e : k + (j - k) = j := by omega
      simpa [List.getD_eq_getElem?_getD, List.getElem?_drop, e] using hj
    · intro i hi
      have := hn (k + i) (by omega) (by omega)
      rw [hg] at this
      simpa [List.getD_eq_getElem?_getD, List.getElem?_drop] using this
end -- RxFind

section -- RxPm
open PySem
theorem first_skip {W : Way} {ok : Nat → Prop} (G : W.Good ok) {e : Nat} {es : List Nat} (he : e = 63 ∨ ok e) {x : Nat} (hx : ok x) (R : List Nat) : ∀ (v u : List Nat), W.sp x = u ++ v → u ≠ [] → firstS (W.tests (e :: es)) (v ++ R) = firstS (W.tests (e :: es)) R
  | [], _, _, _ => rfl
  | c :: v, u, h, hu => by
    have h1 := end_inner G (es := es) he hx h hu (by simp) R
    have h2 := first_skip G (es := es) he hx R v (u ++ [c]) (by simp [h]) (by simp)
    rw [List.cons_append] at h1 ⊢
    rw [firstS, h1]
    exact h2
theorem any_skip {W : Way} {ok : Nat → Prop} (G : W.Good ok) {e : Nat} {es : List Nat} (he : e = 63 ∨ ok e) {x : Nat} (hx : ok x) (R : List Nat) : ∀ (v u : List Nat), W.sp x = u ++ v → u ≠ [] → anyS (W.tests (e :: es)) (v ++ R) = anyS (W.tests (e :: es)) R
  | [], _, _, _ => rfl
  | c :: v, u, h, hu => by
    have h1 := end_inner G (es := es) he hx h hu (by simp) R
    have h2 := any_skip G (es := es) he hx R v (u ++ [c]) (by simp [h]) (by simp)
    rw [List.cons_append] at h1 ⊢
    rw [anyS, h1]
    simpa using h2
theorem all_nil {W : Way} {ok : Nat → Prop} (G : W.Good ok) : ∀ {n : List Nat}, (∀ x ∈ n, ok x) → (W.all n = [] ↔ n = [])
  | [], _ => by simp [Way.all]
  | x :: n, h => by
    have := G.ne x (h x (.head _))
    simp [Way.all, this]
theorem matchE_mem : ∀ (es : List Nat) {n r : List Nat}, matchE es n = some r → ∀ x ∈ r, x ∈ n
  | [], _, _, h, x, hx => by cases h; exact hx
  | _ :: _, [], _, h, _, _ => by cases h
  | e :: es, y :: n, r, h, x, hx => by
    unfold matchE at h
    split at h
    · exact .tail _ (matchE_mem es h x hx)
    · cases h
theorem first_all {W : Way} {ok : Nat → Prop} (G : W.Good ok) {e : Nat} {es : List Nat} (he : ∀ y ∈ e :: es, y = 63 ∨ ok y) : ∀ n, (∀ x ∈ n, ok x) → firstS (W.tests (e :: es)) (W.all n) = (firstE (e :: es) n).map W.all
  | [], hn => by
    have := end_match G (e :: es) he [] hn
    simpa [Way.all, firstS, firstE] using this
  | x :: n, hn => by
    have ih := first_all G he n (fun y h => hn y (.tail _ h))
    have hm := end_match G (e :: es) he (x :: n) hn
    have ha : W.all (x :: n) = W.sp x ++ W.all n := by simp [Way.all]
    have hne := G.ne x (hn x (.head _))
    rw [ha] at hm ⊢
    cases hs : W.sp x with
    | nil => exact absurd hs hne
    | cons c t =>
      rw [hs, List.cons_append] at hm
      rw [List.cons_append, firstS, hm]
      unfold firstE
      cases hE : matchE (e :: es) (x :: n) with
      | some r => rfl
      | none =>
        have := first_skip G (es := es) (he e (.head _)) (hn x (.head _)) (W.all n) t [c] (by simp [hs]) (by simp)
        simp only [Option.map_none]
        rw [this, ih]
theorem any_all {W : Way} {ok : Nat → Prop} (G : W.Good ok) {e : Nat} {es : List Nat} (he : ∀ y ∈ e :: es, y = 63 ∨ ok y) : ∀ n, (∀ x ∈ n, ok x) → anyS (W.tests (e :: es)) (W.all n) = anyE (e :: es) n
  | [], hn => by
    have := end_match G (e :: es) he [] hn
    simp only [Way.all, List.flatMap_nil] at this
    simp only [Way.all, List.flatMap_nil, anyS, anyE, this, matchE]
    rfl
  | x :: n, hn => by
    have ih := any_all G he n (fun y h => hn y (.tail _ h))
    have hm := end_match G (e :: es) he (x :: n) hn
    have ha : W.all (x :: n) = W.sp x ++ W.all n := by simp [Way.all]
    have hne := G.ne x (hn x (.head _))
    have hq : ((matchE (e :: es) (x :: n)).map W.all == some []) = (matchE (e :: es) (x :: n) == some []) := by
      cases hE : matchE (e :: es) (x :: n) with
      | none => rfl
      | some r =>
        have := all_nil G (n := r) (fun y hy => hn y (matchE_mem _ hE y hy))
        cases r with
        | nil => simp [Way.all]
        | cons a b =>
          have h2 : W.all (a :: b) ≠ [] := fun q => by simpa using this.mp q
          simp [h2]
    rw [ha] at hm ⊢
    cases hs : W.sp x with
    | nil => exact absurd hs hne
    | cons c t =>
      rw [hs, List.cons_append] at hm
      have := any_skip G (es := es) (he e (.head _)) (hn x (.head _)) (W.all n) t [c] (by simp [hs]) (by simp)
      rw [List.cons_append, anyS, hm, this, ih, hq]
      rfl

theorem gm_nil (n : List Nat) : gm [] n = n.isEmpty := by cases n <;> simp [gm]
theorem gm_lit {c : Nat} (hc : c ≠ 42) (p n : List Nat) : gm (c :: p) n = (match n with | [] => false | x :: n => (c = 63 || c = x) && gm p n) := by
  cases n <;> simp [gm, hc]
theorem gm_star (p n : List Nat) : gm (42 :: p) n = (gm p n || (match n with | [] => false | _ :: n => gm (42 :: p) n)) := by
  cases n with
  | nil => simp [gm]
  | cons x n => rw [gm]; simp
theorem gm_app : ∀ (es : List Nat), (∀ e ∈ es, e ≠ 42) → ∀ p n, gm (es ++ p) n = (match matchE es n with | none => false | some r => gm p r)
  | [], _, _, _ => rfl
  | e :: es, h, p, n => by
    rw [List.cons_append, gm_lit (h e (.head _))]
    cases n with
    | nil => rfl
    | cons x n =>
      have ih := gm_app es (fun e h' => h e (.tail _ h')) p n
      simp only [matchE]
      by_cases hx : e = 63 ∨ e = x
      · rw [if_pos hx, ← ih]
        rcases hx with hx | hx <;> simp [hx]
      · rw [if_neg hx]
        simp only [not_or] at hx
        simp [hx.1, hx.2]
theorem gm_end (es : List Nat) (h : ∀ e ∈ es, e ≠ 42) (n : List Nat) : gm es n = (matchE es n == some []) := by
  have := gm_app es h [] n
  rw [List.append_nil] at this
  rw [this]
  cases hm : matchE es n with
  | none => rfl
  | some r => show gm [] r = _; rw [gm_nil]; cases r <;> simp
theorem gm_star_end (es : List Nat) (h : ∀ e ∈ es, e ≠ 42) : ∀ n, gm (42 :: es) n = anyE es n
  | [] => by rw [gm_star, gm_end es h]; simp [anyE]
  | x :: n => by
    rw [gm_star, gm_end es h, anyE]
    simp only
    rw [gm_star_end es h n]
theorem gm_dup (p : List Nat) : ∀ n, gm (42 :: 42 :: p) n = gm (42 :: p) n
  | [] => by rw [gm_star]; simp
  | x :: n => by
    rw [gm_star (42 :: p)]
    simp only
    rw [gm_dup p n, gm_star p (x :: n)]
    simp only
    cases gm p (x :: n) <;> simp
theorem gm_mono (p : List Nat) (u : List Nat) : ∀ v : List Nat, gm (42 :: p) u = true → gm (42 :: p) (v ++ u) = true
  | [], h => h
  | x :: v, h => by
    rw [List.cons_append, gm_star]
    simp only
    rw [gm_mono p u v h]
    simp
theorem matchE_drop : ∀ (es : List Nat) {n r : List Nat}, matchE es n = some r → r = n.drop es.length
  | [], _, _, h => by cases h; rfl
  | _ :: _, [], _, h => by cases h
  | e :: es, y :: n, r, h => by
    unfold matchE at h
    split at h
    · simpa using matchE_drop es h
    · cases h
theorem firstE_drop (es : List Nat) : ∀ {n r : List Nat}, firstE es n = some r → ∃ k, r = n.drop (k + es.length)
  | [], r, h => ⟨0, by simpa using matchE_drop es h⟩
  | x :: n, r, h => by
    unfold firstE at h
    split at h
    · rename_i u hu
      cases h
      exact ⟨0, by simpa using matchE_drop es hu⟩
    · obtain ⟨k, hk⟩ := firstE_drop es h
      exact ⟨k + 1, by rw [hk, show k + 1 + es.length = (k + es.length) + 1 by omega, List.drop_succ_cons]⟩
theorem gm_first (es : List Nat) (h : ∀ e ∈ es, e ≠ 42) (p : List Nat) : ∀ n, gm (42 :: (es ++ 42 :: p)) n = (match firstE es n with | none => false | some r => gm (42 :: p) r)
  | [] => by
    rw [gm_star, gm_app es h]
    simp [firstE]
  | x :: n => by
    have ih := gm_first es h p n
    rw [gm_star, gm_app es h]
    simp only [firstE]
    cases hm : matchE es (x :: n) with
    | none => simpa using ih
    | some r =>
      simp only
      have hr := matchE_drop es hm
      cases hg : gm (42 :: p) r with
      | true => simp
      | false =>
        rw [ih]
        cases hf : firstE es n with
        | none => simp
        | some r' =>
          simp only [Bool.false_or]
          obtain ⟨k, hk⟩ := firstE_drop es hf
          have : ∃ v, r = v ++ r' := by
            refine ⟨r.take (k + 1), ?_⟩
            have e : r' = r.drop (k + 1) := by
              rw [hr, hk, List.drop_drop, show es.length + (k + 1) = (k + es.length) + 1 by omega, List.drop_succ_cons]
            rw [e, List.take_append_drop]
          obtain ⟨v, rfl⟩ := this
          cases hg' : gm (42 :: p) r' with
          | false => rfl
          | true => rw [gm_mono p r' v hg'] at hg; cases hg

/-- a test of the parsed text for a character of the written pattern -/
def tst (q : List Nat) (c : Nat) : List Nat := if c = 63 then q else [c]
structure PcS where
  how : Nat
  tests : List (List Nat)
mutual
def pcs0 (q : List Nat) (f : List (List Nat)) : List Nat → List PcS
  | [] => [⟨0, f⟩]
  | c :: r => if c = 42 then ⟨0, f⟩ :: pcsG q [] r else pcs0 q (f ++ [tst q c]) r
def pcsG (q : List Nat) (f : List (List Nat)) : List Nat → List PcS
  | [] => [⟨2, f⟩]
  | c :: r => if c = 42 then (if f = [] then pcsG q [] r else ⟨1, f⟩ :: ⟨0, []⟩ :: pcsG q [] r) else pcsG q (f ++ [tst q c]) r
end
def takesS : List PcS → List Nat → Bool
  | [], r => r.isEmpty
  | p :: ps, r =>
    if p.how = 2 then anyS p.tests r
    else if p.how = 0 then (match endS p.tests r with | none => false | some u => takesS ps u)
    else (match firstS p.tests r with | none => false | some u => takesS ps u)

/-- the pattern as it is written -/
def Way.pat (W : Way) (p : List Nat) : List Nat := p.flatMap fun e => if e = 63 then [63] else if e = 42 then [42] else W.sp e

theorem pcs0_plain (q : List Nat) : ∀ (l : List Nat), (∀ c ∈ l, c ≠ 42) → ∀ f r, pcs0 q f (l ++ r) = pcs0 q (f ++ l.map (tst q)) r
  | [], _, f, r => by simp
  | c :: l, h, f, r => by
    rw [List.cons_append, pcs0, if_neg (h c (.head _)), pcs0_plain q l (fun c h' => h c (.tail _ h'))]
    simp
theorem pcsG_plain (q : List Nat) : ∀ (l : List Nat), (∀ c ∈ l, c ≠ 42) → ∀ f r, pcsG q f (l ++ r) = pcsG q (f ++ l.map (tst q)) r
  | [], _, f, r => by simp
  | c :: l, h, f, r => by
    rw [List.cons_append, pcsG, if_neg (h c (.head _)), pcsG_plain q l (fun c h' => h c (.tail _ h'))]
    simp

theorem tests_snoc (W : Way) (es : List Nat) (e : Nat) : W.tests (es ++ [e]) = W.tests es ++ W.tests [e] := by unfold Way.tests; simp
theorem tests_nil {W : Way} {ok : Nat → Prop} (G : W.Good ok) : ∀ {es : List Nat}, (∀ y ∈ es, y = 63 ∨ ok y) → (W.tests es = [] ↔ es = [])
  | [], _ => by simp [Way.tests]
  | e :: es, h => by
    by_cases h63 : e = 63
    · simp [Way.tests, h63]
    · have := G.ne e ((h e (.head _)).resolve_left h63)
      simp [Way.tests, h63, this]

/-- a sign's spelling holds neither a star nor a question mark -/
def Way.Plain (W : Way) (ok : Nat → Prop) : Prop := ∀ e, ok e → ∀ c ∈ W.sp e, c ≠ 42 ∧ c ≠ 63

theorem pat_cons {W : Way} {ok : Nat → Prop} (hP : W.Plain ok) {e : Nat} (he : e = 63 ∨ ok e) (h42 : e ≠ 42) (p : List Nat) : ∃ l, W.pat (e :: p) = l ++ W.pat p ∧ (∀ c ∈ l, c ≠ 42) ∧ l.map (tst W.qm) = W.tests [e] := by
  by_cases h63 : e = 63
  · exact ⟨[63], by simp [Way.pat, h63], by simp, by simp [tst, Way.tests, h63]⟩
  · have hok := he.resolve_left h63
    refine ⟨W.sp e, by simp [Way.pat, h63, h42], fun c hc => (hP e hok c hc).1, ?_⟩
    simp only [Way.tests, List.flatMap_cons, List.flatMap_nil, h63, if_false, List.append_nil]
    exact List.map_congr_left fun c hc => by simp [tst, (hP e hok c hc).2]

theorem takes_gm {W : Way} {ok : Nat → Prop} (G : W.Good ok) (hP : W.Plain ok) (hok42 : ¬ ok 42) : ∀ (p : List Nat), (∀ e ∈ p, e = 42 ∨ e = 63 ∨ ok e) → ∀ (es : List Nat), (∀ y ∈ es, y = 63 ∨ ok y) → ∀ n, (∀ x ∈ n, ok x) →
    takesS (pcs0 W.qm (W.tests es) (W.pat p)) (W.all n) = gm (es ++ p) n ∧ takesS (pcsG W.qm (W.tests es) (W.pat p)) (W.all n) = gm (42 :: (es ++ p)) n
  | [], _, es, hes, n, hn => by
    have h42 : ∀ e ∈ es, e ≠ 42 := fun e he q => by rcases hes e he with h | h <;> subst q; cases h; exact hok42 h
    constructor
    · show takesS [⟨0, W.tests es⟩] (W.all n) = _
      rw [List.append_nil, gm_end es h42]
      unfold takesS
      rw [if_neg (by simp), if_pos rfl, end_match G es hes n hn]
      cases hm : matchE es n with
      | none => rfl
      | some r =>
        have := all_nil G (n := r) (fun y hy => hn y (matchE_mem _ hm y hy))
        show takesS [] (W.all r) = _
        unfold takesS
        cases r with
        | nil => rfl
        | cons a b =>
          have h2 : W.all (a :: b) ≠ [] := fun q => by simpa using this.mp q
          cases hq : W.all (a :: b) with
          | nil => exact absurd hq h2
          | cons _ _ => rfl
    · show takesS [⟨2, W.tests es⟩] (W.all n) = _
      rw [List.append_nil, gm_star_end es h42]
      unfold takesS
      rw [if_pos rfl]
      cases es with
      | cons e es => exact any_all G hes n hn
      | nil =>
        have a1 : ∀ r, anyS (W.tests []) r = true := fun r => by induction r with | nil => rfl | cons c r ih => rw [anyS, ih]; simp
        have a2 : ∀ n, anyE [] n = true := fun n => by induction n with | nil => rfl | cons c r ih => rw [anyE, ih]; simp
        rw [a1, a2]
  | e :: p, hp, es, hes, n, hn => by
    have hpt := fun e h => hp e (.tail _ h)
    have h42 : ∀ e ∈ es, e ≠ 42 := fun e he q => by rcases hes e he with h | h <;> subst q; cases h; exact hok42 h
    by_cases he : e = 42
    · subst he
      have hpat : W.pat (42 :: p) = 42 :: W.pat p := by simp [Way.pat]
      rw [hpat]
      constructor
      · rw [pcs0, if_pos rfl, gm_app es h42]
        unfold takesS
        rw [if_neg (by simp), if_pos rfl, end_match G es hes n hn]
        cases hm : matchE es n with
        | none => rfl
        | some r => exact (takes_gm G hP hok42 p hpt [] (by simp) r (fun y hy => hn y (matchE_mem _ hm y hy))).2
      · rw [pcsG, if_pos rfl]
        cases es with
        | nil =>
          rw [if_pos (show W.tests [] = [] from rfl)]
          show _ = gm (42 :: 42 :: p) n
          rw [gm_dup]
          exact (takes_gm G hP hok42 p hpt [] (by simp) n hn).2
        | cons e es =>
          rw [if_neg (fun q => by simpa using (tests_nil G hes).mp q), gm_first _ h42]
          rw [takesS]
          simp only [show ¬ (1 = 2) by decide, show ¬ (1 = 0) by decide, if_false]
          rw [first_all G hes n hn]
          cases hf : firstE (e :: es) n with
          | none => rfl
          | some r =>
            have hmem : ∀ y ∈ r, ok y := fun y hy => by
              obtain ⟨k, hk⟩ := firstE_drop _ hf
              exact hn y (List.mem_of_mem_drop (hk ▸ hy))
            simp only [Option.map_some]
            rw [takesS]
            simp only [show ¬ (0 = 2) by decide, if_false, if_true, endS]
            exact (takes_gm G hP hok42 p hpt [] (by simp) r hmem).2
    · have he2 := (hp e (.head _)).resolve_left he
      obtain ⟨l, hl, hl42, hlt⟩ := pat_cons hP he2 he p
      have hes2 : ∀ y ∈ es ++ [e], y = 63 ∨ ok y := fun y hy => by
        rcases List.mem_append.mp hy with h | h
        · exact hes y h
        · rw [List.mem_singleton.mp h]; exact he2
      have ih := takes_gm G hP hok42 p hpt (es ++ [e]) hes2 n hn
      rw [hl, pcs0_plain _ l hl42, pcsG_plain _ l hl42, hlt, ← tests_snoc, show es ++ e :: p = (es ++ [e]) ++ p by simp]
      exact ih
end -- RxPm

section -- RxPn
open PySem
def singles (l : List Nat) : List (List Nat) := l.map fun c => [c]
theorem singles_same : ∀ (l R : List Nat), endS (singles l) (l ++ R) = some R
  | [], _ => rfl
  | c :: l, R => by
    show endS ([c] :: singles l) (c :: (l ++ R)) = _
    unfold endS
    rw [if_neg (by simp), if_neg (by simp)]
    exact singles_same l R
def diff : List Nat → List Nat → Bool
  | a :: l, b :: r => a != b || diff l r
  | _, _ => false
theorem singles_diff : ∀ (l r R : List Nat), diff l r = true → endS (singles l) (r ++ R) = none
  | [], _, _, h => by simp [diff] at h
  | _ :: _, [], _, h => by simp [diff] at h
  | a :: l, b :: r, R, h => by
    show endS ([a] :: singles l) (b :: (r ++ R)) = _
    unfold endS
    rw [if_neg (by simp)]
    by_cases hab : a = b
    · rw [if_neg (by simp [hab])]
      exact singles_diff l r R (by simpa [diff, hab] using h)
    · rw [if_pos (by simp [hab])]
theorem after59_to : ∀ (l R : List Nat), 59 ∉ l → after59 (l ++ 59 :: R) = some R
  | [], R, _ => by simp [after59]
  | c :: l, R, h => by
    simp only [List.mem_cons, not_or] at h
    rw [List.cons_append, after59, if_neg (Ne.symm h.1)]
    exact after59_to l R h.2

def S7 : List Nat := [38, 60, 62, 34, 13, 10, 9]
theorem spC_plain {w e : Nat} (h : e ∉ S7) : spC w e = [e] := by
  simp only [S7, List.mem_cons, List.not_mem_nil, or_false, not_or] at h
  obtain ⟨h1, h2, h3, h4, h5, h6, h7⟩ := h
  simp [spC, h1, h2, h3, h4, h5, h6, h7]
/-- a spelling is the sign itself, or a reference -/
def isRef (l : List Nat) : Bool := l.head? == some 38 && l.getLast? == some 59 && (l.tail.all fun c => refL.contains c) && !(l.dropLast.contains 59) && decide (1 < l.length)
theorem spC_7 : ∀ w < 5, ∀ e ∈ S7, (spC w e = [e] ∧ e ≠ 38 ∧ e ∉ refL) ∨ isRef (spC w e) = true := by decide
theorem spC_diff7 : ∀ w < 5, ∀ e ∈ S7, ∀ x ∈ S7, e ≠ x → diff (spC w e) (spC w x) = true := by decide
theorem ref_bad : ∀ c ∈ refL, c ∈ badL := by decide
theorem spC_kind {w e : Nat} (hw : w < 5) (he : SignOk e) : (spC w e = [e] ∧ e ≠ 38 ∧ e ∉ refL) ∨ isRef (spC w e) = true := by
  by_cases h : e ∈ S7
  · exact spC_7 w hw e h
  · refine .inl ⟨spC_plain h, fun q => h (q ▸ by decide), fun q => he (ref_bad _ q)⟩
theorem head_S7 : ∀ w < 5, ∀ e ∈ S7, (spC w e).head? = some 38 ∨ (spC w e).head? = some e := by decide
theorem spC_diff {w e x : Nat} (hw : w < 5) (he : SignOk e) (hx : SignOk x) (h : e ≠ x) : diff (spC w e) (spC w x) = true := by
  have two : ∀ a b : Nat, ∀ l r : List Nat, a ≠ b → diff (a :: l) (b :: r) = true := fun a b l r hab => by simp [diff, hab]
  by_cases h1 : e ∈ S7
  · by_cases h2 : x ∈ S7
    · exact spC_diff7 w hw e h1 x h2 h
    · rw [spC_plain h2]
      have hh := head_S7 w hw e h1
      cases hs : spC w e with
      | nil => rw [hs] at hh; simp at hh
      | cons a l =>
        rw [hs] at hh
        refine two a x l [] fun q => ?_
        rcases hh with hh | hh
        · have : a = 38 := by simpa using hh
          exact h2 (q ▸ this ▸ by decide)
        · have : a = e := by simpa using hh
          exact h (this ▸ q)
  · rw [spC_plain h1]
    by_cases h2 : x ∈ S7
    · have hh := head_S7 w hw x h2
      cases hs : spC w x with
      | nil => rw [hs] at hh; simp at hh
      | cons a l =>
        rw [hs] at hh
        refine two e a [] l fun q => ?_
        rcases hh with hh | hh
        · have : a = 38 := by simpa using hh
          exact h1 (q ▸ this ▸ by decide)
        · have : a = x := by simpa using hh
          exact h (this ▸ q)
    · rw [spC_plain h2]
      exact two e x [] [] h

def MARKq : List Nat := [40, 63, 58, 38, 91, 94, 59, 93, 42, 59, 124, 91, 94, 35, 38, 59, 48, 49, 51, 57, 65, 68, 97, 103, 108, 109, 111, 112, 113, 116, 117, 120, 93, 41]
def wayW (w : Nat) : Way := ⟨spC w, MARKq⟩
def wayB : Way := ⟨fun c => [c], []⟩

theorem wayB_good : wayB.Good SignOk where
  same := fun e _ R => singles_same [e] R
  other := fun e x _ _ h R => singles_diff [e] [x] R (by simp [diff, h])
  mark := fun x _ R => by
    show endS [[]] (x :: R) = some R
    unfold endS
    rw [if_neg (by simp), if_neg (by simp)]
    rfl
  ne := fun e _ => by simp [wayB]
  inner := fun e x _ _ u v h hu hv R => by
    have : (wayB.sp x).length = u.length + v.length := by rw [h, List.length_append]
    have h1 : (wayB.sp x).length = 1 := rfl
    have h2 : 0 < u.length := List.length_pos_iff.mpr hu
    have h3 : 0 < v.length := List.length_pos_iff.mpr hv
    omega
theorem wayB_plain : wayB.Plain SignOk := fun e he c hc => by
  have : c = e := by simpa [wayB] using hc
  subst this
  exact ⟨fun q => he (q ▸ by decide), fun q => he (q ▸ by decide)⟩

theorem isRef_split {l : List Nat} (h : isRef l = true) : ∃ m, l = 38 :: m ∧ (∀ c ∈ m, c ∈ refL) ∧ ∃ p, l = p ++ [59] ∧ 59 ∉ p := by
  unfold isRef at h
  simp only [Bool.and_eq_true, beq_iff_eq, Bool.not_eq_true', decide_eq_true_eq] at h
  obtain ⟨⟨⟨⟨h1, h2⟩, h3⟩, h4⟩, h5⟩ := h
  cases l with
  | nil => simp at h1
  | cons a m =>
    obtain rfl : a = 38 := by simpa using h1
    obtain ⟨ys, hys⟩ := List.getLast?_eq_some_iff.mp h2
    refine ⟨m, rfl, fun c hc => ?_, ys, hys, ?_⟩
    · rw [List.all_eq_true] at h3
      simpa using h3 c hc
    · rw [hys, List.dropLast_concat] at h4
      simpa using h4
theorem wayW_good {w : Nat} (hw : w < 5) : (wayW w).Good SignOk where
  same := fun e _ R => singles_same (spC w e) R
  other := fun e x he hx h R => singles_diff (spC w e) (spC w x) R (spC_diff hw he hx h)
  mark := fun x hx R => by
    show endS [MARKq] (spC w x ++ R) = some R
    rcases spC_kind hw hx with ⟨h1, h2, h3⟩ | h
    · rw [h1]
      show endS [MARKq] (x :: R) = some R
      unfold endS
      rw [if_pos (by decide), if_neg h2, if_neg h3]
      rfl
    · obtain ⟨m, h1, h2, p, h3, h4⟩ := isRef_split h
      have ha : after59 (spC w x ++ R) = some R := by
        rw [h3, List.append_assoc]; exact after59_to p R h4
      rw [h1] at ha ⊢
      rw [List.cons_append] at ha ⊢
      unfold endS
      rw [if_pos (by decide), if_pos rfl, ha]
      rfl
  ne := fun e he => by
    show spC w e ≠ []
    rcases spC_kind hw he with ⟨h1, _⟩ | h
    · rw [h1]; simp
    · obtain ⟨m, h1, _⟩ := isRef_split h; rw [h1]; simp
  inner := fun e x he hx u v h hu hv R => by
    replace h : spC w x = u ++ v := h
    rcases spC_kind hw hx with ⟨h1, _⟩ | hr
    · rw [h1] at h
      have := congrArg List.length h
      rw [List.length_append] at this
      have h2 : 0 < u.length := List.length_pos_iff.mpr hu
      have h3 : 0 < v.length := List.length_pos_iff.mpr hv
      simp only [List.length_cons, List.length_nil] at this
      omega
    · obtain ⟨m, h1, h2, _⟩ := isRef_split hr
      cases u with
      | nil => exact absurd rfl hu
      | cons a u =>
        cases v with
        | nil => exact absurd rfl hv
        | cons b v =>
          rw [h1] at h
          have hm : m = u ++ b :: v := by simpa using (List.cons.inj h).2
          have hb : b ∈ refL := h2 b (by rw [hm]; simp)
          have h38 : b ≠ 38 := fun q => by subst q; revert hb; decide
          rw [List.cons_append]
          by_cases h63 : e = 63
          · have ht : (wayW w).tests [e] = [MARKq] := by simp [Way.tests, h63, wayW]
            rw [ht]
            unfold endS
            rw [if_pos (by decide), if_neg h38, if_pos hb]
          · have hoe := he.resolve_left h63
            have ht : (wayW w).tests [e] = singles (spC w e) := by simp [Way.tests, h63, wayW, singles]
            rw [ht]
            have hd : ∃ c l, spC w e = c :: l ∧ c ≠ b := by
              rcases spC_kind hw hoe with ⟨g1, _, g3⟩ | hr'
              · exact ⟨e, [], g1, fun q => g3 (q ▸ hb)⟩
              · obtain ⟨m', g1, _⟩ := isRef_split hr'
                exact ⟨38, m', g1, Ne.symm h38⟩
            obtain ⟨c, l, hc, hcb⟩ := hd
            rw [hc]
            exact singles_diff (c :: l) (b :: v) R (by simp [diff, hcb])
theorem wayW_plain {w : Nat} (hw : w < 5) : (wayW w).Plain SignOk := fun e he c hc => by
  replace hc : c ∈ spC w e := hc
  rcases spC_kind hw he with ⟨h1, _⟩ | hr
  · rw [h1] at hc
    have : c = e := by simpa using hc
    subst this
    exact ⟨fun q => he (q ▸ by decide), fun q => he (q ▸ by decide)⟩
  · obtain ⟨m, h1, h2, _⟩ := isRef_split hr
    rw [h1] at hc
    rcases List.mem_cons.mp hc with rfl | hc
    · exact ⟨by decide, by decide⟩
    · have := h2 c hc
      exact ⟨fun q => by subst q; revert this; decide, fun q => by subst q; revert this; decide⟩
end -- RxPn

section -- RxPo
open PySem
theorem gm_split (q : List Nat) : ∀ (p n : List Nat), gm (p ++ q) n = true ↔ ∃ j, j ≤ n.length ∧ gm p (n.take j) = true ∧ gm q (n.drop j) = true
  | [], n => by
    constructor
    · intro h; exact ⟨0, Nat.zero_le _, by simp [gm_nil], by simpa using h⟩
    · rintro ⟨j, hj, h1, h2⟩
      rw [gm_nil] at h1
      have : j = 0 ∨ n = [] := by
        cases n with
        | nil => exact .inr rfl
        | cons x n => cases j with
          | zero => exact .inl rfl
          | succ j => simp at h1
      rcases this with rfl | rfl <;> simpa using h2
  | c :: p, [] => by
    by_cases hc : c = 42
    · subst hc
      rw [List.cons_append, gm_star]
      have ih := gm_split q p []
      simp only [Bool.or_false]
      rw [ih]
      constructor
      · rintro ⟨j, hj, h1, h2⟩; exact ⟨j, hj, by rw [List.take_nil] at h1 ⊢; rw [gm_star, h1]; rfl, h2⟩
      · rintro ⟨j, hj, h1, h2⟩; exact ⟨j, hj, by rw [List.take_nil] at h1 ⊢; rw [gm_star] at h1; simpa using h1, h2⟩
    · rw [List.cons_append, gm_lit hc]
      constructor
      · intro h; simp at h
      · rintro ⟨j, hj, h1, h2⟩; rw [List.take_nil, gm_lit hc] at h1; simp at h1
  | c :: p, x :: n => by
    by_cases hc : c = 42
    · subst hc
      rw [List.cons_append, gm_star]
      simp only [Bool.or_eq_true]
      rw [gm_split q p (x :: n), ← List.cons_append, gm_split q (42 :: p) n]
      constructor
      · rintro (⟨j, hj, h1, h2⟩ | ⟨j, hj, h1, h2⟩)
        · exact ⟨j, hj, by rw [gm_star, h1]; rfl, h2⟩
        · exact ⟨j + 1, by simpa using hj, by rw [List.take_succ_cons, gm_star]; simp only; rw [h1]; simp, by simpa using h2⟩
      · rintro ⟨j, hj, h1, h2⟩
        cases j with
        | zero =>
          left
          refine ⟨0, Nat.zero_le _, ?_, h2⟩
          rw [List.take_zero, gm_star] at h1
          simpa using h1
        | succ j =>
          rw [List.take_succ_cons, gm_star] at h1
          simp only [Bool.or_eq_true] at h1
          rcases h1 with h1 | h1
          · exact .inl ⟨j + 1, hj, by rw [List.take_succ_cons]; exact h1, h2⟩
          · exact .inr ⟨j, by simpa using hj, h1, by simpa using h2⟩
    · rw [List.cons_append, gm_lit hc]
      simp only [Bool.and_eq_true]
      rw [gm_split q p n]
      constructor
      · rintro ⟨h0, j, hj, h1, h2⟩
        exact ⟨j + 1, by simpa using hj, by rw [List.take_succ_cons, gm_lit hc]; simp only [Bool.and_eq_true]; exact ⟨h0, h1⟩, by simpa using h2⟩
      · rintro ⟨j, hj, h1, h2⟩
        cases j with
        | zero => rw [List.take_zero, gm_lit hc] at h1; simp at h1
        | succ j =>
          rw [List.take_succ_cons, gm_lit hc] at h1
          simp only [Bool.and_eq_true] at h1
          exact ⟨h1.1, j, by simpa using hj, h1.2, by simpa using h2⟩
termination_by p n => p.length + n.length

/-- one row of the table that _law_means keeps -/
def rowF (p : Nat) (name : List Nat) (hs : List Bool) : List Bool :=
  if p = 42 then (List.range hs.length).map fun k => (hs.take (k + 1)).contains true
  else false :: (List.range name.length).map fun k => hs.getD k false && (p == 63 || p == name.getD k 0)
def rowsF (name : List Nat) (pat : List Nat) : List Bool := pat.foldl (fun h p => rowF p name h) (true :: name.map fun _ => false)

theorem rows_gm (name : List Nat) : ∀ (rp : List Nat), rowsF name rp.reverse = (List.range (name.length + 1)).map fun k => gm rp.reverse (name.take k)
  | [] => by
    unfold rowsF
    simp only [List.reverse_nil, List.foldl_nil]
    apply List.ext_getElem
    · simp
    · intro i h1 h2
      cases i with
      | zero => simp [gm_nil]
      | succ i =>
        simp only [List.length_cons, List.length_map] at h1
        simp only [List.getElem_cons_succ, List.getElem_map, List.getElem_range, gm_nil]
        symm
        rw [Bool.eq_false_iff]
        intro h
        have := congrArg List.length (List.isEmpty_iff.mp h)
        rw [List.length_take, List.length_nil] at this
        omega
  | c :: rp => by
    have ih := rows_gm name rp
    have e : rowsF name (c :: rp).reverse = rowF c name (rowsF name rp.reverse) := by
      unfold rowsF; simp
    rw [e, ih, List.reverse_cons]
    generalize rp.reverse = p
    unfold rowF
    by_cases hc : c = 42
    · subst hc
      rw [if_pos rfl]
      apply List.ext_getElem
      · simp
      · intro i h1 h2
        simp only [List.length_map, List.length_range] at h2
        simp only [List.getElem_map, List.getElem_range]
        rw [Bool.eq_iff_iff, List.contains_iff_mem, gm_split]
        constructor
        · intro h
          rw [← List.map_take, List.mem_map] at h
          obtain ⟨j, hj, h⟩ := h
          rw [List.take_range, List.mem_range] at hj
          refine ⟨j, by rw [List.length_take]; omega, ?_, ?_⟩
          · rw [List.take_take, Nat.min_eq_left (by omega)]; exact h
          · rw [gm_star_end [] (by simp)]
            induction ((name.take i).drop j) with
            | nil => rfl
            | cons a b ih => rw [anyE, ih]; simp
        · rintro ⟨j, hj, h3, _⟩
          rw [List.length_take] at hj
          rw [← List.map_take, List.mem_map]
          refine ⟨j, by rw [List.take_range, List.mem_range]; omega, ?_⟩
          rw [List.take_take, Nat.min_eq_left (by omega)] at h3
          exact h3
    · rw [if_neg hc]
      apply List.ext_getElem
      · simp
      · intro i h1 h2
        simp only [List.length_map, List.length_range] at h2
        cases i with
        | zero =>
          simp only [List.getElem_cons_zero, List.getElem_map, List.getElem_range, List.take_zero]
          symm
          rw [Bool.eq_false_iff]
          intro h
          rw [gm_split] at h
          obtain ⟨j, hj, _, h3⟩ := h
          rw [List.drop_nil, gm_lit hc] at h3
          cases h3
        | succ i =>
          have hi : i < name.length := by omega
          simp only [List.getElem_cons_succ, List.getElem_map, List.getElem_range]
          rw [Bool.eq_iff_iff, gm_split]
          have hg : (List.map (fun k => gm p (name.take k)) (List.range (name.length + 1))).getD i false = gm p (name.take i) := by
            rw [List.getD_eq_getElem?_getD, List.getElem?_map, List.getElem?_range (by omega)]
            rfl
          have hn : name.getD i 0 = name[i] := by rw [List.getD_eq_getElem?_getD, List.getElem?_eq_getElem hi]; rfl
          rw [hg, hn]
          have hd : (name.take (i + 1)).drop i = [name[i]] := by
            rw [List.take_add_one, List.getElem?_eq_getElem hi, List.drop_append_of_le_length (by rw [List.length_take]; omega)]
            simp
          constructor
          · intro h
            simp only [Bool.and_eq_true] at h
            refine ⟨i, by rw [List.length_take]; omega, by rw [List.take_take, Nat.min_eq_left (by omega)]; exact h.1, ?_⟩
            rw [hd, gm_lit hc]
            simpa [gm_nil] using h.2
          · rintro ⟨j, hj, h3, h4⟩
            rw [gm_lit hc] at h4
            rw [List.length_take] at hj
            have hl : ((name.take (i + 1)).drop j).length = i + 1 - j := by rw [List.length_drop, List.length_take]; omega
            have hj' : j = i := by
              cases hx : (name.take (i + 1)).drop j with
              | nil => rw [hx] at h4; cases h4
              | cons a b =>
                rw [hx] at h4 hl
                simp only [Bool.and_eq_true, gm_nil] at h4
                have : b = [] := by simpa using h4.2
                subst this
                simp only [List.length_cons, List.length_nil] at hl
                omega
            subst hj'
            rw [hd] at h4
            rw [List.take_take, Nat.min_eq_left (by omega)] at h3
            simp only [Bool.and_eq_true]
            exact ⟨h3, by simpa [gm_nil] using h4⟩

theorem means_gm (name pat : List Nat) : (rowsF name pat).getLast? = some (gm pat name) := by
  have := rows_gm name pat.reverse
  rw [List.reverse_reverse] at this
  rw [this, List.range_succ, List.map_append]
  simp
end -- RxPo

open PySem PySem.W PyProof.Rows PySem.Calls
local macro_rules | `(tactic| walk_at "one") => `(tactic| ((first | (k_unfold; (try dsimp only)) | walk1 | (dsimp only; walk1)); (all_goals (try ((with_reducible show wpAny _ _ (exec _ _) _ _ _); k_fold)))))
local macro_rules | `(tactic| walk_at "tx") => `(tactic| with_reducible first | exact l42 | exact l63 | exact l91 | exact l93 | exact l33 | exact l38 | exact l41 | exact l46 | exact l59 | exact l92 | exact l_ | exact lEB | exact lDS | exact lHead | exact lTail | exact lGrp | exact rfl)
local macro_rules | `(tactic| walk_at "subtx") => `(tactic| ((with_reducible show wpAny _ _ (subscriptTail _ _ (Value.str (Tx _) _) (Value.int _ _)) _ _ _); k_dflt (refine' sub_tx (by omega) (by omega) (by omega) ?_; k_whole); intro c' hc'))
local macro_rules | `(tactic| walk_at "subscriptTail Name Name str int") => `(tactic| walk_at "subtx")
local macro_rules | `(tactic| walk_at "subscriptTail Name BinOp str int") => `(tactic| walk_at "subtx")
local macro_rules | `(tactic| walk_at "compareOp Eq str str") => `(tactic| k_dflt (refine eq_tx (by walk_at "tx") (by walk_at "tx") ?_))
local macro_rules | `(tactic| walk_at "compareOp NotEq str str") => `(tactic| k_dflt (refine ne_tx (by walk_at "tx") (by walk_at "tx") ?_))
local macro_rules | `(tactic| walk_at "getAttr ref") => `(tactic| (k_here; (with_reducible show wpAny _ _ (getAttr (Value.ref _) (Str.ofString "append") true) _ _ _); k_dflt (refine' attr_append (by k_asm) (by k_asm) (by k_mem) ?_; k_whole); intro b' h' F' N' l1; (try k_lt l1); (try k_sweep)))
local macro_rules | `(tactic| walk_at "call ref") => `(tactic| (k_here; k_dflt (refine' call_append (by k_asm) (by k_asm) (by k_mem) (by k_upd) ?_ (by first | size_fits | exact size_of (by omega)); k_whole); intro h' F' N'; (try k_sweep)))
local macro_rules | `(tactic| walk_at "unpackItems ref") => `(tactic| (k_here; k_dflt (refine' unpackItemsN_ (by k_asm) (by k_asm) (by kun_tup) (by first | exact rfl | assumption) (by exact rfl) ?_; k_whole); intro h' F' N'; (try k_sweep)))
local macro_rules | `(tactic| walk_at "callWith ref") => `(tactic| (k_here; (with_reducible show wpAny _ _ (callWith _ (Value.ref _) [] (backTo _ (starEach [_] _)) []) _ _ _); k_dflt (refine' callWith_B (by k_asm) (by k_mem) ?_; k_whole)))
local macro_rules | `(tactic| walk_at "And") => `(tactic| k_dflt ((show Heap.get? _ _ = some (boundObj _ _) ∧ _); refine' newsAnd (by k_asm) (by k_mem) ?_))
local macro_rules | `(tactic| walk_at "go") => `(tactic| repeat' ((fail_if_success (with_reducible show wpAny _ _ (exec (Stmt.While _ _ _ _) _) _ _ _)); (fail_if_success (with_reducible show wpAny _ _ (exec (Stmt.If (Expr.BoolOp _ _ _) _ _ _) _) _ _ _)); walk_at "one"))
local macro_rules | `(tactic| walk_at "going") => `(tactic| repeat' (walk_at "one"))
local macro_rules | `(tactic| walk_at "truthy ref") => `(tactic| (k_here; k_dflt (first | (refine' truthy_nil (by k_asm) (by k_mem) ?_; k_whole) | (refine' truthy_snoc (by k_asm) (by k_mem) (by omega) ?_; k_whole)); intro tk'))
local macro_rules | `(tactic| walk_at "subscriptTail Name UnaryOp ref int") => `(tactic| (k_here; k_dflt (refine' sub_last (by k_asm) (by k_mem) (by omega) (by rfl) ?_; k_whole)))
local macro_rules | `(tactic| walk_at "compareOp IsNot str ref") => `(tactic| refine isNot_str ?_)
local macro_rules | `(tactic| walk_at "compareOp IsNot ref ref") => `(tactic| refine isNot_self ?_)
local macro_rules | `(tactic| walk_at "compareOp Is str ref") => `(tactic| refine is_str ?_)
local macro_rules | `(tactic| walk_at "compareOp Is ref ref") => `(tactic| refine is_self ?_)
local macro_rules | `(tactic| walk_at "goif") => `(tactic| repeat' ((fail_if_success (with_reducible show wpAny _ _ (exec (Stmt.If _ _ _ _) _) _ _ _)); walk_at "one"))
local macro_rules | `(tactic| walk_at "call builtin:len") => `(tactic| (k_here; (with_reducible show wpAny _ _ (call (Value.builtin _) [Value.ref _]) _ _ _); k_dflt (first | (refine' len_at (by k_asm) (by assumption) (by omega) ?_; k_whole) | (refine' len_news (by k_asm) (by k_mem) (by omega) ?_; k_whole)); intro t' tk'))
local macro_rules | `(tactic| walk_at "subscriptTail Name Name ref int") => `(tactic| (k_here; k_dflt (refine' sub_at (by k_asm) (by assumption) (by omega) (by omega) (by assumption) ?_; k_whole)))
local macro_rules | `(tactic| walk_at "call builtin:str.join") => `(tactic| (k_here; k_dflt (refine' join_tx (by k_asm) (by k_mem) (by assumption) (by exact l_) (by omega) (by omega) ?_; k_whole); intro t' tk'))
local macro_rules | `(tactic| walk_at "call builtin:list.append") => `(tactic| (k_here; (show wpAny _ _ (call (Value.builtin _) [Value.ref _, _]) _ _ _); k_dflt (refine' append_K (by k_asm) (by k_asm) (by k_upd) ?_ (by first | exact size_of (by omega) | size_fits); k_whole); intro h' F' N'; (try k_sweep)))
local macro_rules | `(tactic| walk_at "txsize") => `(tactic| (simp only [PySem.Str.length_append, Tx_length, len_head, len_tail, len_grp, len_par, len_empty, sizeLine_eq]; omega))
local macro_rules | `(tactic| walk_at "joinParts") => `(tactic| (k_here; (with_reducible show wpAny _ _ (joinParts _ (evalEach [] _)) _ _ _); k_dflt (refine joinParts_nil ?_ (by walk_at "txsize"))))
local macro_rules | `(tactic| walk_at "And") => `(tactic| (k_here; (with_reducible show PySem.Str.length _ ≤ sizeLine ∧ _); k_dflt (refine ⟨by walk_at "txsize", ?_⟩)))
local macro_rules | `(tactic| walk_at "compareOp Eq int int") => `(tactic| (k_here; k_dflt (first | refine eq_int_tt (by omega) ?_ | refine eq_int_ff (by omega) ?_)))
local macro_rules | `(tactic| walk_at "gost") => `(tactic| repeat' ((fail_if_success (with_reducible show wpAny _ _ (exec (Stmt.While _ _ _ _) _) _ _ _)); (fail_if_success (with_reducible show wpAny _ _ (exec (Stmt.For _ _ _ _ _) _) _ _ _)); (fail_if_success (with_reducible show wpAny _ _ (exec (Stmt.Assign _ (Expr.ListComp _ _ _ _) _) _) _ _ _)); (fail_if_success (with_reducible show wpAny _ _ (eval (Expr.ListComp _ _ _ _) _) _ _ _)); (fail_if_success (with_reducible show LCg.CompSrc _ _ _ _ _ _ _ _ _ _ _ _ _ _)); (fail_if_success (with_reducible show LCg.CompEnd _ _ _ _ _ _ _ _ _ _ _ _ _ _)); (fail_if_success (with_reducible show wpAny _ _ (call (Value.ref _) _) _ _ _)); walk_at "one"))
local macro_rules | `(tactic| walk_at "assign Tuple") => `(tactic| (k_here; (with_reducible show wpAny _ _ (assign (Expr.Tuple _ _ _) _ (Value.ref _)) _ _ _); k_dflt (refine' kun_list (by k_asm) (by k_asm) (by kun_lst) (by first | exact rfl | assumption) (by exact rfl) (by exact rfl) ?_; k_whole); intro h' F' N'; (try k_sweep)))


section -- RxTr
open PySem PySem.W PyProof.Rows PySem.Calls
open PySem
inductive PartsAre (st : Addr) : List Value → List (Option (List Nat)) → Prop
  | nil : PartsAre st [] []
  | star {vs ps} : PartsAre st vs ps → PartsAre st (.ref st :: vs) (none :: ps)
  | txt {vs ps} (x : List Nat) (t : Tok) : PartsAre st vs ps → PartsAre st (.str (Tx x) t :: vs) (some x :: ps)
theorem PartsAre.snoc_star {st : Addr} : ∀ {vs ps}, PartsAre st vs ps → PartsAre st (vs ++ [.ref st]) (ps ++ [none])
  | _, _, .nil => .star .nil
  | _, _, .star r => .star r.snoc_star
  | _, _, .txt x t r => .txt x t r.snoc_star
theorem PartsAre.snoc_txt {st : Addr} (y : List Nat) (u : Tok) : ∀ {vs ps}, PartsAre st vs ps → PartsAre st (vs ++ [.str (Tx y) u]) (ps ++ [some y])
  | _, _, .nil => .txt y u .nil
  | _, _, .star r => .star (r.snoc_txt y u)
  | _, _, .txt x t r => .txt x t (r.snoc_txt y u)
theorem PartsAre.length {st : Addr} : ∀ {vs ps}, PartsAre st vs ps → vs.length = ps.length
  | _, _, .nil => rfl
  | _, _, .star r => by simp [r.length]
  | _, _, .txt x t r => by simp [r.length]
theorem PartsAre.get {st : Addr} : ∀ {vs ps}, PartsAre st vs ps → ∀ i : Nat, i < vs.length → (ps[i]? = some none ∧ vs[i]? = some (.ref st)) ∨ ∃ x t, ps[i]? = some (some x) ∧ vs[i]? = some (.str (Tx x) t)
  | _, _, .nil, i, h => absurd h (Nat.not_lt_zero _)
  | _, _, .star _, 0, _ => .inl ⟨rfl, rfl⟩
  | _, _, .txt x t _, 0, _ => .inr ⟨x, t, rfl, rfl⟩
  | _, _, .star r, i + 1, h => r.get i (by simpa using h)
  | _, _, .txt _ _ r, i + 1, h => r.get i (by simpa using h)

def trStep (q : List Nat) (res : List (Option (List Nat))) (c : Nat) : List (Option (List Nat)) :=
  if c = 42 then (if res.getLast? = some none then res else res ++ [none])
  else if c = 63 then res ++ [some q]
  else if c = 91 then res ++ [some [92, 91]]
  else res ++ [some (escOf c)]
def trans (q p : List Nat) : List (Option (List Nat)) := p.foldl (trStep q) []

theorem trans_succ {q p : List Nat} {i c : Nat} (h : p[i]? = some c) : trans q (p.take (i + 1)) = trStep q (trans q (p.take i)) c := by
  unfold trans
  rw [List.take_add_one, h]
  simp
theorem trans_le (q : List Nat) : ∀ p : List Nat, ∀ r, (p.foldl (trStep q) r).length ≤ r.length + p.length
  | [], r => by simp
  | c :: p, r => by
    rw [List.foldl_cons]
    have := trans_le q p (trStep q r c)
    have h2 : (trStep q r c).length ≤ r.length + 1 := by
      unfold trStep
      split
      · split <;> simp
      · split
        · simp
        · split <;> simp
    simp only [List.length_cons]; omega
theorem PartsAre.last {st : Addr} {vs : List Value} {v : Value} {ps : List (Option (List Nat))} (h : PartsAre st (vs ++ [v]) ps) : (v = .ref st ∧ ps.getLast? = some none) ∨ ∃ x t, v = .str (Tx x) t ∧ ps.getLast? = some (some x) := by
  have hl := h.length
  have hg := h.get vs.length (by simp)
  simp only [List.length_append, List.length_cons, List.length_nil] at hl
  have e : ps.getLast? = ps[vs.length]? := by rw [List.getLast?_eq_getElem?, ← hl]; simp
  rw [e]
  rcases hg with ⟨h1, h2⟩ | ⟨x, t, h1, h2⟩
  · exact .inl ⟨by simpa using h2, h1⟩
  · exact .inr ⟨x, t, by simpa using h2, h1⟩

inductive TrInv (p q : List Nat) (st : Addr) (t u : Tok) : Nat → (Str → Option Value) → List (Addr × Obj) → Prop
  | mk (i : Nat) (vs : List Value) (n l b : Nat) (ti tn : Tok) {m : Str → Option Value} (hlb : @LT.lt Nat _ l b) (hi : i ≤ p.length) (e1 : m "pat" = some (.str (Tx p) t)) (e2 : m "STAR" = some (.ref st)) (e3 : m "QUESTION_MARK" = some (.str (Tx q) u)) (e4 : m "res" = some (.ref l)) (e5 : m "add" = some (.ref b)) (e6 : m "i" = some (.int i ti)) (e7 : m "n" = some (.int p.length tn)) (hP : PartsAre st vs (trans q (p.take i))) :
    TrInv p q st t u (p.length - i) m [(b, boundObj "list.append" l), (l, listOf vs.toArray n)]
inductive TrCut (p q : List Nat) (st : Addr) (t u : Tok) (l b i : Nat) : (Str → Option Value) → Prop
  | mk (j : Nat) (ti tn tj : Tok) {m : Str → Option Value} (e1 : m "pat" = some (.str (Tx p) t)) (e2 : m "STAR" = some (.ref st)) (e3 : m "QUESTION_MARK" = some (.str (Tx q) u)) (e4 : m "res" = some (.ref l)) (e5 : m "add" = some (.ref b)) (e6 : m "i" = some (.int (i : Nat) ti)) (e7 : m "n" = some (.int p.length tn)) (e8 : m "j" = some (.int j tj)) (hj : j ≤ p.length) : TrCut p q st t u l b i m
inductive TrIn (p q : List Nat) (st : Addr) (t u : Tok) (l b i n : Nat) (vs : List Value) : Nat → (Str → Option Value) → List (Addr × Obj) → Prop
  | mk (j : Nat) (ti tn tj : Tok) {m : Str → Option Value} (e1 : m "pat" = some (.str (Tx p) t)) (e2 : m "STAR" = some (.ref st)) (e3 : m "QUESTION_MARK" = some (.str (Tx q) u)) (e4 : m "res" = some (.ref l)) (e5 : m "add" = some (.ref b)) (e6 : m "i" = some (.int (i : Nat) ti)) (e7 : m "n" = some (.int p.length tn)) (e8 : m "j" = some (.int j tj)) (hj : j ≤ p.length) : TrIn p q st t u l b i n vs (p.length - j) m [(b, boundObj "list.append" l), (l, listOf vs.toArray n)]

section
variable {w : World} {A : Around} {s : Shared} {mg mb : Str → Option Value} {loose : List Str} {mean : ExcName → Option Value}
set_option maxHeartbeats 4000000 in
theorem c_trans {p q : List Nat} {st : Addr} {t u : Tok} {E : Value → Shared → Prop} {Q : Value → Shared → Prop} (X : (heapK w.params).In s.heap) (T : Top vw loose mean mg mb s.heap)
   (hr : A.depth + 1 < recursionLimit) (hh : A.handled = none) (hp : p.length ≤ 100) (hq : 93 ∉ p)
   (h : ∀ h' tk a vs n, Grows s.heap h' → s.heap.get? a = none → h'.get? a = some (listOf (List.toArray vs) n) → PartsAre st vs (trans q p) → Q (.ref a) { s with heap := h', toks := tk }) :
   wpAny (model PP w) A (call (.ref 62) [.str (Tx p) t, .ref st, .str (Tx q) u]) Q E s := by
  refine enter [("pat", .str (Tx p) t), ("STAR", .ref st), ("QUESTION_MARK", .str (Tx q) u)] X T (by k_is) (by k_is) (by omega) rfl (locs (by rfl)) (fun L h₁ F N => ?_) rfl rfl rfl (by decide)
  have hlen : (Tx p).length = p.length := by simp [Str.length]
  walk_at "go"
  rename Fr _ _ _ _ => F'
  rename News _ _ _ _ => N'

  refine while_rule (I := TrInv p q st t u)
    (n := p.length) F' (fun p hp => N' p (.tail _ hp)) (.mk 0 [] 0 _ _ _ _ (by assumption) (Nat.zero_le _) rfl rfl rfl rfl rfl rfl (by rw [← hlen]; rfl) .nil) ?_
  clear F' N'
  rintro k m news h' tk ⟨i, vs, n, l, b, ti, tn, hlb, hi, e1, e2, e3, e4, e5, e6, e7, hP⟩ F N
  have hvl : vs.length ≤ 100 := by
    have := trans_le q (p.take i) []
    rw [hP.length]; simp only [List.length_take, List.length_nil] at this
    show (trans q (p.take i)).length ≤ 100
    unfold trans; omega
  replace F := fr_pins F [("pat", .str (Tx p) t), ("STAR", .ref st), ("QUESTION_MARK", .str (Tx q) u), ("res", .ref l), ("add", .ref b), ("i", .int i ti), ("n", .int p.length tn)]
    (by simp only [List.forall_mem_cons]; exact ⟨e1, e2, e3, e4, e5, e6, e7, List.forall_mem_nil _⟩)
  walk_at "go"
  · -- a star
    rename (p[_]? = some _) => hc
    rename ((_ : List Nat) = [42]) => hs
    replace hc : p[i]? = some 42 := by simp only [List.cons.injEq, and_true] at hs; subst hs; exact hc
    have hT := trans_succ (q := q) hc
    rcases List.eq_nil_or_concat vs with rfl | ⟨vs', v, e⟩
    · walk_at "going"
      rename Fr _ _ _ _ => F'
      rename News _ _ _ _ => N'
      have h0 : (trans q (p.take i)).getLast? = none := by
        have := hP.length; rw [List.getLast?_eq_none_iff]; exact List.length_eq_zero_iff.mp (by simpa using this.symm)
      refine NextOk.intro F' N' (n' := p.length - (i + 1)) (less1 (by assumption)) (.mk (i + 1) [.ref st] _ l b _ _ hlb (succ1 (by assumption)) rfl rfl rfl rfl rfl rfl rfl ?_)
      rw [hT]; unfold trStep; rw [if_pos rfl, h0, if_neg (by simp)]
      exact hP.snoc_star
    · rw [List.concat_eq_append] at e
      subst e
      have hvl' : vs'.length ≤ 99 := by simp at hvl; omega
      rcases hP.last with ⟨rfl, h0⟩ | ⟨x, tx, rfl, h0⟩
      · walk_at "going"
        rename Fr _ _ _ _ => F'
        rename News _ _ _ _ => N'
        refine NextOk.intro F' N' (n' := p.length - (i + 1)) (less1 (by assumption)) (.mk (i + 1) (vs' ++ [.ref st]) _ l b _ _ hlb (succ1 (by assumption)) rfl rfl rfl rfl rfl rfl rfl ?_)
        rw [hT]; unfold trStep; rw [if_pos rfl, h0, if_pos rfl]
        exact hP
      · walk_at "going"
        rename Fr _ _ _ _ => F'
        rename News _ _ _ _ => N'
        rw [List.push_toArray] at N'
        refine NextOk.intro F' N' (n' := p.length - (i + 1)) (less1 (by assumption)) (.mk (i + 1) _ _ l b _ _ hlb (succ1 (by assumption)) rfl rfl rfl rfl rfl rfl rfl ?_)
        rw [hT]; unfold trStep; rw [if_pos rfl, h0, if_neg (by simp)]
        exact hP.snoc_star
  · -- a question mark
    rename (p[_]? = some _) => hc
    rename ((_ : List Nat) = [63]) => hs
    replace hc : p[i]? = some 63 := by simp only [List.cons.injEq, and_true] at hs; subst hs; exact hc
    have hT := trans_succ (q := q) hc
    rename Fr _ _ _ _ => F'
    rename News _ _ _ _ => N'
    rw [List.push_toArray] at N'
    refine NextOk.intro F' N' (n' := p.length - (i + 1)) (less1 (by assumption)) (.mk (i + 1) _ _ l b _ _ hlb (succ1 (by assumption)) rfl rfl rfl rfl rfl rfl rfl ?_)
    rw [hT]; unfold trStep; rw [if_neg (by decide), if_pos rfl]
    exact hP.snoc_txt q u
  · -- a bracket
    rename (p[_]? = some _) => hc
    rename ((_ : List Nat) = [91]) => hs
    replace hc : p[i]? = some 91 := by simp only [List.cons.injEq, and_true] at hs; subst hs; exact hc
    have hT := trans_succ (q := q) hc
    rename Fr _ _ _ _ => F'
    rename News _ _ _ _ => N'
    have hil : (i : Int) < p.length := by assumption
    refine cut s.heap L [(b, boundObj "list.append" l), (l, listOf vs.toArray n)] (TrCut p q st t u l b (i + 1)) ?_ ?_
    · walk_at "going"
      all_goals try dsimp only
      all_goals rename Fr _ _ _ _ => F'
      all_goals rename News _ _ _ _ => N'
      · exact CutOk.intro F' N' (.mk (i + 1 + 1) _ _ _ rfl rfl rfl rfl rfl rfl rfl rfl (by omega))
      · exact CutOk.intro F' N' (.mk (i + 1) _ _ _ rfl rfl rfl rfl rfl rfl rfl rfl (by omega))
      · exact CutOk.intro F' N' (.mk (i + 1) _ _ _ rfl rfl rfl rfl rfl rfl rfl rfl (by omega))
    clear F' N'
    rintro m h' tk F N ⟨j, ti, tn, tj, e1, e2, e3, e4, e5, e6, e7, e8, hj⟩
    replace F := fr_pins F [("pat", .str (Tx p) t), ("STAR", .ref st), ("QUESTION_MARK", .str (Tx q) u), ("res", .ref l), ("add", .ref b), ("i", .int (i + 1 : Nat) ti), ("n", .int p.length tn), ("j", .int j tj)]
      (by simp only [List.forall_mem_cons]; exact ⟨e1, e2, e3, e4, e5, e6, e7, e8, List.forall_mem_nil _⟩)
    dsimp only
    refine wpAny_execs_cons (cut s.heap L [(b, boundObj "list.append" l), (l, listOf vs.toArray n)] (TrCut p q st t u l b (i + 1)) ?_ ?_)
    · walk_at "going"
      all_goals try dsimp only
      all_goals rename Fr _ _ _ _ => F'
      all_goals rename News _ _ _ _ => N'
      · exact CutOk.intro F' N' (.mk (j + 1) _ _ _ rfl rfl rfl rfl rfl rfl rfl rfl (by omega))
      · exact CutOk.intro F' N' (.mk j _ _ _ rfl rfl rfl rfl rfl rfl rfl rfl (by omega))
      · exact CutOk.intro F' N' (.mk j _ _ _ rfl rfl rfl rfl rfl rfl rfl rfl (by omega))
    clear F N
    rintro m h' tk F N ⟨j, ti, tn, tj, e1, e2, e3, e4, e5, e6, e7, e8, hj⟩
    dsimp only
    refine wpAny_execs_cons (while_rule (I := TrIn p q st t u l b (i + 1) n vs) (n := p.length - j)
      F N (.mk j ti tn tj e1 e2 e3 e4 e5 e6 e7 e8 hj) ?_)
    clear F N
    rintro k m _ h' tk ⟨j, ti, tn, tj, e1, e2, e3, e4, e5, e6, e7, e8, hj⟩ F N
    replace F := fr_pins F [("pat", .str (Tx p) t), ("STAR", .ref st), ("QUESTION_MARK", .str (Tx q) u), ("res", .ref l), ("add", .ref b), ("i", .int (i + 1 : Nat) ti), ("n", .int p.length tn), ("j", .int j tj)]
      (by simp only [List.forall_mem_cons]; exact ⟨e1, e2, e3, e4, e5, e6, e7, e8, List.forall_mem_nil _⟩)
    walk_at "goif"
    · -- a bracket that shuts
      rename (p[_]? = some _) => hc2
      rename ((_ : List Nat) = [93]) => hs2
      simp only [List.cons.injEq, and_true] at hs2
      exact absurd (hs2 ▸ List.mem_of_getElem? hc2) hq
    · -- a turn
      rename Fr _ _ _ _ => F'
      rename News _ _ _ _ => N'
      exact NextOk.intro F' N' (n' := p.length - (j + 1)) (less1 (by assumption)) (.mk (j + 1) _ _ _ rfl rfl rfl rfl rfl rfl rfl rfl (by omega))
    · walk_at "going"
      rename Fr _ _ _ _ => F'
      rename News _ _ _ _ => N'
      rw [List.push_toArray] at N'
      refine NextOk.intro F' N' (n' := p.length - (i + 1)) (less1 (by assumption)) (.mk (i + 1) _ _ l b _ _ hlb (succ1 (by assumption)) rfl rfl rfl rfl rfl rfl rfl ?_)
      rw [hT]; unfold trStep; rw [if_neg (by decide), if_neg (by decide), if_pos rfl, lEB]
      exact hP.snoc_txt _ _
  · -- another sign
    rename (p[_]? = some _) => hc
    rename Fr _ _ _ _ => F'
    rename News _ _ _ _ => N'
    rename ¬ (_ : List Nat) = [42] => n1
    rename ¬ (_ : List Nat) = [63] => n2
    rename ¬ (_ : List Nat) = [91] => n3
    have hT := trans_succ (q := q) hc
    refine c_escape (X.keeps F'.keep) (T.keeps F'.keep) (show A.depth + 1 < _ from hr) hh (fun h2 tk2 t2 G => ?_)
    have F2 := fr_grow F' G
    have N2 := news_grow N' G
    clear F' N'
    walk_at "going"
    rename Fr _ _ _ _ => F'
    rename News _ _ _ _ => N'
    rw [List.push_toArray] at N'
    refine NextOk.intro F' N' (n' := p.length - (i + 1)) (less1 (by assumption)) (.mk (i + 1) _ _ l b _ _ hlb (succ1 (by assumption)) rfl rfl rfl rfl rfl rfl rfl ?_)
    rw [show ((i : Int).toNat + 1) = i + 1 from rfl] at hT
    simp only [List.cons.injEq, and_true] at n1 n2 n3
    rw [hT]; unfold trStep; rw [if_neg n1, if_neg n2, if_neg n3]
    exact hP.snoc_txt _ _
  · -- the end
    have he : i = p.length := by omega
    subst he
    rw [List.take_length] at hP
    have z := N (l, listOf vs.toArray n) (.tail _ (.head _))
    exact h _ _ l vs n F.keep z.2.2 z.1 hP
end
end -- RxTr

section -- RxJn
open PySem PySem.W PyProof.Rows PySem.Calls
open PySem
/-- behind a star, f its fixed part so far -/
def grp (f : List Nat) : List (Option (List Nat)) → List Nat
  | [] => [46, 42] ++ f
  | some x :: r => grp (f ++ x) r
  | none :: r => [40, 63, 62, 46, 42, 63] ++ f ++ [41] ++ grp [] r
def joinB : List (Option (List Nat)) → List Nat
  | [] => []
  | some x :: r => x ++ joinB r
  | none :: r => grp [] r
def joinT (ps : List (Option (List Nat))) : List Nat := [40, 63, 115, 58] ++ joinB ps ++ [41, 92, 90]

/-- no two stars behind each other -/
def Alone : List (Option (List Nat)) → Prop
  | [] => True
  | some _ :: r => Alone r
  | none :: none :: _ => False
  | none :: r => Alone r
theorem Alone.get : ∀ {ps : List (Option (List Nat))} {i : Nat}, Alone ps → ps[i]? = some none → ps[i + 1]? ≠ some none
  | [], _, _, h => by simp at h
  | some x :: r, 0, _, h => by simp at h
  | some x :: r, i + 1, a, h => by
    have ih := Alone.get (ps := r) (i := i) a (by simpa using h)
    simpa using ih
  | [none], 0, _, _ => by simp
  | [none], i + 1, _, h => by simp at h
  | none :: some x :: r, 0, _, _ => by simp
  | none :: some x :: r, i + 1, a, h => by
    have ih := Alone.get (ps := some x :: r) (i := i) a (by simpa using h)
    simpa using ih

theorem drop_of_get {α : Type} {l : List α} {i : Nat} {y : α} (h : l[i]? = some y) : l.drop i = y :: l.drop (i + 1) := by
  obtain ⟨hi, rfl⟩ := List.getElem?_eq_some_iff.mp h
  exact List.drop_eq_getElem_cons hi
theorem grp_le : ∀ (r : List (Option (List Nat))) (f : List Nat), f.length ≤ (grp f r).length
  | [], f => by simp [grp]; omega
  | some x :: r, f => by have := grp_le r (f ++ x); rw [List.length_append] at this; unfold grp; omega
  | none :: r, f => by unfold grp; simp only [List.length_append]; omega


inductive JnA (a st : Addr) (nv : Nat) (ps : List (Option (List Nat))) : Nat → (Str → Option Value) → List (Addr × Obj) → Prop
  | mk (l b i : Nat) (ws : List Value) (ls : List (List Nat)) (n' : Nat) (ti tn : Tok) {m : Str → Option Value} (hlb : @LT.lt Nat _ l b) (hi : i ≤ nv) (e1 : m "inp" = some (.ref a)) (e2 : m "STAR" = some (.ref st)) (e3 : m "res" = some (.ref l)) (e4 : m "add" = some (.ref b)) (e5 : m "i" = some (.int i ti)) (e6 : m "n" = some (.int nv tn))
    (hS : StrsAre ws (ls.map Tx)) (hB : ls.flatten ++ joinB (ps.drop i) = joinB ps) (hws : ws.length ≤ 2 * i) (hls : ls.length = ws.length) : JnA a st nv ps (nv - i) m [(b, boundObj "list.append" l), (l, listOf ws.toArray n')]
inductive JnB (a st : Addr) (nv : Nat) (ps : List (Option (List Nat))) : Nat → (Str → Option Value) → List (Addr × Obj) → Prop
  | mk (l b i : Nat) (ws : List Value) (ls : List (List Nat)) (n' : Nat) (ti tn : Tok) {m : Str → Option Value} (hlb : @LT.lt Nat _ l b) (hi : i ≤ nv) (e1 : m "inp" = some (.ref a)) (e2 : m "STAR" = some (.ref st)) (e3 : m "res" = some (.ref l)) (e4 : m "add" = some (.ref b)) (e5 : m "i" = some (.int i ti)) (e6 : m "n" = some (.int nv tn))
    (hS : StrsAre ws (ls.map Tx)) (hB : ls.flatten ++ joinB (ps.drop i) = joinB ps) (hws : ws.length ≤ 2 * i) (hls : ls.length = ws.length) (hD : ps.drop i = [] ∨ ∃ r, ps.drop i = none :: r) :
    JnB a st nv ps (nv - i) m [(b, boundObj "list.append" l), (l, listOf ws.toArray n')]
def JnC (a st : Addr) (nv : Nat) (ps : List (Option (List Nat))) (m : Str → Option Value) (news : List (Addr × Obj)) : Prop := ∃ k, k ≤ nv ∧ JnB a st nv ps k m news
inductive JnD (a st : Addr) (nv : Nat) (ps : List (Option (List Nat))) : (Str → Option Value) → List (Addr × Obj) → Prop
  | mk (l b : Nat) (ws : List Value) (ls : List (List Nat)) (n' : Nat) (ti tn : Tok) {m : Str → Option Value} (hlb : @LT.lt Nat _ l b) (e1 : m "inp" = some (.ref a)) (e2 : m "STAR" = some (.ref st)) (e3 : m "res" = some (.ref l)) (e4 : m "add" = some (.ref b)) (e5 : m "i" = some (.int nv ti)) (e6 : m "n" = some (.int nv tn))
    (hS : StrsAre ws (ls.map Tx)) (hB : ls.flatten = joinB ps) (hws : ws.length ≤ 200) (hls : ls.length = ws.length) : JnD a st nv ps m [(b, boundObj "list.append" l), (l, listOf ws.toArray n')]
inductive JnG (a st : Addr) (nv : Nat) (ps : List (Option (List Nat))) (l b : Nat) (i n' : Nat) (ws : List Value) (ls : List (List Nat)) : Nat → (Str → Option Value) → List (Addr × Obj) → Prop
  | mk (f j : Nat) (fs : List Value) (fl : List (List Nat)) (nf : Nat) (ti tn : Tok) {m : Str → Option Value} (hf : @LT.lt Nat _ b f ∧ @LT.lt Nat _ l f) (hij : i + 1 ≤ j) (hj : j ≤ nv) (e1 : m "inp" = some (.ref a)) (e2 : m "STAR" = some (.ref st)) (e3 : m "res" = some (.ref l)) (e4 : m "add" = some (.ref b)) (e5 : m "i" = some (.int j ti)) (e6 : m "n" = some (.int nv tn)) (e7 : m "fixed" = some (.ref f))
    (hfS : StrsAre fs (fl.map Tx)) (hfB : ls.flatten ++ grp fl.flatten (ps.drop j) = joinB ps) (hfs : fs.length ≤ j) (hfl : fl.length = fs.length) :
    JnG a st nv ps l b i n' ws ls (nv - j) m [(f, listOf fs.toArray nf), (b, boundObj "list.append" l), (l, listOf ws.toArray n')]

section
variable {w : World} {A : Around} {s : Shared} {mg mb : Str → Option Value} {loose : List Str} {mean : ExcName → Option Value}
set_option maxHeartbeats 4000000 in
theorem c_join {st a : Addr} {vs : List Value} {n : Nat} {ps : List (Option (List Nat))} {E : Value → Shared → Prop} {Q : Value → Shared → Prop} (X : (heapK w.params).In s.heap) (T : Top vw loose mean mg mb s.heap)
   (hr : A.depth + 1 < recursionLimit) (hh : A.handled = none) (ha : s.heap.get? a = some (listOf vs.toArray n)) (hP : PartsAre st vs ps) (hA : Alone ps) (hb : (joinB ps).length ≤ 10000) (hv : vs.length ≤ 100)
   (h : ∀ h' tk t, Grows s.heap h' → Q (.str (Tx (joinT ps)) t) { s with heap := h', toks := tk }) :
   wpAny (model PP w) A (call (.ref 69) [.ref a, .ref st]) Q E s := by
  refine enter [("inp", .ref a), ("STAR", .ref st)] X T (by k_is) (by k_is) (by omega) rfl (locs (by rfl)) (fun L h₁ F N => ?_) rfl rfl rfl (by decide)
  have hl := listOf_isList ha
  have hpl := hP.length
  walk_at "go"
  rename Fr _ _ _ _ => F'
  rename News _ _ _ _ => N'
  refine cutN s.heap L (JnC a st vs.length ps) ?_ ?_
  · refine while_rule (I := JnA a st vs.length ps) (n := vs.length)
      F' (fun p hp => N' p (.tail _ hp)) (.mk _ _ 0 [] [] 0 _ _ (by assumption) (Nat.zero_le _) rfl rfl rfl rfl rfl rfl .nil rfl (by simp) rfl) ?_
    clear F' N'
    rintro k m news h' tk ⟨l, b, i, ws, ls, n', ti, tn, hlb, hi, e1, e2, e3, e4, e5, e6, hS, hB, hws, hls⟩ F N
    replace F := fr_pins F [("inp", .ref a), ("STAR", .ref st), ("res", .ref l), ("add", .ref b), ("i", .int i ti), ("n", .int vs.length tn)]
      (by simp only [List.forall_mem_cons]; exact ⟨e1, e2, e3, e4, e5, e6, List.forall_mem_nil _⟩)
    by_cases hin : i < vs.length
    · rcases hP.get i hin with ⟨p1, v1⟩ | ⟨x, tx, p1, v1⟩
      · walk_at "going"
        rename Fr _ _ _ _ => F'
        rename News _ _ _ _ => N'
        exact CutN.intro F' N' ⟨_, Nat.sub_le _ _, .mk l b i ws ls n' _ _ hlb hi rfl rfl rfl rfl rfl rfl hS hB hws hls (.inr ⟨_, drop_of_get p1⟩)⟩
      · walk_at "going"
        rename Fr _ _ _ _ => F'
        rename News _ _ _ _ => N'
        rw [List.push_toArray] at N'
        refine NextOk.intro F' N' (n' := vs.length - (i + 1)) (lessN hin Nat.one_pos) (.mk l b (i + 1) _ (ls ++ [x]) _ _ _ hlb hin rfl rfl rfl rfl rfl rfl ?_ ?_ ?_ ?_)
        · rw [List.map_append]; exact StrsAre.snoc _ _ hS
        · rw [← hB, drop_of_get p1]; simp [joinB]
        · simp only [List.length_append, List.length_cons, List.length_nil]; omega
        · simp [hls]
    · walk_at "going"
      rename Fr _ _ _ _ => F'
      rename News _ _ _ _ => N'
      exact CutN.intro F' N' ⟨_, Nat.sub_le _ _, .mk l b i ws ls n' _ _ hlb hi rfl rfl rfl rfl rfl rfl hS hB hws hls (.inl (List.drop_eq_nil_iff.mpr (by omega)))⟩
  clear F' N'
  rintro m news h' tk F N ⟨k, hk, hJ⟩
  dsimp only
  refine wpAny_execs_cons (cutN s.heap L (JnD a st vs.length ps) ?_ ?_)
  · refine while_rule (I := JnB a st vs.length ps) (n := k)
      F N hJ ?_
    clear F N hJ hk
    rintro k m news h' tk ⟨l, b, i, ws, ls, n', ti, tn, hlb, hi, e1, e2, e3, e4, e5, e6, hS, hB, hws, hls, hD⟩ F N
    replace F := fr_pins F [("inp", .ref a), ("STAR", .ref st), ("res", .ref l), ("add", .ref b), ("i", .int i ti), ("n", .int vs.length tn)]
      (by simp only [List.forall_mem_cons]; exact ⟨e1, e2, e3, e4, e5, e6, List.forall_mem_nil _⟩)
    by_cases hin : i < vs.length
    · rcases hP.get i hin with ⟨p1, v1⟩ | ⟨x, tx, p1, v1⟩
      · have hDr := drop_of_get p1
        by_cases hin2 : i + 1 < vs.length
        · rcases hP.get (i + 1) hin2 with ⟨p2, v2⟩ | ⟨x, tx, p2, v2⟩
          · exact absurd p2 (hA.get p1)
          · walk_at "go"
            rename Fr _ _ _ _ => F'
            rename News _ _ _ _ => N'
            have hB3 : ls.flatten ++ grp [] (ps.drop (i + 1)) = joinB ps := by rw [← hB, hDr]; rfl
            refine while_rule (I := JnG a st vs.length ps l b i n' ws ls) (n := vs.length - (i + 1))
              F' N' (.mk _ (i + 1) [] [] 0 _ _ (by assumption) (Nat.le_refl _) (by omega) rfl rfl rfl rfl rfl rfl rfl .nil hB3 (by simp) rfl) ?_
            clear F' N'
            rintro k m news h' tk ⟨f, j, fs, fl, nf, ti, tn, hf, hij, hj, e1, e2, e3, e4, e5, e6, e7, hfS, hfB, hfs, hfl⟩ F N
            replace F := fr_pins F [("inp", .ref a), ("STAR", .ref st), ("res", .ref l), ("add", .ref b), ("i", .int j ti), ("n", .int vs.length tn), ("fixed", .ref f)]
              (by simp only [List.forall_mem_cons]; exact ⟨e1, e2, e3, e4, e5, e6, e7, List.forall_mem_nil _⟩)
            have hfF : fl.flatten.length ≤ 10000 := by
              have h1 := congrArg List.length hfB
              have h2 := grp_le (ps.drop j) fl.flatten
              rw [List.length_append] at h1
              omega
            by_cases hjn : j < vs.length
            · rcases hP.get j hjn with ⟨p3, v3⟩ | ⟨y, ty, p3, v3⟩
              · walk_at "going"
                rename Fr _ _ _ _ => F'
                rename News _ _ _ _ => N'
                have eF : Str.empty ++ Str.ofString "(?>.*?" ++ Tx fl.flatten ++ Str.ofString ")" = Tx ([40, 63, 62, 46, 42, 63] ++ fl.flatten ++ [41]) := by
                  rw [empty_tx, lGrp, l41, tx_append, tx_append, tx_append]; rfl
                rw [eF, List.push_toArray] at N'
                have hDj := drop_of_get p3
                refine NextOk.intro F' (fun p hp => N' p (.tail _ hp)) (n' := vs.length - j) (by omega) (.mk l b j _ (ls ++ [[40, 63, 62, 46, 42, 63] ++ fl.flatten ++ [41]]) _ _ _ hlb hj rfl rfl rfl rfl rfl rfl ?_ ?_ ?_ ?_ ?_)
                · rw [List.map_append]; exact StrsAre.snoc _ _ hS
                · rw [← hfB, hDj]; simp [grp, joinB]
                · simp only [List.length_append, List.length_cons, List.length_nil]; omega
                · simp [hls]
                · exact .inr ⟨_, hDj⟩
              · walk_at "going"
                rename Fr _ _ _ _ => F'
                rename News _ _ _ _ => N'
                rw [List.push_toArray] at N'
                refine NextOk.intro F' N' (n' := vs.length - (j + 1)) (lessN hjn Nat.one_pos) (.mk f (j + 1) _ (fl ++ [y]) _ _ _ hf (Nat.le_succ_of_le hij) hjn rfl rfl rfl rfl rfl rfl rfl ?_ ?_ ?_ ?_)
                · rw [List.map_append]; exact StrsAre.snoc _ _ hfS
                · rw [← hfB, drop_of_get p3]; simp [grp]
                · simp only [List.length_append, List.length_cons, List.length_nil]; omega
                · simp [hfl]
            · walk_at "going"
              rename Fr _ _ _ _ => F'
              rename News _ _ _ _ => N'
              rw [List.push_toArray, List.push_toArray] at N'
              have hDj : ps.drop j = [] := List.drop_eq_nil_iff.mpr (by omega)
              refine NextOk.intro F' (fun p hp => N' p (.tail _ hp)) (n' := vs.length - j) (by omega) (.mk l b j _ (ls ++ [[46, 42]] ++ [fl.flatten]) _ _ _ hlb hj rfl rfl rfl rfl rfl rfl ?_ ?_ ?_ ?_ ?_)
              · rw [List.map_append, List.map_append, lDS]; exact StrsAre.snoc _ _ (StrsAre.snoc _ _ hS)
              · rw [← hfB, hDj]; simp [grp, joinB]
              · simp only [List.length_append, List.length_cons, List.length_nil]; omega
              · simp [hls]
              · exact .inl hDj
        · walk_at "going"
          rename Fr _ _ _ _ => F'
          rename News _ _ _ _ => N'
          rw [List.push_toArray] at N'
          have he : i + 1 = vs.length := by omega
          refine CutN.intro F' N' (.mk l b _ (ls ++ [[46, 42]]) _ _ _ hlb rfl rfl rfl rfl (by rw [← he]; rfl) rfl ?_ ?_ ?_ ?_)
          · rw [List.map_append, lDS]; exact StrsAre.snoc _ _ hS
          · rw [← hB, hDr, List.drop_eq_nil_iff.mpr (by omega)]; simp [joinB, grp]
          · simp only [List.length_append, List.length_cons, List.length_nil]; omega
          · simp [hls]
      · rw [drop_of_get p1] at hD
        rcases hD with hD | ⟨r, hD⟩ <;> cases hD
    · walk_at "going"
      rename Fr _ _ _ _ => F'
      rename News _ _ _ _ => N'
      have he : i = vs.length := by omega
      subst he
      refine CutN.intro F' N' (.mk l b ws ls n' _ _ hlb rfl rfl rfl rfl rfl rfl hS ?_ (by omega) hls)
      rw [← hB, List.drop_eq_nil_iff.mpr (by omega)]; simp [joinB]
  clear F N hJ hk
  rintro m news h' tk F N ⟨l, b, ws, ls, n', ti, tn, hlb, e1, e2, e3, e4, e5, e6, hS, hB, hws, hls⟩
  replace F := fr_pins F [("inp", .ref a), ("STAR", .ref st), ("res", .ref l), ("add", .ref b), ("i", .int vs.length ti), ("n", .int vs.length tn)]
      (by simp only [List.forall_mem_cons]; exact ⟨e1, e2, e3, e4, e5, e6, List.forall_mem_nil _⟩)
  have hB2 : ls.flatten.length ≤ 10000 := by rw [hB]; exact hb
  walk_at "going"
  try dsimp only
  have e : Str.empty ++ Str.ofString "(?s:" ++ Tx ls.flatten ++ Str.ofString ")\\Z" = Tx (joinT ps) := by
    rw [empty_tx, lHead, lTail, tx_append, tx_append, tx_append, hB]; rfl
  rw [e]
  exact h _ _ _ (Fr.keep (by assumption))
end
end -- RxJn

section -- RxTl
open PySem PySem.W PyProof.Rows PySem.Calls
open PySem
/-- no double star behind the first k signs -/
theorem alone_snoc {x : List Nat} : ∀ {ps : List (Option (List Nat))}, Alone ps → Alone (ps ++ [some x])
  | [], _ => trivial
  | some _ :: r, a => alone_snoc (ps := r) a
  | [none], _ => trivial
  | none :: some y :: r, a => alone_snoc (ps := some y :: r) a
theorem alone_star : ∀ {ps : List (Option (List Nat))}, Alone ps → ps.getLast? ≠ some none → Alone (ps ++ [none])
  | [], _, _ => trivial
  | some _ :: r, a, h => alone_star (ps := r) a (fun q => h (by cases r with | nil => cases q | cons b r => simpa using q))
  | [none], _, h => absurd rfl h
  | none :: some y :: r, a, h => alone_star (ps := some y :: r) a (fun q => h (by simpa using q))
theorem alone_step {q : List Nat} {res : List (Option (List Nat))} {c : Nat} (h : Alone res) : Alone (trStep q res c) := by
  unfold trStep
  split
  · split
    · exact h
    · exact alone_star h (by assumption)
  · split
    · exact alone_snoc h
    · split <;> exact alone_snoc h
theorem alone_trans (q : List Nat) : ∀ (p : List Nat) (res : List (Option (List Nat))), Alone res → Alone (p.foldl (trStep q) res)
  | [], _, h => h
  | _ :: p, _, h => alone_trans q p _ (alone_step h)

local macro_rules | `(tactic| walk_at "call type:object") => `(tactic| (k_here; k_dflt (refine' call_object_K (by k_asm) (by k_asm) ?_; k_whole); intro o' h' F' N'; (try k_sweep)))

section
variable {w : World} {A : Around} {s : Shared} {mg mb : Str → Option Value} {loose : List Str} {mean : ExcName → Option Value}
set_option maxHeartbeats 4000000 in
theorem c_translate {p : List Nat} {t : Tok} {E : Value → Shared → Prop} {Q : Value → Shared → Prop} (X : (heapK w.params).In s.heap) (T : Top vw loose mean mg mb s.heap)
   (hr : A.depth + 2 < recursionLimit) (hh : A.handled = none) (hp : p.length ≤ 100) (hq : 93 ∉ p) (hb : (joinB (trans [46] p)).length ≤ 10000)
   (h : ∀ h' tk t, Grows s.heap h' → Q (.str (Tx (joinT (trans [46] p))) t) { s with heap := h', toks := tk }) :
   wpAny (model PP w) A (call (.ref 43) [.str (Tx p) t]) Q E s := by
  refine enter [("pat", .str (Tx p) t)] X T (by k_is) (by k_is) (by omega) rfl (locs (by rfl)) (fun L h₁ F N => ?_) rfl rfl rfl (by decide)
  walk_at "going"
  rename Fr _ _ _ _ => F'
  rename News _ _ _ _ => N'
  rw [l46]
  refine c_trans (X.keeps F'.keep) (T.keeps F'.keep) (show A.depth + 1 + 1 < _ by omega) hh hp hq (fun h2 tk2 a vs n G hn ha hP => ?_)
  have F2 := fr_grow F' G
  have N2 := news_add F' N' G hn ha
  clear F' N'
  walk_at "going"
  rename Fr _ _ _ _ => F'
  rename News _ _ _ _ => N'
  have hvl : vs.length ≤ 100 := by
    have := trans_le [46] p []
    rw [hP.length]; unfold trans
    simp only [List.length_nil] at this
    omega
  refine c_join (X.keeps F'.keep) (T.keeps F'.keep) (show A.depth + 1 + 1 < _ by omega) hh (N' _ (.head _)).1 hP (alone_trans [46] p [] trivial) hb hvl (fun h3 tk3 t3 G3 => ?_)
  exact h _ _ _ fun b o e => G3 b o (F'.keep b o e)
end
end -- RxTl

local macro_rules | `(tactic| walk_at "tx") => `(tactic| first | with_reducible assumption | with_reducible exact lBad | with_reducible exact lRef)
local macro_rules | `(tactic| walk_at "say") => `(tactic| first | with_reducible assumption | decide)
local macro_rules | `(tactic| walk_at "call builtin:str.isalnum") => `(tactic| k_dflt (refine isalnum_esc (by walk_at "tx") (by assumption) ?_))
local macro_rules | `(tactic| walk_at "subtx") => `(tactic| ((with_reducible show wpAny _ _ (subscriptTail _ _ (Value.str (Tx _) _) (Value.int _ _)) _ _ _); k_dflt (refine' sub_tx_k (by omega) (by omega) (by assumption) ?_; k_whole)))
local macro_rules | `(tactic| k_all) => `(tactic| first | exact restNe (by assumption) | exact restLt (by assumption) (by omega))
local macro_rules | `(tactic| walk_at "compareOp NotEq int int") => `(tactic| (k_here; k_dflt (first | refine ne_int_ff (by omega) ?_ | refine ne_int_tt (by omega) ?_)))
local macro_rules | `(tactic| walk_at "execs nil") => `(tactic| (k_here; with_reducible refine wpAny_execs_nil ?_))
local macro_rules | `(tactic| walk_at "says") => `(tactic| first | exact decide_eq_true (by walk_at "say") | exact decide_eq_false (by walk_at "say") | exact rfl)
local macro_rules | `(tactic| walk_at "compareOp Eq str str") => `(tactic| k_dflt (refine' eq_tx_b (by walk_at "tx") (by walk_at "tx") (by walk_at "says") ?_))
local macro_rules | `(tactic| walk_at "compareOp NotEq str str") => `(tactic| k_dflt (refine' ne_tx_b (by walk_at "tx") (by walk_at "tx") (by walk_at "says") ?_))
local macro_rules | `(tactic| walk_at "compareOp In str str") => `(tactic| k_dflt (refine' in_tx_b (by walk_at "tx") (by walk_at "tx") (by walk_at "says") ?_))

section -- RxPcAll
open PySem PySem.W PyProof.Rows PySem.Calls
open PySem
def MARK : List Nat := [40, 63, 58, 38, 91, 94, 59, 93, 42, 59, 124, 91, 94, 35, 38, 59, 48, 49, 51, 57, 65, 68, 97, 103, 108, 109, 111, 112, 113, 116, 117, 120, 93, 41]
theorem lMARK : Str.ofString "(?:&[^;]*;|[^#&;0139ADaglmopqtux])" = Tx MARK := by decide +kernel

inductive Tk
  | grp | shut | star | mark | dot
  | esc (c : Nat) | lit (c : Nat)
def Tk.text (q : List Nat) : Tk → List Nat
  | .grp => [40, 63, 62, 46, 42, 63]
  | .shut => [41]
  | .star => [46, 42]
  | .mark => q
  | .dot => [46]
  | .esc c => [92, c]
  | .lit c => [c]
def render (q : List Nat) (ts : List Tk) : List Nat := ts.flatMap (Tk.text q)
def litBad : List Nat := [40, 91, 123, 63, 42, 43, 124, 94, 36, 92, 41, 46]
structure Pc where
  how : Nat
  tests : List (List Nat)
def TkOk (q : List Nat) : Nat → List Tk → Prop
  | h, [] => h ≠ 1
  | h, .grp :: r => h = 0 ∧ TkOk q 1 r
  | h, .shut :: r => h = 1 ∧ TkOk q 0 r
  | h, .star :: r => h = 0 ∧ TkOk q 2 r
  | h, .mark :: r => q ≠ [] ∧ TkOk q h r
  | h, .dot :: r => (render q r).head? ≠ some 42 ∧ TkOk q h r
  | h, .esc c :: r => c ∈ escL ∧ TkOk q h r
  | h, .lit c :: r => c ∉ litBad ∧ TkOk q h r
def feed (q : List Nat) : List Pc → Pc → List Tk → List Pc
  | d, c, [] => d ++ [c]
  | d, c, .grp :: r => feed q (d ++ [c]) ⟨1, []⟩ r
  | d, c, .shut :: r => feed q (d ++ [c]) ⟨0, []⟩ r
  | d, c, .star :: r => feed q (d ++ [c]) ⟨2, []⟩ r
  | d, c, .mark :: r => feed q d ⟨c.how, c.tests ++ [q]⟩ r
  | d, c, .dot :: r => feed q d ⟨c.how, c.tests ++ [[]]⟩ r
  | d, c, .esc x :: r => feed q d ⟨c.how, c.tests ++ [[x]]⟩ r
  | d, c, .lit x :: r => feed q d ⟨c.how, c.tests ++ [[x]]⟩ r

inductive DoneAt (rest : List (Addr × Obj)) : List Value → List Pc → Prop
  | nil : DoneAt rest [] []
  | cons {pa ta : Addr} {tk : Tok} {n : Nat} {ws : List Value} {c : Pc} {vs : List Value} {cs : List Pc} (h1 : (pa, listOf #[.int c.how tk, .ref ta] 0) ∈ rest) (h2 : (ta, listOf ws.toArray n) ∈ rest) (h3 : StrsAre ws (c.tests.map Tx))
      (r : DoneAt rest vs cs) : DoneAt rest (.ref pa :: vs) (c :: cs)
theorem DoneAt.snoc {rest : List (Addr × Obj)} {pa ta : Addr} {tk : Tok} {n : Nat} {ws : List Value} {c : Pc} (h1 : (pa, listOf #[.int c.how tk, .ref ta] 0) ∈ rest) (h2 : (ta, listOf ws.toArray n) ∈ rest) (h3 : StrsAre ws (c.tests.map Tx)) :
    ∀ {vs : List Value} {cs : List Pc}, DoneAt rest vs cs → DoneAt rest (vs ++ [.ref pa]) (cs ++ [c])
  | _, _, .nil => .cons h1 h2 h3 .nil
  | _, _, .cons a b d r => .cons a b d (r.snoc h1 h2 h3)
theorem DoneAt.mono {rest rest' : List (Addr × Obj)} (h : ∀ p ∈ rest, p ∈ rest') {vs : List Value} {cs : List Pc} (x : DoneAt rest vs cs) : DoneAt rest' vs cs := by
  induction x with
  | nil => exact .nil
  | cons a b c _ ih => exact .cons (h _ a) (h _ b) c ih

theorem sl_at {body t : List Nat} {k : Nat} (n : Nat) (hk : k ≤ body.length) (hd : body.drop k = t) : Txt.slice (Tx body) (some (k : Int)) (some ((k : Int) + (n : Int))) = Tx (t.take n) := by
  rw [slice_tx body _ _ (by omega) (by omega) (by omega), ← hd]
  congr 2
  have : ((k : Int) + (n : Int) - (k : Int)).toNat = n := by omega
  rw [this]
theorem sl_at1 {body t : List Nat} {k : Nat} {x : Nat} (hk : k < body.length) (hd : body.drop k = x :: t) : Txt.slice (Tx body) (some ((k : Int) + 1)) (some ((k : Int) + 2)) = Tx (t.take 1) := by
  rw [slice_tx body _ _ (by omega) (by omega) (by omega)]
  have e1 : ((k : Int) + 2 - ((k : Int) + 1)).toNat = 1 := by omega
  have e2 : ((k : Int) + 1).toNat = k + 1 := by omega
  rw [e1, e2]
  have : body.drop (k + 1) = t := by
    have := congrArg List.tail hd
    simpa [List.tail_drop] using this
  rw [this]
theorem at_drop {body t : List Nat} {k x : Nat} (hd : body.drop k = x :: t) : body[k]? = some x ∧ k < body.length := by
  have h1 : (body.drop k)[0]? = some x := by rw [hd]; rfl
  rw [List.getElem?_drop] at h1
  exact ⟨by simpa using h1, by have := (List.getElem?_eq_some_iff.mp h1).1; omega⟩
theorem drop_more {body a t : List Nat} {k : Nat} (hd : body.drop k = a ++ t) : body.drop (k + a.length) = t := by
  rw [← List.drop_drop, hd]
  simp

theorem news_rev3 {h₀ h : Heap} {L : Addr} {a b c : Addr × Obj} (N : News h₀ L h [a, b, c]) : News h₀ L h [c, b, a] := fun x hx => N x (by simp only [List.mem_cons] at hx ⊢; rcases hx with h | h | h | h <;> simp [h])

theorem news_open {h₀ h : Heap} {L : Addr} {a1 a2 b1 b2 c : Addr × Obj} {rest : List (Addr × Obj)} (N : News h₀ L h (a1 :: a2 :: b1 :: b2 :: c :: rest)) : News h₀ L h (a2 :: a1 :: c :: b1 :: b2 :: rest) :=
  fun x hx => N x (by simp only [List.mem_cons] at hx ⊢; rcases hx with h | h | h | h | h | h <;> simp [h])
theorem allLt_mem {d : Addr} {l : List (Addr × Obj)} (h : AllLt d l) : ∀ p ∈ l, @LT.lt Nat _ p.1 d := by
  induction l with
  | nil => intro p hp; cases hp
  | cons a r ih =>
    intro p hp
    rcases List.mem_cons.mp hp with rfl | hp
    · exact h.1
    · exact ih h.2 p hp

inductive PcInv (body q : List Nat) (u : Tok) (ts : List Tk) : Nat → (Str → Option Value) → List (Addr × Obj) → Prop
  | mk (p k : Nat) (ts' : List Tk) (d : List Pc) (how : Nat) (tests : List (List Nat)) (ta pa : Nat) (ws refs : List Value) (n nn : Nat) (tkh tb tk : Tok) (rest : List (Addr × Obj)) {m : Str → Option Value}
    (hk : k ≤ body.length) (e1 : m "body" = some (.str (Tx body) tb)) (e2 : m "mark" = some (.str (Tx q) u)) (e3 : m "pieces" = some (.ref p)) (e4 : m "k" = some (.int k tk))
    (hta : @LT.lt Nat _ ta pa) (hr1 : ∀ q ∈ rest, @LT.lt Nat _ q.1 ta) (hr2 : ∀ q ∈ rest, q.1 ≠ p) (hp1 : @Ne Nat p ta) (hp2 : @Ne Nat p pa)
    (hS : StrsAre ws (tests.map Tx)) (hD : DoneAt rest refs d) (hd : body.drop k = render q ts') (hok' : TkOk q how ts') (hfe : feed q d ⟨how, tests⟩ ts' = feed q [] ⟨0, []⟩ ts) (hws : ws.length ≤ k) (hrefs : refs.length ≤ k) :
    PcInv body q u ts (body.length - k) m ((ta, listOf ws.toArray n) :: (pa, listOf #[Value.int how tkh, Value.ref ta] 0) :: (p, listOf (refs ++ [Value.ref pa]).toArray nn) :: rest)


section
variable {w : World} {A : Around} {s : Shared} {mg mb : Str → Option Value} {loose : List Str} {mean : ExcName → Option Value}
set_option maxHeartbeats 8000000 in
theorem c_pieces {body q : List Nat} {ts : List Tk} {t u : Tok} {E : Value → Shared → Prop} {Q : Value → Shared → Prop} (X : (heapK w.params).In s.heap) (T : Top vw loose mean mg mb s.heap)
   (hr : A.depth + 1 < recursionLimit) (hh : A.handled = none) (hb : body.length ≤ 10000) (hq : q = [] ∨ q = MARK) (hB : body = render q ts) (hok : TkOk q 0 ts)
   (h : ∀ h' tk a refs n rest, Grows s.heap h' → (∀ p ∈ (a, listOf (List.toArray refs) n) :: rest, h'.get? p.1 = some p.2 ∧ s.heap.get? p.1 = none) → DoneAt rest refs (feed q [] ⟨0, []⟩ ts) → Q (.ref a) { s with heap := h', toks := tk }) :
   wpAny (model PP w) A (call (.ref 154) [.str (Tx ([40, 63, 115, 58] ++ body ++ [41, 92, 90])) t, .str (Tx q) u]) Q E s := by
  refine enter [("text", .str (Tx ([40, 63, 115, 58] ++ body ++ [41, 92, 90])) t), ("mark", .str (Tx q) u)] X T (by k_is) (by k_is) (by omega) rfl (locs (by rfl)) (fun L h₁ F N => ?_) rfl rfl rfl (by decide)
  have tl : ([40, 63, 115, 58] ++ body ++ [41, 92, 90]).length = body.length + 7 := by simp
  have s4 : Txt.slice (Tx ([40, 63, 115, 58] ++ body ++ [41, 92, 90])) none (some 4) = Tx [40, 63, 115, 58] := slice_to _ 4 (by decide)
  have s3 : Txt.slice (Tx ([40, 63, 115, 58] ++ body ++ [41, 92, 90])) (some (-3)) none = Tx [41, 92, 90] := by
    refine (slice_neg _ 3 (by decide) (by omega)).trans ?_
    rw [tl]
    congr 2
    rw [show body.length + 7 - 3 = ([40, 63, 115, 58] ++ body).length by simp]
    exact List.drop_left
  have sm : Txt.slice (Tx ([40, 63, 115, 58] ++ body ++ [41, 92, 90])) (some 4) (some (-3)) = Tx body := by
    have := slice_mid ([40, 63, 115, 58] ++ body ++ [41, 92, 90]) 4 3 (by decide) (by omega)
    rw [tl] at this
    refine this.trans (congrArg Tx ?_)
    simp
  generalize ([40, 63, 115, 58] ++ body ++ [41, 92, 90]) = text at *
  walk_at "gost"
  rename Fr _ _ _ _ => F'
  rename News _ _ _ _ => N'
  rw [sm] at F'
  have hlen := Tx_length body
  refine while_rule (I := PcInv body q u ts)
    (n := body.length) F' (news_rev3 N')
    (.mk _ 0 ts [] 0 [] _ _ [] [] 0 0 _ _ _ [] (Nat.zero_le _) rfl rfl rfl rfl (by assumption) (List.forall_mem_nil _) (List.forall_mem_nil _) (by omega) (by omega) .nil .nil hB hok rfl (by simp) (by simp)) ?_
  clear F' N'
  rintro m' m news h' tk0 ⟨p, k, ts', d, how, tests, ta, pa, ws, refs, n, nn, tkh, tb, tk, rest, hk, e1, e2, e3, e4, hta, hr1, hr2, hp1, hp2, hS, hD, hd, hok', hfe, hws, hrefs⟩ F N
  replace F := fr_pins F [("body", .str (Tx body) tb), ("mark", .str (Tx q) u), ("pieces", .ref p), ("k", .int k tk)]
    (by simp only [List.forall_mem_cons]; exact ⟨e1, e2, e3, e4, List.forall_mem_nil _⟩)
  cases ts' with
  | nil =>
    have hkl : body.length ≤ k := by simpa [render] using hd
    have hnot : how ≠ 1 := hok'
    walk_at "going"
    try dsimp only
    refine h _ _ p (refs ++ [Value.ref pa]) nn ((ta, listOf ws.toArray n) :: (pa, listOf #[Value.int how tkh, Value.ref ta] 0) :: rest) F.keep (fun x hx => ?_) ?_
    · have z := N x (by simp only [List.mem_cons] at hx ⊢; rcases hx with h | h | h | h <;> simp [h])
      exact ⟨z.1, z.2.2⟩
    · rw [← hfe]
      exact DoneAt.snoc (c := ⟨how, tests⟩) (.tail _ (.head _)) (.head _) hS (hD.mono fun x hx => .tail _ (.tail _ hx))
  | cons x r =>
    have hqM : ∀ t' : List Nat, t'.head? ≠ some 40 → ¬ t'.take 34 = MARK := fun t' h1 h2 => h1 (by
      have := congrArg List.head? h2
      rw [List.head?_take] at this
      simpa [MARK] using this)
    cases x with
    | grp =>
      obtain ⟨rfl, hok2⟩ := hok'
      replace hd : body.drop k = [40, 63, 62, 46, 42, 63] ++ render q r := hd
      have hk1 := at_drop hd
      have s6 : Txt.slice (Tx body) (some (k : Int)) (some ((k : Int) + 6)) = Tx [40, 63, 62, 46, 42, 63] := sl_at 6 hk hd
      have hd2 := drop_more hd
      have hl6 := congrArg List.length hd
      simp only [List.length_drop, List.length_append, List.length_cons, List.length_nil] at hl6
      obtain ⟨hk1, hkl⟩ := hk1
      clear hqM
      walk_at "going"
      rename Fr _ _ _ _ => F'
      rename News _ _ _ _ => N'
      rename (_ ∧ _ ∧ _ ∧ _ ∧ AllLt _ _) => lb
      rename (_ ∧ _ ∧ _ ∧ AllLt _ _) => la
      obtain ⟨la1, la2, la3, la4⟩ := la
      rw [List.push_toArray] at N'
      exact NextOk.intro F' (news_open N') (n' := body.length - (k + 6)) (lessN hkl (by decide)) (.mk p (k + 6) r (d ++ [⟨0, tests⟩]) 1 [] _ _ [] (refs ++ [Value.ref pa]) 0 _ _ tb _ ((ta, listOf ws.toArray n) :: (pa, listOf #[Value.int 0 tkh, Value.ref ta] 0) :: rest) (by omega) rfl rfl rfl (by rfl) lb.1
        (List.forall_mem_cons.mpr ⟨la1, List.forall_mem_cons.mpr ⟨la2, allLt_mem la4⟩⟩) (List.forall_mem_cons.mpr ⟨Ne.symm hp1, List.forall_mem_cons.mpr ⟨Ne.symm hp2, hr2⟩⟩) (Nat.ne_of_lt la3) (Nat.ne_of_lt lb.2.2.2.1) .nil
        (DoneAt.snoc (c := ⟨0, tests⟩) (.tail _ (.head _)) (.head _) hS (hD.mono fun x hx => .tail _ (.tail _ hx))) hd2 hok2 hfe (Nat.zero_le _) (len_snoc hrefs (by decide)))
    | shut =>
      obtain ⟨rfl, hok2⟩ := hok'
      replace hd : body.drop k = 41 :: render q r := hd
      have hk1 := at_drop hd
      have s6 : Txt.slice (Tx body) (some (k : Int)) (some ((k : Int) + 6)) = Tx ((41 :: render q r).take 6) := sl_at 6 hk hd
      have n6 : ¬ (41 :: render q r).take 6 = [40, 63, 62, 46, 42, 63] := by simp
      have hd2 := drop_more (a := [41]) hd
      obtain ⟨hk1, hkl⟩ := hk1
      clear hd hqM
      walk_at "going"
      rename Fr _ _ _ _ => F'
      rename News _ _ _ _ => N'
      rename (_ ∧ _ ∧ _ ∧ _ ∧ AllLt _ _) => lb
      rename (_ ∧ _ ∧ _ ∧ AllLt _ _) => la
      obtain ⟨la1, la2, la3, la4⟩ := la
      rw [List.push_toArray] at N'
      exact NextOk.intro F' (news_open N') (n' := body.length - (k + 1)) (lessN hkl (by decide)) (.mk p (k + 1) r (d ++ [⟨1, tests⟩]) 0 [] _ _ [] (refs ++ [Value.ref pa]) 0 _ _ tb _ ((ta, listOf ws.toArray n) :: (pa, listOf #[Value.int 1 tkh, Value.ref ta] 0) :: rest) hkl rfl rfl rfl (by rfl) lb.1
        (List.forall_mem_cons.mpr ⟨la1, List.forall_mem_cons.mpr ⟨la2, allLt_mem la4⟩⟩) (List.forall_mem_cons.mpr ⟨Ne.symm hp1, List.forall_mem_cons.mpr ⟨Ne.symm hp2, hr2⟩⟩) (Nat.ne_of_lt la3) (Nat.ne_of_lt lb.2.2.2.1) .nil
        (DoneAt.snoc (c := ⟨1, tests⟩) (.tail _ (.head _)) (.head _) hS (hD.mono fun x hx => .tail _ (.tail _ hx))) hd2 hok2 hfe (Nat.zero_le _) (len_snoc hrefs (by decide)))
    | star =>
      obtain ⟨rfl, hok2⟩ := hok'
      replace hd : body.drop k = 46 :: 42 :: render q r := hd
      have hk1 := at_drop hd
      have s6 : Txt.slice (Tx body) (some (k : Int)) (some ((k : Int) + 6)) = Tx ((46 :: 42 :: render q r).take 6) := sl_at 6 hk hd
      have n6 : ¬ (46 :: 42 :: render q r).take 6 = [40, 63, 62, 46, 42, 63] := by simp
      have s2 : Txt.slice (Tx body) (some (k : Int)) (some ((k : Int) + 2)) = Tx [46, 42] := sl_at 2 hk hd
      have hd2 := drop_more (a := [46, 42]) hd
      have hl6 := congrArg List.length hd
      simp only [List.length_drop, List.length_append, List.length_cons, List.length_nil] at hl6
      obtain ⟨hk1, hkl⟩ := hk1
      clear hd hqM
      walk_at "going"
      rename Fr _ _ _ _ => F'
      rename News _ _ _ _ => N'
      rename (_ ∧ _ ∧ _ ∧ _ ∧ AllLt _ _) => lb
      rename (_ ∧ _ ∧ _ ∧ AllLt _ _) => la
      obtain ⟨la1, la2, la3, la4⟩ := la
      rw [List.push_toArray] at N'
      exact NextOk.intro F' (news_open N') (n' := body.length - (k + 2)) (lessN hkl (by decide)) (.mk p (k + 2) r (d ++ [⟨0, tests⟩]) 2 [] _ _ [] (refs ++ [Value.ref pa]) 0 _ _ tb _ ((ta, listOf ws.toArray n) :: (pa, listOf #[Value.int 0 tkh, Value.ref ta] 0) :: rest) (by omega) rfl rfl rfl (by rfl) lb.1
        (List.forall_mem_cons.mpr ⟨la1, List.forall_mem_cons.mpr ⟨la2, allLt_mem la4⟩⟩) (List.forall_mem_cons.mpr ⟨Ne.symm hp1, List.forall_mem_cons.mpr ⟨Ne.symm hp2, hr2⟩⟩) (Nat.ne_of_lt la3) (Nat.ne_of_lt lb.2.2.2.1) .nil
        (DoneAt.snoc (c := ⟨0, tests⟩) (.tail _ (.head _)) (.head _) hS (hD.mono fun x hx => .tail _ (.tail _ hx))) hd2 hok2 hfe (Nat.zero_le _) (len_snoc hrefs (by decide)))
    | mark =>
      obtain ⟨hqn, hok2⟩ := hok'
      rcases hq with rfl | rfl
      · exact absurd rfl hqn
      replace hd : body.drop k = MARK ++ render MARK r := hd
      have hk1 := at_drop hd
      have s6 : Txt.slice (Tx body) (some (k : Int)) (some ((k : Int) + 6)) = Tx [40, 63, 58, 38, 91, 94] := sl_at 6 hk hd
      have s2 : Txt.slice (Tx body) (some (k : Int)) (some ((k : Int) + 2)) = Tx [40, 63] := sl_at 2 hk hd
      have sM : Txt.slice (Tx body) (some (k : Int)) (some ((k : Int) + ((Tx MARK).length : Int))) = Tx MARK := by rw [Tx_length]; exact (sl_at 34 hk hd).trans (congrArg Tx rfl)
      have hML : (Tx MARK).length = 34 := by decide
      have hd2 := drop_more hd
      have hl6 := congrArg List.length hd
      simp only [List.length_drop, List.length_append] at hl6
      have hML2 : MARK.length = 34 := by decide
      rw [hML2] at hd2 hl6
      obtain ⟨hk1, hkl⟩ := hk1
      clear hd hqM
      walk_at "going"
      rename Fr _ _ _ _ => F'
      rename News _ _ _ _ => N'
      rw [List.push_toArray] at N'
      exact NextOk.intro F' N' (n' := body.length - (k + 34)) (lessN hkl (by decide)) (.mk p (k + 34) r d how (tests ++ [MARK]) ta pa _ refs _ nn tkh tb _ rest (by omega) rfl rfl rfl (by rfl) hta hr1 hr2 hp1 hp2 (by rw [List.map_append]; exact StrsAre.snoc _ _ hS) hD hd2 hok2 hfe (len_snoc hws (by decide)) (le_more hrefs))
    | dot =>
      obtain ⟨hr46, hok2⟩ := hok'
      replace hd : body.drop k = 46 :: render q r := hd
      have hk1 := at_drop hd
      have s6 : Txt.slice (Tx body) (some (k : Int)) (some ((k : Int) + 6)) = Tx ((46 :: render q r).take 6) := sl_at 6 hk hd
      have n6 : ¬ (46 :: render q r).take 6 = [40, 63, 62, 46, 42, 63] := by simp
      have s2 : Txt.slice (Tx body) (some (k : Int)) (some ((k : Int) + 2)) = Tx ((46 :: render q r).take 2) := sl_at 2 hk hd
      have n2 : ¬ (46 :: render q r).take 2 = [46, 42] := by
        cases hR : render q r with
        | nil => simp
        | cons y z => rw [hR] at hr46; simpa using hr46
      have sM : Txt.slice (Tx body) (some (k : Int)) (some ((k : Int) + ((Tx MARK).length : Int))) = Tx ((46 :: render q r).take 34) := by rw [Tx_length]; exact sl_at 34 hk hd
      have hML : (Tx MARK).length = 34 := by decide
      have nM := hqM (46 :: render q r) (by simp)
      have hd2 := drop_more (a := [46]) hd
      obtain ⟨hk1, hkl⟩ := hk1
      clear hd hqM
      rcases hq with rfl | rfl
      · walk_at "going"
        rename Fr _ _ _ _ => F'
        rename News _ _ _ _ => N'
        rw [List.push_toArray] at N'
        exact NextOk.intro F' N' (n' := body.length - (k + 1)) (lessN hkl (by decide)) (.mk p (k + 1) r d how (tests ++ [[]]) ta pa _ refs _ nn tkh tb _ rest hkl rfl rfl rfl (by rfl) hta hr1 hr2 hp1 hp2 (by rw [List.map_append]; exact by rw [l_]; exact StrsAre.snoc _ _ hS) hD hd2 hok2 hfe (len_snoc hws (by decide)) (le_more hrefs))
      · walk_at "going"
        rename Fr _ _ _ _ => F'
        rename News _ _ _ _ => N'
        rw [List.push_toArray] at N'
        exact NextOk.intro F' N' (n' := body.length - (k + 1)) (lessN hkl (by decide)) (.mk p (k + 1) r d how (tests ++ [[]]) ta pa _ refs _ nn tkh tb _ rest hkl rfl rfl rfl (by rfl) hta hr1 hr2 hp1 hp2 (by rw [List.map_append]; exact by rw [l_]; exact StrsAre.snoc _ _ hS) hD hd2 hok2 hfe (len_snoc hws (by decide)) (le_more hrefs))
    | esc c =>
      obtain ⟨hce, hok2⟩ := hok'
      replace hd : body.drop k = 92 :: c :: render q r := hd
      have hk1 := at_drop hd
      have s6 : Txt.slice (Tx body) (some (k : Int)) (some ((k : Int) + 6)) = Tx ((92 :: c :: render q r).take 6) := sl_at 6 hk hd
      have n6 : ¬ (92 :: c :: render q r).take 6 = [40, 63, 62, 46, 42, 63] := by simp
      have s2 : Txt.slice (Tx body) (some (k : Int)) (some ((k : Int) + 2)) = Tx ((92 :: c :: render q r).take 2) := sl_at 2 hk hd
      have n2 : ¬ (92 :: c :: render q r).take 2 = [46, 42] := by simp
      have sM : Txt.slice (Tx body) (some (k : Int)) (some ((k : Int) + ((Tx MARK).length : Int))) = Tx ((92 :: c :: render q r).take 34) := by rw [Tx_length]; exact sl_at 34 hk hd
      have hML : (Tx MARK).length = 34 := by decide
      have nM := hqM (92 :: c :: render q r) (by simp)
      have hd2 := drop_more (a := [92, c]) hd
      have hl6 := congrArg List.length hd
      simp only [List.length_drop, List.length_append, List.length_cons, List.length_nil] at hl6
      obtain ⟨hk1, hkl⟩ := hk1
      have s1 : Txt.slice (Tx body) (some ((k : Int) + 1)) (some ((k : Int) + 2)) = Tx [c] := sl_at1 hkl hd
      clear hd hqM
      rcases hq with rfl | rfl
      · walk_at "going"
        rename Fr _ _ _ _ => F'
        rename News _ _ _ _ => N'
        rw [List.push_toArray] at N'
        exact NextOk.intro F' N' (n' := body.length - (k + 2)) (lessN hkl (by decide)) (.mk p (k + 2) r d how (tests ++ [[c]]) ta pa _ refs _ nn tkh tb _ rest (by omega) rfl rfl rfl (by rfl) hta hr1 hr2 hp1 hp2 (by rw [List.map_append]; exact by rw [s1]; exact StrsAre.snoc _ _ hS) hD hd2 hok2 hfe (len_snoc hws (by decide)) (le_more hrefs))
      · walk_at "going"
        rename Fr _ _ _ _ => F'
        rename News _ _ _ _ => N'
        rw [List.push_toArray] at N'
        exact NextOk.intro F' N' (n' := body.length - (k + 2)) (lessN hkl (by decide)) (.mk p (k + 2) r d how (tests ++ [[c]]) ta pa _ refs _ nn tkh tb _ rest (by omega) rfl rfl rfl (by rfl) hta hr1 hr2 hp1 hp2 (by rw [List.map_append]; exact by rw [s1]; exact StrsAre.snoc _ _ hS) hD hd2 hok2 hfe (len_snoc hws (by decide)) (le_more hrefs))
    | lit c =>
      obtain ⟨hcl, hok2⟩ := hok'
      replace hd : body.drop k = c :: render q r := hd
      have hk1 := at_drop hd
      simp only [litBad, List.mem_cons, List.not_mem_nil, or_false, not_or] at hcl
      obtain ⟨c1, c2, c3, c4, c5, c6, c7, c8, c9, c10, c11, c12⟩ := hcl
      have s6 : Txt.slice (Tx body) (some (k : Int)) (some ((k : Int) + 6)) = Tx ((c :: render q r).take 6) := sl_at 6 hk hd
      have n6 : ¬ (c :: render q r).take 6 = [40, 63, 62, 46, 42, 63] := by simp [c1]
      have s2 : Txt.slice (Tx body) (some (k : Int)) (some ((k : Int) + 2)) = Tx ((c :: render q r).take 2) := sl_at 2 hk hd
      have n2 : ¬ (c :: render q r).take 2 = [46, 42] := by simp [c12]
      have sM : Txt.slice (Tx body) (some (k : Int)) (some ((k : Int) + ((Tx MARK).length : Int))) = Tx ((c :: render q r).take 34) := by rw [Tx_length]; exact sl_at 34 hk hd
      have hML : (Tx MARK).length = 34 := by decide
      have nM := hqM (c :: render q r) (by simpa using c1)
      have hd2 := drop_more (a := [c]) hd
      have d1 : ¬ [c] = [41] := by simpa using c11
      have d2 : ¬ [c] = [46] := by simpa using c12
      have d3 : ¬ [c] = [92] := by simpa using c10
      have d4 : ¬ c ∈ [40, 91, 123, 63, 42, 43, 124, 94, 36, 92] := by simp [c1, c2, c3, c4, c5, c6, c7, c8, c9, c10]
      obtain ⟨hk1, hkl⟩ := hk1
      clear hd hqM
      rcases hq with rfl | rfl
      · walk_at "going"
        rename Fr _ _ _ _ => F'
        rename News _ _ _ _ => N'
        rw [List.push_toArray] at N'
        exact NextOk.intro F' N' (n' := body.length - (k + 1)) (lessN hkl (by decide)) (.mk p (k + 1) r d how (tests ++ [[c]]) ta pa _ refs _ nn tkh tb _ rest hkl rfl rfl rfl (by rfl) hta hr1 hr2 hp1 hp2 (by rw [List.map_append]; exact StrsAre.snoc _ _ hS) hD hd2 hok2 hfe (len_snoc hws (by decide)) (le_more hrefs))
      · walk_at "going"
        rename Fr _ _ _ _ => F'
        rename News _ _ _ _ => N'
        rw [List.push_toArray] at N'
        exact NextOk.intro F' N' (n' := body.length - (k + 1)) (lessN hkl (by decide)) (.mk p (k + 1) r d how (tests ++ [[c]]) ta pa _ refs _ nn tkh tb _ rest hkl rfl rfl rfl (by rfl) hta hr1 hr2 hp1 hp2 (by rw [List.map_append]; exact StrsAre.snoc _ _ hS) hD hd2 hok2 hfe (len_snoc hws (by decide)) (le_more hrefs))
end
end -- RxPcAll

section -- RxEnd
open PySem PySem.W PyProof.Rows PySem.Calls
open PySem
/-- what _law_end gives back -/
def endI (ts : List (List Nat)) (n : List Nat) (k : Nat) : Int := match endS ts (n.drop k) with | none => -1 | some r => ((n.length - r.length : Nat) : Int)
theorem endI_none {ts : List (List Nat)} {n : List Nat} {k : Nat} (h : endS ts (n.drop k) = none) : endI ts n k = -1 := by unfold endI; rw [h]
theorem endI_some {ts : List (List Nat)} {n : List Nat} {k j : Nat} (hj : j ≤ n.length) (h : endS ts (n.drop k) = some (n.drop j)) : endI ts n k = (j : Int) := by
  unfold endI; rw [h]; simp only [List.length_drop]; omega
theorem strs_at {vs : List Value} {ts : List (List Nat)} (hs : StrsAre vs (ts.map Tx)) {i : Nat} {v : Value} (hi : i < ts.length) (hv : vs[i]? = some v) : ∃ tv, v = .str (Tx ts[i]) tv := by
  obtain ⟨y, tv, e, hy⟩ := hs.item i v hv
  rw [List.getElem?_map, List.getElem?_eq_getElem hi] at hy
  cases hy
  exact ⟨tv, e⟩
inductive EndInv (l : Addr) (n : List Nat) (t : Tok) (ts : List (List Nat)) (k : Nat) : Nat → (Str → Option Value) → List (Addr × Obj) → Prop
  | mk (i j : Nat) (tk' : Tok) {m : Str → Option Value} (hj : j ≤ n.length) (e1 : m "tests" = some (.ref l)) (e2 : m "name" = some (.str (Tx n) t)) (e3 : m "place" = some (.int j tk')) (hE : endS ts (n.drop k) = endS (ts.drop i) (n.drop j)) : EndInv l n t ts k i m []
section
variable {w : World} {A : Around} {s : Shared} {mg mb : Str → Option Value} {loose : List Str} {mean : ExcName → Option Value}
set_option maxHeartbeats 4000000 in
theorem c_end {l : Addr} {n : List Nat} {t u : Tok} {k : Nat} {vs : List Value} {ts : List (List Nat)} (hl : s.heap.IsList l vs.toArray) (hs : StrsAre vs (ts.map Tx)) (hb : ∀ x ∈ ts, x.length ≤ 100) (hn : vs.length ≤ 1000) (hx : n.length ≤ 1000) (h1 : k ≤ n.length) {E : Value → Shared → Prop} {Q : Value → Shared → Prop}
   (X : (heapK w.params).In s.heap) (T : Top vw loose mean mg mb s.heap)
   (hr : A.depth + 5 < recursionLimit) (hh : A.handled = none)
   (h : ∀ h' tk t', Grows s.heap h' → Q (.int (endI ts n k) t') { s with heap := h', toks := tk }) :
   wpAny (model PP w) A (call (.ref 161) [.ref l, .str (Tx n) t, .int k u]) Q E s := by
  refine enter [("tests", .ref l), ("name", .str (Tx n) t), ("place", .int k u)] X T (by k_is) (by k_is) (by omega) rfl (locs (by rfl)) (fun L h₁ F N => ?_) rfl rfl rfl (by decide)
  have hret : ∀ h' tk t', Grows s.heap h' → endS ts (n.drop k) = none → Q (.int (-1) t') { s with heap := h', toks := tk } := fun h' tk t' G e => by
    have := h h' tk t' G; rwa [endI_none e] at this
  have hfin : ∀ h' tk t' (j : Nat), Grows s.heap h' → j ≤ n.length → endS ts (n.drop k) = some (n.drop j) → Q (.int j t') { s with heap := h', toks := tk } := fun h' tk t' j G hj e => by
    have := h h' tk t' G; rwa [endI_some hj e] at this
  clear h
  refine wpAny_execs_cons (for_list (h₀ := s.heap) hh l vs (EndInv l n t ts k) ?_ ?_ ?_ ?_)
  · walk1
    exact ⟨rfl, _, _, _, [], rfl, F, N, hl.at fun o e => F.keep _ o e, by exact .mk _ k _ h1 rfl rfl rfl rfl⟩
  · obtain ⟨o, ho, _⟩ := id hl
    exact Nat.ne_of_lt (Nat.lt_of_lt_of_le (Heap.lt_size ho) F.above)
  · clear F N
    have hlen : (Tx n).length = n.length := Tx_length n
    rintro it i v h₂ tk m _ own hi hv ⟨j, tk', hj, e1, e2, e3, hE⟩ how hnw hown F N
    have hi' : i < ts.length := by have := hs.length; simp at this; omega
    obtain ⟨tv, rfl⟩ := strs_at hs hi' hv
    replace F := fr_pins F [("tests", .ref l), ("name", .str (Tx n) t), ("place", .int j tk')]
      (by simp only [List.forall_mem_cons]; exact ⟨e1, e2, e3, List.forall_mem_nil _⟩)
    rw [List.drop_eq_getElem_cons hi'] at hE
    have htb : ts[i].length ≤ 100 := hb _ (List.getElem_mem hi')
    generalize ts[i] = te at hE htb
    have htlen : (Tx te).length = te.length := Tx_length te
    walk_at "going"
    · rename ((Str.length (Tx n) : Int) ≤ (j : Int)) => ha
      rw [hlen] at ha
      exact hret _ _ _ (Fr.keep (by assumption)) (hE.trans (by rw [show n.drop j = [] from List.drop_eq_nil_iff.mpr (by omega)]; rfl))
    · rename (n[_]? = some _) => hc
      rename (([_] : List Nat) = [38]) => h38
      rename (Txt.find3 _ _ _ < 0) => hf
      cases h38
      rw [l59] at hf
      have hd := drop_of_get hc
      rcases find59 n j hj with ⟨f1, f2⟩ | ⟨jj, f1, f2, f3, f4⟩
      · refine hret _ _ _ (Fr.keep (by assumption)) (hE.trans ?_)
        rw [Int.toNat_natCast] at hd
        rw [hd] at f2 ⊢
        unfold endS
        rw [if_pos (by omega), if_pos rfl, f2]
      · omega
    · rename (n[_]? = some _) => hc
      rename (([_] : List Nat) = [38]) => h38
      rename (¬ Txt.find3 _ _ _ < 0) => hf
      rename Fr _ _ _ _ => F'
      rename News _ _ _ _ => N'
      cases h38
      rw [l59] at hf F'
      have hd := drop_of_get hc
      rcases find59 n j hj with ⟨f1, f2⟩ | ⟨jj, f1, f2, f3, f4⟩
      · omega
      · rw [f1] at F'
        refine ForOk.intro F' N' hnw (.mk _ (jj + 1) _ (by omega) rfl rfl rfl (hE.trans ?_))
        rw [Int.toNat_natCast] at hd
        rw [hd] at f4 ⊢
        conv => lhs; unfold endS
        rw [if_pos (by omega), if_pos rfl, f4]
    · rename (n[_]? = some _) => hc
      rename (¬ ([_] : List Nat) = [38]) => h38
      rename (_ ∈ [35, 59, 48, 49, 51, 57, 65, 68, 97, 103, 108, 109, 111, 112, 113, 116, 117, 120]) => hr
      have hd := drop_of_get hc
      rw [Int.toNat_natCast] at hd
      refine hret _ _ _ (Fr.keep (by assumption)) (hE.trans ?_)
      rw [hd]
      unfold endS
      rw [if_pos (by omega), if_neg (fun q => h38 (by rw [q])), if_pos (show _ ∈ refL from hr)]
    · rename (n[_]? = some _) => hc
      rename (¬ ([_] : List Nat) = [38]) => h38
      rename (¬ _ ∈ [35, 59, 48, 49, 51, 57, 65, 68, 97, 103, 108, 109, 111, 112, 113, 116, 117, 120]) => hr
      rename Fr _ _ _ _ => F'
      rename News _ _ _ _ => N'
      have hd := drop_of_get hc
      rw [Int.toNat_natCast] at hd
      refine ForOk.intro F' N' hnw (.mk _ (j + 1) _ (by omega) rfl rfl rfl (hE.trans ?_))
      rw [hd]
      conv => lhs; unfold endS
      rw [if_pos (by omega), if_neg (fun q => h38 (by rw [q])), if_neg (show ¬ _ ∈ refL from hr)]
    · rename (decide (te = []) = true) => h0
      rename Fr _ _ _ _ => F'
      rename News _ _ _ _ => N'
      have h0' : te = [] := of_decide_eq_true h0
      subst h0'
      have hd : n.drop j = n[j]'(by omega) :: n.drop (j + 1) := List.drop_eq_getElem_cons _
      refine ForOk.intro F' N' hnw (.mk _ (j + 1) _ (by omega) rfl rfl rfl (hE.trans ?_))
      rw [hd]
      rfl
    · rename (n[_]? = some _) => hc
      rename (te = [_]) => h0
      rename Fr _ _ _ _ => F'
      rename News _ _ _ _ => N'
      have hd := drop_of_get hc
      rw [Int.toNat_natCast] at hd
      refine ForOk.intro F' N' hnw (.mk _ (j + 1) _ (by omega) rfl rfl rfl (hE.trans ?_))
      rw [hd, h0]
      conv => lhs; unfold endS
      rw [if_neg (by simp), if_neg (fun q => q.2 rfl)]
    · rename (n[_]? = some _) => hc
      rename (¬ te = [_]) => h1
      rename (decide (te = []) = false) => h0
      have h0' : te ≠ [] := of_decide_eq_false h0
      have hd := drop_of_get hc
      rw [Int.toNat_natCast] at hd
      refine hret _ _ _ (Fr.keep (by assumption)) (hE.trans ?_)
      rw [hd]
      unfold endS
      rw [if_neg (by omega), if_pos ⟨h0', h1⟩]
  · rintro m _ h' tk ⟨j, tk', hj, e1, e2, e3, hE⟩ F N
    have hL : vs.length = ts.length := by have := hs.length; simpa using this
    rw [hL, List.drop_of_length_le (Nat.le_refl _)] at hE
    replace F := fr_pins F [("tests", .ref l), ("name", .str (Tx n) t), ("place", .int j tk')]
      (by simp only [List.forall_mem_cons]; exact ⟨e1, e2, e3, List.forall_mem_nil _⟩)
    walk_at "going"
    all_goals exact hfin _ _ _ j (Fr.keep (by assumption)) hj hE
end
end -- RxEnd

section -- RxPp
open PySem
def tokC (q : List Nat) (c : Nat) : Tk := if c = 63 then (if q = [] then .dot else .mark) else if c ∈ escL then .esc c else .lit c
/-- the text that stands for a question mark -/
def qtx (q : List Nat) : List Nat := if q = [] then [46] else q
def ctx (q : List Nat) (c : Nat) : List Nat := if c = 63 then qtx q else escOf c
def col : Bool → List Nat → List (Option Nat)
  | _, [] => []
  | b, c :: r => if c = 42 then (if b then col true r else none :: col true r) else some c :: col false r
def tkG (q : List Nat) (f : List Tk) : List (Option Nat) → List Tk
  | [] => .star :: f
  | some c :: r => tkG q (f ++ [tokC q c]) r
  | none :: r => .grp :: (f ++ .shut :: tkG q [] r)
def tkB (q : List Nat) : List (Option Nat) → List Tk
  | [] => []
  | some c :: r => tokC q c :: tkB q r
  | none :: r => tkG q [] r

theorem render_append (q : List Nat) (a b : List Tk) : render q (a ++ b) = render q a ++ render q b := by unfold render; simp
theorem render_cons (q : List Nat) (a : Tk) (b : List Tk) : render q (a :: b) = a.text q ++ render q b := by unfold render; simp
theorem tokC_text {q : List Nat} (c : Nat) : (tokC q c).text q = ctx q c := by
  unfold tokC ctx qtx escOf
  by_cases h : c = 63
  · rw [if_pos h, if_pos h]
    by_cases hq : q = []
    · rw [if_pos hq, if_pos hq]; rfl
    · rw [if_neg hq, if_neg hq]; rfl
  · rw [if_neg h, if_neg h]
    by_cases he : c ∈ escL
    · rw [if_pos he, if_pos he]; rfl
    · rw [if_neg he, if_neg he]; rfl
theorem render_G (q : List Nat) : ∀ (ps : List (Option Nat)) (f : List Tk), render q (tkG q f ps) = grp (render q f) (ps.map (Option.map (ctx q)))
  | [], f => by simp [tkG, grp, render_cons, Tk.text]
  | some c :: r, f => by
    rw [tkG, render_G q r, render_append]
    simp [grp, render, tokC_text]
  | none :: r, f => by
    rw [tkG, render_cons, render_append, render_cons, render_G q r]
    simp [grp, render, Tk.text]
theorem render_B (q : List Nat) : ∀ (ps : List (Option Nat)), render q (tkB q ps) = joinB (ps.map (Option.map (ctx q)))
  | [] => rfl
  | some c :: r => by rw [tkB, render_cons, render_B q r, tokC_text]; rfl
  | none :: r => by rw [tkB, render_G]; rfl

theorem last_map {f : Nat → List Nat} (res : List (Option Nat)) : ((res.map (Option.map f)).getLast? = some none) ↔ res.getLast? = some none := by
  rw [List.getLast?_map]
  cases res.getLast? with
  | none => simp
  | some x => cases x <;> simp
theorem trans_col (q : List Nat) : ∀ (l : List Nat) (res : List (Option Nat)), l.foldl (trStep (qtx q)) (res.map (Option.map (ctx q))) = (res ++ col (decide (res.getLast? = some none)) l).map (Option.map (ctx q))
  | [], res => by simp [col]
  | c :: l, res => by
    rw [List.foldl_cons]
    by_cases hc : c = 42
    · subst hc
      by_cases hl : res.getLast? = some none
      · have e : trStep (qtx q) (res.map (Option.map (ctx q))) 42 = res.map (Option.map (ctx q)) := by
          unfold trStep; rw [if_pos rfl, if_pos ((last_map res).mpr hl)]
        rw [e, trans_col q l res]
        simp [col, hl]
      · have e : trStep (qtx q) (res.map (Option.map (ctx q))) 42 = (res ++ [none]).map (Option.map (ctx q)) := by
          unfold trStep; rw [if_pos rfl, if_neg (fun h => hl ((last_map res).mp h))]; simp
        rw [e, trans_col q l (res ++ [none])]
        simp [col, hl]
    · have e : trStep (qtx q) (res.map (Option.map (ctx q))) c = (res ++ [some c]).map (Option.map (ctx q)) := by
        unfold trStep
        rw [if_neg hc]
        by_cases h63 : c = 63
        · rw [if_pos h63]; simp [ctx, h63]
        · rw [if_neg h63]
          by_cases h91 : c = 91
          · rw [if_pos h91]; subst h91; simp [ctx, escOf, escL]
          · rw [if_neg h91]; simp [ctx, h63]
      rw [e, trans_col q l (res ++ [some c])]
      simp [col, hc]

def toS (c : Pc) : PcS := ⟨c.how, c.tests⟩
theorem feed_test {q : List Nat} (c : Nat) (d : List Pc) (p : Pc) (r : List Tk) : feed q d p (tokC q c :: r) = feed q d ⟨p.how, p.tests ++ [tst q c]⟩ r := by
  unfold tokC tst
  by_cases h : c = 63
  · rw [if_pos h, if_pos h]
    by_cases hq : q = []
    · rw [if_pos hq, hq]; rfl
    · rw [if_neg hq]; rfl
  · rw [if_neg h, if_neg h]
    by_cases he : c ∈ escL
    · rw [if_pos he]; rfl
    · rw [if_neg he]; rfl
theorem feed_tests {q : List Nat} : ∀ (fc : List Nat) (d : List Pc) (p : Pc) (r : List Tk), feed q d p (fc.map (tokC q) ++ r) = feed q d ⟨p.how, p.tests ++ fc.map (tst q)⟩ r
  | [], d, p, r => by simp
  | c :: fc, d, p, r => by
    rw [List.map_cons, List.cons_append, feed_test, feed_tests fc]
    simp
theorem feed_G {q : List Nat} : ∀ (l fc : List Nat) (d : List Pc) (p : Pc), (feed q d p (tkG q (fc.map (tokC q)) (col (decide (fc = [])) l))).map toS = d.map toS ++ toS p :: pcsG q (fc.map (tst q)) l
  | [], fc, d, p => by
    show (feed q d p (.star :: fc.map (tokC q))).map toS = _
    rw [feed]
    have := feed_tests (q := q) fc (d ++ [p]) ⟨2, []⟩ []
    rw [List.append_nil] at this
    rw [this]
    simp [feed, pcsG, toS]
  | c :: l, fc, d, p => by
    by_cases hc : c = 42
    · subst hc
      by_cases hf : fc = []
      · subst hf
        have ih := feed_G (q := q) l [] d p
        simp only [col, pcsG, if_true, decide_true, List.map_nil] at ih ⊢
        exact ih
      · have ih := feed_G (q := q) l [] (d ++ [p] ++ [⟨1, fc.map (tst q)⟩]) ⟨0, []⟩
        have e : col (decide (fc = [])) (42 :: l) = none :: col true l := by simp [col, hf]
        rw [e, tkG, feed, feed_tests]
        simp only [List.nil_append, feed]
        simp only [decide_true, List.map_nil] at ih
        rw [ih]
        simp [pcsG, hf, toS]
    · have ih := feed_G (q := q) l (fc ++ [c]) d p
      have e : col (decide (fc = [])) (c :: l) = some c :: col false l := by simp [col, hc]
      rw [e, tkG, pcsG, if_neg hc]
      simp only [List.map_append, List.map_cons, List.map_nil] at ih
      rw [← ih]
      simp
theorem feed_B {q : List Nat} : ∀ (l : List Nat) (d : List Pc) (f : List (List Nat)), (feed q d ⟨0, f⟩ (tkB q (col false l))).map toS = d.map toS ++ pcs0 q f l
  | [], d, f => by simp [col, tkB, feed, pcs0, toS]
  | c :: l, d, f => by
    by_cases hc : c = 42
    · subst hc
      have := feed_G (q := q) l [] d ⟨0, f⟩
      simp only [decide_true, List.map_nil] at this
      simp only [col, tkB, pcs0, if_true, Bool.false_eq_true, if_false]
      rw [this]; rfl
    · have ih := feed_B (q := q) l d (f ++ [tst q c])
      simp only [col, if_neg hc, tkB, feed_test, pcs0]
      exact ih

theorem ctx_head {q : List Nat} (hq : q = [] ∨ q = MARK) (c : Nat) : ∃ a b, ctx q c = a :: b ∧ a ≠ 42 := by
  unfold ctx
  by_cases h : c = 63
  · rw [if_pos h]
    rcases hq with rfl | rfl
    · exact ⟨46, [], rfl, by decide⟩
    · exact ⟨40, MARK.tail, rfl, by decide⟩
  · rw [if_neg h]
    unfold escOf
    by_cases he : c ∈ escL
    · rw [if_pos he]; exact ⟨92, [c], rfl, by decide⟩
    · rw [if_neg he]; exact ⟨c, [], rfl, fun q => he (q ▸ by decide)⟩
theorem litBad_esc : ∀ c ∈ litBad, c ∈ escL := by decide
theorem tests_ok {q : List Nat} (hq : q = [] ∨ q = MARK) {h : Nat} {r : List Tk} (h1 : (render q r).head? ≠ some 42) (h2 : TkOk q h r) : ∀ fc : List Nat, (render q (fc.map (tokC q) ++ r)).head? ≠ some 42 ∧ TkOk q h (fc.map (tokC q) ++ r)
  | [] => ⟨h1, h2⟩
  | c :: fc => by
    have ih := tests_ok hq h1 h2 fc
    obtain ⟨a, b, e, ha⟩ := ctx_head hq c
    refine ⟨?_, ?_⟩
    · rw [List.map_cons, List.cons_append, render_cons, tokC_text, e]
      simpa using ha
    · rw [List.map_cons, List.cons_append]
      generalize fc.map (tokC q) ++ r = rest at ih ⊢
      unfold tokC
      by_cases h63 : c = 63
      · rw [if_pos h63]
        by_cases hqe : q = []
        · rw [if_pos hqe]; exact ⟨ih.1, ih.2⟩
        · rw [if_neg hqe]; exact ⟨hqe, ih.2⟩
      · rw [if_neg h63]
        by_cases he : c ∈ escL
        · rw [if_pos he]; exact ⟨he, ih.2⟩
        · rw [if_neg he]; exact ⟨fun q => he (litBad_esc c q), ih.2⟩
theorem ok_G {q : List Nat} (hq : q = [] ∨ q = MARK) : ∀ (ps : List (Option Nat)) (fc : List Nat), TkOk q 0 (tkG q (fc.map (tokC q)) ps)
  | [], fc => by
    have := (tests_ok (h := 2) (r := []) hq (by simp [render]) (show (2 : Nat) ≠ 1 by decide) fc).2
    rw [List.append_nil] at this
    exact ⟨rfl, this⟩
  | some c :: r, fc => by
    have := ok_G hq r (fc ++ [c])
    rw [List.map_append] at this
    exact this
  | none :: r, fc => by
    have ih := ok_G hq r []
    have hs : (render q (.shut :: tkG q [] r)).head? ≠ some 42 := by rw [render_cons]; simp [Tk.text]
    exact ⟨rfl, (tests_ok (h := 1) hq hs ⟨rfl, ih⟩ fc).2⟩
theorem ok_B {q : List Nat} (hq : q = [] ∨ q = MARK) : ∀ (ps : List (Option Nat)) , (render q (tkB q ps)).head? ≠ some 42 ∧ TkOk q 0 (tkB q ps)
  | [] => ⟨by simp [tkB, render], by show (0 : Nat) ≠ 1; decide⟩
  | some c :: r => by
    have ih := ok_B hq r
    exact tests_ok hq ih.1 ih.2 [c]
  | none :: r => by
    refine ⟨?_, ok_G hq r []⟩
    show (render q (tkG q [] r)).head? ≠ some 42
    rw [render_G]
    have : ∀ (ps : List (Option (List Nat))) (f : List Nat), (grp f ps).head? ≠ some 42 := by
      intro ps
      induction ps with
      | nil => intro f; simp [grp]
      | cons a r ih => intro f; cases a with
        | none => simp [grp]
        | some x => exact ih _
    exact this _ _
end -- RxPp

section -- RxPq
open PySem
def PatOk (p : List Nat) : Prop := ∀ e ∈ p, e = 42 ∨ e = 63 ∨ SignOk e
def NameOk (n : List Nat) : Prop := ∀ e ∈ n, SignOk e
theorem ok42 : ¬ SignOk 42 := fun h => h (by decide)
theorem ok63 : ¬ SignOk 63 := fun h => h (by decide)

theorem trans_eq (q p : List Nat) : trans (qtx q) p = (col false p).map (Option.map (ctx q)) := by
  have := trans_col q p []
  simpa [trans] using this
theorem body_eq (q p : List Nat) : joinB (trans (qtx q) p) = render q (tkB q (col false p)) := by rw [trans_eq, render_B]

theorem patB (p : List Nat) : wayB.pat p = p := by
  induction p with
  | nil => rfl
  | cons e p ih =>
    unfold Way.pat at ih ⊢
    rw [List.flatMap_cons, ih]
    by_cases h : e = 63
    · simp [h]
    · by_cases h2 : e = 42
      · simp [h2]
      · simp [h, h2, wayB]
theorem allB (n : List Nat) : wayB.all n = n := by
  induction n with
  | nil => rfl
  | cons e p ih => unfold Way.all at ih ⊢; rw [List.flatMap_cons, ih]; rfl
theorem patW (w : Nat) (p : List Nat) : (wayW w).pat p = p.flatMap (spC w) := by
  unfold Way.pat
  refine congrArg (fun f => p.flatMap f) (funext fun e => ?_)
  by_cases h : e = 63
  · rw [if_pos h, h]; exact (spC_plain (by decide)).symm
  · rw [if_neg h]
    by_cases h2 : e = 42
    · rw [if_pos h2, h2]; exact (spC_plain (by decide)).symm
    · rw [if_neg h2]; rfl

/-- the bare text takes the name just if the pattern means it -/
theorem plain_bare {p n : List Nat} (hp : PatOk p) (hn : NameOk n) : takesS ((feed [] [] ⟨0, []⟩ (tkB [] (col false p))).map toS) n = gm p n := by
  rw [feed_B]
  have := (takes_gm wayB_good wayB_plain ok42 p hp [] (by simp) n hn).1
  rw [patB, allB] at this
  exact this
/-- and so does the written one the written name -/
theorem plain_written {w : Nat} (hw : w < 5) {p n : List Nat} (hp : PatOk p) (hn : NameOk n) :
    takesS ((feed MARK [] ⟨0, []⟩ (tkB MARK (col false (p.flatMap (spC w))))).map toS) (n.flatMap (spC w)) = gm p n := by
  rw [feed_B]
  have := (takes_gm (wayW_good hw) (wayW_plain hw) ok42 p hp [] (by simp) n hn).1
  rw [patW] at this
  exact this
/-- no shut bracket is written -/
theorem written_93 {w : Nat} (hw : w < 5) {p : List Nat} (hp : PatOk p) : 93 ∉ p.flatMap (spC w) := by
  intro h
  rw [List.mem_flatMap] at h
  obtain ⟨e, he, hc⟩ := h
  by_cases h7 : e ∈ S7
  · have : ∀ w < 5, ∀ e ∈ S7, 93 ∉ spC w e := by decide
    exact this w hw e h7 hc
  · rw [spC_plain h7] at hc
    have : e = 93 := (List.mem_singleton.mp hc).symm
    subst this
    rcases hp 93 he with h | h | h
    · cases h
    · cases h
    · exact h (by decide)
theorem pat_93 {p : List Nat} (hp : PatOk p) : 93 ∉ p := fun he => by
  rcases hp 93 he with h | h | h
  · cases h
  · cases h
  · exact h (by decide)
theorem spC_len : ∀ w < 5, ∀ e ∈ S7, (spC w e).length ≤ 6 := by decide
theorem written_len {w : Nat} (hw : w < 5) : ∀ p : List Nat, (p.flatMap (spC w)).length ≤ 6 * p.length
  | [] => by simp
  | e :: p => by
    have ih := written_len hw p
    rw [List.flatMap_cons, List.length_append, List.length_cons]
    have : (spC w e).length ≤ 6 := by
      by_cases h7 : e ∈ S7
      · exact spC_len w hw e h7
      · rw [spC_plain h7]; simp
    omega
/-- how long a joined text may be -/
theorem ctx_len {q : List Nat} (hq : q = [] ∨ q = MARK) (c : Nat) : (ctx q c).length ≤ 34 := by
  unfold ctx
  by_cases h : c = 63
  · rw [if_pos h]; rcases hq with rfl | rfl <;> decide
  · rw [if_neg h]; unfold escOf; split <;> simp
theorem grp_len {q : List Nat} (hq : q = [] ∨ q = MARK) : ∀ (ps : List (Option Nat)) (f : List Nat), (grp f (ps.map (Option.map (ctx q)))).length ≤ f.length + 34 * ps.length + 7
  | [], f => by simp [grp]
  | some c :: r, f => by
    have ih := grp_len hq r (f ++ ctx q c)
    have := ctx_len hq c
    simp only [List.map_cons, Option.map_some, grp, List.length_cons, List.length_append] at ih ⊢
    omega
  | none :: r, f => by
    have ih := grp_len hq r []
    simp only [List.map_cons, Option.map_none, grp, List.length_cons, List.length_append, List.length_nil] at ih ⊢
    omega
theorem body_len {q : List Nat} (hq : q = [] ∨ q = MARK) : ∀ (ps : List (Option Nat)), (joinB (ps.map (Option.map (ctx q)))).length ≤ 34 * ps.length + 7
  | [] => by simp [joinB]
  | some c :: r => by
    have ih := body_len hq r
    have := ctx_len hq c
    simp only [List.map_cons, Option.map_some, joinB, List.length_cons, List.length_append] at ih ⊢
    omega
  | none :: r => by
    have := grp_len hq r []
    simp only [List.map_cons, Option.map_none, joinB, List.length_cons, List.length_nil] at this ⊢
    omega
theorem col_len : ∀ (p : List Nat) (b : Bool), (col b p).length ≤ p.length
  | [], _ => by simp [col]
  | c :: p, b => by
    have h1 := col_len p true
    have h2 := col_len p false
    unfold col
    split
    · split
      · simp only [List.length_cons]; omega
      · simp only [List.length_cons]; omega
    · simp only [List.length_cons]; omega
theorem join_len {q : List Nat} (hq : q = [] ∨ q = MARK) (p : List Nat) : (joinB (trans (qtx q) p)).length ≤ 34 * p.length + 7 := by
  rw [trans_eq]
  have h1 := body_len hq (col false p)
  have h2 := col_len p false
  omega
end -- RxPq

section -- RxTk
open PySem PyProof.Rows
theorem after59_suffix : ∀ {l u : List Nat}, after59 l = some u → ∃ j, j ≤ l.length ∧ u = l.drop j
  | [], _, h => nomatch h
  | c :: r, u, h => by
    unfold after59 at h
    split at h
    · cases h; exact ⟨1, by simp, rfl⟩
    · obtain ⟨j, hj, e⟩ := after59_suffix h
      exact ⟨j + 1, by simpa using hj, by simpa using e⟩
theorem endS_suffix : ∀ {ts : List (List Nat)} {r u : List Nat}, endS ts r = some u → ∃ j, j ≤ r.length ∧ u = r.drop j
  | [], r, u, h => by cases h; exact ⟨0, Nat.zero_le _, rfl⟩
  | _ :: _, [], _, h => nomatch h
  | t :: ts, c :: r, u, h => by
    unfold endS at h
    have step : ∀ {r' : List Nat}, endS ts r' = some u → (∃ i, i ≤ (c :: r).length ∧ r' = (c :: r).drop i) → ∃ j, j ≤ (c :: r).length ∧ u = (c :: r).drop j := by
      rintro r' h' ⟨i, hi, e⟩
      obtain ⟨j, hj, e'⟩ := endS_suffix h'
      subst e
      rw [List.length_drop] at hj
      exact ⟨i + j, by omega, by rw [e', List.drop_drop]⟩
    split at h
    · split at h
      · split at h
        · cases h
        · rename_i r' h'
          exact step h (after59_suffix h')
      · split at h
        · cases h
        · exact step h ⟨1, by simp, rfl⟩
    · split at h
      · cases h
      · exact step h ⟨1, by simp, rfl⟩

theorem endI_at {ts : List (List Nat)} {n : List Nat} {k : Nat} (hk : k ≤ n.length) : (endS ts (n.drop k) = none ∧ endI ts n k = -1) ∨ ∃ j : Nat, j ≤ n.length ∧ endS ts (n.drop k) = some (n.drop j) ∧ endI ts n k = (j : Int) := by
  cases h : endS ts (n.drop k) with
  | none => exact .inl ⟨rfl, endI_none h⟩
  | some u =>
    obtain ⟨j, hj, e⟩ := endS_suffix h
    rw [List.length_drop] at hj
    rw [List.drop_drop] at e
    subst e
    exact .inr ⟨k + j, by omega, rfl, endI_some (by omega) h⟩
theorem end_len {ts : List (List Nat)} {n : List Nat} {k : Nat} (hk : k ≤ n.length) : endI ts n k = (n.length : Int) ↔ endS ts (n.drop k) = some [] := by
  rcases endI_at (ts := ts) hk with ⟨h1, h2⟩ | ⟨j, hj, h1, h2⟩
  · rw [h1, h2]
    constructor
    · intro h; omega
    · intro h; cases h
  · rw [h1, h2]
    constructor
    · intro h; rw [List.drop_of_length_le (by omega)]
    · intro h
      have := Option.some.inj h
      rw [List.drop_eq_nil_iff] at this
      omega
def ksOf (ts : List (List Nat)) (n : List Nat) (k m : Nat) : List Int := (List.range m).map fun i => endI ts n (k + i)
theorem ks_succ (ts : List (List Nat)) (n : List Nat) (k m : Nat) : ksOf ts n k (m + 1) = endI ts n k :: ksOf ts n (k + 1) m := by
  unfold ksOf
  rw [List.range_succ_eq_map, List.map_cons, List.map_map]
  congr 1
  refine List.map_congr_left fun i _ => ?_
  show endI ts n (k + (i + 1)) = _
  congr 1; omega
theorem any_ks (ts : List (List Nat)) (n : List Nat) : ∀ (d k : Nat), k + d = n.length → ((n.length : Int) ∈ ksOf ts n k (d + 1) ↔ anyS ts (n.drop k) = true)
  | 0, k, h => by
    rw [ks_succ]
    have hd : n.drop k = [] := List.drop_eq_nil_iff.mpr (by omega)
    have := end_len (ts := ts) (n := n) (k := k) (by omega)
    rw [hd] at this ⊢
    simp only [ksOf, List.range_zero, List.map_nil, List.mem_singleton, anyS, beq_iff_eq]
    rw [← this]; exact eq_comm
  | d + 1, k, h => by
    rw [ks_succ]
    have ih := any_ks ts n d (k + 1) (by omega)
    have hd : n.drop k = n[k]'(by omega) :: n.drop (k + 1) := List.drop_eq_getElem_cons _
    have := end_len (ts := ts) (n := n) (k := k) (by omega)
    rw [hd] at this ⊢
    rw [List.mem_cons, ih, anyS, Bool.or_eq_true, beq_iff_eq, ← this]
    constructor
    · rintro (h | h)
      · exact .inl h.symm
      · exact .inr h
    · rintro (h | h)
      · exact .inl h.symm
      · exact .inr h
theorem first_ks (ts : List (List Nat)) (n : List Nat) : ∀ (d k : Nat), k + d = n.length → (firstS ts (n.drop k) = none ∧ (ksOf ts n k (d + 1)).filter (0 ≤ ·) = []) ∨ ∃ (j : Nat) (r : List Int), j ≤ n.length ∧ firstS ts (n.drop k) = some (n.drop j) ∧ (ksOf ts n k (d + 1)).filter (0 ≤ ·) = (j : Int) :: r
  | 0, k, h => by
    rw [ks_succ]
    have hd : n.drop k = [] := List.drop_eq_nil_iff.mpr (by omega)
    have := endI_at (ts := ts) (n := n) (k := k) (by omega)
    rw [hd] at this ⊢
    rcases this with ⟨h1, h2⟩ | ⟨j, hj, h1, h2⟩
    · left; rw [h2]; exact ⟨by rw [firstS]; exact h1, by simp [ksOf]⟩
    · right; rw [h2]; exact ⟨j, [], hj, by rw [firstS]; exact h1, by simp [ksOf]⟩
  | d + 1, k, h => by
    rw [ks_succ]
    have ih := first_ks ts n d (k + 1) (by omega)
    have hd : n.drop k = n[k]'(by omega) :: n.drop (k + 1) := List.drop_eq_getElem_cons _
    have := endI_at (ts := ts) (n := n) (k := k) (by omega)
    rw [hd] at this ⊢
    rcases this with ⟨h1, h2⟩ | ⟨j, hj, h1, h2⟩
    · rw [h2, firstS, h1]
      have e : ((-1 : Int) :: ksOf ts n (k + 1) (d + 1)).filter (0 ≤ ·) = (ksOf ts n (k + 1) (d + 1)).filter (0 ≤ ·) := by simp
      rw [e]; exact ih
    · right
      rw [h2, firstS, h1]
      exact ⟨j, _, hj, rfl, by simp; rfl⟩

/-- the pieces of a text are small -/
def Small (N : Nat) (c : Pc) : Prop := c.tests.length ≤ N ∧ ∀ x ∈ c.tests, x.length ≤ 40
theorem feed_small {q : List Nat} (hq : q.length ≤ 40) {N : Nat} : ∀ (ts : List Tk) (d : List Pc) (p : Pc), (∀ c ∈ d, Small N c) → p.tests.length + ts.length ≤ N → (∀ x ∈ p.tests, x.length ≤ 40) → ∀ c ∈ feed q d p ts, Small N c
  | [], d, p, hd, hl, hx, c, hc => by
    rw [feed, List.mem_append, List.mem_singleton] at hc
    rcases hc with hc | rfl
    · exact hd c hc
    · exact ⟨by simpa using hl, hx⟩
  | t :: r, d, p, hd, hl, hx, c, hc => by
    have hd' : ∀ c ∈ d ++ [p], Small N c := fun c hc => by
      rw [List.mem_append, List.mem_singleton] at hc
      rcases hc with hc | rfl
      · exact hd c hc
      · exact ⟨by simp at hl; omega, hx⟩
    have new : ∀ h', c ∈ feed q (d ++ [p]) ⟨h', []⟩ r → Small N c := fun h' hc => feed_small hq r _ _ hd' (by simp at hl ⊢; omega) (by simp) c hc
    have more : ∀ y : List Nat, y.length ≤ 40 → c ∈ feed q d ⟨p.how, p.tests ++ [y]⟩ r → Small N c := fun y hy hc => feed_small hq r _ _ hd (by simp at hl ⊢; omega) (fun x hx' => by
      rw [List.mem_append, List.mem_singleton] at hx'
      rcases hx' with h | rfl
      · exact hx x h
      · exact hy) c hc
    cases t with
    | grp => exact new 1 hc
    | shut => exact new 0 hc
    | star => exact new 2 hc
    | mark => exact more q hq hc
    | dot => exact more [] (by simp) hc
    | esc y => exact more [y] (by simp) hc
    | lit y => exact more [y] (by simp) hc
theorem feed_ne {q : List Nat} : ∀ (ts : List Tk) (d : List Pc) (p : Pc), feed q d p ts ≠ []
  | [], d, p => by simp [feed]
  | t :: r, d, p => by cases t <;> exact feed_ne r _ _
theorem DoneAt.length {rest : List (Addr × Obj)} {vs : List Value} {cs : List Pc} (h : DoneAt rest vs cs) : vs.length = cs.length := by
  induction h with
  | nil => rfl
  | cons _ _ _ _ ih => simp [ih]
theorem DoneAt.get {rest : List (Addr × Obj)} {vs : List Value} {cs : List Pc} (h : DoneAt rest vs cs) : ∀ {i : Nat} {v : Value} {c : Pc}, vs[i]? = some v → cs[i]? = some c → ∃ (pa ta : Addr) (tk : Tok) (n : Nat) (ws : List Value), v = .ref pa ∧ (pa, W.listOf #[.int c.how tk, .ref ta] 0) ∈ rest ∧ (ta, W.listOf ws.toArray n) ∈ rest ∧ StrsAre ws (c.tests.map Tx) := by
  induction h with
  | nil => intro i v c h; simp at h
  | @cons pa ta tk n ws c' vs cs h1 h2 h3 r ih =>
    intro i v c hv hc
    cases i with
    | zero =>
      simp only [List.getElem?_cons_zero, Option.some.injEq] at hv hc
      subst hv hc
      exact ⟨pa, ta, tk, n, ws, rfl, h1, h2, h3⟩
    | succ i =>
      simp only [List.getElem?_cons_succ] at hv hc
      exact ih hv hc
end -- RxTk

section -- RxMark
open PySem PySem.W PyProof.Rows PySem.Calls
open PySem
section
variable {w : World} {A : Around} {s : Shared} {mg mb : Str → Option Value} {loose : List Str} {mean : ExcName → Option Value}
theorem c_mark {E : Value → Shared → Prop} {Q : Value → Shared → Prop} (X : (heapK w.params).In s.heap) (T : Top vw loose mean mg mb s.heap)
   (hr : A.depth + 1 < recursionLimit)
   (h : ∀ h' tk t', Grows s.heap h' → Q (.str (Tx MARK) t') { s with heap := h', toks := tk }) :
   wpAny (model PP w) A (call (.ref 147) []) Q E s := by
  refine enter [] X T (by k_is) (by k_is) (by omega) rfl (locs (by rfl)) (fun L h₁ F N => ?_) rfl rfl rfl (by decide)
  repeat' (first | walk1 | (dsimp only; walk1))
  rw [lMARK]
  exact h _ _ _ F.keep
end
end -- RxMark

section -- RxTakes
open PySem PySem.W PyProof.Rows PySem.Calls PySem.SeqAt
open PySem
section
variable {prog : Program} {w : World} {A : Around} {E : Value → Shared → Prop} {s : Shared} {h₀ : Heap} {L : Addr} {m : Str → Option Value} {news : List (Addr × Obj)}
theorem eq_nil {D b : Addr} {vs : List Value} {n k : Nat} {Q : Value → Shared → Prop} (N : News h₀ L s.heap news) (hm : (D, listOf vs.toArray n) ∈ news) (hb : (b, listOf #[] k) ∈ news) (hu : A.units < cLine)
    (h : Q (.bool (decide (vs = []))) s) : wpAny (model prog w) A (compareOp .Eq (.ref D) (.ref b)) Q E s := by
  have h1 := listOf_isList (N _ hm).1
  have h2 := listOf_isList (N _ hb).1
  by_cases e : vs = []
  · subst e
    exact eq_listAt (e := fun _ => true) h1 h2 rfl hu (fun j h _ => absurd h (Nat.not_lt_zero _)) (by simpa using h)
  · rw [decide_eq_false e] at h
    refine eq_list_lengthsAt h1 h2 ?_ hu h
    cases vs with
    | nil => exact absurd rfl e
    | cons => simp
theorem sub_zero {value slice : Expr} {D : Addr} {vs : List Value} {v : Value} {n : Nat} {u : Tok} {Q : Value → Shared → Prop} (N : News h₀ L s.heap news) (hm : (D, listOf (v :: vs).toArray n) ∈ news) (h : Q v s)
    (hs : subscripted slice false (.ref D) (.int 0 u) = operate [.ref D, .int 0 u] (getItem (.ref D) (.int 0 u)) := by with_unfolding_all rfl) :
    wpAny (model prog w) A (subscriptTail value slice (.ref D) (.int 0 u)) Q E s :=
  tail_any (listOf_isList (N _ hm).1).typeIs slot_list_getitem.lookup (wpAny_getItem_list (listOf_isList (N _ hm).1) (by decide) (by decide) (by simp) h) hs
theorem in_ints {D : Addr} {vs : List Value} {ks : List Int} {n : Nat} {x : Int} {t : Tok} {Q : Value → Shared → Prop} (N : News h₀ L s.heap news) (hm : (D, listOf vs.toArray n) ∈ news) (hi : IntsAre vs ks)
    (h : Q (.bool (decide (x ∈ ks))) s) : wpAny (model prog w) A (compareOp .In (.int x t) (.ref D)) Q E s := by
  refine in_listAt (fun y => match y with | .int a _ => a == x | _ => false) (listOf_isList (N _ hm).1) (fun y hy => ?_) ?_
  · have : ∃ a u, y = .int a u := by
      clear hm N h
      have hy' : y ∈ vs := by simpa using hy
      induction hi with
      | nil => cases hy'
      | cons a u _ ih =>
        rcases List.mem_cons.mp hy' with rfl | h
        · exact ⟨a, u, rfl⟩
        · exact ih (by simpa using h) h
    obtain ⟨a, u, rfl⟩ := this
    exact EqAt.int_int a u x t
  · have : (vs.toArray.any fun y => match y with | .int a _ => a == x | _ => false) = decide (x ∈ ks) := by
      rw [← Array.any_toList]
      clear hm N h
      simp only
      induction hi with
      | nil => rfl
      | cons a u _ ih =>
        rw [List.any_cons, ih]
        by_cases e : a = x
        · simp [e]
        · have e' : ¬ x = a := fun q => e q.symm
          simp [e, e']
    rw [this]; exact h
end
theorem ints_of {vs : List Value} (g : Nat → Int) : ∀ {m : Nat}, vs.length = m → (∀ i y, vs[i]? = some y → ∃ t, y = Value.int (g i) t) → IntsAre vs ((List.range m).map g) := by
  induction vs generalizing g with
  | nil => intro m h _; subst h; exact .nil
  | cons v vs ih =>
    intro m h hy
    subst h
    obtain ⟨t, rfl⟩ := hy 0 v rfl
    rw [List.length_cons, List.range_succ_eq_map, List.map_cons, List.map_map]
    exact .cons _ _ (ih (fun i => g (i + 1)) rfl fun i y hi => hy (i + 1) y hi)
def kks (pc : Pc) (n : List Nat) (j : Nat) : List Int := if pc.how = 0 then [endI pc.tests n j] else ksOf pc.tests n j (n.length + 1 - j)
def TkFr (a : Addr) (j : Nat) (m : Str → Option Value) : Prop := ∃ tk, m "pieces" = some (.ref a) ∧ m "place" = some (.int j tk)
section
variable {w : World} {A : Around} {s : Shared} {mg mb : Str → Option Value} {loose : List Str} {mean : ExcName → Option Value}
local macro_rules | `(tactic| walk_at "compareOp Eq ref ref") => `(tactic| (k_here; k_dflt (refine' eq_nil (by k_asm) (by k_mem) (by k_mem) (by simp only [Around.deeper_units]; omega) ?_)))
local macro_rules | `(tactic| walk_at "compareOp In int ref") => `(tactic| (k_here; k_dflt (refine' in_ints (by k_asm) (by k_mem) (by assumption) ?_)))
local macro_rules | `(tactic| walk_at "subscriptTail Name Constant ref int") => `(tactic| (k_here; k_dflt (refine' sub_zero (by k_asm) (by k_mem) ?_; k_whole)))
set_option maxHeartbeats 4000000 in
theorem c_takes {body q n : List Nat} {ts : List Tk} {t u v : Tok} {E : Value → Shared → Prop} {Q : Value → Shared → Prop}
   (X : (heapK w.params).In s.heap) (T : Top vw loose mean mg mb s.heap)
   (hr : A.depth + 10 < recursionLimit) (hh : A.handled = none) (hu : A.units + 20 < cLine) (hb : body.length ≤ 10000) (hq : q = [] ∨ q = MARK) (hB : body = render q ts) (hok : TkOk q 0 ts) (hts : ts.length ≤ 900) (hx : n.length ≤ 1000)
   (h : ∀ h' tk, Grows s.heap h' → Q (.bool (takesS ((feed q [] ⟨0, []⟩ ts).map fun c => ⟨c.how, c.tests⟩) n)) { s with heap := h', toks := tk }) :
   wpAny (model PP w) A (call (.ref 166) [.str (Tx ([40, 63, 115, 58] ++ body ++ [41, 92, 90])) t, .str (Tx q) u, .str (Tx n) v]) Q E s := by
  refine enterC [("text", .str (Tx ([40, 63, 115, 58] ++ body ++ [41, 92, 90])) t), ("mark", .str (Tx q) u), ("name", .str (Tx n) v)] X T (by k_is) (by k_is) (by omega) rfl (by rfl) (by decide) (fun L h₁ tk cells F N Y => ?_) rfl rfl rfl
  obtain ⟨o1, o2, rfl, d1, d2⟩ := CellsAre.two Y
  clear Y
  replace d1 : o1.data = .cell none := d1
  replace d2 : o2.data = .cell (some (.str (Tx n) v)) := d2
  walk_at "gost"
  refine c_pieces (X.keeps F.keep) (T.keeps F.keep) (show A.depth + 1 + 1 < _ by omega) hh hb hq hB hok (fun h2 tk2 a refs nn rest G hN hD => ?_)
  have N0 : News s.heap L h2 ((a, listOf refs.toArray nn) :: rest) := fun p hp => by
    obtain ⟨e1, e2⟩ := hN p hp
    refine ⟨e1, fun e => ?_, ?_⟩
    · obtain ⟨_, _, _, hL, _⟩ := F.ns
      rw [← e] at hL
      cases e2.symm.trans hL
    · cases hg : s.heap.get? p.1 with
      | none => rfl
      | some o => cases e2.symm.trans (F.keep _ _ hg)
  have F2 := fr_grow F G
  have N2 := news_grow N G
  have N3 : News s.heap L h2 ((a, listOf refs.toArray nn) :: (L + 1 + 1, o1) :: (L + 1, o2) :: rest) := fun p hp => by
    rcases List.mem_cons.mp hp with rfl | hp
    · exact N0 _ (.head _)
    rcases List.mem_cons.mp hp with rfl | hp
    · exact N2 _ (.head _)
    rcases List.mem_cons.mp hp with rfl | hp
    · exact N2 _ (.tail _ (.head _))
    exact N0 _ (.tail _ hp)
  have hfar : ∀ p ∈ (a, listOf refs.toArray nn) :: rest, @Ne Nat p.1 (L + 1 + 1) := fun p hp e => by
    have h1 := (hN p hp).2
    have h2 := (N _ (.head _)).1
    have e' : p.1 = L + 1 + 1 := e
    rw [e'] at h1
    cases h1.symm.trans h2
  clear N2 hN N0 N F
  have hrl : refs.length = (feed q [] ⟨0, []⟩ ts).length := hD.length
  have hrn : refs ≠ [] := fun e => feed_ne ts [] ⟨0, []⟩ (List.length_eq_zero_iff.mp (by rw [← hrl, e]; rfl))
  have hsm : ∀ c ∈ feed q [] ⟨0, []⟩ ts, Small 900 c := feed_small (by rcases hq with rfl | rfl <;> decide) ts [] ⟨0, []⟩ (by simp) (by simpa using hts) (by simp)
  generalize feed q [] ⟨0, []⟩ ts = pcs at *
  walk_at "gost"
  rename Fr _ _ _ _ => F'
  rename News _ _ _ _ => N'
  refine for_listT (h₀ := s.heap) hh a refs (fun i m news => ∃ o1, news = (a, listOf refs.toArray nn) :: (L + 1 + 1, o1) :: (L + 1, o2) :: rest ∧ (∃ c, o1.data = .cell c) ∧
    ∃ j, j ≤ n.length ∧ TkFr a j m ∧ takesS (pcs.map fun c => ⟨c.how, c.tests⟩) n = takesS ((pcs.drop i).map fun c => ⟨c.how, c.tests⟩) (n.drop j)) ?_ ?_ ?_ ?_
  · walk1
    exact ⟨rfl, _, _, _, _, rfl, F', fun p hp => N' p (.tail _ hp), listOf_isList (N' _ (.tail _ (.head _))).1, o1, rfl, ⟨_, d1⟩, 0, Nat.zero_le _, ⟨_, rfl, rfl⟩, rfl⟩
  · exact (N' _ (.tail _ (.head _))).2.1
  · clear F' N'
    rintro it i v' h₂ tk m _ own hi hv ⟨o1, rfl, ⟨c1, d1⟩, j, hj, ⟨tk', e1, e2⟩, hE⟩ how hnw hown F N
    have hi' : i < pcs.length := by omega
    obtain ⟨pa, ta, tkh, nt, ws, rfl, m1, m2, hS⟩ := hD.get hv (List.getElem?_eq_getElem hi')
    replace F := fr_pins F [("pieces", .ref a), ("place", .int j tk')]
      (by simp only [List.forall_mem_cons]; exact ⟨e1, e2, List.forall_mem_nil _⟩)
    rw [List.drop_eq_getElem_cons hi'] at hE
    have hs1 := hsm _ (List.getElem_mem hi')
    generalize pcs[i] = pc at hE hs1 m1 m2 hS
    have hfar2 : ∀ q ∈ rest ++ own, @Ne Nat q.1 (L + 1 + 1) := fun q hq => by
      rcases List.mem_append.mp hq with hq | hq
      · exact hfar q (.tail _ hq)
      · have h1 := how q hq
        simp only [List.mem_cons, List.not_mem_nil, or_false] at h1
        rcases h1 with h1 | h1
        · intro e
          refine hnw (L + 1 + 1, o1) (.tail _ (.head _)) ?_
          simp only [List.mem_cons, List.not_mem_nil, or_false]
          exact e.symm.trans h1
        · have := hfar (a, listOf refs.toArray nn) (.head _)
          exact fun e => this (h1.symm.trans e)
    have ne1 : @Ne Nat pa (L + 1 + 1) := hfar _ (.tail _ m1)
    have ne2 : @Ne Nat ta (L + 1 + 1) := hfar _ (.tail _ m2)
    have ne3 : @Ne Nat a (L + 1 + 1) := hfar _ (.head _)
    replace N : News s.heap L h₂ ((pa, listOf #[Value.int pc.how tkh, Value.ref ta] 0) :: (ta, listOf ws.toArray nt) :: (a, listOf refs.toArray nn) :: (L + 1 + 1, o1) :: (L + 1, o2) :: (rest ++ own)) := fun p hp => by
      refine N p ?_
      simp only [List.mem_cons, List.mem_append] at hp ⊢
      rcases hp with rfl | rfl | h | h | h | h | h
      · exact .inr (.inr (.inr (.inr m1)))
      · exact .inr (.inr (.inr (.inr m2)))
      · exact .inr (.inl h)
      · exact .inr (.inr (.inl h))
      · exact .inr (.inr (.inr (.inl h)))
      · exact .inr (.inr (.inr (.inr h)))
      · exact .inl h
    have back : ∀ {h' : Heap} {o1' : Obj} {more : List (Addr × Obj)}, News s.heap L h' (more ++ ((pa, listOf #[Value.int pc.how tkh, Value.ref ta] 0) :: (ta, listOf ws.toArray nt) :: (a, listOf refs.toArray nn) :: (L + 1 + 1, o1') :: (L + 1, o2) :: (rest ++ own))) →
        News s.heap L h' (own ++ ((a, listOf refs.toArray nn) :: (L + 1 + 1, o1') :: (L + 1, o2) :: rest)) := fun N' p hp => by
      refine N' p ?_
      simp only [List.mem_cons, List.mem_append] at hp ⊢
      rcases hp with h | h | h | h | h <;> simp [h]
    generalize hro : rest ++ own = ro at N hfar2 back
    have hlen : (Tx n).length = n.length := Tx_length n
    have hwl : ws.length ≤ 1000 := by have := hS.length; rw [List.length_map] at this; have := hs1.1; omega
    have htl : ∀ x ∈ pc.tests, x.length ≤ 100 := fun x hx => by have := hs1.2 x hx; omega
    walk_at "goif"
    rename Fr _ _ _ _ => F'
    rename News _ _ _ _ => N'
    rename (Obj.data _ = Data.cell (some (Value.ref ta))) => d1'
    refine cutN s.heap L (fun m' news' => ∃ (o1' : Obj) (D : Addr) (vs : List Value) (nD : Nat), o1'.data = .cell (some (.ref ta)) ∧ news' = (D, listOf vs.toArray nD) :: (pa, listOf #[Value.int pc.how tkh, Value.ref ta] 0) :: (ta, listOf ws.toArray nt) :: (a, listOf refs.toArray nn) :: (L + 1 + 1, o1') :: (L + 1, o2) :: ro ∧
      IntsAre vs (kks pc n j) ∧ vs.length ≤ 2000 ∧ m' "pieces" = some (.ref a) ∧ m' "place" = some (.int j tk') ∧ m' "how" = some (.int pc.how tkh) ∧ m' "ends" = some (.ref D)) ?_ ?_
    · clear d1
      by_cases h0 : pc.how = 0
      · walk_at "gost"
        refine c_end (X := X.keeps F'.keep) (T := T.keeps F'.keep) (listOf_isList (N' _ (.tail _ (.head _))).1) hS htl hwl hx hj (show A.depth + 1 + 5 < _ by omega) hh (fun h3 tk3 t3 G3 => ?_)
        have F2 := fr_grow F' G3
        have N2 := news_grow N' G3
        clear F' N'
        walk_at "gost"
        rename Fr _ _ _ _ => F'
        rename News _ _ _ _ => N'
        refine CutN.intro F' N' ⟨_, _, [_], 0, d1', rfl, ?_, by simp, rfl, rfl, rfl, rfl⟩
        unfold kks
        rw [if_pos h0]
        exact .cons _ _ .nil
      · walk_at "gost"
        refine LCg.Assign_ListComp_U (F₀ := F') (by rfl) (by with_unfolding_all rfl) (by with_unfolding_all rfl) (by decide) (by rfl) (by decide) (by rfl) (by rfl) (by rfl) ?_
        walk_at "gost"
        rename IsRange _ _ _ _ _ _ _ _ => hR
        rename Fr _ _ _ _ => F2
        rename News _ _ _ _ => N2
        rw [hlen] at hR
        refine LCg.CompSrc.range (n := n.length + 1 - j) hh F2 N2 hR (small_one (by omega) (by omega) (by omega) (by omega)) (by rw [rangeSize_one, if_pos (by omega)]; omega) (by rw [sizeLine_eq]; omega) ?_
        intro g
        clear F2 N2 hR
        rename Fr _ _ _ _ => Fo
        rename News _ _ _ _ => No
        clear Fo No
        refine rest_inv (fun i y => ∃ t, y = .int (endI pc.tests n (j + i)) t) ?_ ?_
        · rintro i2 _ I2 oI C2 oC D2 m2 ys h3 tk3 E' hi2 ⟨t2, rfl⟩ hC hx2 F' N' off ne
          walk_at "gost"
          have hk2 : (j : Int) + (i2 : Int) = ((j + i2 : Nat) : Int) := by omega
          rw [hk2]
          refine c_end (X := X.keeps F'.keep) (T := T.keeps F'.keep) (listOf_isList (N' _ (.tail _ (.tail _ (.tail _ (.tail _ (.head _)))))).1) hS htl hwl hx (by omega) (show A.depth + 1 + 5 < _ by omega) hh (fun h4 tk4 t4 G4 => ?_)
          show LCg.CompEnd _ _ _ _ _ _ _ _ _ _ _ _ _ _
          refine LCg.CompEnd.intro (fr_grow F' G4) (news_grow N' G4) _ (fun p hp => hp) off trivial ?_
          exact ⟨rfl, _, rfl⟩
        · intro ys hyl hy
          unfold LCg.FinA
          intro D2 h3 tk3 F' N' off1
          walk_at "gost"
          refine CutN.intro F' N' ⟨_, _, ys, _, d1', rfl, ?_, by omega, rfl, rfl, rfl, rfl⟩
          unfold kks ksOf
          rw [if_neg h0]
          exact ints_of _ hyl hy
    · rintro m2 _ h3 tk3 F' N' ⟨o1', D, vs, nD, d1', rfl, hI, hvl, e1, e2, e3, e4⟩
      replace F' := fr_pins F' [("pieces", .ref a), ("place", .int j tk'), ("how", .int pc.how tkh), ("ends", .ref D)]
        (by simp only [List.forall_mem_cons]; exact ⟨e1, e2, e3, e4, List.forall_mem_nil _⟩)
      by_cases h2 : pc.how = 2
      · walk_at "gost"
        have e2 : decide ((Str.length (Tx n) : Int) ∈ kks pc n j) = takesS (pcs.map fun c => ⟨c.how, c.tests⟩) n := by
          rw [hE, hlen]
          unfold kks
          rw [if_neg (by omega), show n.length + 1 - j = (n.length - j) + 1 by omega]
          have := any_ks pc.tests n (n.length - j) j (by omega)
          rw [List.map_cons, takesS, if_pos h2]
          by_cases q : anyS pc.tests (n.drop j) = true
          · rw [q]; exact decide_eq_true (this.mpr q)
          · rw [Bool.not_eq_true] at q; rw [q]; exact decide_eq_false (fun z => by rw [this.mp z] at q; cases q)
        rw [e2]
        exact h _ _ F'.keep
      · walk_at "gost"
        have key : (takesS (pcs.map fun c => ⟨c.how, c.tests⟩) n = false ∧ (kks pc n j).filter (0 ≤ ·) = []) ∨ ∃ (j' : Nat) (r : List Int), j' ≤ n.length ∧ takesS (pcs.map fun c => ⟨c.how, c.tests⟩) n = takesS ((pcs.drop (i + 1)).map fun c => ⟨c.how, c.tests⟩) (n.drop j') ∧ (kks pc n j).filter (0 ≤ ·) = (j' : Int) :: r := by
          rw [hE, List.map_cons, takesS, if_neg h2]
          unfold kks
          by_cases h0 : pc.how = 0
          · simp only [h0, if_true]
            rcases endI_at (ts := pc.tests) hj with ⟨q1, q2⟩ | ⟨j', hj', q1, q2⟩
            · left; rw [q1, q2]; exact ⟨rfl, by simp⟩
            · right; rw [q1, q2]; exact ⟨j', [], hj', rfl, by simp⟩
          · simp only [h0, if_false]
            rw [show n.length + 1 - j = (n.length - j) + 1 by omega]
            rcases first_ks pc.tests n (n.length - j) j (by omega) with ⟨q1, q2⟩ | ⟨j', r, hj', q1, q2⟩
            · left; rw [q1, q2]; exact ⟨rfl, rfl⟩
            · right; rw [q1, q2]; exact ⟨j', r, hj', rfl, rfl⟩
        refine assign_filter F' N' (.head _) hI hh hvl rfl ?_ (by with_unfolding_all rfl) (by with_unfolding_all rfl) (by decide) (by rfl) (by decide) (by rfl) (by rfl) (by rfl) (by rfl) (by decide) (by decide) (fun _ => by rfl) (fun _ => by rfl)
        intro h4 tk4 D4 vs4 n4 F4 N4 hI4 hvl4
        clear F' N' d1
        rcases key with ⟨k1, k2⟩ | ⟨j', r, hj', k1, k2⟩
        · rw [k2] at hI4
          cases hI4
          walk_at "gost"
          exact k1 ▸ h _ _ (Fr.keep (by assumption))
        · rw [k2] at hI4
          cases hI4
          rename_i t4 vs4 hI4
          walk_at "gost"
          · rename (_ :: _ = ([] : List Value)) => q
            cases q
          rename Fr _ _ _ _ => F'
          rename News _ _ _ _ => N'
          show ForOk _ _ _ _ _ _ _ _
          refine ForOk.intro F' (back (more := [_, _, _]) N') ?_ ⟨o1', rfl, ⟨_, d1'⟩, j', hj', ⟨_, rfl, rfl⟩, k1⟩
          intro p hp
          rcases List.mem_cons.mp hp with rfl | hp
          · exact hnw _ (.head _)
          rcases List.mem_cons.mp hp with rfl | hp
          · exact hnw (L + 1 + 1, o1) (.tail _ (.head _))
          exact hnw p (.tail _ (.tail _ hp))
  · rintro m _ h' tk ⟨o1, rfl, ⟨c1, d1⟩, j, hj, ⟨tk', e1, e2⟩, hE⟩ F N
    rw [hrl, List.drop_of_length_le (Nat.le_refl _)] at hE
    replace F := fr_pins F [("pieces", .ref a), ("place", .int j tk')]
      (by simp only [List.forall_mem_cons]; exact ⟨e1, e2, List.forall_mem_nil _⟩)
    have hlen : (Tx n).length = n.length := Tx_length n
    clear F' N'
    by_cases hjn : j = n.length
    · have e : takesS (pcs.map fun c => ⟨c.how, c.tests⟩) n = true := by rw [hE, hjn]; simp [takesS]
      walk_at "gost"
      exact e ▸ h _ _ (Fr.keep (by assumption))
    · have e : takesS (pcs.map fun c => ⟨c.how, c.tests⟩) n = false := by rw [hE]; simp [takesS]; omega
      walk_at "gost"
      exact e ▸ h _ _ (Fr.keep (by assumption))
end
end -- RxTakes

section -- RxMeans
open PySem PySem.W PyProof.Rows PySem.Calls PySem.SeqAt
open PySem
theorem off1_mem {D : Addr} : ∀ {l : List (Addr × Obj)}, LCg.Off1 D l → ∀ p ∈ l, p.1 ≠ D
  | [], _, _, h => nomatch h
  | _ :: _, x, p, h => by
    rcases List.mem_cons.mp h with rfl | h
    · exact x.1
    · exact off1_mem x.2 p h
theorem dec_one (a b : Nat) : decide (([a] : List Nat) = [b]) = (a == b) := by
  by_cases h : a = b <;> simp [h]
theorem cell_len (n p : List Nat) : (rowsF n p).length = n.length + 1 := by
  have : ∀ (p : List Nat) (h : List Bool), h.length = n.length + 1 → (p.foldl (fun h p => rowF p n h) h).length = n.length + 1 := by
    intro p
    induction p with
    | nil => intro h e; exact e
    | cons c p ih =>
      intro h e
      rw [List.foldl_cons]
      refine ih _ ?_
      unfold rowF
      split
      · simp [e]
      · simp
  exact this p _ (by simp)
theorem rows_succ {n p : List Nat} {i c : Nat} (h : p[i]? = some c) : rowsF n (p.take (i + 1)) = rowF c n (rowsF n (p.take i)) := by
  unfold rowsF
  rw [List.take_add_one, h]
  simp
section
variable {w : World} {A : Around} {s : Shared} {mg mb : Str → Option Value} {loose : List Str} {mean : ExcName → Option Value}
local macro_rules | `(tactic| walk_at "compareOp In str ref") => `(tactic| (k_here; k_dflt (refine' in_two (by kun_tup) (by walk_at "tx") ?_)))
local macro_rules | `(tactic| walk_at "binaryOp Add ref ref") => `(tactic| (k_here; k_dflt (refine' add_news (by k_asm) (by k_asm) (by k_mem) (by k_mem) (by simp only [List.length_cons, List.length_nil]; omega) ?_; k_whole); intro a' h' F' N' l1; (try k_lt l1); (try k_sweep)))
set_option maxHeartbeats 4000000 in
theorem c_means {p n : List Nat} {t u : Tok} {E : Value → Shared → Prop} {Q : Value → Shared → Prop}
   (X : (heapK w.params).In s.heap) (T : Top vw loose mean mg mb s.heap)
   (hr : A.depth + 10 < recursionLimit) (hh : A.handled = none) (hu : A.units + 20 < cLine) (hp : p.length ≤ 1000) (hn : n.length ≤ 1000)
   (h : ∀ h' tk, Grows s.heap h' → Q (.bool (gm p n)) { s with heap := h', toks := tk }) :
   wpAny (model PP w) A (call (.ref 140) [.str (Tx p) t, .str (Tx n) u]) Q E s := by
  refine enterC [("pattern", .str (Tx p) t), ("name", .str (Tx n) u)] X T (by k_is) (by k_is) (by omega) rfl (by rfl) (by decide) (fun L h₁ tk cells F N Y => ?_) rfl rfl rfl
  obtain ⟨o1, o2, o3, rfl, d1, d2, d3⟩ := CellsAre.three Y
  clear Y
  replace d1 : o1.data = .cell none := d1
  replace d2 : o2.data = .cell none := d2
  replace d3 : o3.data = .cell (some (.str (Tx n) u)) := d3
  walk_at "gost"
  rename Fr _ _ _ _ => F'
  rename News _ _ _ _ => N'
  refine ListComp_str n (fun _ v => v = .bool false) F' N' hh (by omega) ?_ ?_ ?_ (by with_unfolding_all rfl) (by decide) (by rfl) (by decide) (by rfl)
  · walk_at "gost"
  · intro C c u m₃ s₃ E' hc hn hm F N
    exact wpAny_of_eq (a := .bool false) rfl ⟨rfl, _, _, rfl, fun _ _ e => e⟩
  · intro D h2 tk2 vs n2 F2 N2 off hvl hv
    simp only [LCg.Off1, and_true] at off
    walk_at "gost"
    rename Fr _ _ _ _ => F'
    rename News _ _ _ _ => N'
    rename (Obj.data _ = Data.cell (some (Value.ref _))) => d2'
    have ev : [Value.bool true] ++ vs = (rowsF n (p.take 0)).map Value.bool := by
      have : vs = n.map fun _ => Value.bool false := by
        apply List.ext_getElem (by simp [hvl])
        intro i h1 h2
        obtain ⟨c, _, e⟩ := hv i vs[i] (List.getElem?_eq_getElem h1)
        rw [e]; simp
      rw [this, List.take_zero]
      simp [rowsF]
    rw [ev] at N'
    refine for_str (h₀ := s.heap) hh (Tx p) t (fun i m news => ∃ (H : Addr) (o1 o2 : Obj) (nH : Nat) (c1 : Option Value), news = [(H, listOf ((rowsF n (p.take i)).map Value.bool).toArray nH), (L + 1 + 1 + 1, o1), (L + 1 + 1, o2), (L + 1, o3)] ∧
      o1.data = .cell c1 ∧ o2.data = .cell (some (.ref H)) ∧ @Ne Nat (L + 1 + 1 + 1) H ∧ @Ne Nat (L + 1 + 1) H ∧ @Ne Nat (L + 1) H) ?_ ?_ ?_
    · walk1
      exact ⟨rfl, _, _, _, _, rfl, F', fun p hp => N' p (by simp only [List.mem_cons] at hp ⊢; rcases hp with h | h | h | h | h <;> simp [h]), _, _, _, 0, _, rfl, d1, d2', by omega, by omega, by omega⟩
    · intro it i v h₁ tk m _ own hi ⟨c, uc, hc, e⟩ ⟨H, o1, o2, nH, c1, hnews, d1, d2, hH1, hH2, hH3⟩ how hnw hown F N
      subst e hnews
      have hc' : p[i]? = some c := by simpa using hc
      have hbl := cell_len n (p.take i)
      rw [← List.length_map (f := Value.bool)] at hbl
      have hrow := rows_succ (n := n) hc'
      generalize hbs : rowsF n (p.take i) = bs at N hbl hrow
      generalize hvs : bs.map Value.bool = vs at N hbl
      have far : ∀ (b : Addr) (o : Obj), (b, o) ∈ [(H, listOf vs.toArray nH), (L + 1 + 1 + 1, o1), (L + 1 + 1, o2), (L + 1, o3)] → ∀ q ∈ own, @Ne Nat q.1 b := fun b o hb q hq e => by
        have h1 := how q hq
        refine hnw (b, o) (by rw [← hvs, ← hbs] at hb; exact hb) ?_
        rw [show b = q.1 from e.symm]; exact h1
      have far1 := far _ _ (.tail _ (.head _))
      have far2 := far _ _ (.tail _ (.tail _ (.head _)))
      clear far
      replace N : News s.heap L h₁ ((H, listOf vs.toArray nH) :: (L + 1 + 1 + 1, o1) :: (L + 1 + 1, o2) :: (L + 1, o3) :: own) := fun p hp => by
        refine N p ?_
        simp only [List.mem_cons, List.mem_append, List.not_mem_nil, or_false] at hp ⊢
        rcases hp with h | h | h | h | h <;> simp [h]
      by_cases hc42 : c = 42
      · have hcc : ([c] : List Nat) = [42] := by rw [hc42]
        walk_at "gost"
        rename Fr _ _ _ _ => F'
        refine wpAny_Assign_Name ?_ (by with_unfolding_all rfl)
        refine LCg.ListComp_U (F₀ := F') (by with_unfolding_all rfl) (by decide) (by rfl) (by decide) (by rfl) ?_
        walk_at "gost"
        rename IsRange _ _ _ _ _ _ _ _ => hR
        rename Fr _ _ _ _ => F2
        rename News _ _ _ _ => N2
        refine LCg.CompSrc.range (n := vs.length) hh F2 N2 hR (small_one (by omega) (by omega) (by omega) (by omega)) (by rw [rangeSize_one, if_pos (by omega)]; omega) (by rw [sizeLine_eq]; omega) ?_
        intro g
        clear F2 N2 hR
        rename News _ _ _ _ => No
        rename Fr _ _ _ _ => Fo
        clear Fo No
        refine rest_inv (fun i y => y = .bool ((bs.take (i + 1)).contains true)) ?_ ?_
        · rintro i2 _ I2 oI C2 oC D2 m2 ys h3 tk3 E' hi2 ⟨t2, rfl⟩ hC hx2 F' N' off ne
          rw [Int.zero_add] at hx2
          walk_at "gost"
          rename Fr _ _ _ _ => F9
          rename News _ _ _ _ => N9
          have esl : slicePick vs.toArray none (some ((i2 : Int) + 1)) none = ((bs.take (i2 + 1)).map Value.bool).toArray := by
            have := slicePick_upto vs.toArray (i2 + 1) (by rw [List.size_toArray]; omega)
            rw [show ((i2 + 1 : Nat) : Int) = (i2 : Int) + 1 by omega] at this
            rw [this, ← hvs]
            simp
          rw [esl] at N9
          refine in_bools (bs := bs.take (i2 + 1)) ⟨_, (N9 _ (.head _)).1, rfl, _, rfl⟩ ?_
          show LCg.CompEnd _ _ _ _ _ _ _ _ _ _ _ _ _ _
          refine LCg.CompEnd.intro F9 N9 _ (fun p hp => .tail _ hp) off trivial ?_
          exact ⟨rfl, rfl⟩
        · intro ys hyl hy
          unfold LCg.FinE
          intro D2 h3 tk3 F' N' off1
          simp only [LCg.Off1, and_true] at off1
          walk_at "gost"
          rename Fr _ _ _ _ => F9
          rename News _ _ _ _ => N9
          rename (Obj.data _ = Data.cell (some (Value.ref D2))) => d9
          rename (Obj.data _ = Data.cell (some (Value.str _ uc))) => d8
          have ey : ys = (rowsF n (p.take (i + 1))).map Value.bool := by
            rw [hrow]
            unfold rowF
            rw [if_pos hc42]
            have hb2 : bs.length = vs.length := by rw [← hvs, List.length_map]
            refine List.ext_getElem (by rw [hyl, List.length_map, List.length_map, List.length_range, hb2]) fun i' h1 h2 => ?_
            rw [hy i' ys[i'] (List.getElem?_eq_getElem h1)]
            simp
          show ForOk _ _ _ _ _ _ _ _
          refine ForOk.intro (news' := [(D2, listOf ys.toArray ys.length), (L + 1 + 1 + 1, _), (L + 1 + 1, _), (L + 1, o3)]) F9 (fun p hp => N9 p ?_) ?_ ⟨D2, _, _, ys.length, _, by rw [← ey], d8, d9, by omega, by omega, by omega⟩
          · simp only [List.mem_cons, List.mem_append, List.not_mem_nil, or_false] at hp ⊢
            rcases hp with h | h | h | h | h
            · simp [h]
            · left; exact h
            · simp [h]
            · simp [h]
            · simp [h]
          · obtain ⟨o, ho⟩ := hown it (.head _)
            intro p hp
            simp only [List.mem_cons, List.not_mem_nil, or_false] at hp
            rcases hp with rfl | rfl | rfl | rfl
            · intro q
              exact off1_mem off1.2.2.2.2 _ ho (List.mem_singleton.mp q).symm
            · exact hnw (L + 1 + 1 + 1, o1) (.tail _ (.head _))
            · exact hnw (L + 1 + 1, o2) (.tail _ (.tail _ (.head _)))
            · exact hnw (L + 1, o3) (.tail _ (.tail _ (.tail _ (.head _))))
      · have hcc : ¬ ([c] : List Nat) = [42] := by simpa using hc42
        have hnl : (Tx n).length = n.length := Tx_length n
        walk_at "gost"
        rename Fr _ _ _ _ => F'
        refine LCg.ListComp_U (F₀ := F') (by with_unfolding_all rfl) (by decide) (by rfl) (by decide) (by rfl) ?_
        walk_at "gost"
        rename IsRange _ _ _ _ _ _ _ _ => hR
        rename Fr _ _ _ _ => F2
        rename News _ _ _ _ => N2
        rw [hnl] at hR
        refine LCg.CompSrc.range (n := n.length) hh F2 N2 hR (small_one (by omega) (by omega) (by omega) (by omega)) (by rw [rangeSize_one]; split <;> omega) (by rw [sizeLine_eq]; omega) ?_
        intro g
        clear F2 N2 hR
        rename News _ _ _ _ => No
        rename Fr _ _ _ _ => Fo
        clear Fo No
        refine rest_inv (fun i y => y = .bool (bs.getD i false && (c == 63 || c == n.getD i 0))) ?_ ?_
        · rintro i2 _ I2 oI C2 oC D2 m2 ys h3 tk3 E' hi2 ⟨t2, rfl⟩ hC hx2 F' N' off ne
          rw [Int.zero_add] at hx2
          walk_at "gost"
          have hi3 : i2 < bs.length := by have : bs.length = vs.length := by rw [← hvs, List.length_map]
                                          omega
          have hv2 : vs[((i2 : Nat) : Int).toNat]? = some (.bool bs[i2]) := by rw [← hvs]; simp [hi3]
          have hd2 : n[((i2 : Nat) : Int).toNat]? = some n[i2] := by simp [hi2]
          have eb : bs.getD i2 false = bs[i2] := by simp [List.getD_eq_getElem?_getD, hi3]
          have en : n.getD i2 0 = n[i2] := by simp [List.getD_eq_getElem?_getD, hi2]
          rw [eb, en]
          refine sub_news N' (.tail _ (.tail _ (.tail _ (.tail _ (.head _))))) (by omega) (by omega) hv2 ?_
          cases hb9 : bs[i2] with
          | false =>
            walk_at "gost"
            refine LCg.CompEnd.intro F' N' _ (fun p hp => hp) off trivial ?_
            exact ⟨rfl, rfl⟩
          | true =>
            walk_at "gost"
            rename Fr _ _ _ _ => F9
            rename News _ _ _ _ => N9
            refine LCg.CompEnd.intro F9 N9 _ (fun p hp => .tail _ hp) off trivial ?_
            exact ⟨rfl, by rw [dec_one, dec_one, Bool.true_and]⟩
        · intro ys hyl hy
          unfold LCg.FinE
          intro D2 h3 tk3 F' N' off1
          simp only [LCg.Off1, and_true] at off1
          walk_at "gost"
          rename Fr _ _ _ _ => F9
          rename News _ _ _ _ => N9
          rename (Obj.data _ = Data.cell (some (Value.ref _))) => d9
          rename (Obj.data _ = Data.cell (some (Value.str _ uc))) => d8
          rename (_ ∧ _ ∧ _ ∧ _ ∧ _ ∧ _ ∧ AllLt _ own) => l9
          have ey : [Value.bool false] ++ ys = (rowsF n (p.take (i + 1))).map Value.bool := by
            rw [hrow]
            unfold rowF
            rw [if_neg hc42, List.map_cons]
            show Value.bool false :: ys = _
            refine congrArg (Value.bool false :: ·) ?_
            show ys = _
            refine List.ext_getElem (by rw [hyl, List.length_map, List.length_map, List.length_range]) fun i' h1 h2 => ?_
            rw [hy i' ys[i'] (List.getElem?_eq_getElem h1)]
            simp
          rw [ey] at N9
          show ForOk _ _ _ _ _ _ _ _
          refine ForOk.intro (news' := [(_, listOf ((rowsF n (p.take (i + 1))).map Value.bool).toArray 0), (L + 1 + 1 + 1, _), (L + 1 + 1, _), (L + 1, o3)]) F9 (fun p hp => N9 p ?_) ?_ ⟨_, _, _, 0, _, rfl, d8, d9, by omega, by omega, by omega⟩
          · simp only [List.mem_cons, List.mem_append, List.not_mem_nil, or_false] at hp ⊢
            rcases hp with h | h | h | h | h
            · simp [h]
            · left; exact h
            · simp [h]
            · simp [h]
            · simp [h]
          · obtain ⟨o, ho⟩ := hown it (.head _)
            intro p hp
            simp only [List.mem_cons, List.not_mem_nil, or_false] at hp
            rcases hp with rfl | rfl | rfl | rfl
            · intro q
              have := allLt_mem l9.2.2.2.2.2.2 _ ho
              exact Nat.ne_of_lt this (List.mem_singleton.mp q).symm
            · exact hnw (L + 1 + 1 + 1, o1) (.tail _ (.head _))
            · exact hnw (L + 1 + 1, o2) (.tail _ (.tail _ (.head _)))
            · exact hnw (L + 1, o3) (.tail _ (.tail _ (.tail _ (.head _))))
    · rintro m _ h' tk ⟨H, o1, o2, nH, c1, rfl, d1, d2, hH1, hH2, hH3⟩ F N
      have e1 : (Tx p).cps.size = p.length := by simp
      rw [e1, List.take_of_length_le (Nat.le_refl _)] at N
      obtain ⟨l, hl⟩ := List.getLast?_eq_some_iff.mp (means_gm n p)
      have hll := congrArg List.length hl
      rw [cell_len, List.length_append, List.length_singleton] at hll
      rw [hl, List.map_append, List.map_singleton] at N
      have hl2 : (l.map Value.bool).length ≤ 100000 := by rw [List.length_map]; omega
      generalize l.map Value.bool = l2 at N hl2
      walk_at "gost"
      exact h _ _ (Fr.keep (by assumption))
end
end -- RxMeans

section -- RxSpd
open PySem PySem.W PyProof.Rows PySem.Calls PySem.SeqAt
open PySem
theorem l60 : Str.ofString "<" = Tx [60] := by decide +kernel
theorem l62 : Str.ofString ">" = Tx [62] := by decide +kernel
theorem l34 : Str.ofString "\"" = Tx [34] := by decide +kernel
theorem l13 : Str.ofString "\u000d" = Tx [13] := by decide +kernel
theorem l10 : Str.ofString "\n" = Tx [10] := by decide +kernel
theorem l9 : Str.ofString "\t" = Tx [9] := by decide +kernel
theorem tab_at {t1 t2 t3 t4 t5 t6 t7 : Tok} {v1 v2 v3 v4 v5 v6 v7 : Value} (c : Nat) :
    valueAt (strPairs [(.str "&" t1, v1), (.str "<" t2, v2), (.str ">" t3, v3), (.str "\"" t4, v4), (.str "\u000d" t5, v5), (.str "\n" t6, v6), (.str "\t" t7, v7)]) (Tx [c]) =
      if c = 38 then some v1 else if c = 60 then some v2 else if c = 62 then some v3 else if c = 34 then some v4 else if c = 13 then some v5 else if c = 10 then some v6 else if c = 9 then some v7 else none := by
  have e : ∀ a : Nat, decide (Tx [a] = Tx [c]) = decide (c = a) := fun a => decide_eq_decide.mpr ⟨fun h => by
    have := congrArg (fun y : Str => y.cps.toList) h
    simpa using this.symm, fun h => by rw [h]⟩
  unfold valueAt
  simp only [strPairs, l38, l60, l62, l34, l13, l10, l9, List.find?_cons, List.find?_nil, e]
  by_cases h1 : c = 38
  · simp [h1]
  by_cases h2 : c = 60
  · simp [h2]
  by_cases h3 : c = 62
  · simp [h3]
  by_cases h4 : c = 34
  · simp [h4]
  by_cases h5 : c = 13
  · simp [h5]
  by_cases h6 : c = 10
  · simp [h6]
  by_cases h7 : c = 9
  · simp [h7]
  simp [h1, h2, h3, h4, h5, h6, h7]
theorem tab_none {t1 t2 t3 t4 t5 t6 t7 : Tok} {v1 v2 v3 v4 v5 v6 v7 : Value} {c : Nat} (h7 : c ∉ S7) :
    valueAt (strPairs [(.str "&" t1, v1), (.str "<" t2, v2), (.str ">" t3, v3), (.str "\"" t4, v4), (.str "\u000d" t5, v5), (.str "\n" t6, v6), (.str "\t" t7, v7)]) (Tx [c]) = none := by
  rw [tab_at]
  simp only [S7, List.mem_cons, List.not_mem_nil, or_false, not_or] at h7
  simp [h7]
theorem row_read {h₀ h : Heap} {L l : Addr} {news : List (Addr × Obj)} {a b c d e : Str} {t1 t2 t3 t4 t5 : Tok} {n k x : Nat} (N : News h₀ L h news) (hm : (l, listOf #[.str a t1, .str b t2, .str c t3, .str d t4, .str e t5] n) ∈ news)
    (hs : [a, b, c, d, e] = (List.range 5).map fun k => Tx (spC k x)) (hk : k < 5) : ∃ items t, h.IsList l items ∧ items[k]? = some (Value.str (Tx (spC k x)) t) := by
  have hs' : a = Tx (spC 0 x) ∧ b = Tx (spC 1 x) ∧ c = Tx (spC 2 x) ∧ d = Tx (spC 3 x) ∧ e = Tx (spC 4 x) := by simpa [List.range, List.range.loop] using hs
  obtain ⟨rfl, rfl, rfl, rfl, rfl⟩ := hs'
  have : k = 0 ∨ k = 1 ∨ k = 2 ∨ k = 3 ∨ k = 4 := by omega
  rcases this with rfl | rfl | rfl | rfl | rfl
  · exact ⟨_, t1, listOf_isList (N _ hm).1, rfl⟩
  · exact ⟨_, t2, listOf_isList (N _ hm).1, rfl⟩
  · exact ⟨_, t3, listOf_isList (N _ hm).1, rfl⟩
  · exact ⟨_, t4, listOf_isList (N _ hm).1, rfl⟩
  · exact ⟨_, t5, listOf_isList (N _ hm).1, rfl⟩
theorem strs_of {vs : List Value} (g : Nat → List Nat) : ∀ {l : List Nat}, vs.length = l.length → (∀ (i : Nat) (v : Value), vs[i]? = some v → ∃ c, l[i]? = some c ∧ ∃ t, v = Value.str (Tx (g c)) t) → StrsAre vs ((l.map g).map Tx) := by
  induction vs with
  | nil => intro l h _; have : l = [] := List.length_eq_zero_iff.mp h.symm; subst this; exact .nil
  | cons v vs ih =>
    intro l h hy
    cases l with
    | nil => cases h
    | cons c l =>
      obtain ⟨c', e, t, rfl⟩ := hy 0 v rfl
      simp only [List.getElem?_cons_zero, Option.some.injEq] at e
      subst e
      exact .cons _ _ (ih (by simpa using h) fun i y hi => hy (i + 1) y hi)
section
variable {w : World} {A : Around} {s : Shared} {mg mb : Str → Option Value} {loose : List Str} {mean : ExcName → Option Value}
set_option maxHeartbeats 4000000 in
theorem c_spelled {k : Nat} {n : List Nat} {t u : Tok} {E : Value → Shared → Prop} {Q : Value → Shared → Prop}
   (X : (heapK w.params).In s.heap) (T : Top vw loose mean mg mb s.heap)
   (hr : A.depth + 10 < recursionLimit) (hh : A.handled = none) (hu : A.units + 20 < cLine) (hk : k < 5) (hn : n.length ≤ 1000)
   (h : ∀ h' tk t, Grows s.heap h' → Q (.str (Tx (n.flatMap (spC k))) t) { s with heap := h', toks := tk }) :
   wpAny (model PP w) A (call (.ref 135) [.int k t, .str (Tx n) u]) Q E s := by
  refine enterC [("which", .int k t), ("text", .str (Tx n) u)] X T (by k_is) (by k_is) (by omega) rfl (by rfl) (by decide) (fun L h₁ tk cells F N Y => ?_) rfl rfl rfl
  obtain ⟨o1, o2, rfl, d1, d2⟩ := CellsAre.two Y
  clear Y
  replace d1 : o1.data = .cell none := d1
  replace d2 : o2.data = .cell (some (.int k t)) := d2
  walk_at "gost"
  rename Fr _ _ _ _ => F'
  rename News _ _ _ _ => N'
  rename (Obj.data _ = Data.cell (some (Value.ref _))) => d9
  rename (Obj.IsDictOf _ _ (strPairs (_ :: _))) => hd9
  rename ((_ == sysModules) = false) => lo
  refine ListComp_str n (fun c v => ∃ t, v = .str (Tx (spC k c)) t) F' N' hh (by omega) ?_ ?_ ?_ (by with_unfolding_all rfl) (by decide) (by rfl) (by decide) (by rfl)
  · walk_at "gost"
  · intro C c uc m₃ s₃ E' hc hCn hm F3 N3
    have M := (Heap.dictOf_iff.mpr ⟨_, (N3 _ (.tail _ (.tail _ (.tail _ (.tail _ (.tail _ (.tail _ (.tail _ (.head _))))))))).1, hd9⟩).mapOf
    refine wpAny_IfExp (wpAny_isTrue_Compare1 (ldVarK hCn hm (kcf_cell N3 (by rfl) (.tail _ (.tail _ (.tail _ (.tail _ (.tail _ (.tail _ (.tail _ (.tail _ (.head _))))))))) d9 (wpAny_in_of (k := Tx [c]) (by simp [PySem.strKind, Value.isStrOf]) lo M (wpAny_truthy_bool ?_)))))
    have hit : c ∈ S7 → ∃ l items t, (if c = 38 then some (Value.ref _) else if c = 60 then some (Value.ref _) else if c = 62 then some (Value.ref _) else if c = 34 then some (Value.ref _) else if c = 13 then some (Value.ref _) else if c = 10 then some (Value.ref _) else if c = 9 then some (Value.ref _) else none) = some (Value.ref l) ∧ s₃.heap.IsList l items ∧ items[k]? = some (Value.str (Tx (spC k c)) t) := fun h7 => by
      simp only [S7, List.mem_cons, List.not_mem_nil, or_false] at h7
      rcases h7 with rfl | rfl | rfl | rfl | rfl | rfl | rfl
      · obtain ⟨items, t, h1, h2⟩ := row_read (x := 38) N3 (.tail _ (.tail _ (.tail _ (.tail _ (.tail _ (.tail _ (.head _))))))) (by decide +kernel) hk
        exact ⟨_, items, t, rfl, h1, h2⟩
      · obtain ⟨items, t, h1, h2⟩ := row_read (x := 60) N3 (.tail _ (.tail _ (.tail _ (.tail _ (.tail _ (.head _)))))) (by decide +kernel) hk
        exact ⟨_, items, t, rfl, h1, h2⟩
      · obtain ⟨items, t, h1, h2⟩ := row_read (x := 62) N3 (.tail _ (.tail _ (.tail _ (.tail _ (.head _))))) (by decide +kernel) hk
        exact ⟨_, items, t, rfl, h1, h2⟩
      · obtain ⟨items, t, h1, h2⟩ := row_read (x := 34) N3 (.tail _ (.tail _ (.tail _ (.head _)))) (by decide +kernel) hk
        exact ⟨_, items, t, rfl, h1, h2⟩
      · obtain ⟨items, t, h1, h2⟩ := row_read (x := 13) N3 (.tail _ (.tail _ (.head _))) (by decide +kernel) hk
        exact ⟨_, items, t, rfl, h1, h2⟩
      · obtain ⟨items, t, h1, h2⟩ := row_read (x := 10) N3 (.tail _ (.head _)) (by decide +kernel) hk
        exact ⟨_, items, t, rfl, h1, h2⟩
      · obtain ⟨items, t, h1, h2⟩ := row_read (x := 9) N3 (.head _) (by decide +kernel) hk
        exact ⟨_, items, t, rfl, h1, h2⟩
    by_cases h7 : c ∈ S7
    · obtain ⟨l, items, tt, e1, e2, e3⟩ := hit h7
      rw [tab_at, e1]
      simp only [Option.isSome_some, if_true]
      refine Subscript_ (Subscript_ (kcf_cell N3 (by rfl) (.tail _ (.tail _ (.tail _ (.tail _ (.tail _ (.tail _ (.tail _ (.tail _ (.head _))))))))) d9 (ldVarK hCn hm (tail_any M.typeIs slot_dict_getitem.lookup (wpAny_getItem_of (k := Tx [c]) (by simp [PySem.strKind, Value.isStrOf]) M ((tab_at c).trans e1) ?_) (by with_unfolding_all rfl)))))
      refine kcf_cell N3 (by rfl) (.tail _ (.tail _ (.tail _ (.tail _ (.tail _ (.tail _ (.tail _ (.tail _ (.tail _ (.head _)))))))))) d2 ?_
      refine tail_any e2.typeIs slot_list_getitem.lookup (wpAny_getItem_list e2 (by omega) (by omega) (by simpa using e3) ?_) (by with_unfolding_all rfl)
      exact ⟨⟨_, rfl⟩, _, _, rfl, fun _ _ e => e⟩
    · rw [tab_none h7]
      simp only [Option.isSome_none, Bool.false_eq_true, if_false]
      rw [spC_plain h7]
      exact ldVarK hCn hm ⟨⟨_, rfl⟩, _, _, rfl, fun _ _ e => e⟩
  · intro D h2 tk2 vs n2 F2 N2 off hvl hv
    have hS := strs_of _ hvl hv
    have hfl : (n.map (spC k)).flatten.length ≤ 100000 := by
      rw [← List.flatMap_def]
      have := written_len hk n
      omega
    have hnl : (n.map (spC k)).length ≤ 100000 := by rw [List.length_map]; omega
    walk_at "gost"
    rw [← List.flatMap_def]
    exact h _ _ _ F2.keep
end
end -- RxSpd

section -- RxDrawn
open PySem PySem.W PyProof.Rows PySem.Calls PySem.SeqAt
open PySem
theorem ints_ex {vs : List Value} {P : Int → Prop} (h : ∀ (i : Nat) (v : Value), vs[i]? = some v → ∃ (m : Int) (t : Tok), v = .int m t ∧ P m) : ∃ ms, IntsAre vs ms ∧ ∀ m ∈ ms, P m := by
  induction vs with
  | nil => exact ⟨[], .nil, by simp⟩
  | cons v vs ih =>
    obtain ⟨m, t, rfl, hm⟩ := h 0 v rfl
    obtain ⟨ms, h1, h2⟩ := ih fun i y hi => h (i + 1) y hi
    exact ⟨m :: ms, .cons m t h1, by simpa using ⟨hm, h2⟩⟩
theorem ints_app : ∀ {vs us : List Value} {ms ns : List Int}, IntsAre vs ms → IntsAre us ns → IntsAre (vs ++ us) (ms ++ ns)
  | _, _, _, _, .nil, h => h
  | _, _, _, _, .cons n t r, h => .cons n t (ints_app r h)
section
variable {prog : Program} {w : World} {A : Around} {E : Value → Shared → Prop} {s : Shared} {h₀ : Heap} {L : Addr} {m : Str → Option Value} {news : List (Addr × Obj)}
theorem sum_news {D : Addr} {vs : List Value} {ms : List Int} {n : Nat} {Q : Value → Shared → Prop} (F : Fr h₀ L s.heap m) (N : News h₀ L s.heap news) (hm : (D, listOf vs.toArray n) ∈ news) (hI : IntsAre vs ms) (hh : A.handled = none)
    (h : ∀ z t' h' tk, Fr h₀ L h' m → News h₀ L h' news → Q (.int z t') { s with heap := h', toks := tk }) : wpAny (model prog w) A (call (.builtin "sum") [.ref D]) Q E s := by
  have hl := listOf_isList (N _ hm).1
  refine call_sum_walkG (wpAny_pyIter_list hl ?_)
  have hlt : ∀ b o, s.heap.get? b = some o → b ≠ s.heap.objs.size := fun b o e => Nat.ne_of_lt (Heap.lt_size e)
  obtain ⟨ol, hol, _⟩ := id hl
  refine ⟨_, _, _, _, _, _, fun i => ms.getD i 0, rfl, Walks.list (show A.in1.handled = none from hh) s.heap.objs.size D (hlt _ _ hol) vs.toArray, ⟨⟨_, Heap.get?_push_size _ rfl, rfl, rfl⟩, hl.push _⟩, fun b hb => ?_, fun i v hv => ?_, fun h' tk t' kp => ?_⟩
  · show b < (s.heap.push _).objs.size
    rw [Heap.size_push]
    rcases List.mem_cons.mp hb with rfl | hb
    · exact Nat.lt_succ_self _
    · rw [List.mem_singleton.mp hb]; exact Nat.lt_succ_of_lt (Heap.lt_size hol)
  · obtain ⟨b, tb, rfl, hb⟩ := hI.at i v (by simpa using hv)
    exact ⟨tb, by simp only [List.getD_eq_getElem?_getD, hb, Option.getD_some]⟩
  · have kk : ∀ b ob, s.heap.get? b = some ob → h'.get? b = some ob := fun b ob e => kp b ob (fun q => hlt _ _ e (List.mem_singleton.mp q)) (Heap.get?_push_of_some _ e)
    exact h _ _ _ _ (F.keeps kk) (news_grow N kk)
theorem add_tx {a b : List Nat} {x y : Str} {t u : Tok} {Q : Value → Shared → Prop} (hx : x = Tx a) (hy : y = Tx b) (hsz : a.length + b.length ≤ 100000) (h : ∀ t' tk, Q (.str (Tx (a ++ b)) t') { s with toks := tk }) :
    wpAny (model prog w) A (binaryOp .Add (.str x t) (.str y u)) Q E s := by
  subst hx hy
  refine PyProof.Rows.add_str (fun t' tk => ?_) (by rw [Tx_length, Tx_length, sizeLine_eq]; omega)
  rw [tx_append]; exact h t' tk
theorem lSS : Str.ofString "**" = Tx [42, 42] := by decide +kernel
theorem patOk_app {p q : List Nat} (hp : PatOk p) (hq : PatOk q) : PatOk (p ++ q) := fun e he => by
  rcases List.mem_append.mp he with h | h
  · exact hp e h
  · exact hq e h
theorem nameOk_app {p q : List Nat} (hp : NameOk p) (hq : NameOk q) : NameOk (p ++ q) := fun e he => by
  rcases List.mem_append.mp he with h | h
  · exact hp e h
  · exact hq e h
theorem patOk_sign {c : Nat} (h : SignOk c) : PatOk [c] := fun e he => by rw [List.mem_singleton.mp he]; exact .inr (.inr h)
theorem nameOk_sign {c : Nat} (h : SignOk c) : NameOk [c] := fun e he => by rw [List.mem_singleton.mp he]; exact h
theorem signs_ex {vs : List Value} (h : ∀ (i : Nat) (v : Value), vs[i]? = some v → ∃ (c : Nat) (t : Tok), v = .str (Tx [c]) t ∧ SignOk c) : ∃ cs : List Nat, StrsAre vs ((cs.map fun c => [c]).map Tx) ∧ NameOk cs ∧ cs.length = vs.length := by
  induction vs with
  | nil => exact ⟨[], .nil, (fun e he => by cases he), rfl⟩
  | cons v vs ih =>
    obtain ⟨c, t, rfl, hc⟩ := h 0 v rfl
    obtain ⟨cs, h1, h2, h3⟩ := ih fun i y hi => h (i + 1) y hi
    exact ⟨c :: cs, .cons _ t h1, fun e he => by
      rcases List.mem_cons.mp he with rfl | he
      · exact hc
      · exact h2 e he, by simp [h3]⟩
theorem flat_one (cs : List Nat) : (cs.map fun c => [c]).flatten = cs := by
  induction cs with
  | nil => rfl
  | cons c cs ih => rw [List.map_cons, List.flatten_cons, ih]; rfl
theorem fdiv_bd {m k : Int} (hk : 0 < k) (h : 0 ≤ m) : 0 ≤ Int.fdiv m k ∧ k * Int.fdiv m k ≤ m := by
  rw [Int.fdiv_eq_ediv_of_nonneg _ (by omega)]
  exact ⟨Int.ediv_nonneg h (by omega), Int.mul_ediv_self_le (by omega)⟩
end
theorem drawn_end {h' : Heap} {D : Addr} {x y : Value} {z : Int} {t : Tok} {n : Nat} (e : h'.get? D = some { cls := .type "tuple", data := .seq #[x, y, .int (Int.fmod z 5) t] n }) : ∃ k : Nat, k < 5 ∧ h'.IsTuple D #[x, y, .int (k : Int) t] := by
  have h1 := Int.fmod_nonneg_of_pos z (b := 5) (by decide)
  have h2 := Int.fmod_lt_of_pos z (b := 5) (by decide)
  obtain ⟨k, hk⟩ : ∃ k : Nat, Int.fmod z 5 = (k : Int) := ⟨_, (Int.toNat_of_nonneg h1).symm⟩
  rw [hk] at e h2
  exact ⟨k, by omega, _, e, rfl, _, rfl⟩
def DrFr (NB : Addr) (p n : List Nat) (m : Str → Option Value) : Prop := ∃ t1 t2, m "numbers" = some (.ref NB) ∧ m "pattern" = some (.str (Tx p) t1) ∧ m "name" = some (.str (Tx n) t2)
def DrI (L : Addr) (wsl : List Value) (i : Nat) (m : Str → Option Value) (news : List (Addr × Obj)) : Prop :=
  ∃ (NB : Addr) (o1 : Obj) (c : Option Value) (p n : List Nat), news = [(NB, listOf wsl.toArray 0), (L + 1, o1)] ∧ o1.data = .cell c ∧ @Ne Nat (L + 1) NB ∧ DrFr NB p n m ∧ PatOk p ∧ NameOk n ∧ p.length ≤ 2 * i ∧ n.length ≤ 2 * i
theorem dr_fin {h₀ h' : Heap} {L NB it : Addr} {wsl : List Value} {own : List (Addr × Obj)} {o1 o1' : Obj} {c' : Option Value} {i : Nat} {s : Shared} {tk' : Nat} {m' : Str → Option Value} {p' n' : List Nat} (more : List (Addr × Obj)) (F : Fr h₀ L h' m')
    (N : News h₀ L h' (more ++ ((NB, listOf wsl.toArray 0) :: (L + 1, o1') :: own))) (hnw : ∀ p ∈ [(NB, listOf wsl.toArray 0), (L + 1, o1)], p.1 ∉ [it]) (d : o1'.data = .cell c') (hNB : @Ne Nat (L + 1) NB) (hd : DrFr NB p' n' m') (hp : PatOk p') (hn : NameOk n')
    (hpl : p'.length ≤ 2 * (i + 1)) (hnl : n'.length ≤ 2 * (i + 1)) : ForOk h₀ L [it] own (DrI L wsl) i s { s with heap := h', toks := tk' } := by
  refine ForOk.intro (news' := [(NB, listOf wsl.toArray 0), (L + 1, o1')]) F (fun p hp => N p ?_) (fun p hp => ?_) ⟨NB, o1', c', p', n', rfl, d, hNB, hd, hp, hn, hpl, hnl⟩
  · simp only [List.mem_cons, List.mem_append, List.not_mem_nil, or_false] at hp ⊢
    rcases hp with h | h | h <;> simp [h]
  · rcases List.mem_cons.mp hp with rfl | hp
    · exact hnw _ (.head _)
    · rw [List.mem_singleton.mp hp]
      exact hnw (L + 1, o1) (.tail _ (.head _))
section
variable {w : World} {A : Around} {s : Shared} {mg mb : Str → Option Value} {loose : List Str} {mean : ExcName → Option Value}
local macro_rules | `(tactic| walk_at "binaryOp Add ref ref") => `(tactic| (k_here; k_dflt (refine' add_news (by k_asm) (by k_asm) (by k_mem) (by k_mem) (by simp only [List.length_cons, List.length_nil]; omega) ?_; k_whole); intro a' h' F' N' l1; (try k_lt l1); (try k_sweep)))
local macro_rules | `(tactic| walk_at "tx") => `(tactic| with_reducible exact lSS)
local macro_rules | `(tactic| walk_at "binaryOp Add str str") => `(tactic| (k_here; k_dflt (refine' add_tx (by walk_at "tx") (by walk_at "tx") (by first | omega | (simp only [List.length_cons, List.length_nil]; omega)) ?_; k_whole); intro t' tk'))
local macro_rules | `(tactic| walk_at "subscriptTail Name Name ref int") => `(tactic| (k_here; k_dflt (refine' sub_news (by k_asm) (by k_mem) (by omega) (by omega) (by assumption) ?_; k_whole)))
local macro_rules | `(tactic| walk_at "call builtin:sum") => `(tactic| (k_here; k_dflt (refine' sum_news (by k_asm) (by k_asm) (by k_mem) (by assumption) (by first | exact rfl | assumption) ?_; k_whole); intro z' t' h' tk' F' N'))
set_option maxHeartbeats 4000000 in
theorem c_drawn {a : Addr} {vs : List Value} {ns : List Int} {E : Value → Shared → Prop} {Q : Value → Shared → Prop}
   (X : (heapK w.params).In s.heap) (T : Top vw loose mean mg mb s.heap)
   (hr : A.depth + 10 < recursionLimit) (hh : A.handled = none) (hl : s.heap.IsList a vs.toArray) (hI : IntsAre vs ns) (hv : vs.length ≤ 63)
   (h : ∀ h' tk D p n (k : Nat) t1 t2 t3, Grows s.heap h' → s.heap.get? D = none → h'.IsTuple D #[.str (Tx p) t1, .str (Tx n) t2, .int k t3] → PatOk p → NameOk n → p.length ≤ 7 → n.length ≤ 7 → k < 5 → Q (.ref D) { s with heap := h', toks := tk }) :
   wpAny (model PP w) A (call (.ref 123) [.ref a]) Q E s := by
  refine enterC [("script", .ref a)] X T (by k_is) (by k_is) (by omega) rfl (by rfl) (by decide) (fun L h₁ tk cells F N Y => ?_) rfl rfl rfl
  obtain ⟨o1, rfl, d1⟩ := CellsAre.one Y
  clear Y
  replace d1 : o1.data = .cell none := d1
  walk_at "gost"
  refine LCg.ListComp_U (F₀ := F) (by with_unfolding_all rfl) (by decide) (by rfl) (by decide) (by rfl) ?_
  walk_at "gost"
  rename Fr _ _ _ _ => F'
  rename News _ _ _ _ => N'
  rename (IntsAre _ (List.take 16 ns)) => hI'
  rename (List.length (List.take 16 ns) = _) => hC'
  have hwl := hI'.length
  refine LCg.CompSrc.ledger hh F' N' (.head _) (by rw [List.size_toArray, sizeLine_eq]; omega) ?_
  intro g
  clear F' N'
  refine rest_inv (fun i y => ∃ (m : Int) (t : Tok), y = .int m t ∧ (0 ≤ m ∧ m < 1000000000)) ?_ ?_
  · rintro i2 v I2 oI C2 oC D2 m2 ys h3 tk3 E' hi2 hv2 hC hx2 F' N' off ne
    obtain ⟨b, tb, rfl, _⟩ := hI'.at _ _ (by simpa using hv2)
    walk_at "gost"
    refine LCg.CompEnd.intro F' N' _ (fun p hp => hp) off (.inr ⟨_, .head _, rfl, _, rfl⟩) ?_
    exact ⟨rfl, _, _, rfl, Int.fmod_nonneg_of_pos _ (by decide), Int.fmod_lt_of_pos _ (by decide)⟩
  · intro ys hyl hy
    unfold LCg.FinE
    intro D2 h3 tk3 F' N' off1
    simp only [LCg.Off1, and_true] at off1
    rw [List.size_toArray] at hyl
    walk_at "gost"
    rename Fr _ _ _ _ => F'
    rename News _ _ _ _ => N'
    rename (_ ∧ _ ∧ _ ∧ _) => l8
    obtain ⟨ms, hms, hmb⟩ := ints_ex hy
    have hW : IntsAre _ (ms ++ [4, 24, 52, 38]) := ints_app hms (.cons 4 tk3 (.cons 24 (tk3 + 1) (.cons 52 (tk3 + 1 + 1) (.cons 38 (tk3 + 1 + 1 + 1) .nil))))
    have hWb : ∀ m ∈ ms ++ [4, 24, 52, 38], (0 : Int) ≤ m ∧ m < 1000000000 := fun m hm => by
      rcases List.mem_append.mp hm with h | h
      · exact hmb m h
      · simp only [List.mem_cons, List.not_mem_nil, or_false] at h
        omega
    have hWl : (ys ++ [Value.int 4 tk3, Value.int 24 (tk3 + 1), Value.int 52 (tk3 + 1 + 1), Value.int 38 (tk3 + 1 + 1 + 1)]).length ≤ 20 := by
      simp only [List.length_append, List.length_cons, List.length_nil]; omega
    generalize ys ++ [Value.int 4 tk3, Value.int 24 (tk3 + 1), Value.int 52 (tk3 + 1 + 1), Value.int 38 (tk3 + 1 + 1 + 1)] = wsl at N' hW hWl
    generalize ms ++ [4, 24, 52, 38] = msl at hW hWb
    have hml := hW.length
    refine for_range (h₀ := s.heap) hh msl.length (DrI L wsl) (by omega) ?_ ?_ ?_
    · walk_at "gost"
      rename IsRange _ _ _ _ _ _ _ _ => hR
      rename Fr _ _ _ _ => F2
      rename News _ _ _ _ => N2
      exact ⟨_, _, _, _, rfl, _, _, _, _, rfl, F2, fun p hp => N2 p (by simp only [List.mem_cons] at hp ⊢; rcases hp with h | h | h <;> simp [h]), hR, _, o1, _, [], [], rfl, d1, by omega, ⟨_, _, rfl, by rw [← l_]; rfl, by rw [← l_]; rfl⟩, (fun e he => by cases he), (fun e he => by cases he), by simp, by simp⟩
    · clear F' N' hms hy hI'
      rintro it i v h₂ tk m _ own hi ⟨tv, rfl⟩ ⟨NB, o1, c1, p, n, rfl, d1, hNB, ⟨t1, t2, e1, e2, e3⟩, hp, hn, hpl, hnl⟩ how hnw hown F N
      replace F := fr_pins F [("numbers", .ref NB), ("pattern", .str (Tx p) t1), ("name", .str (Tx n) t2)]
        (by simp only [List.forall_mem_cons]; exact ⟨e1, e2, e3, List.forall_mem_nil _⟩)
      have far : ∀ q ∈ own, @Ne Nat q.1 (L + 1) := fun q hq e => by
        have h1 := how q hq
        refine hnw (L + 1, o1) (.tail _ (.head _)) ?_
        rw [show L + 1 = q.1 from e.symm]; exact h1
      replace N : News s.heap L h₂ ((NB, listOf wsl.toArray 0) :: (L + 1, o1) :: own) := fun p hp => by
        refine N p ?_
        simp only [List.mem_cons, List.mem_append, List.not_mem_nil, or_false] at hp ⊢
        rcases hp with h | h | h <;> simp [h]
      have hml := hW.length
      have hi : i < wsl.length := by omega
      obtain ⟨mm, tm, hwi, hmi⟩ := hW.at i wsl[i] (List.getElem?_eq_getElem hi)
      have hwi : wsl[((i : Nat) : Int).toNat]? = some (.int mm tm) := by rw [← hwi]; simp [hi]
      have hmb := hWb mm (List.mem_of_getElem? hmi)
      have hq := fdiv_bd (k := 12) (by decide) hmb.1
      have hq2 := Int.fmod_nonneg_of_pos mm (b := 12) (by decide)
      have hq3 := Int.fmod_lt_of_pos mm (b := 12) (by decide)
      have hil : i < 20 := by omega
      walk_at "gost"
      · rename Fr _ _ _ _ => F'
        refine LCg.ListComp_U (F₀ := F') (by with_unfolding_all rfl) (by decide) (by rfl) (by decide) (by rfl) ?_
        walk_at "gost"
        rename IsRange _ _ _ _ _ _ _ _ => hR
        rename Fr _ _ _ _ => F2
        rename News _ _ _ _ => N2
        have hr1 := Int.fmod_nonneg_of_pos (Int.fdiv mm 12 + (i : Int)) (b := 3) (by decide)
        have hr2 := Int.fmod_lt_of_pos (Int.fdiv mm 12 + (i : Int)) (b := 3) (by decide)
        have hr3 := fdiv_bd (m := Int.fdiv mm 12 + (i : Int)) (k := 3) (by decide) (by omega)
        obtain ⟨r, hr4⟩ : ∃ r : Nat, Int.fmod (Int.fdiv mm 12 + (i : Int)) 3 = (r : Int) := ⟨_, (Int.toNat_of_nonneg hr1).symm⟩
        rw [hr4] at hR hr2
        refine LCg.CompSrc.range (n := r) hh F2 N2 hR (small_one (by omega) (by omega) (by omega) (by omega)) (by rw [rangeSize_one]; split <;> omega) (by rw [sizeLine_eq]; omega) ?_
        intro g
        clear F2 N2 hR
        rename News _ _ _ _ => No
        rename Fr _ _ _ _ => Fo
        clear Fo No
        refine rest_inv (fun i y => ∃ (c : Nat) (t : Tok), y = .str (Tx [c]) t ∧ SignOk c) ?_ ?_
        · rintro i2 _ I2 oI C2 oC D2 m2 ys h3 tk3 E' hi2 ⟨t2, rfl⟩ hC hx2 F' N' off ne
          rw [Int.zero_add] at hx2
          walk_at "gost"
          rename Fr _ _ _ _ => F'
          rename News _ _ _ _ => N'
          refine c_sign (X.keeps F'.keep) (T.keeps F'.keep) (show A.depth + 1 < _ by omega) (by omega) (by omega) (fun h5 tk5 c5 t5 hc5 G5 => ?_)
          show LCg.CompEnd _ _ _ _ _ _ _ _ _ _ _ _ _ _
          refine LCg.CompEnd.intro (fr_grow F' G5) (news_grow N' G5) _ (fun p hp => hp) off trivial ?_
          exact ⟨rfl, c5, t5, rfl, hc5⟩
        · intro ys hyl hy
          unfold LCg.FinE
          intro D2 h3 tk3 F' N' off1
          simp only [LCg.Off1, and_true] at off1
          obtain ⟨cs, hS, hcs, hcl⟩ := signs_ex hy
          have hfl := flat_one cs
          generalize cs.map (fun c => [c]) = ls at hS hfl
          have hfl2 : ls.flatten.length ≤ 100000 := by rw [hfl]; omega
          have hll : ls.length ≤ 100000 := by have := hS.length; rw [List.length_map] at this; omega
          have hfl3 : ls.flatten.length ≤ 2 := by rw [hfl]; omega
          walk_at "gost"
          rename Fr _ _ _ _ => F'
          rename News _ _ _ _ => N'
          exact dr_fin [_] F' N' hnw (by assumption) hNB ⟨_, _, rfl, rfl, rfl⟩ (patOk_app hp fun e he => by rw [List.mem_singleton.mp he]; exact .inl rfl) (nameOk_app hn (by rw [hfl]; exact hcs)) (by simp; omega) (by rw [List.length_append]; omega)
      · rename Fr _ _ _ _ => F'
        rename News _ _ _ _ => N'
        refine c_sign (X.keeps F'.keep) (T.keeps F'.keep) (show A.depth + 1 < _ by omega) (by omega) (by omega) (fun h5 tk5 c5 t5 hc5 G5 => ?_)
        have F5 := fr_grow F' G5
        have N5 := news_grow N' G5
        clear F' N'
        walk_at "gost"
        rename Fr _ _ _ _ => F'
        rename News _ _ _ _ => N'
        exact dr_fin [] F' N' hnw (by assumption) hNB ⟨_, _, rfl, rfl, rfl⟩ (patOk_app hp fun e he => by rw [List.mem_singleton.mp he]; exact .inr (.inl rfl)) (nameOk_app hn (nameOk_sign hc5)) (by simp; omega) (by simp; omega)
      · rename Fr _ _ _ _ => F'
        rename News _ _ _ _ => N'
        refine c_sign (X.keeps F'.keep) (T.keeps F'.keep) (show A.depth + 1 < _ by omega) (by omega) (by omega) (fun h5 tk5 c5 t5 hc5 G5 => ?_)
        have F5 := fr_grow F' G5
        have N5 := news_grow N' G5
        clear F' N'
        walk_at "gost"
        rename Fr _ _ _ _ => F'
        rename News _ _ _ _ => N'
        refine c_sign (X.keeps F'.keep) (T.keeps F'.keep) (show A.depth + 1 < _ by omega) (by omega) (by omega) (fun h6 tk6 c6 t6 hc6 G6 => ?_)
        have F6 := fr_grow F' G6
        have N6 := news_grow N' G6
        clear F' N'
        walk_at "gost"
        rename Fr _ _ _ _ => F'
        rename News _ _ _ _ => N'
        exact dr_fin [] F' N' hnw (by assumption) hNB ⟨_, _, rfl, rfl, rfl⟩ (patOk_app hp (patOk_sign hc5)) (nameOk_app hn (nameOk_sign hc6)) (by simp; omega) (by simp; omega)
      · rename Fr _ _ _ _ => F'
        rename News _ _ _ _ => N'
        refine c_sign (X.keeps F'.keep) (T.keeps F'.keep) (show A.depth + 1 < _ by omega) (by omega) (by omega) (fun h5 tk5 c5 t5 hc5 G5 => ?_)
        have F5 := fr_grow F' G5
        have N5 := news_grow N' G5
        clear F' N'
        walk_at "gost"
        rename Fr _ _ _ _ => F'
        rename News _ _ _ _ => N'
        exact dr_fin [] F' N' hnw (by assumption) hNB ⟨_, _, rfl, rfl, rfl⟩ (patOk_app hp (patOk_sign hc5)) hn (by simp; omega) (by omega)
      · rename Fr _ _ _ _ => F'
        rename News _ _ _ _ => N'
        refine c_sign (X.keeps F'.keep) (T.keeps F'.keep) (show A.depth + 1 < _ by omega) (by omega) (by omega) (fun h5 tk5 c5 t5 hc5 G5 => ?_)
        have F5 := fr_grow F' G5
        have N5 := news_grow N' G5
        clear F' N'
        walk_at "gost"
        rename Fr _ _ _ _ => F'
        rename News _ _ _ _ => N'
        exact dr_fin [] F' N' hnw (by assumption) hNB ⟨_, _, rfl, rfl, rfl⟩ hp (nameOk_app hn (nameOk_sign hc5)) (by omega) (by simp; omega)
      · rename Fr _ _ _ _ => F'
        rename News _ _ _ _ => N'
        exact dr_fin [] F' N' hnw (by assumption) hNB ⟨_, _, rfl, rfl, rfl⟩ (patOk_app hp fun e he => by simp only [List.mem_cons, List.not_mem_nil, or_false, or_self] at he; exact .inl he) hn (by simp; omega) (by omega)
      · rename Fr _ _ _ _ => F'
        rename News _ _ _ _ => N'
        refine c_sign (X.keeps F'.keep) (T.keeps F'.keep) (show A.depth + 1 < _ by omega) (by omega) (by omega) (fun h5 tk5 c5 t5 hc5 G5 => ?_)
        have F5 := fr_grow F' G5
        have N5 := news_grow N' G5
        clear F' N'
        walk_at "gost"
        rename Fr _ _ _ _ => F'
        rename News _ _ _ _ => N'
        refine c_sign (X.keeps F'.keep) (T.keeps F'.keep) (show A.depth + 1 < _ by omega) (by omega) (by omega) (fun h6 tk6 c6 t6 hc6 G6 => ?_)
        have F6 := fr_grow F' G6
        have N6 := news_grow N' G6
        clear F' N'
        walk_at "gost"
        rename Fr _ _ _ _ => F'
        rename News _ _ _ _ => N'
        exact dr_fin [] F' N' hnw (by assumption) hNB ⟨_, _, rfl, rfl, rfl⟩ (patOk_app hp (patOk_sign hc5)) (nameOk_app hn (nameOk_sign hc6)) (by simp; omega) (by simp; omega)
    · clear F' N' hms hy hI'
      rintro m news h' tk ⟨NB, o1, c1, p, n, rfl, d1, hNB, ⟨t1, t2, e1, e2, e3⟩, hp, hn, hpl, hnl⟩ F N
      replace F := fr_pins F [("numbers", .ref NB), ("pattern", .str (Tx p) t1), ("name", .str (Tx n) t2)]
        (by simp only [List.forall_mem_cons]; exact ⟨e1, e2, e3, List.forall_mem_nil _⟩)
      walk_at "gost"
      rename Fr _ _ _ _ => F'
      rename News _ _ _ _ => N'
      rw [show Txt.slice (Tx p) none (some 7) = Tx (p.take 7) from slice_to p 7 (by decide), show Txt.slice (Tx n) none (some 7) = Tx (n.take 7) from slice_to n 7 (by decide)] at N'
      obtain ⟨e4, e5, e6⟩ := N' _ (.head _)
      obtain ⟨k, hk, hT⟩ := drawn_end e4
      exact h _ _ _ _ _ k _ _ _ F'.keep e6 hT (fun e he => hp e (List.mem_of_mem_take he)) (fun e he => hn e (List.mem_of_mem_take he)) (by rw [List.length_take]; omega) (by rw [List.length_take]; omega) hk
end
end -- RxDrawn

section -- RxLw
open PySem PySem.W PyProof.Rows PySem.Calls PySem.SeqAt
open PySem
theorem letGo_tupiter {prog : Program} {w : World} {A : Around} {E : Value → Shared → Prop} {x : Str} {px : Pos} {I : Addr} {v : Value} {Q' : Unit → Shared → Prop} {s' : Shared} (h : Q' () s') :
    wpAny (model prog w) A (letOwnedTupleGo (.Name x px) (.ref I) v) Q' E s' := wpAny_of_eq (a := ()) rfl h
section
variable {prog : Program} {w : World} {A : Around} {E : Value → Shared → Prop} {s : Shared} {env : Env} {h₀ : Heap}
def TpOk (h₀ : Heap) (L : Addr) (s : Shared) (vs : List Value) (I : Nat → (Str → Option Value) → List (Addr × Obj) → Prop) (xv : Value) (s₁ : Shared) : Prop :=
  ∃ a h' tk m news, xv = .ref a ∧ s₁ = { s with heap := h', toks := tk } ∧ Fr h₀ L h' m ∧ News h₀ L h' news ∧ h'.IsTuple a vs.toArray ∧ a ≠ L ∧ I 0 m news
theorem for_tuple {Q : Flow → Shared → Prop} {x : Str} {px : Pos} {iter : Expr} {body : List Stmt} {pos : Pos} {m₀ : Str → Option Value} (_F : Fr h₀ env.locals s.heap m₀) (hh : A.handled = none) (vs : List Value) (I : Nat → (Str → Option Value) → List (Addr × Obj) → Prop)
    (h : wpAny (model prog w) A (eval iter env) (TpOk h₀ env.locals s vs I) (fun _ _ => False) s)
    (turn : ∀ it a, Turn prog w A h₀ env (.Name x px) body [it] vs.length (fun i v => vs[i]? = some v) [it, a] I Q s)
    (done : ∀ m news h' tk, I vs.length m news → Fr h₀ env.locals h' m → News h₀ env.locals h' news → Q .next { s with heap := h', toks := tk })
    (hs : ∀ x, foldedSetIterable iter env x = pure x := by intro _; rfl) :
    wpAny (model prog w) A (exec (.For (.Name x px) iter body [] pos) env) Q E s := by
  refine wpAny_For (wpAny_mono h (fun xv s₁ h₁ => ?_) fun _ _ e => e.elim) hs
  obtain ⟨a, h', tk, m, news, rfl, rfl, F, N, hl, haL, hI⟩ := h₁
  have hlt : ∀ b o, h'.get? b = some o → b ≠ h'.objs.size := fun b o e => Nat.ne_of_lt (Heap.lt_size e)
  obtain ⟨ol, hol, _⟩ := id hl
  obtain ⟨oL, _, _, hoL, _⟩ := id F.ns
  refine wpAny_pyIter_tuple hl ?_
  have W := Walks.tuple (prog := prog) (w := w) hh h'.objs.size a (hlt _ _ hol) vs.toArray
  rw [List.size_toArray] at W
  refine forLoop_rule (R := fun r s' => match r with | .ok f => Q f s' | .error e => cameBackBy (model prog w) A env E e s') W I (fun i h st b hb => by obtain ⟨o, e, _⟩ := st.1; rw [List.mem_singleton.mp hb]; exact ⟨o, e⟩) ?_ ?_ ?_ ⟨⟨_, Heap.get?_push_size _ rfl, rfl, rfl⟩, by obtain ⟨o, e, r⟩ := hl; exact ⟨o, Heap.get?_push_of_some _ e, r⟩⟩ (F.push _) (N.pushKeep _) hI (fun _ _ _ _ _ _ h => letGo_tupiter h) (fun i v h₁ tk₁ m news own a b c d e f g j => ?_) (fun m news h' tk a b c => done m news h' tk a b c)
  · intro hm
    simp only [List.mem_cons, List.not_mem_nil, or_false] at hm
    rcases hm with hm | hm
    · exact hlt _ _ hoL hm
    · exact haL hm.symm
  · intro b hb
    simp only [List.mem_cons, List.not_mem_nil, or_false] at hb
    subst hb
    cases q : h₀.get? h'.objs.size with
    | none => rfl
    | some o => exact absurd rfl (hlt _ _ (F.keep _ _ q))
  · intro p hp
    simp only [List.mem_cons, List.not_mem_nil, or_false]
    exact hlt _ _ (N p hp).1
  · exact turn _ _ i v h₁ tk₁ m news own a (by simpa using b) c d e f g j
end
section
variable {prog : Program} {w : World} {A : Around} {E : Value → Shared → Prop} {s : Shared} {h₀ : Heap} {L : Addr} {m : Str → Option Value} {news : List (Addr × Obj)}
theorem eq_bools {l b : Addr} {x : Bool} {n k : Nat} {Q : Value → Shared → Prop} (N : News h₀ L s.heap news) (h1 : (l, listOf #[.bool x, .bool x] n) ∈ news) (h2 : (b, listOf #[.bool x, .bool x] k) ∈ news) (hu : A.units < cLine)
    (h : Q (.bool true) s) : wpAny (model prog w) A (compareOp .Eq (.ref l) (.ref b)) Q E s := by
  refine eq_listAt (e := fun _ => true) (listOf_isList (its := #[.bool x, .bool x]) (N _ h1).1) (listOf_isList (its := #[.bool x, .bool x]) (N _ h2).1) rfl hu (fun j h1 h2 => EqAt.same _) ?_
  have : ((List.range (#[Value.bool x, Value.bool x] : Array Value).size).all fun _ => true) = true := rfl
  rw [this]; exact h
end
theorem law_lt (e : Env) {j : Nat} (h : j ≤ 15) : (callerA.deeper e).depth + j < recursionLimit := by
  have : callerA.depth + 1 + 15 < recursionLimit := by decide
  show callerA.depth + 1 + j < recursionLimit
  omega
theorem law_un (e : Env) {j : Nat} (h : j ≤ 30) : (callerA.deeper e).units + j < cLine := by
  have : callerA.units + 3 + 30 < cLine := by decide
  show callerA.units + 3 + j < cLine
  omega
theorem law_un0 (e : Env) : (callerA.deeper e).units < cLine := law_un e (j := 0) (by decide)
theorem in_ghost {K : Frag} {h : Heap} {tabs : List (Addr × Addr)} (X : K.In (ghostOf h tabs)) : K.In h := X.keeps fun b o e => of_hideAll _ e
theorem ghost_grow {h h₁ : Heap} {L : Addr} {m : Str → Option Value} (F : Fr (ghostOf h [(61, 57)]) L h₁ m) (N : News (ghostOf h [(61, 57)]) L h₁ [(57, tabObj #[])]) (hT8 : ∀ P ∈ ([57] : List Addr), h.get? P = some (tabObj #[])) (hL : h.objs.size ≤ L) : Fr h L h₁ m := by
  refine ⟨F.ns, fun b o e => ?_, hL⟩
  by_cases hb : b = 57
  · subst hb
    have e' := hT8 57 (.head _)
    rw [e'] at e
    cases e
    exact (N _ (.head _)).1
  · exact F.keep b o (ghost_ne e (by simpa using hb))
theorem tkG_len (q : List Nat) : ∀ (ps : List (Option Nat)) (f : List Tk), (tkG q f ps).length ≤ f.length + 2 * ps.length + 1
  | [], f => by simp [tkG]
  | some c :: r, f => by
    have ih := tkG_len q r (f ++ [tokC q c])
    simp only [List.length_append, List.length_cons, List.length_nil] at ih
    rw [tkG]; simp only [List.length_cons]; omega
  | none :: r, f => by
    have ih := tkG_len q r []
    simp only [List.length_nil] at ih
    rw [tkG]; simp only [List.length_cons, List.length_append]; omega
theorem tkB_len (q : List Nat) : ∀ (ps : List (Option Nat)), (tkB q ps).length ≤ 2 * ps.length + 1
  | [] => by simp [tkB]
  | some c :: r => by have ih := tkB_len q r; rw [tkB]; simp only [List.length_cons]; omega
  | none :: r => by have := tkG_len q r []; simp only [List.length_nil] at this; rw [tkB]; simp only [List.length_cons]; omega
/-- what _law_takes asks of a joined text -/
theorem takes_facts {q p : List Nat} (hq : q = [] ∨ q = MARK) (hp : p.length ≤ 100) :
    joinB (trans (qtx q) p) = render q (tkB q (col false p)) ∧ TkOk q 0 (tkB q (col false p)) ∧ (tkB q (col false p)).length ≤ 900 ∧ (joinB (trans (qtx q) p)).length ≤ 10000 := by
  have h1 := tkB_len q (col false p)
  have h2 := col_len p false
  have h3 := join_len hq p
  exact ⟨body_eq q p, (ok_B hq (col false p)).2, by omega, by omega⟩
end -- RxLw

section -- RxLeft
open PySem PySem.W PyProof.Rows
noncomputable abbrev hook : Hook := kmHook heapK addsK (fun _ => by kernel_rfl) [57]
abbrev looseN : List Str := [Str.ofString "_twin_re_1", Str.ofString "_special_chars_map"]
abbrev RW : OpenRow := PySem.Challenge.rw_rx0017_01.row
noncomputable abbrev seenB (s : Shared) : Bool := xlAt vw [] s && recOk RW.records s
abbrev pg : Program := PySem.Challenge.rw_rx0017_01.row.prog
set_option maxHeartbeats 0
theorem run_of {tb : String → Option Builtin} {p : Program} {w : World} {n₀ : Nat} {ann : Option Value} {α : Type} {f : Shared → α} {x : α} {n0 n1 n2 n3 n4 : Nat} {s0 s1 s2 s3 s4 : Shared} {t0 : Thread} {b l1 l2 l3 : List Stmt} {env : Env} {p0 p1 p2 p3 q : Pos}
    (h0 : topGo tb p w n₀ ann n0 s0 t0 = some (s1, ⟨denote tb (.body b env), .body b env, p0, [topFrame q]⟩))
    (h1 : segRun tb p w n₀ ann 1 n1 s1 (blockOf b env (.body b env) p0 [topFrame q]) = some (.next, s2, .body b env, p1)) (hb : b = l1 ++ (l2 ++ l3))
    (h2 : segRun tb p w n₀ ann 1 n2 s2 (piecesOf l1 env (.body b env) p1 [topFrame q]) = some (.next, s3, .body b env, p2))
    (h3 : segRun tb p w n₀ ann 1 n3 s3 (piecesOf l2 env (.body b env) p2 [topFrame q]) = some (.next, s4, .body b env, p3))
    (h4 : (topRun tb p w n₀ ann n4 s4 (restOf l3 env (.body b env) p3 [topFrame q])).map f = some x) :
    (topRun tb p w n₀ ann (n0 + (n1 + (n2 + (n3 + n4)))) s0 t0).map f = some x := by
  obtain ⟨s, r, e⟩ := Option.map_eq_some_iff.mp h4
  have k := piece_app h2 (piece_app h3 r)
  rw [← hb] at k
  rw [go_top h0 (piece_block h1 k)]
  exact congrArg some e
theorem left_of {p q : Program} {loose : List Str} {Xt : Shared → Bool} {α : Type} {Yf : Shared → α} {Ya : World → α} {N m₀ k₀ M : Nat} {g0 : Bool} {H₀ : Params → Heap} {d₀ : Drawn} {ann : Option Value}
    (ho : ∀ w : World, (fencedOpening treeTable p w N).map (fun s => (s.heap, s.gens, s.drawn, s.toks)) = some (H₀ w.params, #[], d₀, k₀))
    (hz : ∀ w : World, ((H₀ w.params).isNs mainGlobals && (#[] : Array GenState).size == 0, (H₀ w.params).objs.size, (H₀ w.params).nsMap mainGlobals "__annotations__") = (true, m₀, ann))
    (hr : ∀ (w : World) (os : OsState), (topRun treeTable p w m₀ ann M ⟨H₀ w.params, #[], d₀, k₀, os⟩ (topStub p)).map (fun s =>
      (staticsOk (importedModules p.main.body) (H₀ w.params) s.heap && namesBound p s.heap && gensDone s && laidKept (H₀ w.params) s.heap, openSeen q loose (importedModules p.main.body) Xt g0 s, Yf s)) = some (true, openGood q loose, Ya w))
    (le : Nat.ble M N = true) : LeftO p q loose Xt Yf Ya N g0 := fun w => by
  obtain ⟨⟨h, gs, d, k, os⟩, e, e'⟩ := Option.map_eq_some_iff.mp (ho w)
  obtain ⟨rfl, rfl, rfl, rfl⟩ : h = H₀ w.params ∧ gs = #[] ∧ d = d₀ ∧ k = k₀ := by simpa using e'
  obtain ⟨z1, z2, z3⟩ : _ ∧ _ ∧ _ := by simpa only [Prod.mk.injEq] using hz w
  obtain ⟨s, r, e''⟩ := Option.map_eq_some_iff.mp (hr w os)
  obtain ⟨l1, l2, l3⟩ : _ ∧ _ ∧ _ := by simpa only [Prod.mk.injEq] using e''
  have r2 := topRun_mono (N - M) _ _ _ _ r
  rw [show M + (N - M) = N by have := Nat.le_of_ble_eq_true le; omega] at r2
  have t : topFrom treeTable p w N ⟨H₀ w.params, #[], d, k, os⟩ = some s := by
    unfold topFrom
    dsimp only
    rw [z1, z2, z3, r2]
    show (match staticsOk (importedModules p.main.body) (H₀ w.params) s.heap && namesBound p s.heap && gensDone s && laidKept (H₀ w.params) s.heap with | true => _ | false => _) = _
    rw [l1]
  unfold openEnds
  rw [e]
  show (topFrom treeTable p w N _).map _ = _
  rw [t]
  exact congrArg some (Prod.ext l2 l3)
/-- a def of the text as an object of class `cl` -/
noncomputable def fz (cl : Value) (i : Nat) (k : Str → Arguments → FuncBody → Scope → FuncData) : Obj :=
  match PySem.Challenge.pw_rx0017_01.main.body[i]? with
  | some (.FunctionDef n a b _ _ _ c _ _ _) => Obj.mk cl none (Data.func (k n a (.stmts b) c)) #[]
  | _ => Obj.mk .none none .plain #[]
def lifeK : Life := Life.mk [] [] [] 0 [] [] false #[] [] 0 false false false 0 [2000, 10, 10] false 0 true [] [] 0 false
noncomputable def ob0 : Params → Obj := fun P => Obj.mk (Value.type "dict") none (Data.dict #[DictEntry.mk (PyData.keyHash P (Str.ofString "__name__")) (Value.str (Str.ofString "__name__") 1) (Value.str (Str.ofString "builtins") 160), DictEntry.mk (PyData.keyHash P (Str.ofString "__doc__")) (Value.str (Str.ofString "__doc__") 2) (Value.builtin "builtins.__doc__:str#opaque"), DictEntry.mk (PyData.keyHash P (Str.ofString "__package__")) (Value.str (Str.ofString "__package__") 3) (Value.builtin "builtins.__package__:str#opaque"), DictEntry.mk (PyData.keyHash P (Str.ofString "__loader__")) (Value.str (Str.ofString "__loader__") 4) (Value.builtin "builtins.__loader__:shared#opaque"), DictEntry.mk (PyData.keyHash P (Str.ofString "__spec__")) (Value.str (Str.ofString "__spec__") 5) (Value.builtin "builtins.__spec__#opaque"), DictEntry.mk (PyData.keyHash P (Str.ofString "__build_class__")) (Value.str (Str.ofString "__build_class__") 6) (Value.builtin "__build_class__"), DictEntry.mk (PyData.keyHash P (Str.ofString "__import__")) (Value.str (Str.ofString "__import__") 7) (Value.builtin "__import__"), DictEntry.mk (PyData.keyHash P (Str.ofString "abs")) (Value.str (Str.ofString "abs") 8) (Value.builtin "abs"), DictEntry.mk (PyData.keyHash P (Str.ofString "all")) (Value.str (Str.ofString "all") 9) (Value.builtin "all"), DictEntry.mk (PyData.keyHash P (Str.ofString "any")) (Value.str (Str.ofString "any") 10) (Value.builtin "any"), DictEntry.mk (PyData.keyHash P (Str.ofString "ascii")) (Value.str (Str.ofString "ascii") 11) (Value.builtin "ascii"), DictEntry.mk (PyData.keyHash P (Str.ofString "bin")) (Value.str (Str.ofString "bin") 12) (Value.builtin "bin"), DictEntry.mk (PyData.keyHash P (Str.ofString "breakpoint")) (Value.str (Str.ofString "breakpoint") 13) (Value.builtin "breakpoint"), DictEntry.mk (PyData.keyHash P (Str.ofString "callable")) (Value.str (Str.ofString "callable") 14) (Value.builtin "callable"), DictEntry.mk (PyData.keyHash P (Str.ofString "chr")) (Value.str (Str.ofString "chr") 15) (Value.builtin "chr"), DictEntry.mk (PyData.keyHash P (Str.ofString "compile")) (Value.str (Str.ofString "compile") 16) (Value.builtin "compile"), DictEntry.mk (PyData.keyHash P (Str.ofString "delattr")) (Value.str (Str.ofString "delattr") 17) (Value.builtin "delattr"), DictEntry.mk (PyData.keyHash P (Str.ofString "dir")) (Value.str (Str.ofString "dir") 18) (Value.builtin "dir"), DictEntry.mk (PyData.keyHash P (Str.ofString "divmod")) (Value.str (Str.ofString "divmod") 19) (Value.builtin "divmod"), DictEntry.mk (PyData.keyHash P (Str.ofString "eval")) (Value.str (Str.ofString "eval") 20) (Value.builtin "eval"), DictEntry.mk (PyData.keyHash P (Str.ofString "exec")) (Value.str (Str.ofString "exec") 21) (Value.builtin "exec"), DictEntry.mk (PyData.keyHash P (Str.ofString "format")) (Value.str (Str.ofString "format") 22) (Value.builtin "format"), DictEntry.mk (PyData.keyHash P (Str.ofString "getattr")) (Value.str (Str.ofString "getattr") 23) (Value.builtin "getattr"), DictEntry.mk (PyData.keyHash P (Str.ofString "globals")) (Value.str (Str.ofString "globals") 24) (Value.builtin "globals"), DictEntry.mk (PyData.keyHash P (Str.ofString "hasattr")) (Value.str (Str.ofString "hasattr") 25) (Value.builtin "hasattr"), DictEntry.mk (PyData.keyHash P (Str.ofString "hash")) (Value.str (Str.ofString "hash") 26) (Value.builtin "hash"), DictEntry.mk (PyData.keyHash P (Str.ofString "hex")) (Value.str (Str.ofString "hex") 27) (Value.builtin "hex"), DictEntry.mk (PyData.keyHash P (Str.ofString "id")) (Value.str (Str.ofString "id") 28) (Value.builtin "id"), DictEntry.mk (PyData.keyHash P (Str.ofString "input")) (Value.str (Str.ofString "input") 29) (Value.builtin "input"), DictEntry.mk (PyData.keyHash P (Str.ofString "isinstance")) (Value.str (Str.ofString "isinstance") 30) (Value.builtin "isinstance"), DictEntry.mk (PyData.keyHash P (Str.ofString "issubclass")) (Value.str (Str.ofString "issubclass") 31) (Value.builtin "issubclass"), DictEntry.mk (PyData.keyHash P (Str.ofString "iter")) (Value.str (Str.ofString "iter") 32) (Value.builtin "iter"), DictEntry.mk (PyData.keyHash P (Str.ofString "aiter")) (Value.str (Str.ofString "aiter") 33) (Value.builtin "aiter"), DictEntry.mk (PyData.keyHash P (Str.ofString "len")) (Value.str (Str.ofString "len") 34) (Value.builtin "len"), DictEntry.mk (PyData.keyHash P (Str.ofString "locals")) (Value.str (Str.ofString "locals") 35) (Value.builtin "locals"), DictEntry.mk (PyData.keyHash P (Str.ofString "max")) (Value.str (Str.ofString "max") 36) (Value.builtin "max"), DictEntry.mk (PyData.keyHash P (Str.ofString "min")) (Value.str (Str.ofString "min") 37) (Value.builtin "min"), DictEntry.mk (PyData.keyHash P (Str.ofString "next")) (Value.str (Str.ofString "next") 38) (Value.builtin "next"), DictEntry.mk (PyData.keyHash P (Str.ofString "anext")) (Value.str (Str.ofString "anext") 39) (Value.builtin "anext"), DictEntry.mk (PyData.keyHash P (Str.ofString "oct")) (Value.str (Str.ofString "oct") 40) (Value.builtin "oct"), DictEntry.mk (PyData.keyHash P (Str.ofString "ord")) (Value.str (Str.ofString "ord") 41) (Value.builtin "ord"), DictEntry.mk (PyData.keyHash P (Str.ofString "pow")) (Value.str (Str.ofString "pow") 42) (Value.builtin "pow"), DictEntry.mk (PyData.keyHash P (Str.ofString "print")) (Value.str (Str.ofString "print") 43) (Value.builtin "print"), DictEntry.mk (PyData.keyHash P (Str.ofString "repr")) (Value.str (Str.ofString "repr") 44) (Value.builtin "repr"), DictEntry.mk (PyData.keyHash P (Str.ofString "round")) (Value.str (Str.ofString "round") 45) (Value.builtin "round"), DictEntry.mk (PyData.keyHash P (Str.ofString "setattr")) (Value.str (Str.ofString "setattr") 46) (Value.builtin "setattr"), DictEntry.mk (PyData.keyHash P (Str.ofString "sorted")) (Value.str (Str.ofString "sorted") 47) (Value.builtin "sorted"), DictEntry.mk (PyData.keyHash P (Str.ofString "sum")) (Value.str (Str.ofString "sum") 48) (Value.builtin "sum"), DictEntry.mk (PyData.keyHash P (Str.ofString "vars")) (Value.str (Str.ofString "vars") 49) (Value.builtin "vars"), DictEntry.mk (PyData.keyHash P (Str.ofString "None")) (Value.str (Str.ofString "None") 50) Value.none, DictEntry.mk (PyData.keyHash P (Str.ofString "Ellipsis")) (Value.str (Str.ofString "Ellipsis") 51) Value.ellipsis, DictEntry.mk (PyData.keyHash P (Str.ofString "NotImplemented")) (Value.str (Str.ofString "NotImplemented") 52) Value.notImplemented, DictEntry.mk (PyData.keyHash P (Str.ofString "False")) (Value.str (Str.ofString "False") 53) (Value.bool false), DictEntry.mk (PyData.keyHash P (Str.ofString "True")) (Value.str (Str.ofString "True") 54) (Value.bool true), DictEntry.mk (PyData.keyHash P (Str.ofString "bool")) (Value.str (Str.ofString "bool") 55) (Value.type "bool"), DictEntry.mk (PyData.keyHash P (Str.ofString "memoryview")) (Value.str (Str.ofString "memoryview") 56) (Value.type "memoryview"), DictEntry.mk (PyData.keyHash P (Str.ofString "bytearray")) (Value.str (Str.ofString "bytearray") 57) (Value.type "bytearray"), DictEntry.mk (PyData.keyHash P (Str.ofString "bytes")) (Value.str (Str.ofString "bytes") 58) (Value.type "bytes"), DictEntry.mk (PyData.keyHash P (Str.ofString "classmethod")) (Value.str (Str.ofString "classmethod") 59) (Value.type "classmethod"), DictEntry.mk (PyData.keyHash P (Str.ofString "complex")) (Value.str (Str.ofString "complex") 60) (Value.type "complex"), DictEntry.mk (PyData.keyHash P (Str.ofString "dict")) (Value.str (Str.ofString "dict") 61) (Value.type "dict"), DictEntry.mk (PyData.keyHash P (Str.ofString "enumerate")) (Value.str (Str.ofString "enumerate") 62) (Value.type "enumerate"), DictEntry.mk (PyData.keyHash P (Str.ofString "filter")) (Value.str (Str.ofString "filter") 63) (Value.type "filter"), DictEntry.mk (PyData.keyHash P (Str.ofString "float")) (Value.str (Str.ofString "float") 64) (Value.type "float"), DictEntry.mk (PyData.keyHash P (Str.ofString "frozenset")) (Value.str (Str.ofString "frozenset") 65) (Value.type "frozenset"), DictEntry.mk (PyData.keyHash P (Str.ofString "property")) (Value.str (Str.ofString "property") 66) (Value.type "property"), DictEntry.mk (PyData.keyHash P (Str.ofString "int")) (Value.str (Str.ofString "int") 67) (Value.type "int"), DictEntry.mk (PyData.keyHash P (Str.ofString "list")) (Value.str (Str.ofString "list") 68) (Value.type "list"), DictEntry.mk (PyData.keyHash P (Str.ofString "map")) (Value.str (Str.ofString "map") 69) (Value.type "map"), DictEntry.mk (PyData.keyHash P (Str.ofString "object")) (Value.str (Str.ofString "object") 70) (Value.type "object"), DictEntry.mk (PyData.keyHash P (Str.ofString "range")) (Value.str (Str.ofString "range") 71) (Value.type "range"), DictEntry.mk (PyData.keyHash P (Str.ofString "reversed")) (Value.str (Str.ofString "reversed") 72) (Value.type "reversed"), DictEntry.mk (PyData.keyHash P (Str.ofString "set")) (Value.str (Str.ofString "set") 73) (Value.type "set"), DictEntry.mk (PyData.keyHash P (Str.ofString "slice")) (Value.str (Str.ofString "slice") 74) (Value.type "slice"), DictEntry.mk (PyData.keyHash P (Str.ofString "staticmethod")) (Value.str (Str.ofString "staticmethod") 75) (Value.type "staticmethod"), DictEntry.mk (PyData.keyHash P (Str.ofString "str")) (Value.str (Str.ofString "str") 76) (Value.type "str"), DictEntry.mk (PyData.keyHash P (Str.ofString "super")) (Value.str (Str.ofString "super") 77) (Value.type "super"), DictEntry.mk (PyData.keyHash P (Str.ofString "tuple")) (Value.str (Str.ofString "tuple") 78) (Value.type "tuple"), DictEntry.mk (PyData.keyHash P (Str.ofString "type")) (Value.str (Str.ofString "type") 79) (Value.type "type"), DictEntry.mk (PyData.keyHash P (Str.ofString "zip")) (Value.str (Str.ofString "zip") 80) (Value.type "zip"), DictEntry.mk (PyData.keyHash P (Str.ofString "__debug__")) (Value.str (Str.ofString "__debug__") 81) (Value.bool true), DictEntry.mk (PyData.keyHash P (Str.ofString "BaseException")) (Value.str (Str.ofString "BaseException") 82) (Value.type "BaseException"), DictEntry.mk (PyData.keyHash P (Str.ofString "BaseExceptionGroup")) (Value.str (Str.ofString "BaseExceptionGroup") 83) (Value.type "BaseExceptionGroup"), DictEntry.mk (PyData.keyHash P (Str.ofString "Exception")) (Value.str (Str.ofString "Exception") 84) (Value.type "Exception"), DictEntry.mk (PyData.keyHash P (Str.ofString "GeneratorExit")) (Value.str (Str.ofString "GeneratorExit") 85) (Value.type "GeneratorExit"), DictEntry.mk (PyData.keyHash P (Str.ofString "KeyboardInterrupt")) (Value.str (Str.ofString "KeyboardInterrupt") 86) (Value.type "KeyboardInterrupt"), DictEntry.mk (PyData.keyHash P (Str.ofString "SystemExit")) (Value.str (Str.ofString "SystemExit") 87) (Value.type "SystemExit"), DictEntry.mk (PyData.keyHash P (Str.ofString "ArithmeticError")) (Value.str (Str.ofString "ArithmeticError") 88) (Value.type "ArithmeticError"), DictEntry.mk (PyData.keyHash P (Str.ofString "AssertionError")) (Value.str (Str.ofString "AssertionError") 89) (Value.type "AssertionError"), DictEntry.mk (PyData.keyHash P (Str.ofString "AttributeError")) (Value.str (Str.ofString "AttributeError") 90) (Value.type "AttributeError"), DictEntry.mk (PyData.keyHash P (Str.ofString "BufferError")) (Value.str (Str.ofString "BufferError") 91) (Value.type "BufferError"), DictEntry.mk (PyData.keyHash P (Str.ofString "EOFError")) (Value.str (Str.ofString "EOFError") 92) (Value.type "EOFError"), DictEntry.mk (PyData.keyHash P (Str.ofString "ImportError")) (Value.str (Str.ofString "ImportError") 93) (Value.type "ImportError"), DictEntry.mk (PyData.keyHash P (Str.ofString "LookupError")) (Value.str (Str.ofString "LookupError") 94) (Value.type "LookupError"), DictEntry.mk (PyData.keyHash P (Str.ofString "MemoryError")) (Value.str (Str.ofString "MemoryError") 95) (Value.type "MemoryError"), DictEntry.mk (PyData.keyHash P (Str.ofString "NameError")) (Value.str (Str.ofString "NameError") 96) (Value.type "NameError"), DictEntry.mk (PyData.keyHash P (Str.ofString "OSError")) (Value.str (Str.ofString "OSError") 97) (Value.type "OSError"), DictEntry.mk (PyData.keyHash P (Str.ofString "ReferenceError")) (Value.str (Str.ofString "ReferenceError") 98) (Value.type "ReferenceError"), DictEntry.mk (PyData.keyHash P (Str.ofString "RuntimeError")) (Value.str (Str.ofString "RuntimeError") 99) (Value.type "RuntimeError"), DictEntry.mk (PyData.keyHash P (Str.ofString "StopAsyncIteration")) (Value.str (Str.ofString "StopAsyncIteration") 100) (Value.type "StopAsyncIteration"), DictEntry.mk (PyData.keyHash P (Str.ofString "StopIteration")) (Value.str (Str.ofString "StopIteration") 101) (Value.type "StopIteration"), DictEntry.mk (PyData.keyHash P (Str.ofString "SyntaxError")) (Value.str (Str.ofString "SyntaxError") 102) (Value.type "SyntaxError"), DictEntry.mk (PyData.keyHash P (Str.ofString "SystemError")) (Value.str (Str.ofString "SystemError") 103) (Value.type "SystemError"), DictEntry.mk (PyData.keyHash P (Str.ofString "TypeError")) (Value.str (Str.ofString "TypeError") 104) (Value.type "TypeError"), DictEntry.mk (PyData.keyHash P (Str.ofString "ValueError")) (Value.str (Str.ofString "ValueError") 105) (Value.type "ValueError"), DictEntry.mk (PyData.keyHash P (Str.ofString "Warning")) (Value.str (Str.ofString "Warning") 106) (Value.type "Warning"), DictEntry.mk (PyData.keyHash P (Str.ofString "FloatingPointError")) (Value.str (Str.ofString "FloatingPointError") 107) (Value.type "FloatingPointError"), DictEntry.mk (PyData.keyHash P (Str.ofString "OverflowError")) (Value.str (Str.ofString "OverflowError") 108) (Value.type "OverflowError"), DictEntry.mk (PyData.keyHash P (Str.ofString "ZeroDivisionError")) (Value.str (Str.ofString "ZeroDivisionError") 109) (Value.type "ZeroDivisionError"), DictEntry.mk (PyData.keyHash P (Str.ofString "BytesWarning")) (Value.str (Str.ofString "BytesWarning") 110) (Value.type "BytesWarning"), DictEntry.mk (PyData.keyHash P (Str.ofString "DeprecationWarning")) (Value.str (Str.ofString "DeprecationWarning") 111) (Value.type "DeprecationWarning"), DictEntry.mk (PyData.keyHash P (Str.ofString "EncodingWarning")) (Value.str (Str.ofString "EncodingWarning") 112) (Value.type "EncodingWarning"), DictEntry.mk (PyData.keyHash P (Str.ofString "FutureWarning")) (Value.str (Str.ofString "FutureWarning") 113) (Value.type "FutureWarning"), DictEntry.mk (PyData.keyHash P (Str.ofString "ImportWarning")) (Value.str (Str.ofString "ImportWarning") 114) (Value.type "ImportWarning"), DictEntry.mk (PyData.keyHash P (Str.ofString "PendingDeprecationWarning")) (Value.str (Str.ofString "PendingDeprecationWarning") 115) (Value.type "PendingDeprecationWarning"), DictEntry.mk (PyData.keyHash P (Str.ofString "ResourceWarning")) (Value.str (Str.ofString "ResourceWarning") 116) (Value.type "ResourceWarning"), DictEntry.mk (PyData.keyHash P (Str.ofString "RuntimeWarning")) (Value.str (Str.ofString "RuntimeWarning") 117) (Value.type "RuntimeWarning"), DictEntry.mk (PyData.keyHash P (Str.ofString "SyntaxWarning")) (Value.str (Str.ofString "SyntaxWarning") 118) (Value.type "SyntaxWarning"), DictEntry.mk (PyData.keyHash P (Str.ofString "UnicodeWarning")) (Value.str (Str.ofString "UnicodeWarning") 119) (Value.type "UnicodeWarning"), DictEntry.mk (PyData.keyHash P (Str.ofString "UserWarning")) (Value.str (Str.ofString "UserWarning") 120) (Value.type "UserWarning"), DictEntry.mk (PyData.keyHash P (Str.ofString "BlockingIOError")) (Value.str (Str.ofString "BlockingIOError") 121) (Value.type "BlockingIOError"), DictEntry.mk (PyData.keyHash P (Str.ofString "ChildProcessError")) (Value.str (Str.ofString "ChildProcessError") 122) (Value.type "ChildProcessError"), DictEntry.mk (PyData.keyHash P (Str.ofString "ConnectionError")) (Value.str (Str.ofString "ConnectionError") 123) (Value.type "ConnectionError"), DictEntry.mk (PyData.keyHash P (Str.ofString "FileExistsError")) (Value.str (Str.ofString "FileExistsError") 124) (Value.type "FileExistsError"), DictEntry.mk (PyData.keyHash P (Str.ofString "FileNotFoundError")) (Value.str (Str.ofString "FileNotFoundError") 125) (Value.type "FileNotFoundError"), DictEntry.mk (PyData.keyHash P (Str.ofString "InterruptedError")) (Value.str (Str.ofString "InterruptedError") 126) (Value.type "InterruptedError"), DictEntry.mk (PyData.keyHash P (Str.ofString "IsADirectoryError")) (Value.str (Str.ofString "IsADirectoryError") 127) (Value.type "IsADirectoryError"), DictEntry.mk (PyData.keyHash P (Str.ofString "NotADirectoryError")) (Value.str (Str.ofString "NotADirectoryError") 128) (Value.type "NotADirectoryError"), DictEntry.mk (PyData.keyHash P (Str.ofString "PermissionError")) (Value.str (Str.ofString "PermissionError") 129) (Value.type "PermissionError"), DictEntry.mk (PyData.keyHash P (Str.ofString "ProcessLookupError")) (Value.str (Str.ofString "ProcessLookupError") 130) (Value.type "ProcessLookupError"), DictEntry.mk (PyData.keyHash P (Str.ofString "TimeoutError")) (Value.str (Str.ofString "TimeoutError") 131) (Value.type "TimeoutError"), DictEntry.mk (PyData.keyHash P (Str.ofString "IndentationError")) (Value.str (Str.ofString "IndentationError") 132) (Value.type "IndentationError"), DictEntry.mk (PyData.keyHash P (Str.ofString "_IncompleteInputError")) (Value.str (Str.ofString "_IncompleteInputError") 133) (Value.type "_IncompleteInputError"), DictEntry.mk (PyData.keyHash P (Str.ofString "IndexError")) (Value.str (Str.ofString "IndexError") 134) (Value.type "IndexError"), DictEntry.mk (PyData.keyHash P (Str.ofString "KeyError")) (Value.str (Str.ofString "KeyError") 135) (Value.type "KeyError"), DictEntry.mk (PyData.keyHash P (Str.ofString "ModuleNotFoundError")) (Value.str (Str.ofString "ModuleNotFoundError") 136) (Value.type "ModuleNotFoundError"), DictEntry.mk (PyData.keyHash P (Str.ofString "NotImplementedError")) (Value.str (Str.ofString "NotImplementedError") 137) (Value.type "NotImplementedError"), DictEntry.mk (PyData.keyHash P (Str.ofString "PythonFinalizationError")) (Value.str (Str.ofString "PythonFinalizationError") 138) (Value.type "PythonFinalizationError"), DictEntry.mk (PyData.keyHash P (Str.ofString "RecursionError")) (Value.str (Str.ofString "RecursionError") 139) (Value.type "RecursionError"), DictEntry.mk (PyData.keyHash P (Str.ofString "UnboundLocalError")) (Value.str (Str.ofString "UnboundLocalError") 140) (Value.type "UnboundLocalError"), DictEntry.mk (PyData.keyHash P (Str.ofString "UnicodeError")) (Value.str (Str.ofString "UnicodeError") 141) (Value.type "UnicodeError"), DictEntry.mk (PyData.keyHash P (Str.ofString "BrokenPipeError")) (Value.str (Str.ofString "BrokenPipeError") 142) (Value.type "BrokenPipeError"), DictEntry.mk (PyData.keyHash P (Str.ofString "ConnectionAbortedError")) (Value.str (Str.ofString "ConnectionAbortedError") 143) (Value.type "ConnectionAbortedError"), DictEntry.mk (PyData.keyHash P (Str.ofString "ConnectionRefusedError")) (Value.str (Str.ofString "ConnectionRefusedError") 144) (Value.type "ConnectionRefusedError"), DictEntry.mk (PyData.keyHash P (Str.ofString "ConnectionResetError")) (Value.str (Str.ofString "ConnectionResetError") 145) (Value.type "ConnectionResetError"), DictEntry.mk (PyData.keyHash P (Str.ofString "TabError")) (Value.str (Str.ofString "TabError") 146) (Value.type "TabError"), DictEntry.mk (PyData.keyHash P (Str.ofString "UnicodeDecodeError")) (Value.str (Str.ofString "UnicodeDecodeError") 147) (Value.type "UnicodeDecodeError"), DictEntry.mk (PyData.keyHash P (Str.ofString "UnicodeEncodeError")) (Value.str (Str.ofString "UnicodeEncodeError") 148) (Value.type "UnicodeEncodeError"), DictEntry.mk (PyData.keyHash P (Str.ofString "UnicodeTranslateError")) (Value.str (Str.ofString "UnicodeTranslateError") 149) (Value.type "UnicodeTranslateError"), DictEntry.mk (PyData.keyHash P (Str.ofString "ExceptionGroup")) (Value.str (Str.ofString "ExceptionGroup") 150) (Value.type "ExceptionGroup"), DictEntry.mk (PyData.keyHash P (Str.ofString "EnvironmentError")) (Value.str (Str.ofString "EnvironmentError") 151) (Value.type "OSError"), DictEntry.mk (PyData.keyHash P (Str.ofString "IOError")) (Value.str (Str.ofString "IOError") 152) (Value.type "OSError"), DictEntry.mk (PyData.keyHash P (Str.ofString "open")) (Value.str (Str.ofString "open") 153) (Value.builtin "open"), DictEntry.mk (PyData.keyHash P (Str.ofString "quit")) (Value.str (Str.ofString "quit") 154) (Value.builtin "builtins.quit#opaque"), DictEntry.mk (PyData.keyHash P (Str.ofString "exit")) (Value.str (Str.ofString "exit") 155) (Value.builtin "builtins.exit#opaque"), DictEntry.mk (PyData.keyHash P (Str.ofString "copyright")) (Value.str (Str.ofString "copyright") 156) (Value.builtin "builtins.copyright#opaque"), DictEntry.mk (PyData.keyHash P (Str.ofString "credits")) (Value.str (Str.ofString "credits") 157) (Value.builtin "builtins.credits#opaque"), DictEntry.mk (PyData.keyHash P (Str.ofString "license")) (Value.str (Str.ofString "license") 158) (Value.builtin "builtins.license#opaque"), DictEntry.mk (PyData.keyHash P (Str.ofString "help")) (Value.str (Str.ofString "help") 159) (Value.builtin "builtins.help#opaque")] 159) #[]
noncomputable def ob1 : Params → Obj := fun P => Obj.mk (Value.type "dict") none (Data.dict #[DictEntry.mk (PyData.keyHash P (Str.ofString "builtins")) (Value.str (Str.ofString "builtins") 162) (Value.ref 4), DictEntry.mk (PyData.keyHash P (Str.ofString "__main__")) (Value.str (Str.ofString "__main__") 163) (Value.ref 5), DictEntry.mk (PyData.keyHash P (Str.ofString "_sre")) (Value.str (Str.ofString "_sre") 244) (Value.ref 12)] 3) #[]
noncomputable def ob2 : Params → Obj := fun P => Obj.mk Value.none none (Data.dict #[DictEntry.mk (PyData.keyHash P (Str.ofString "\x69mport.loaded._sre")) (Value.str (Str.ofString "\x69mport.loaded._sre") 183) (Value.bool true), DictEntry.mk (PyData.keyHash P (Str.ofString "class._frozen_importlib.BuiltinImporter")) (Value.str (Str.ofString "class._frozen_importlib.BuiltinImporter") 185) (Value.ref 14), DictEntry.mk (PyData.keyHash P (Str.ofString "watched.\x69mport")) (Value.str (Str.ofString "watched.\x69mport") 206) (Value.ref 18), DictEntry.mk (PyData.keyHash P (Str.ofString "class._frozen_importlib.ModuleSpec")) (Value.str (Str.ofString "class._frozen_importlib.ModuleSpec") 216) (Value.ref 22), DictEntry.mk (PyData.keyHash P (Str.ofString "sys.modules.booked-epoch")) (Value.str (Str.ofString "sys.modules.booked-epoch") 245) (Value.int 3 0), DictEntry.mk (PyData.keyHash P (Str.ofString "\x69mport.later-laid._sre")) (Value.str (Str.ofString "\x69mport.later-laid._sre") 270) (Value.bool true), DictEntry.mk (PyData.keyHash P (Str.ofString "watched.library")) (Value.str (Str.ofString "watched.library") 272) (Value.ref 27), DictEntry.mk (PyData.keyHash P (Str.ofString "watched.library-objects")) (Value.str (Str.ofString "watched.library-objects") 0) (Value.str (Str.ofString "\x0c") 0), DictEntry.mk (PyData.keyHash P (Str.ofString "watched.library-deep._sre")) (Value.str (Str.ofString "watched.library-deep._sre") 273) (Value.str (Str.ofString "\x04\x00\x00\x0b\x04\x00\x00\x0b\x04\x00\x00\x03\x04\x00\x00\x0b\x08\x04dict\x02") 0)] 9) #[]
noncomputable def ob3 : Params → Obj := fun P => Obj.mk (Value.type "dict") none (Data.dict #[DictEntry.mk (PyData.keyHash P (Str.ofString "__name__")) (Value.str (Str.ofString "__name__") 165) (Value.str (Str.ofString "__main__") 164), DictEntry.mk (PyData.keyHash P (Str.ofString "__doc__")) (Value.str (Str.ofString "__doc__") 166) Value.none, DictEntry.mk (PyData.keyHash P (Str.ofString "__package__")) (Value.str (Str.ofString "__package__") 167) Value.none, DictEntry.mk (PyData.keyHash P (Str.ofString "__loader__")) (Value.str (Str.ofString "__loader__") 168) (Value.builtin "__main__.__loader__#opaque"), DictEntry.mk (PyData.keyHash P (Str.ofString "__spec__")) (Value.str (Str.ofString "__spec__") 169) Value.none, DictEntry.mk (PyData.keyHash P (Str.ofString "__annotations__")) (Value.str (Str.ofString "__annotations__") 170) (Value.ref 6), DictEntry.mk (PyData.keyHash P (Str.ofString "__builtins__")) (Value.str (Str.ofString "__builtins__") 171) (Value.ref 4), DictEntry.mk (PyData.keyHash P (Str.ofString "__file__")) (Value.str (Str.ofString "__file__") 173) (Value.str (Str.ofString "/claim/cut.py") 172), DictEntry.mk (PyData.keyHash P (Str.ofString "__cached__")) (Value.str (Str.ofString "__cached__") 174) Value.none, DictEntry.mk (PyData.keyHash P (Str.ofString "_sre")) (Value.str (Str.ofString "_sre") 275) (Value.ref 12)] 10) #[]
noncomputable def ob4 : Params → Obj := fun _ => Obj.mk (Value.type "module") (some 0) Data.plain #[]
noncomputable def ob5 : Params → Obj := fun _ => Obj.mk (Value.type "module") (some 3) Data.plain #[]
noncomputable def ob6 : Params → Obj := fun _ => Obj.mk (Value.type "dict") none (Data.dict #[]) #[]
noncomputable def ob7 : Params → Obj := fun _ => Obj.mk (Value.type "tuple") none (Data.seq #[]) #[]
noncomputable def ob8 : Params → Obj := fun _ => Obj.mk Value.none none (Data.fields #[]) #[]
noncomputable def ob9 : Params → Obj := fun _ => Obj.mk (Value.type "code") none (Data.fields #[Value.str (Str.ofString "<module>") 176, Value.str (Str.ofString "<module>") 177, Value.str (Str.ofString "/claim/cut.py") 178, Value.int 1 0, Value.int 0 0, Value.int 0 0, Value.int 0 0, Value.int 0 0, Value.ref 7, Value.bool false, Value.int 175 0, Value.ref 8, Value.none, Value.none, Value.none, Value.none, Value.int 179 0, Value.int 1 0, Value.str (Str.ofString "/claim/cut.py") 180]) #[]
noncomputable def ob10 : Params → Obj := fun _ => Obj.mk (Value.type "frame") none Data.plain #[some (Value.ref 9), some (Value.ref 3), some (Value.ref 3), none, some (Value.str (Str.ofString "__main__") 164), none, some (Value.ref 0)]
noncomputable def ob11 : Params → Obj := fun P => Obj.mk (Value.type "dict") none (Data.dict #[DictEntry.mk (PyData.keyHash P (Str.ofString "__name__")) (Value.str (Str.ofString "__name__") 247) (Value.str (Str.ofString "_sre") 246), DictEntry.mk (PyData.keyHash P (Str.ofString "__doc__")) (Value.str (Str.ofString "__doc__") 248) Value.none, DictEntry.mk (PyData.keyHash P (Str.ofString "__package__")) (Value.str (Str.ofString "__package__") 250) (Value.str (Str.ofString "") 249), DictEntry.mk (PyData.keyHash P (Str.ofString "__loader__")) (Value.str (Str.ofString "__loader__") 251) (Value.builtin "off-the-table:_sre.__loader__:shared#opaque"), DictEntry.mk (PyData.keyHash P (Str.ofString "__spec__")) (Value.str (Str.ofString "__spec__") 252) (Value.builtin "off-the-table:_sre.__spec__:shared#opaque"), DictEntry.mk (PyData.keyHash P (Str.ofString "compile")) (Value.str (Str.ofString "compile") 253) (Value.builtin "_sre.compile"), DictEntry.mk (PyData.keyHash P (Str.ofString "template")) (Value.str (Str.ofString "template") 254) (Value.builtin "off-the-table:_sre.template:shared#opaque"), DictEntry.mk (PyData.keyHash P (Str.ofString "getcodesize")) (Value.str (Str.ofString "getcodesize") 255) (Value.builtin "off-the-table:_sre.getcodesize:shared#opaque"), DictEntry.mk (PyData.keyHash P (Str.ofString "ascii_iscased")) (Value.str (Str.ofString "ascii_iscased") 256) (Value.builtin "off-the-table:_sre.ascii_iscased:shared#opaque"), DictEntry.mk (PyData.keyHash P (Str.ofString "unicode_iscased")) (Value.str (Str.ofString "unicode_iscased") 257) (Value.builtin "off-the-table:_sre.unicode_iscased:shared#opaque"), DictEntry.mk (PyData.keyHash P (Str.ofString "ascii_tolower")) (Value.str (Str.ofString "ascii_tolower") 258) (Value.builtin "off-the-table:_sre.ascii_tolower:shared#opaque"), DictEntry.mk (PyData.keyHash P (Str.ofString "unicode_tolower")) (Value.str (Str.ofString "unicode_tolower") 259) (Value.builtin "off-the-table:_sre.unicode_tolower:shared#opaque"), DictEntry.mk (PyData.keyHash P (Str.ofString "MAGIC")) (Value.str (Str.ofString "MAGIC") 261) (Value.int 20230612 260), DictEntry.mk (PyData.keyHash P (Str.ofString "CODESIZE")) (Value.str (Str.ofString "CODESIZE") 263) (Value.int 4 262), DictEntry.mk (PyData.keyHash P (Str.ofString "MAXREPEAT")) (Value.str (Str.ofString "MAXREPEAT") 265) (Value.int 4294967295 264), DictEntry.mk (PyData.keyHash P (Str.ofString "MAXGROUPS")) (Value.str (Str.ofString "MAXGROUPS") 267) (Value.int 1073741823 266), DictEntry.mk (PyData.keyHash P (Str.ofString "copyright")) (Value.str (Str.ofString "copyright") 269) (Value.str (Str.ofString " SRE 2.2.2 Copyright (c) 1997-2002 by Secret Labs AB ") 268)] 17) #[]
noncomputable def ob12 : Params → Obj := fun _ => Obj.mk (Value.type "module") (some 11) Data.plain #[]
noncomputable def ob13 : Params → Obj := fun P => Obj.mk (Value.type "dict") none (Data.dict #[DictEntry.mk (PyData.keyHash P (Str.ofString "__module__")) (Value.str (Str.ofString "__module__") 189) (Value.str (Str.ofString "_frozen_importlib") 186), DictEntry.mk (PyData.keyHash P (Str.ofString "__firstlineno__")) (Value.str (Str.ofString "__firstlineno__") 190) (Value.int 971 187), DictEntry.mk (PyData.keyHash P (Str.ofString "__doc__")) (Value.str (Str.ofString "__doc__") 191) (Value.builtin "_frozen_importlib.BuiltinImporter.__doc__:str#opaque"), DictEntry.mk (PyData.keyHash P (Str.ofString "_ORIGIN")) (Value.str (Str.ofString "_ORIGIN") 192) (Value.str (Str.ofString "built-in") 188), DictEntry.mk (PyData.keyHash P (Str.ofString "find_spec")) (Value.str (Str.ofString "find_spec") 193) (Value.builtin "_frozen_importlib.BuiltinImporter.find_spec#opaque"), DictEntry.mk (PyData.keyHash P (Str.ofString "create_module")) (Value.str (Str.ofString "create_module") 194) (Value.builtin "_frozen_importlib.BuiltinImporter.create_module#opaque"), DictEntry.mk (PyData.keyHash P (Str.ofString "exec_module")) (Value.str (Str.ofString "exec_module") 195) (Value.builtin "_frozen_importlib.BuiltinImporter.exec_module#opaque"), DictEntry.mk (PyData.keyHash P (Str.ofString "get_code")) (Value.str (Str.ofString "get_code") 196) (Value.builtin "_frozen_importlib.BuiltinImporter.get_code#opaque"), DictEntry.mk (PyData.keyHash P (Str.ofString "get_source")) (Value.str (Str.ofString "get_source") 197) (Value.builtin "_frozen_importlib.BuiltinImporter.get_source#opaque"), DictEntry.mk (PyData.keyHash P (Str.ofString "is_package")) (Value.str (Str.ofString "is_package") 198) (Value.builtin "_frozen_importlib.BuiltinImporter.is_package#opaque"), DictEntry.mk (PyData.keyHash P (Str.ofString "load_module")) (Value.str (Str.ofString "load_module") 199) (Value.builtin "_frozen_importlib.BuiltinImporter.load_module#opaque"), DictEntry.mk (PyData.keyHash P (Str.ofString "__static_attributes__")) (Value.str (Str.ofString "__static_attributes__") 200) (Value.ref 15), DictEntry.mk (PyData.keyHash P (Str.ofString "__dict__")) (Value.str (Str.ofString "__dict__") 202) (Value.ref 16), DictEntry.mk (PyData.keyHash P (Str.ofString "__weakref__")) (Value.str (Str.ofString "__weakref__") 204) (Value.ref 17)] 14) #[]
noncomputable def ob14 : Params → Obj := fun _ => Obj.mk (Value.type "type") none (Data.cls (ClassData.mk (Str.ofString "BuiltinImporter") [Value.type "object"] [Value.ref 14, Value.type "object"] 13 (Str.ofString "BuiltinImporter") true [] [] false none false)) #[]
noncomputable def ob15 : Params → Obj := fun _ => Obj.mk (Value.type "getset_descriptor") none (Data.fields #[Value.str (Str.ofString "__dict__") 201, Value.ref 14, Value.builtin "function.__dict__", Value.builtin "function.__dict__#set"]) #[]
noncomputable def ob16 : Params → Obj := fun _ => Obj.mk (Value.type "getset_descriptor") none (Data.fields #[Value.str (Str.ofString "__weakref__") 203, Value.ref 14, Value.builtin "ExceptionGroup.__weakref__", Value.none]) #[]
noncomputable def ob17 : Params → Obj := fun _ => Obj.mk Value.none none (Data.seq #[Value.int 13 0, Value.str (Str.mk #[6, 189, 10, 95, 95, 109, 111, 100, 117, 108, 101, 95, 95, 6, 186, 17, 95, 102, 114, 111, 122, 101, 110, 95, 105, 109, 112, 111, 114, 116, 108, 105, 98, 6, 190, 15, 95, 95, 102, 105, 114, 115, 116, 108, 105, 110, 101, 110, 111, 95, 95, 4, 187, 0, 971, 6, 191, 7, 95, 95, 100, 111, 99, 95, 95, 9, 52, 95, 102, 114, 111, 122, 101, 110, 95, 105, 109, 112, 111, 114, 116, 108, 105, 98, 46, 66, 117, 105, 108, 116, 105, 110, 73, 109, 112, 111, 114, 116, 101, 114, 46, 95, 95, 100, 111, 99, 95, 95, 58, 115, 116, 114, 35, 111, 112, 97, 113, 117, 101, 6, 192, 7, 95, 79, 82, 73, 71, 73, 78, 6, 188, 8, 98, 117, 105, 108, 116, 45, 105, 110, 6, 193, 9, 102, 105, 110, 100, 95, 115, 112, 101, 99, 9, 50, 95, 102, 114, 111, 122, 101, 110, 95, 105, 109, 112, 111, 114, 116, 108, 105, 98, 46, 66, 117, 105, 108, 116, 105, 110, 73, 109, 112, 111, 114, 116, 101, 114, 46, 102, 105, 110, 100, 95, 115, 112, 101, 99, 35, 111, 112, 97, 113, 117, 101, 6, 194, 13, 99, 114, 101, 97, 116, 101, 95, 109, 111, 100, 117, 108, 101, 9, 54, 95, 102, 114, 111, 122, 101, 110, 95, 105, 109, 112, 111, 114, 116, 108, 105, 98, 46, 66, 117, 105, 108, 116, 105, 110, 73, 109, 112, 111, 114, 116, 101, 114, 46, 99, 114, 101, 97, 116, 101, 95, 109, 111, 100, 117, 108, 101, 35, 111, 112, 97, 113, 117, 101, 6, 195, 11, 101, 120, 101, 99, 95, 109, 111, 100, 117, 108, 101, 9, 52, 95, 102, 114, 111, 122, 101, 110, 95, 105, 109, 112, 111, 114, 116, 108, 105, 98, 46, 66, 117, 105, 108, 116, 105, 110, 73, 109, 112, 111, 114, 116, 101, 114, 46, 101, 120, 101, 99, 95, 109, 111, 100, 117, 108, 101, 35, 111, 112, 97, 113, 117, 101, 6, 196, 8, 103, 101, 116, 95, 99, 111, 100, 101, 9, 49, 95, 102, 114, 111, 122, 101, 110, 95, 105, 109, 112, 111, 114, 116, 108, 105, 98, 46, 66, 117, 105, 108, 116, 105, 110, 73, 109, 112, 111, 114, 116, 101, 114, 46, 103, 101, 116, 95, 99, 111, 100, 101, 35, 111, 112, 97, 113, 117, 101, 6, 197, 10, 103, 101, 116, 95, 115, 111, 117, 114, 99, 101, 9, 51, 95, 102, 114, 111, 122, 101, 110, 95, 105, 109, 112, 111, 114, 116, 108, 105, 98, 46, 66, 117, 105, 108, 116, 105, 110, 73, 109, 112, 111, 114, 116, 101, 114, 46, 103, 101, 116, 95, 115, 111, 117, 114, 99, 101, 35, 111, 112, 97, 113, 117, 101, 6, 198, 10, 105, 115, 95, 112, 97, 99, 107, 97, 103, 101, 9, 51, 95, 102, 114, 111, 122, 101, 110, 95, 105, 109, 112, 111, 114, 116, 108, 105, 98, 46, 66, 117, 105, 108, 116, 105, 110, 73, 109, 112, 111, 114, 116, 101, 114, 46, 105, 115, 95, 112, 97, 99, 107, 97, 103, 101, 35, 111, 112, 97, 113, 117, 101, 6, 199, 11, 108, 111, 97, 100, 95, 109, 111, 100, 117, 108, 101, 9, 52, 95, 102, 114, 111, 122, 101, 110, 95, 105, 109, 112, 111, 114, 116, 108, 105, 98, 46, 66, 117, 105, 108, 116, 105, 110, 73, 109, 112, 111, 114, 116, 101, 114, 46, 108, 111, 97, 100, 95, 109, 111, 100, 117, 108, 101, 35, 111, 112, 97, 113, 117, 101, 6, 200, 21, 95, 95, 115, 116, 97, 116, 105, 99, 95, 97, 116, 116, 114, 105, 98, 117, 116, 101, 115, 95, 95, 4, 0, 0, 15, 6, 202, 8, 95, 95, 100, 105, 99, 116, 95, 95, 4, 0, 0, 16, 6, 204, 11, 95, 95, 119, 101, 97, 107, 114, 101, 102, 95, 95, 4, 0, 0, 17]) 0, Value.bool true, Value.bool true, Value.str (Str.ofString "") 205, Value.int 21 0, Value.str (Str.mk #[6, 227, 10, 95, 95, 109, 111, 100, 117, 108, 101, 95, 95, 6, 217, 17, 95, 102, 114, 111, 122, 101, 110, 95, 105, 109, 112, 111, 114, 116, 108, 105, 98, 6, 228, 15, 95, 95, 102, 105, 114, 115, 116, 108, 105, 110, 101, 110, 111, 95, 95, 4, 218, 0, 562, 6, 229, 7, 95, 95, 100, 111, 99, 95, 95, 9, 47, 95, 102, 114, 111, 122, 101, 110, 95, 105, 109, 112, 111, 114, 116, 108, 105, 98, 46, 77, 111, 100, 117, 108, 101, 83, 112, 101, 99, 46, 95, 95, 100, 111, 99, 95, 95, 58, 115, 116, 114, 35, 111, 112, 97, 113, 117, 101, 6, 230, 8, 95, 95, 105, 110, 105, 116, 95, 95, 9, 44, 95, 102, 114, 111, 122, 101, 110, 95, 105, 109, 112, 111, 114, 116, 108, 105, 98, 46, 77, 111, 100, 117, 108, 101, 83, 112, 101, 99, 46, 95, 95, 105, 110, 105, 116, 95, 95, 35, 111, 112, 97, 113, 117, 101, 6, 231, 8, 95, 95, 114, 101, 112, 114, 95, 95, 9, 44, 95, 102, 114, 111, 122, 101, 110, 95, 105, 109, 112, 111, 114, 116, 108, 105, 98, 46, 77, 111, 100, 117, 108, 101, 83, 112, 101, 99, 46, 95, 95, 114, 101, 112, 114, 95, 95, 35, 111, 112, 97, 113, 117, 101, 6, 232, 6, 95, 95, 101, 113, 95, 95, 9, 42, 95, 102, 114, 111, 122, 101, 110, 95, 105, 109, 112, 111, 114, 116, 108, 105, 98, 46, 77, 111, 100, 117, 108, 101, 83, 112, 101, 99, 46, 95, 95, 101, 113, 95, 95, 35, 111, 112, 97, 113, 117, 101, 6, 233, 6, 99, 97, 99, 104, 101, 100, 9, 42, 95, 102, 114, 111, 122, 101, 110, 95, 105, 109, 112, 111, 114, 116, 108, 105, 98, 46, 77, 111, 100, 117, 108, 101, 83, 112, 101, 99, 46, 99, 97, 99, 104, 101, 100, 35, 111, 112, 97, 113, 117, 101, 6, 234, 6, 112, 97, 114, 101, 110, 116, 9, 42, 95, 102, 114, 111, 122, 101, 110, 95, 105, 109, 112, 111, 114, 116, 108, 105, 98, 46, 77, 111, 100, 117, 108, 101, 83, 112, 101, 99, 46, 112, 97, 114, 101, 110, 116, 35, 111, 112, 97, 113, 117, 101, 6, 235, 12, 104, 97, 115, 95, 108, 111, 99, 97, 116, 105, 111, 110, 9, 48, 95, 102, 114, 111, 122, 101, 110, 95, 105, 109, 112, 111, 114, 116, 108, 105, 98, 46, 77, 111, 100, 117, 108, 101, 83, 112, 101, 99, 46, 104, 97, 115, 95, 108, 111, 99, 97, 116, 105, 111, 110, 35, 111, 112, 97, 113, 117, 101, 6, 236, 21, 95, 95, 115, 116, 97, 116, 105, 99, 95, 97, 116, 116, 114, 105, 98, 117, 116, 101, 115, 95, 95, 4, 0, 0, 23, 6, 238, 8, 95, 95, 100, 105, 99, 116, 95, 95, 4, 0, 0, 24, 6, 240, 11, 95, 95, 119, 101, 97, 107, 114, 101, 102, 95, 95, 4, 0, 0, 25, 6, 241, 8, 95, 95, 104, 97, 115, 104, 95, 95, 0]) 0, Value.bool true, Value.bool true, Value.str (Str.ofString "") 242] 1) #[]
noncomputable def ob18 : Params → Obj := fun _ => Obj.mk (Value.type "list") none (Data.seq #[]) #[]
noncomputable def ob19 : Params → Obj := fun P => Obj.mk (Value.type "dict") none (Data.dict #[DictEntry.mk (PyData.keyHash P (Str.ofString "name")) (Value.str (Str.ofString "name") 208) (Value.str (Str.ofString "_sre") 207), DictEntry.mk (PyData.keyHash P (Str.ofString "loader")) (Value.str (Str.ofString "loader") 209) (Value.ref 14), DictEntry.mk (PyData.keyHash P (Str.ofString "origin")) (Value.str (Str.ofString "origin") 210) (Value.str (Str.ofString "built-in") 184), DictEntry.mk (PyData.keyHash P (Str.ofString "loader_state")) (Value.str (Str.ofString "loader_state") 211) Value.none, DictEntry.mk (PyData.keyHash P (Str.ofString "submodule_search_locations")) (Value.str (Str.ofString "submodule_search_locations") 212) Value.none, DictEntry.mk (PyData.keyHash P (Str.ofString "_uninitialized_submodules")) (Value.str (Str.ofString "_uninitialized_submodules") 213) (Value.ref 19), DictEntry.mk (PyData.keyHash P (Str.ofString "_set_fileattr")) (Value.str (Str.ofString "_set_fileattr") 214) (Value.bool false), DictEntry.mk (PyData.keyHash P (Str.ofString "_cached")) (Value.str (Str.ofString "_cached") 215) Value.none, DictEntry.mk (PyData.keyHash P (Str.ofString "_initializing")) (Value.str (Str.ofString "_initializing") 243) (Value.bool false)] 9) #[]
noncomputable def ob20 : Params → Obj := fun P => Obj.mk (Value.type "dict") none (Data.dict #[DictEntry.mk (PyData.keyHash P (Str.ofString "__module__")) (Value.str (Str.ofString "__module__") 227) (Value.str (Str.ofString "_frozen_importlib") 217), DictEntry.mk (PyData.keyHash P (Str.ofString "__firstlineno__")) (Value.str (Str.ofString "__firstlineno__") 228) (Value.int 562 218), DictEntry.mk (PyData.keyHash P (Str.ofString "__doc__")) (Value.str (Str.ofString "__doc__") 229) (Value.builtin "_frozen_importlib.ModuleSpec.__doc__:str#opaque"), DictEntry.mk (PyData.keyHash P (Str.ofString "__init__")) (Value.str (Str.ofString "__init__") 230) (Value.builtin "_frozen_importlib.ModuleSpec.__init__#opaque"), DictEntry.mk (PyData.keyHash P (Str.ofString "__repr__")) (Value.str (Str.ofString "__repr__") 231) (Value.builtin "_frozen_importlib.ModuleSpec.__repr__#opaque"), DictEntry.mk (PyData.keyHash P (Str.ofString "__eq__")) (Value.str (Str.ofString "__eq__") 232) (Value.builtin "_frozen_importlib.ModuleSpec.__eq__#opaque"), DictEntry.mk (PyData.keyHash P (Str.ofString "cached")) (Value.str (Str.ofString "cached") 233) (Value.builtin "_frozen_importlib.ModuleSpec.cached#opaque"), DictEntry.mk (PyData.keyHash P (Str.ofString "parent")) (Value.str (Str.ofString "parent") 234) (Value.builtin "_frozen_importlib.ModuleSpec.parent#opaque"), DictEntry.mk (PyData.keyHash P (Str.ofString "has_location")) (Value.str (Str.ofString "has_location") 235) (Value.builtin "_frozen_importlib.ModuleSpec.has_location#opaque"), DictEntry.mk (PyData.keyHash P (Str.ofString "__static_attributes__")) (Value.str (Str.ofString "__static_attributes__") 236) (Value.ref 23), DictEntry.mk (PyData.keyHash P (Str.ofString "__dict__")) (Value.str (Str.ofString "__dict__") 238) (Value.ref 24), DictEntry.mk (PyData.keyHash P (Str.ofString "__weakref__")) (Value.str (Str.ofString "__weakref__") 240) (Value.ref 25), DictEntry.mk (PyData.keyHash P (Str.ofString "__hash__")) (Value.str (Str.ofString "__hash__") 241) Value.none] 13) #[]
noncomputable def ob21 : Params → Obj := fun _ => Obj.mk (Value.type "type") none (Data.cls (ClassData.mk (Str.ofString "ModuleSpec") [Value.type "object"] [Value.ref 22, Value.type "object"] 21 (Str.ofString "ModuleSpec") true [] [] false none false)) #[]
noncomputable def ob22 : Params → Obj := fun _ => Obj.mk (Value.type "tuple") none (Data.seq #[Value.str (Str.ofString "_cached") 219, Value.str (Str.ofString "_set_fileattr") 220, Value.str (Str.ofString "_uninitialized_submodules") 221, Value.str (Str.ofString "loader") 222, Value.str (Str.ofString "loader_state") 223, Value.str (Str.ofString "name") 224, Value.str (Str.ofString "origin") 225, Value.str (Str.ofString "submodule_search_locations") 226]) #[]
noncomputable def ob23 : Params → Obj := fun _ => Obj.mk (Value.type "getset_descriptor") none (Data.fields #[Value.str (Str.ofString "__dict__") 237, Value.ref 22, Value.builtin "function.__dict__", Value.builtin "function.__dict__#set"]) #[]
noncomputable def ob24 : Params → Obj := fun _ => Obj.mk (Value.type "getset_descriptor") none (Data.fields #[Value.str (Str.ofString "__weakref__") 239, Value.ref 22, Value.builtin "ExceptionGroup.__weakref__", Value.none]) #[]
noncomputable def ob25 : Params → Obj := fun _ => Obj.mk (Value.ref 22) (some 20) Data.plain #[]
noncomputable def ob26 : Params → Obj := fun _ => Obj.mk Value.none none (Data.seq #[Value.int 11 0, Value.str (Str.mk #[6, 247, 8, 95, 95, 110, 97, 109, 101, 95, 95, 6, 246, 4, 95, 115, 114, 101, 6, 248, 7, 95, 95, 100, 111, 99, 95, 95, 0, 6, 250, 11, 95, 95, 112, 97, 99, 107, 97, 103, 101, 95, 95, 6, 249, 0, 6, 251, 10, 95, 95, 108, 111, 97, 100, 101, 114, 95, 95, 4, 0, 0, 14, 6, 252, 8, 95, 95, 115, 112, 101, 99, 95, 95, 4, 0, 0, 26, 6, 253, 7, 99, 111, 109, 112, 105, 108, 101, 9, 12, 95, 115, 114, 101, 46, 99, 111, 109, 112, 105, 108, 101, 6, 254, 8, 116, 101, 109, 112, 108, 97, 116, 101, 9, 13, 95, 115, 114, 101, 46, 116, 101, 109, 112, 108, 97, 116, 101, 6, 255, 11, 103, 101, 116, 99, 111, 100, 101, 115, 105, 122, 101, 9, 16, 95, 115, 114, 101, 46, 103, 101, 116, 99, 111, 100, 101, 115, 105, 122, 101, 6, 256, 13, 97, 115, 99, 105, 105, 95, 105, 115, 99, 97, 115, 101, 100, 9, 18, 95, 115, 114, 101, 46, 97, 115, 99, 105, 105, 95, 105, 115, 99, 97, 115, 101, 100, 6, 257, 15, 117, 110, 105, 99, 111, 100, 101, 95, 105, 115, 99, 97, 115, 101, 100, 9, 20, 95, 115, 114, 101, 46, 117, 110, 105, 99, 111, 100, 101, 95, 105, 115, 99, 97, 115, 101, 100, 6, 258, 13, 97, 115, 99, 105, 105, 95, 116, 111, 108, 111, 119, 101, 114, 9, 18, 95, 115, 114, 101, 46, 97, 115, 99, 105, 105, 95, 116, 111, 108, 111, 119, 101, 114, 6, 259, 15, 117, 110, 105, 99, 111, 100, 101, 95, 116, 111, 108, 111, 119, 101, 114, 9, 20, 95, 115, 114, 101, 46, 117, 110, 105, 99, 111, 100, 101, 95, 116, 111, 108, 111, 119, 101, 114, 6, 261, 5, 77, 65, 71, 73, 67, 4, 260, 0, 20230612, 6, 263, 8, 67, 79, 68, 69, 83, 73, 90, 69, 4, 262, 0, 4, 6, 265, 9, 77, 65, 88, 82, 69, 80, 69, 65, 84, 4, 264, 0, 4294967295, 6, 267, 9, 77, 65, 88, 71, 82, 79, 85, 80, 83, 4, 266, 0, 1073741823, 6, 269, 9, 99, 111, 112, 121, 114, 105, 103, 104, 116, 6, 268, 53, 32, 83, 82, 69, 32, 50, 46, 50, 46, 50, 32, 67, 111, 112, 121, 114, 105, 103, 104, 116, 32, 40, 99, 41, 32, 49, 57, 57, 55, 45, 50, 48, 48, 50, 32, 98, 121, 32, 83, 101, 99, 114, 101, 116, 32, 76, 97, 98, 115, 32, 65, 66, 32]) 0, Value.bool true, Value.bool false, Value.str (Str.ofString "_sre") 271]) #[]
noncomputable def ob27 : Params → Obj := fun _ => Obj.mk (Value.type "code") none (Data.fields #[Value.str (Str.ofString "<module>") 277, Value.str (Str.ofString "<module>") 278, Value.str (Str.ofString "/claim/cut.py") 279, Value.int 1 0, Value.int 0 0, Value.int 0 0, Value.int 0 0, Value.int 0 0, Value.ref 28, Value.bool false, Value.int 276 0, Value.ref 29, Value.none, Value.none, Value.none, Value.none, Value.int 280 0, Value.int 1 0, Value.str (Str.ofString "/claim/cut.py") 281]) #[]
noncomputable def ob28 : Params → Obj := fun _ => Obj.mk (Value.type "frame") none Data.plain #[some (Value.ref 30), some (Value.ref 3), some (Value.ref 3), none, some (Value.str (Str.ofString "__main__") 164), none, some (Value.ref 0)]
noncomputable def ob29 : Params → Obj := fun P => Obj.mk (Value.type "dict") none (Data.dict #[DictEntry.mk (PyData.keyHash P (Str.ofString "__name__")) (Value.str (Str.ofString "__name__") 165) (Value.str (Str.ofString "re") 331), DictEntry.mk (PyData.keyHash P (Str.ofString "__doc__")) (Value.str (Str.ofString "__doc__") 166) Value.none, DictEntry.mk (PyData.keyHash P (Str.ofString "__package__")) (Value.str (Str.ofString "__package__") 167) Value.none, DictEntry.mk (PyData.keyHash P (Str.ofString "__loader__")) (Value.str (Str.ofString "__loader__") 168) (Value.builtin "__main__.__loader__#opaque"), DictEntry.mk (PyData.keyHash P (Str.ofString "__spec__")) (Value.str (Str.ofString "__spec__") 169) Value.none, DictEntry.mk (PyData.keyHash P (Str.ofString "__annotations__")) (Value.str (Str.ofString "__annotations__") 170) (Value.ref 6), DictEntry.mk (PyData.keyHash P (Str.ofString "__builtins__")) (Value.str (Str.ofString "__builtins__") 171) (Value.ref 4), DictEntry.mk (PyData.keyHash P (Str.ofString "__file__")) (Value.str (Str.ofString "__file__") 173) (Value.str (Str.ofString "/claim/cut.py") 172), DictEntry.mk (PyData.keyHash P (Str.ofString "__cached__")) (Value.str (Str.ofString "__cached__") 174) Value.none, DictEntry.mk (PyData.keyHash P (Str.ofString "_sre")) (Value.str (Str.ofString "_sre") 275) (Value.ref 12), DictEntry.mk (PyData.keyHash P (Str.ofString "_twin_re_1")) (Value.str (Str.ofString "_twin_re_1") 321) (Value.ref 36), DictEntry.mk (PyData.keyHash P (Str.ofString "translate")) (Value.str (Str.ofString "translate") 330) (Value.ref 43)] 12) #[]
noncomputable def ob30 : Params → Obj := fun _ => Obj.mk Value.none none (Data.fields #[Value.int 4 0, Value.int 0 0, Value.ref 42]) #[]
noncomputable def ob31 : Params → Obj := fun _ => Obj.mk (Value.type "list") none (Data.seq #[Value.int 14 287, Value.int 14 288, Value.int 4 289, Value.int 1 290, Value.int 1 291, Value.int 9 292, Value.int 0 293, Value.int 64 294, Value.int 0 295, Value.int 1342177280 296, Value.int 0 297, Value.int 0 298, Value.int 0 299, Value.int 0 300, Value.int 0 301, Value.int 17 302, Value.int 0 303, Value.int 13 304, Value.int 11 305, Value.int 9 306, Value.int 0 307, Value.int 64 308, Value.int 0 309, Value.int 1342177280 310, Value.int 0 311, Value.int 0 312, Value.int 0 313, Value.int 0 314, Value.int 0 315, Value.int 17 316, Value.int 1 317, Value.int 1 318]) #[]
noncomputable def ob32 : Params → Obj := fun _ => Obj.mk (Value.type "tuple") none (Data.seq #[Value.none, Value.none]) #[]
noncomputable def ob33 : Params → Obj := fun _ => Obj.mk (Value.type "tuple") none (Data.seq #[Value.int 14 0, Value.int 14 0, Value.int 4 0, Value.int 1 0, Value.int 1 0, Value.int 9 0, Value.int 0 0, Value.int 64 0, Value.int 0 0, Value.int 1342177280 0, Value.int 0 0, Value.int 0 0, Value.int 0 0, Value.int 0 0, Value.int 0 0, Value.int 17 0, Value.int 0 0, Value.int 13 0, Value.int 11 0, Value.int 9 0, Value.int 0 0, Value.int 64 0, Value.int 0 0, Value.int 1342177280 0, Value.int 0 0, Value.int 0 0, Value.int 0 0, Value.int 0 0, Value.int 0 0, Value.int 17 0, Value.int 1 0, Value.int 1 0]) #[]
noncomputable def ob34 : Params → Obj := fun _ => Obj.mk (Value.type "re.Pattern") none (Data.fields #[Value.str (Str.ofString "([&~|])") 285, Value.int 32 320, Value.int 1 0, Value.none, Value.none, Value.ref 35, Value.int 0 0]) #[]
noncomputable def ob35 : Params → Obj := fun _ => Obj.mk (Value.type "tuple") none (Data.seq #[Value.str (Str.ofString "pat") 325, Value.str (Str.ofString "STAR") 326, Value.str (Str.ofString "parts") 327]) #[]
noncomputable def ob36 : Params → Obj := fun _ => fz Value.none 3 fun n a b c => FuncData.mk n n a b c 0 [] Value.none Value.none Value.none Value.none none Value.none Value.none 0
noncomputable def ob37 : Params → Obj := fun _ => Obj.mk (Value.type "code") none (Data.fields #[Value.str (Str.ofString "translate") 322, Value.str (Str.ofString "translate") 323, Value.str (Str.ofString "/claim/cut.py") 324, Value.int 4 0, Value.int 1 0, Value.int 0 0, Value.int 0 0, Value.int 3 0, Value.ref 37, Value.bool true, Value.int 276 0, Value.ref 38, Value.none, Value.ref 39, Value.ref 40, Value.ref 41, Value.int 328 0, Value.int 4 0, Value.str (Str.ofString "/claim/cut.py") 329]) #[]
noncomputable def ob38 : Params → Obj := fun _ => fz (Value.type "function") 3 fun n a b c => FuncData.mk n n a b c 3 [] Value.none Value.none Value.none (Value.str (Str.ofString "cpy313.fnmatch") 282) none (Value.ref 42) Value.none 0
noncomputable def ob39 : Params → Obj := fun P => Obj.mk (Value.type "dict") none (Data.dict #[DictEntry.mk (PyData.keyHash P (Str.ofString "__name__")) (Value.str (Str.ofString "__name__") 165) (Value.str (Str.ofString "re") 331), DictEntry.mk (PyData.keyHash P (Str.ofString "__doc__")) (Value.str (Str.ofString "__doc__") 166) Value.none, DictEntry.mk (PyData.keyHash P (Str.ofString "__package__")) (Value.str (Str.ofString "__package__") 167) Value.none, DictEntry.mk (PyData.keyHash P (Str.ofString "__loader__")) (Value.str (Str.ofString "__loader__") 168) (Value.builtin "__main__.__loader__#opaque"), DictEntry.mk (PyData.keyHash P (Str.ofString "__spec__")) (Value.str (Str.ofString "__spec__") 169) Value.none, DictEntry.mk (PyData.keyHash P (Str.ofString "__annotations__")) (Value.str (Str.ofString "__annotations__") 170) (Value.ref 6), DictEntry.mk (PyData.keyHash P (Str.ofString "__builtins__")) (Value.str (Str.ofString "__builtins__") 171) (Value.ref 4), DictEntry.mk (PyData.keyHash P (Str.ofString "__file__")) (Value.str (Str.ofString "__file__") 173) (Value.str (Str.ofString "/claim/cut.py") 172), DictEntry.mk (PyData.keyHash P (Str.ofString "__cached__")) (Value.str (Str.ofString "__cached__") 174) Value.none, DictEntry.mk (PyData.keyHash P (Str.ofString "_sre")) (Value.str (Str.ofString "_sre") 275) (Value.ref 12), DictEntry.mk (PyData.keyHash P (Str.ofString "_twin_re_1")) (Value.str (Str.ofString "_twin_re_1") 321) (Value.ref 36), DictEntry.mk (PyData.keyHash P (Str.ofString "translate")) (Value.str (Str.ofString "translate") 330) (Value.ref 43), DictEntry.mk (PyData.keyHash P (Str.ofString "_special_chars_map")) (Value.str (Str.ofString "_special_chars_map") 478) (Value.ref 45)] 13) #[]
noncomputable def ob40 : Params → Obj := fun _ => Obj.mk (Value.type "bytes_iterator") none (Data.fields #[Value.none, Value.int 24 0]) #[]
noncomputable def ob41 : Params → Obj := fun _ => Obj.mk (Value.type "dict") none (Data.dict #[DictEntry.mk 40 (Value.int 40 334) (Value.str (Str.ofString "\\(") 338), DictEntry.mk 41 (Value.int 41 340) (Value.str (Str.ofString "\\)") 344), DictEntry.mk 91 (Value.int 91 346) (Value.str (Str.ofString "\\[") 350), DictEntry.mk 93 (Value.int 93 352) (Value.str (Str.ofString "\\]") 356), DictEntry.mk 123 (Value.int 123 358) (Value.str (Str.ofString "\\{") 362), DictEntry.mk 125 (Value.int 125 364) (Value.str (Str.ofString "\\}") 368), DictEntry.mk 63 (Value.int 63 370) (Value.str (Str.ofString "\\?") 374), DictEntry.mk 42 (Value.int 42 376) (Value.str (Str.ofString "\\*") 380), DictEntry.mk 43 (Value.int 43 382) (Value.str (Str.ofString "\\+") 386), DictEntry.mk 45 (Value.int 45 388) (Value.str (Str.ofString "\\-") 392), DictEntry.mk 124 (Value.int 124 394) (Value.str (Str.ofString "\\|") 398), DictEntry.mk 94 (Value.int 94 400) (Value.str (Str.ofString "\\^") 404), DictEntry.mk 36 (Value.int 36 406) (Value.str (Str.ofString "\\$") 410), DictEntry.mk 92 (Value.int 92 412) (Value.str (Str.ofString "\\\\") 416), DictEntry.mk 46 (Value.int 46 418) (Value.str (Str.ofString "\\.") 422), DictEntry.mk 38 (Value.int 38 424) (Value.str (Str.ofString "\\&") 428), DictEntry.mk 126 (Value.int 126 430) (Value.str (Str.ofString "\\~") 434), DictEntry.mk 35 (Value.int 35 436) (Value.str (Str.ofString "\\#") 440), DictEntry.mk 32 (Value.int 32 442) (Value.str (Str.ofString "\\ ") 446), DictEntry.mk 9 (Value.int 9 448) (Value.str (Str.ofString "\\\t") 452), DictEntry.mk 10 (Value.int 10 454) (Value.str (Str.ofString "\\\n") 458), DictEntry.mk 13 (Value.int 13 460) (Value.str (Str.ofString "\\\x0d") 464), DictEntry.mk 11 (Value.int 11 466) (Value.str (Str.ofString "\\\x0b") 470), DictEntry.mk 12 (Value.int 12 472) (Value.str (Str.ofString "\\\x0c") 476)] 24) #[]
noncomputable def ob42 : Params → Obj := fun _ => Obj.mk (Value.type "dict") none (Data.dict #[] 2) #[]
noncomputable def ob43 : Params → Obj := fun _ => Obj.mk (Value.type "StopIteration") none (Data.fields #[Value.ref 47, Value.none, Value.none, Value.none, Value.bool false, Value.none]) #[]
noncomputable def ob44 : Params → Obj := fun P => Obj.mk (Value.type "dict") none (Data.dict #[DictEntry.mk (PyData.keyHash P (Str.ofString "__name__")) (Value.str (Str.ofString "__name__") 247) (Value.str (Str.ofString "_sre") 246), DictEntry.mk (PyData.keyHash P (Str.ofString "__doc__")) (Value.str (Str.ofString "__doc__") 248) Value.none, DictEntry.mk (PyData.keyHash P (Str.ofString "__package__")) (Value.str (Str.ofString "__package__") 250) (Value.str (Str.ofString "") 249), DictEntry.mk (PyData.keyHash P (Str.ofString "__loader__")) (Value.str (Str.ofString "__loader__") 251) (Value.ref 14), DictEntry.mk (PyData.keyHash P (Str.ofString "__spec__")) (Value.str (Str.ofString "__spec__") 252) (Value.ref 26), DictEntry.mk (PyData.keyHash P (Str.ofString "compile")) (Value.str (Str.ofString "compile") 253) (Value.builtin "_sre.compile"), DictEntry.mk (PyData.keyHash P (Str.ofString "template")) (Value.str (Str.ofString "template") 254) (Value.builtin "_sre.template"), DictEntry.mk (PyData.keyHash P (Str.ofString "getcodesize")) (Value.str (Str.ofString "getcodesize") 255) (Value.builtin "_sre.getcodesize"), DictEntry.mk (PyData.keyHash P (Str.ofString "ascii_iscased")) (Value.str (Str.ofString "ascii_iscased") 256) (Value.builtin "_sre.ascii_iscased"), DictEntry.mk (PyData.keyHash P (Str.ofString "unicode_iscased")) (Value.str (Str.ofString "unicode_iscased") 257) (Value.builtin "_sre.unicode_iscased"), DictEntry.mk (PyData.keyHash P (Str.ofString "ascii_tolower")) (Value.str (Str.ofString "ascii_tolower") 258) (Value.builtin "_sre.ascii_tolower"), DictEntry.mk (PyData.keyHash P (Str.ofString "unicode_tolower")) (Value.str (Str.ofString "unicode_tolower") 259) (Value.builtin "_sre.unicode_tolower"), DictEntry.mk (PyData.keyHash P (Str.ofString "MAGIC")) (Value.str (Str.ofString "MAGIC") 261) (Value.int 20230612 260), DictEntry.mk (PyData.keyHash P (Str.ofString "CODESIZE")) (Value.str (Str.ofString "CODESIZE") 263) (Value.int 4 262), DictEntry.mk (PyData.keyHash P (Str.ofString "MAXREPEAT")) (Value.str (Str.ofString "MAXREPEAT") 265) (Value.int 4294967295 264), DictEntry.mk (PyData.keyHash P (Str.ofString "MAXGROUPS")) (Value.str (Str.ofString "MAXGROUPS") 267) (Value.int 1073741823 266), DictEntry.mk (PyData.keyHash P (Str.ofString "copyright")) (Value.str (Str.ofString "copyright") 269) (Value.str (Str.ofString " SRE 2.2.2 Copyright (c) 1997-2002 by Secret Labs AB ") 268)] 17) #[]
noncomputable def hs : Params → Heap := fun P => Heap.mk #[ob0 P, ob1 P, ob2 P, ob3 P, ob4 P, ob5 P, ob6 P, ob7 P, ob8 P, ob9 P, ob10 P, ob11 P, ob12 P, ob13 P, ob14 P, ob7 P, ob15 P, ob16 P, ob17 P, ob18 P, ob19 P, ob20 P, ob21 P, ob22 P, ob23 P, ob24 P, ob25 P, ob26 P] lifeK
noncomputable def hp : Params → Heap := fun P => Heap.mk #[ob0 P, ob1 P, ob2 P, ob3 P, ob4 P, ob5 P, ob6 P, ob7 P, ob8 P, ob9 P, ob10 P, ob11 P, ob12 P, ob13 P, ob14 P, ob7 P, ob15 P, ob16 P, ob17 P, ob18 P, ob19 P, ob20 P, ob21 P, ob22 P, ob23 P, ob24 P, ob25 P, ob26 P, ob7 P, ob8 P, ob27 P, ob28 P] lifeK
noncomputable def ha : Params → Heap := fun P => Heap.mk #[ob0 P, ob1 P, ob2 P, ob29 P, ob4 P, ob5 P, ob6 P, ob7 P, ob8 P, ob9 P, ob10 P, ob11 P, ob12 P, ob13 P, ob14 P, ob7 P, ob15 P, ob16 P, ob17 P, ob18 P, ob19 P, ob20 P, ob21 P, ob22 P, ob23 P, ob24 P, ob25 P, ob26 P, ob7 P, ob30 P, ob27 P, ob28 P, ob31 P, ob6 P, ob32 P, ob33 P, ob34 P, ob7 P, ob8 P, ob35 P, ob7 P, ob36 P, ob37 P, ob38 P] lifeK
noncomputable def hb : Params → Heap := fun P => Heap.mk #[ob0 P, ob1 P, ob2 P, ob39 P, ob4 P, ob5 P, ob6 P, ob7 P, ob8 P, ob9 P, ob10 P, ob11 P, ob12 P, ob13 P, ob14 P, ob7 P, ob15 P, ob16 P, ob17 P, ob18 P, ob19 P, ob20 P, ob21 P, ob22 P, ob23 P, ob24 P, ob25 P, ob26 P, ob7 P, ob30 P, ob27 P, ob28 P, ob31 P, ob6 P, ob32 P, ob33 P, ob34 P, ob7 P, ob8 P, ob35 P, ob7 P, ob36 P, ob37 P, ob38 P, ob40 P, ob41 P, ob42 P, ob7 P, ob43 P] lifeK
noncomputable def he : Params → Heap := fun P => Heap.mk #[ob0 P, ob1 P, ob2 P, ob3 P, ob4 P, ob5 P, ob6 P, ob7 P, ob8 P, ob9 P, ob10 P, ob44 P, ob12 P, ob13 P, ob14 P, ob7 P, ob15 P, ob16 P, ob17 P, ob18 P, ob19 P, ob20 P, ob21 P, ob22 P, ob23 P, ob24 P, ob25 P, ob26 P] lifeK
abbrev bd : List Stmt := behindTheImports pg
abbrev b1 : List Stmt := bd.take 4
abbrev b2 : List Stmt := (bd.drop 4).take 1
abbrev b3 : List Stmt := (bd.drop 4).drop 1
theorem parts_of : bd = b1 ++ (b2 ++ b3) := by rw [List.take_append_drop, List.take_append_drop]
abbrev en : Env := { scope := pg.main.scope, locals := mainNs, globals := mainNs, cells := [], code := Value.ref 30, frame := some 31 }
abbrev fp : Pos := Pos.mk 0 0 0 0
abbrev pa : Pos := Pos.mk 0 0 0 0
abbrev pb : Pos := Pos.mk 8 0 8 8
abbrev pc : Pos := Pos.mk 9 0 9 18
abbrev an : Option Value := some (Value.ref 6)
abbrev cb : Code := .body bd en
noncomputable abbrev st (H : Params → Heap) (k : Nat) (w : World) (os : OsState) : Shared := ⟨H w.params, #[], Drawn.mk 0 0 0 0, k, os⟩
theorem cut_imp : ∀ w : World, importEnds treeTable (opening pg) w 799 (start (opening pg)).1 (start (opening pg)).2 = some ⟨he w.params, #[], Drawn.mk 0 0 0 0, 276, (start (opening pg)).1.os⟩ := fun w => by kernel_rfl
theorem cut_fence : ∀ w : World, (fun os => (fenceModules? pg ⟨he w.params, #[], Drawn.mk 0 0 0 0, 276, os⟩).map (fun s => (s.heap, s.gens, s.drawn, s.toks))) = fun _ => some (hs w.params, #[], Drawn.mk 0 0 0 0, 276) := fun w => by kernel_rfl
theorem cut_open : ∀ w : World, (fencedOpening treeTable pg w 4096).map (fun s => (s.heap, s.gens, s.drawn, s.toks)) = some (hs w.params, #[], Drawn.mk 0 0 0 0, 276) := open_cut cut_imp (by decide) cut_fence
theorem cut_size : ∀ w : World, ((hs w.params).isNs mainGlobals && (#[] : Array GenState).size == 0, (hs w.params).objs.size, (hs w.params).nsMap mainGlobals "__annotations__") = (true, 28, an) := fun w => by kernel_rfl
theorem cut_pre : ∀ (w : World) (os : OsState), topGo treeTable pg w 28 an 12 (st hs 276 w os) (topStub pg) = some (st hp 282 w os, ⟨denote treeTable cb, cb, pa, [topFrame fp]⟩) := fun w os => by kernel_rfl
theorem cut_block : ∀ (w : World) (os : OsState), segRun treeTable pg w 28 an 1 1 (st hp 282 w os) (blockOf bd en cb pa [topFrame fp]) = some (.next, st hp 282 w os, cb, pa) := fun w os => by kernel_rfl
theorem cut_a : ∀ (w : World) (os : OsState), segRun treeTable pg w 28 an 1 131 (st hp 282 w os) (piecesOf b1 en cb pa [topFrame fp]) = some (.next, st ha 333 w os, cb, pb) := fun w os => by kernel_rfl
abbrev PQ (w : World) : Prop := ∀ os : OsState, segRun treeTable pg w 28 an 1 1253 (st ha 333 w os) (piecesOf b2 en cb pb [topFrame fp]) = some (.next, st hb 479 w os, cb, pc)
theorem cut_ff : ∀ w : World, PQ ((w.withFollow "special-get-raises" false).withFollow "comprehension-iter-twice" false) := fun w os => by kernel_rfl
theorem cut_ft : ∀ w : World, PQ ((w.withFollow "special-get-raises" true).withFollow "comprehension-iter-twice" false) := fun w os => by kernel_rfl
theorem cut_tf : ∀ w : World, PQ ((w.withFollow "special-get-raises" false).withFollow "comprehension-iter-twice" true) := fun w os => by kernel_rfl
theorem cut_tt : ∀ w : World, PQ ((w.withFollow "special-get-raises" true).withFollow "comprehension-iter-twice" true) := fun w os => by kernel_rfl
theorem cut_b (w : World) : PQ w :=
  byRow2 "comprehension-iter-twice" (P := PQ) (fun w => byRow2 "special-get-raises" (P := fun w => PQ (w.withFollow "comprehension-iter-twice" false)) cut_ff cut_ft w)
    (fun w => byRow2 "special-get-raises" (P := fun w => PQ (w.withFollow "comprehension-iter-twice" true)) cut_tf cut_tt w) w
theorem cut_end : ∀ (w : World) (os : OsState), (topRun treeTable pg w 28 an 605 (st hb 479 w os) (restOf b3 en cb pc [topFrame fp])).map (fun s =>
    (staticsOk (importedModules pg.main.body) (hs w.params) s.heap && namesBound pg s.heap && gensDone s && laidKept (hs w.params) s.heap, openSeen vw looseN (importedModules pg.main.body) seenB true s, hook.obs s)) = some (true, openGood vw looseN, hook.val w) := fun w os => by kernel_rfl
theorem leftK : LeftO RW.prog vw looseN seenB hook.obs hook.val 4096 := left_of cut_open cut_size (fun w os => run_of (cut_pre w os) (cut_block w os) parts_of (cut_a w os) (cut_b w os) (cut_end w os)) (by decide)
end -- RxLeft

section -- RxLaw
open PySem PySem.W PyProof.Rows PySem.Calls PySem.SeqAt
open PySem
theorem nil_of {h₀ h : Heap} {L : Addr} {m : Str → Option Value} (_F : Fr h₀ L h m) : News h₀ L h [] := News.nil
def LwFr (p n : List Nat) (k : Nat) (t1 t2 t3 : Tok) (m : Str → Option Value) : Prop := m "pattern" = some (.str (Tx p) t1) ∧ m "name" = some (.str (Tx n) t2) ∧ m "which" = some (.int k t3)
local macro_rules | `(tactic| walk_at "compareOp Eq ref ref") => `(tactic| (k_here; k_dflt (refine' eq_bools (by k_asm) (by k_mem) (by k_mem) (by exact law_un0 _) ?_)))
section
set_option maxHeartbeats 0
theorem look_a : sreFenced pg.main = true := by kernel_rfl
theorem look_b : ((moduleNames pg.main.body).isEmpty || lookedIntoSs (moduleNames pg.main.body) pg.main.body) = true := by kernel_rfl
theorem look_c : namesResolve pg = true := by kernel_rfl
theorem look_d : pg.boundNames.all (fun n => !worldNames.contains n) = true := by kernel_rfl
theorem look_e : noRoadLSs { strict := !(importedModules pg.main.body).all cThrough.contains, foot := none, bare := (["vars", "dir", "locals"] : List Str).filter (readsOut pg pg.main.body) } pg.main.body = true := by kernel_rfl
theorem look_f : (namesMeet pg pg.main.body fun _ n => attrL n) = true := by kernel_rfl
theorem looks : looksOpen pg = true := look_both (look_both (look_both (look_both (look_both look_a look_b) look_c) look_d) look_e) look_f
theorem part_said : RW.partSaid = true := by
  delta OpenRow.partSaid
  repeat' (with_reducible refine look_both ?_ ?_)
  · exact looks
  all_goals kernel_rfl
theorem row_said : RW.wellSaid = true := by
  delta OpenRow.wellSaid
  repeat' (with_reducible refine look_both ?_ ?_)
  · exact part_said
  all_goals kernel_rfl
theorem law_said : PySem.Challenge.rw_rx0017_01.wellSaid = true := by
  delta OpenLaw.wellSaid
  repeat' (with_reducible refine look_both ?_ ?_)
  · exact row_said
  all_goals kernel_rfl
end
set_option maxHeartbeats 0 in
theorem law_ok : (chainsOk vw && opensWell RW.prog && (frees RW.toRowW && RW.within.isEmpty)) = true := by kernel_rfl
set_option maxHeartbeats 8000000 in
theorem law_all : PySem.Challenge.rw_rx0017_01.Holds := by
  refine holds_law law_said fun said => ?_
  refine holds_open (q := vw) (loose := looseN) (Xt := seenB) (XP := XL vw []) (Yf := hook.obs) (Ya := hook.val) (YP := hook.says) (N := 4096) leftK hook.of hook.keeps (fun s e => xl_of s (Bool.and_eq_true_iff.mp e).1) XL.keeps (by rfl) (by rfl) (by rfl) (fun s e => recFacts_of (Bool.and_eq_true_iff.mp e).2) (by rfl) said law_ok ⟨rfl, rfl, rfl, rfl, rfl, by decide +kernel⟩ ?hw ?hc
  case hw => w_witness2
  case hc =>
  delta hook looseN RW
  k_fill
  intro w s₀ s₁ mg mb G Y fa o pm cd doc dV kV ho hd hcd hD hmg hg args vals as hpre hlay hrd hwl hlo
  have KX := km_in_of Y
  km_tabs Y
  have X := (Ground.X G).1
  have V := (Ground.X G).2
  refine Ground.open G ?_
  intro T B D TE TW
  try (refine guard_noD D (by decide +kernel) ?_; clear D)
  km_lay T hmg ho hd cd
  clear hmg
  wrow_args hpre hlay hrd hwl hlo
  first | refine callC_kw (enter_call ?_) | refine enter_call ?_
  w_top on
  kn_posts
  w_call any ho hd hcd hD T F
  clear hd
  kn_ghosts F T
  k_drop
  rename (Top vw _ _ _ _ _) => T
  rename (Frag.In _ _) => X'
  have KX := in_ghost X'
  rename (Fr _ _ _ _) => F'
  rename (News _ _ _ _) => N'
  rename (IntsAre _ _) => hI
  rename (Heap.IsList _ _ _) => hlg
  have hl1 := hlg.at fun o e => F'.keep _ o e
  have hvl := hI.length
  rename (¬ (63 : Int) < _) => h63
  have FS := ghost_grow F' N' hT8 (Nat.le_refl _)
  clear F' N' hlg
  walk_at "gost"
  refine c_drawn (KX.keeps FS.keep) (T.keeps FS.keep) (law_lt _ (by decide)) rfl hl1 hI (by omega) (fun h2 tk2 D p n k t1 t2 t3 G2 hDn hT hp hn hpl hnl hk => ?_)
  have F2 := fr_grow FS G2
  have N2 := nil_of F2
  clear FS hl1
  walk_at "gost"
  rename (Fr _ _ _ _) => F'
  refine for_tuple F' rfl [.str (Tx p) t1, .str (Tx n) t2] (fun i m news => news = [] ∧ LwFr p n k t1 t2 t3 m) ?_ ?_ ?_
  · walk_at "gost"
    rename (Fr _ _ _ _) => F'
    rename (News _ _ _ _) => N'
    exact ⟨_, _, _, _, [], rfl, rfl, F', nil_of F', ⟨_, (N' _ (.head _)).1, rfl, _, rfl⟩, (N' _ (.head _)).2.1, rfl, rfl, rfl, rfl⟩
  · rintro it a i v h₁ tk m _ own hi hv ⟨rfl, e1, e2, e3⟩ how hnw hown F N
    obtain ⟨x, tx, rfl, hx⟩ : ∃ (x : List Nat) (tx : Tok), v = .str (Tx x) tx ∧ x.length ≤ 7 := by
      rcases i with _ | _ | i
      · simp only [List.getElem?_cons_zero, Option.some.injEq] at hv; exact ⟨p, t1, hv.symm, hpl⟩
      · simp only [List.getElem?_cons_succ, List.getElem?_cons_zero, Option.some.injEq] at hv; exact ⟨n, t2, hv.symm, hnl⟩
      · simp only [List.length_cons, List.length_nil] at hi; omega
    replace F := fr_pins F [("pattern", .str (Tx p) t1), ("name", .str (Tx n) t2), ("which", .int k t3)]
      (by simp only [List.forall_mem_cons]; exact ⟨e1, e2, e3, List.forall_mem_nil _⟩)
    have hrefl : x.flatMap (spC k) = x.flatMap (spC k) := rfl
    walk_at "gost"
    rename (Fr _ _ _ _) => F'
    rename (News _ _ _ _) => N'
    refine c_written (KX.keeps F'.keep) (T.keeps F'.keep) (law_lt _ (by decide)) hx hk (fun h3 tk3 t3 G3 => ?_)
    have F3 := fr_grow F' G3
    have N3 := news_grow N' G3
    clear F' N'
    walk_at "gost"
    rename (Fr _ _ _ _) => F'
    rename (News _ _ _ _) => N'
    refine c_spelled (KX.keeps F'.keep) (T.keeps F'.keep) (law_lt _ (by decide)) rfl (law_un _ (by decide)) hk (by omega) (fun h4 tk4 t4 G4 => ?_)
    have F4 := fr_grow F' G4
    have N4 := news_grow N' G4
    clear F' N'
    walk_at "gost"
    rename (Fr _ _ _ _) => F'
    rename (News _ _ _ _) => N'
    exact ForOk.intro (news' := []) F' N' (fun p hp => by cases hp) ⟨rfl, rfl, rfl, rfl⟩
  · rintro m _ h' tk ⟨rfl, e1, e2, e3⟩ F N
    replace F := fr_pins F [("pattern", .str (Tx p) t1), ("name", .str (Tx n) t2), ("which", .int k t3)]
      (by simp only [List.forall_mem_cons]; exact ⟨e1, e2, e3, List.forall_mem_nil _⟩)
    walk_at "gost"
    rename (Fr _ _ _ _) => F'
    refine c_means (KX.keeps F'.keep) (T.keeps F'.keep) (law_lt _ (by decide)) rfl (law_un _ (by decide)) (by omega) (by omega) (fun h3 tk3 G3 => ?_)
    have F3 := fr_grow F' G3
    have N3 := nil_of F3
    clear F'
    walk_at "gost"
    rename (Fr _ _ _ _) => F'
    rename (News _ _ _ _) => N'
    refine c_written (KX.keeps F'.keep) (T.keeps F'.keep) (law_lt _ (by decide)) hpl hk (fun h4 tk4 t4 G4 => ?_)
    have F4 := fr_grow F' G4
    have N4 := news_grow N' G4
    clear F' N'
    walk_at "gost"
    rename (Fr _ _ _ _) => F'
    rename (News _ _ _ _) => N'
    refine c_mark (KX.keeps F'.keep) (T.keeps F'.keep) (law_lt _ (by decide)) (fun h5 tk5 t5 G5 => ?_)
    have F5 := fr_grow F' G5
    have N5 := news_grow N' G5
    clear F' N'
    walk_at "gost"
    rename (Fr _ _ _ _) => F'
    rename (News _ _ _ _) => N'
    have hwl := written_len hk p
    have hwl2 := written_len hk n
    refine c_trans (KX.keeps F'.keep) (T.keeps F'.keep) (law_lt _ (by decide)) rfl (by omega) (written_93 hk hp) (fun h6 tk6 a6 vs6 n6 G6 hn6 ha6 hP6 => ?_)
    have F6 := fr_grow F' G6
    have N6 := news_add F' N' G6 hn6 ha6
    clear F' N'
    walk_at "gost"
    rename (Fr _ _ _ _) => F'
    rename (News _ _ _ _) => N'
    have hvs6 : vs6.length ≤ 100 := by
      have h1 := trans_le MARK (p.flatMap (spC k)) []
      rw [hP6.length]; unfold trans
      simp only [List.length_nil] at h1
      omega
    obtain ⟨f1, f2, f3, f4⟩ := takes_facts (q := MARK) (p := p.flatMap (spC k)) (.inr rfl) (by omega)
    obtain ⟨g1, g2, g3, g4⟩ := takes_facts (q := []) (p := p) (.inl rfl) (by omega)
    rw [show qtx MARK = MARK from rfl] at f1 f4
    rw [show qtx [] = [46] from rfl] at g1 g4
    refine c_join (KX.keeps F'.keep) (T.keeps F'.keep) (law_lt _ (by decide)) rfl (N' _ (.head _)).1 hP6 (alone_trans MARK _ [] trivial) f4 hvs6 (fun h7 tk7 t7 G7 => ?_)
    have F7 := fr_grow F' G7
    have N7 := news_grow N' G7
    clear F' N'
    walk_at "gost"
    rename (Fr _ _ _ _) => F'
    rename (News _ _ _ _) => N'
    refine c_translate (KX.keeps F'.keep) (T.keeps F'.keep) (law_lt _ (by decide)) rfl (by omega) (pat_93 hp) g4 (fun h8 tk8 t8 G8 => ?_)
    have F8 := fr_grow F' G8
    have N8 := news_grow N' G8
    clear F' N'
    walk_at "gost"
    rename (Fr _ _ _ _) => F'
    rename (News _ _ _ _) => N'
    rw [l_]
    refine c_takes (KX.keeps F'.keep) (T.keeps F'.keep) (law_lt _ (by decide)) rfl (law_un _ (by decide)) g4 (.inl rfl) g1 g2 g3 (by omega) (fun h9 tk9 G9 => ?_)
    have eB : takesS ((feed [] [] ⟨0, []⟩ (tkB [] (col false p))).map fun c => ⟨c.how, c.tests⟩) n = gm p n := plain_bare hp hn
    rw [eB]
    have F9 := fr_grow F' G9
    have N9 := news_grow N' G9
    clear F' N'
    walk_at "gost"
    rename (Fr _ _ _ _) => F'
    rename (News _ _ _ _) => N'
    refine c_mark (KX.keeps F'.keep) (T.keeps F'.keep) (law_lt _ (by decide)) (fun h10 tk10 t10 G10 => ?_)
    have F10 := fr_grow F' G10
    have N10 := news_grow N' G10
    clear F' N'
    walk_at "gost"
    rename (Fr _ _ _ _) => F'
    rename (News _ _ _ _) => N'
    refine c_written (KX.keeps F'.keep) (T.keeps F'.keep) (law_lt _ (by decide)) hnl hk (fun h11 tk11 t11 G11 => ?_)
    have F11 := fr_grow F' G11
    have N11 := news_grow N' G11
    clear F' N'
    walk_at "gost"
    rename (Fr _ _ _ _) => F'
    rename (News _ _ _ _) => N'
    refine c_takes (KX.keeps F'.keep) (T.keeps F'.keep) (law_lt _ (by decide)) rfl (law_un _ (by decide)) f4 (.inr rfl) f1 f2 f3 (by omega) (fun h12 tk12 G12 => ?_)
    have eW : takesS ((feed MARK [] ⟨0, []⟩ (tkB MARK (col false (p.flatMap (spC k))))).map fun c => ⟨c.how, c.tests⟩) (n.flatMap (spC k)) = gm p n := plain_written hk hp hn
    rw [eW]
    have F12 := fr_grow F' G12
    have N12 := news_grow N' G12
    clear F' N'
    repeat' ((fail_if_success (with_reducible show wpAny _ _ (compareOp _ _ _) _ _ _)); first | walk1 | (dsimp only; walk1))
    rename (News _ _ _ _) => N'
    rename (Fr _ _ _ _) => F'
    refine eq_bools N' (.tail _ (.head _)) (.head _) (law_un0 _) ?_
    clear N'
    refine ⟨goodW_bool (ghost_fr hT9 F') (by assumption) ?_ ?_, ⟨⟨#[], F'.keep _ _ (hT8 57 (.head _))⟩, trivial⟩⟩
    · first | exact fun _ => rfl | exact raisesW_false (by wrow_none_raised)
    · first | exact postW_of rfl (w_eq_bool (w_res rfl) w_lit) rfl | wrow_post
end -- RxLaw

end Mine

theorem PySem.Challenge.cw_rx0017_01_holds : PySem.Challenge.rw_rx0017_01.Holds := by
  exact Mine.law_all
