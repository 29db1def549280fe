import PyProof.Rows.All
import Wide.All
import OpenK.AllK
import Wide.FinOn
import PySem.Challenge.RW_in0278_01
set_option Elab.async false
section
open PySem PySem.W PySem.Calls PyProof.Rows
set_option maxRecDepth 100000
namespace Mine
/-! The written part of the top: the objects that the law comes to. The functions' texts are looked up in the row. -/
noncomputable def dP : Stmt → Arguments
  | .FunctionDef _ a _ _ _ _ _ _ _ _ => a
  | _ => { posonlyargs := [], args := [], vararg := none, kwonlyargs := [], kw_defaults := [], kwarg := none, defaults := [] }
noncomputable def dB : Stmt → List Stmt
  | .FunctionDef _ _ b _ _ _ _ _ _ _ => b
  | _ => []
noncomputable def dS : Stmt → Scope
  | .FunctionDef _ _ _ _ _ _ s _ _ _ => s
  | _ => { kind := .function, names := [], isGenerator := false, isCoroutine := false, more := [] }
noncomputable def cB : Stmt → List Stmt
  | .ClassDef (body := b) .. => b
  | _ => []
noncomputable def dT (i : Nat) : Stmt := (PySem.Challenge.pw_in0278_01.main.body[i]?).getD default
noncomputable def mT (i j : Nat) : Stmt := ((cB (dT i))[j]?).getD default
noncomputable def K0 (P : Params) : Frag :=
  (nat_lit 2, ⟨.none, none, (.dict #[⟨PyData.keyHash P (Str.ofString "\x69mport.loaded._sre"), .str (Str.ofString "\x69mport.loaded._sre") 183, (.bool true)⟩, ⟨PyData.keyHash P (Str.ofString "class._frozen_importlib.BuiltinImporter"), .str (Str.ofString "class._frozen_importlib.BuiltinImporter") 185, (.ref 14)⟩, ⟨PyData.keyHash P (Str.ofString "watched.\x69mport"), .str (Str.ofString "watched.\x69mport") 206, (.ref 18)⟩, ⟨PyData.keyHash P (Str.ofString "class._frozen_importlib.ModuleSpec"), .str (Str.ofString "class._frozen_importlib.ModuleSpec") 216, (.ref 22)⟩, ⟨PyData.keyHash P (Str.ofString "sys.modules.booked-epoch"), .str (Str.ofString "sys.modules.booked-epoch") 245, (.int (3) 0)⟩, ⟨PyData.keyHash P (Str.ofString "\x69mport.later-laid._sre"), .str (Str.ofString "\x69mport.later-laid._sre") 270, (.bool true)⟩, ⟨PyData.keyHash P (Str.ofString "watched.library"), .str (Str.ofString "watched.library") 272, (.ref 27)⟩, ⟨PyData.keyHash P (Str.ofString "watched.library-objects"), .str (Str.ofString "watched.library-objects") 0, (.str (Str.ofString "\x0c") 0)⟩, ⟨PyData.keyHash P (Str.ofString "watched.library-deep._sre"), .str (Str.ofString "watched.library-deep._sre") 273, (.str (Str.ofString "\x04\x00\x00\x0b\x04\x00\x00\x0b\x04\x00\x00\x03\x04\x00\x00\x0b\x08\x04dict\x02") 0)⟩] 9), #[]⟩) ::
  (nat_lit 3, ⟨(.type "dict"), none, (.dict #[⟨PyData.keyHash P (Str.ofString "__name__"), .str (Str.ofString "__name__") 165, (.str (Str.ofString "law_in0278_01") 669)⟩, ⟨PyData.keyHash P (Str.ofString "__doc__"), .str (Str.ofString "__doc__") 166, .none⟩, ⟨PyData.keyHash P (Str.ofString "__package__"), .str (Str.ofString "__package__") 167, .none⟩, ⟨PyData.keyHash P (Str.ofString "__loader__"), .str (Str.ofString "__loader__") 168, (.builtin "__main__.__loader__#opaque")⟩, ⟨PyData.keyHash P (Str.ofString "__spec__"), .str (Str.ofString "__spec__") 169, .none⟩, ⟨PyData.keyHash P (Str.ofString "__annotations__"), .str (Str.ofString "__annotations__") 170, (.ref 6)⟩, ⟨PyData.keyHash P (Str.ofString "__builtins__"), .str (Str.ofString "__builtins__") 171, (.ref 4)⟩, ⟨PyData.keyHash P (Str.ofString "__file__"), .str (Str.ofString "__file__") 173, (.str (Str.ofString "/claim/cut.py") 172)⟩, ⟨PyData.keyHash P (Str.ofString "__cached__"), .str (Str.ofString "__cached__") 174, .none⟩, ⟨PyData.keyHash P (Str.ofString "_sre"), .str (Str.ofString "_sre") 275, (.ref 12)⟩, ⟨PyData.keyHash P (Str.ofString "Entry"), .str (Str.ofString "Entry") 345, (.ref 69)⟩, ⟨PyData.keyHash P (Str.ofString "_twin_re_1"), .str (Str.ofString "_twin_re_1") 385, (.ref 78)⟩, ⟨PyData.keyHash P (Str.ofString "translate"), .str (Str.ofString "translate") 394, (.ref 85)⟩, ⟨PyData.keyHash P (Str.ofString "_special_chars_map"), .str (Str.ofString "_special_chars_map") 542, (.ref 87)⟩, ⟨PyData.keyHash P (Str.ofString "escape"), .str (Str.ofString "escape") 549, (.ref 97)⟩, ⟨PyData.keyHash P (Str.ofString "_translate"), .str (Str.ofString "_translate") 570, (.ref 104)⟩, ⟨PyData.keyHash P (Str.ofString "_join_translated_parts"), .str (Str.ofString "_join_translated_parts") 583, (.ref 111)⟩, ⟨PyData.keyHash P (Str.ofString "S_IFMT"), .str (Str.ofString "S_IFMT") 592, (.ref 118)⟩, ⟨PyData.keyHash P (Str.ofString "S_IFDIR"), .str (Str.ofString "S_IFDIR") 594, (.int (16384) 593)⟩, ⟨PyData.keyHash P (Str.ofString "S_IFCHR"), .str (Str.ofString "S_IFCHR") 596, (.int (8192) 595)⟩, ⟨PyData.keyHash P (Str.ofString "S_IFBLK"), .str (Str.ofString "S_IFBLK") 598, (.int (24576) 597)⟩, ⟨PyData.keyHash P (Str.ofString "S_IFREG"), .str (Str.ofString "S_IFREG") 600, (.int (32768) 599)⟩, ⟨PyData.keyHash P (Str.ofString "S_IFIFO"), .str (Str.ofString "S_IFIFO") 602, (.int (4096) 601)⟩, ⟨PyData.keyHash P (Str.ofString "S_IFLNK"), .str (Str.ofString "S_IFLNK") 604, (.int (40960) 603)⟩, ⟨PyData.keyHash P (Str.ofString "S_IFSOCK"), .str (Str.ofString "S_IFSOCK") 606, (.int (49152) 605)⟩, ⟨PyData.keyHash P (Str.ofString "S_ISUID"), .str (Str.ofString "S_ISUID") 608, (.int (2048) 607)⟩, ⟨PyData.keyHash P (Str.ofString "S_ISGID"), .str (Str.ofString "S_ISGID") 610, (.int (1024) 609)⟩, ⟨PyData.keyHash P (Str.ofString "S_ISVTX"), .str (Str.ofString "S_ISVTX") 612, (.int (512) 611)⟩, ⟨PyData.keyHash P (Str.ofString "S_IRUSR"), .str (Str.ofString "S_IRUSR") 614, (.int (256) 613)⟩, ⟨PyData.keyHash P (Str.ofString "S_IWUSR"), .str (Str.ofString "S_IWUSR") 616, (.int (128) 615)⟩, ⟨PyData.keyHash P (Str.ofString "S_IXUSR"), .str (Str.ofString "S_IXUSR") 618, (.int (64) 617)⟩, ⟨PyData.keyHash P (Str.ofString "S_IRGRP"), .str (Str.ofString "S_IRGRP") 620, (.int (32) 619)⟩, ⟨PyData.keyHash P (Str.ofString "S_IWGRP"), .str (Str.ofString "S_IWGRP") 622, (.int (16) 621)⟩, ⟨PyData.keyHash P (Str.ofString "S_IXGRP"), .str (Str.ofString "S_IXGRP") 624, (.int (8) 623)⟩, ⟨PyData.keyHash P (Str.ofString "S_IROTH"), .str (Str.ofString "S_IROTH") 626, (.int (4) 625)⟩, ⟨PyData.keyHash P (Str.ofString "S_IWOTH"), .str (Str.ofString "S_IWOTH") 628, (.int (2) 627)⟩, ⟨PyData.keyHash P (Str.ofString "S_IXOTH"), .str (Str.ofString "S_IXOTH") 630, (.int (1) 629)⟩, ⟨PyData.keyHash P (Str.ofString "_filemode_table"), .str (Str.ofString "_filemode_table") 656, (.ref 151)⟩, ⟨PyData.keyHash P (Str.ofString "filemode"), .str (Str.ofString "filemode") 668, (.ref 158)⟩, ⟨PyData.keyHash P (Str.ofString "_law_triples"), .str (Str.ofString "_law_triples") 680, (.ref 165)⟩, ⟨PyData.keyHash P (Str.ofString "_law_row"), .str (Str.ofString "_law_row") 691, (.ref 172)⟩, ⟨PyData.keyHash P (Str.ofString "_law_agent"), .str (Str.ofString "_law_agent") 703, (.ref 179)⟩, ⟨PyData.keyHash P (Str.ofString "_law_takes"), .str (Str.ofString "_law_takes") 712, (.ref 186)⟩, ⟨PyData.keyHash P (Str.ofString "_law_record"), .str (Str.ofString "_law_record") 722, (.ref 193)⟩, ⟨PyData.keyHash P (Str.ofString "_law_book"), .str (Str.ofString "_law_book") 733, (.ref 200)⟩, ⟨PyData.keyHash P (Str.ofString "_law_back"), .str (Str.ofString "_law_back") 742, (.ref 207)⟩, ⟨PyData.keyHash P (Str.ofString "law"), .str (Str.ofString "law") 748, (.ref 212)⟩] 47), #[]⟩) ::
  (nat_lit 39, ⟨(.type "tuple"), none, (.seq #[] 0), #[]⟩) ::
  (nat_lit 41, ⟨(.type "tuple"), none, (.seq #[(.str (Str.ofString "self") 299)] 0), #[]⟩) ::
  (nat_lit 42, ⟨(.type "tuple"), none, (.seq #[] 0), #[]⟩) ::
  (nat_lit 44, ⟨(.type "code"), none, (.fields #[(.str (Str.ofString "__init__") 296), (.str (Str.ofString "Entry.__init__") 297), (.str (Str.ofString "/claim/cut.py") 298), (.int (5) 0), (.int (1) 0), (.int (0) 0), (.int (0) 0), (.int (3) 0), (.ref 39), (.bool true), (.int (276) 0), (.ref 40), .none, (.ref 41), (.ref 42), (.ref 43), (.int (300) 0), (.int (5) 0), (.str (Str.ofString "/claim/cut.py") 301)]), #[]⟩) ::
  (nat_lit 45, ⟨(.type "function"), none, (.func { name := (Str.ofString "__init__"), qualname := (Str.ofString "Entry.__init__"), params := dP (mT 2 0), body := .stmts (dB (mT 2 0)), scope := dS (mT 2 0), globals := 3, closure := [], defaults := .none, kwdefaults := .none, doc := .none, pyModule := (.str (Str.ofString "cpy313.urllib.robotparser") 282), annotations := none, code := (.ref 44), closureTuple := .none, builtins := 0 }), #[]⟩) ::
  (nat_lit 46, ⟨(.type "tuple"), none, (.seq #[] 0), #[]⟩) ::
  (nat_lit 48, ⟨(.type "tuple"), none, (.seq #[(.str (Str.ofString "self") 306), (.str (Str.ofString "ret") 307), (.str (Str.ofString "agent") 308), (.str (Str.ofString "rate") 309)] 0), #[]⟩) ::
  (nat_lit 49, ⟨(.type "tuple"), none, (.seq #[] 0), #[]⟩) ::
  (nat_lit 51, ⟨(.type "code"), none, (.fields #[(.str (Str.ofString "__str__") 303), (.str (Str.ofString "Entry.__str__") 304), (.str (Str.ofString "/claim/cut.py") 305), (.int (11) 0), (.int (1) 0), (.int (0) 0), (.int (0) 0), (.int (3) 0), (.ref 46), (.bool true), (.int (276) 0), (.ref 47), .none, (.ref 48), (.ref 49), (.ref 50), (.int (310) 0), (.int (11) 0), (.str (Str.ofString "/claim/cut.py") 311)]), #[]⟩) ::
  (nat_lit 52, ⟨(.type "function"), none, (.func { name := (Str.ofString "__str__"), qualname := (Str.ofString "Entry.__str__"), params := dP (mT 2 1), body := .stmts (dB (mT 2 1)), scope := dS (mT 2 1), globals := 3, closure := [], defaults := .none, kwdefaults := .none, doc := .none, pyModule := (.str (Str.ofString "cpy313.urllib.robotparser") 282), annotations := none, code := (.ref 51), closureTuple := .none, builtins := 0 }), #[]⟩) ::
  (nat_lit 53, ⟨(.type "tuple"), none, (.seq #[] 0), #[]⟩) ::
  (nat_lit 55, ⟨(.type "tuple"), none, (.seq #[(.str (Str.ofString "self") 316), (.str (Str.ofString "useragent") 317), (.str (Str.ofString "agent") 318)] 0), #[]⟩) ::
  (nat_lit 56, ⟨(.type "tuple"), none, (.seq #[] 0), #[]⟩) ::
  (nat_lit 58, ⟨(.type "code"), none, (.fields #[(.str (Str.ofString "applies_to") 313), (.str (Str.ofString "Entry.applies_to") 314), (.str (Str.ofString "/claim/cut.py") 315), (.int (28) 0), (.int (2) 0), (.int (0) 0), (.int (0) 0), (.int (3) 0), (.ref 53), (.bool true), (.int (276) 0), (.ref 54), .none, (.ref 55), (.ref 56), (.ref 57), (.int (319) 0), (.int (28) 0), (.str (Str.ofString "/claim/cut.py") 320)]), #[]⟩) ::
  (nat_lit 59, ⟨(.type "function"), none, (.func { name := (Str.ofString "applies_to"), qualname := (Str.ofString "Entry.applies_to"), params := dP (mT 2 2), body := .stmts (dB (mT 2 2)), scope := dS (mT 2 2), globals := 3, closure := [], defaults := .none, kwdefaults := .none, doc := .none, pyModule := (.str (Str.ofString "cpy313.urllib.robotparser") 282), annotations := none, code := (.ref 58), closureTuple := .none, builtins := 0 }), #[]⟩) ::
  (nat_lit 60, ⟨(.type "tuple"), none, (.seq #[] 0), #[]⟩) ::
  (nat_lit 62, ⟨(.type "tuple"), none, (.seq #[(.str (Str.ofString "self") 325), (.str (Str.ofString "filename") 326), (.str (Str.ofString "best_match") 327), (.str (Str.ofString "allowance") 328), (.str (Str.ofString "line") 329), (.str (Str.ofString "m") 330)] 0), #[]⟩) ::
  (nat_lit 63, ⟨(.type "tuple"), none, (.seq #[] 0), #[]⟩) ::
  (nat_lit 65, ⟨(.type "code"), none, (.fields #[(.str (Str.ofString "allowance") 322), (.str (Str.ofString "Entry.allowance") 323), (.str (Str.ofString "/claim/cut.py") 324), (.int (39) 0), (.int (2) 0), (.int (0) 0), (.int (0) 0), (.int (3) 0), (.ref 60), (.bool true), (.int (276) 0), (.ref 61), .none, (.ref 62), (.ref 63), (.ref 64), (.int (331) 0), (.int (39) 0), (.str (Str.ofString "/claim/cut.py") 332)]), #[]⟩) ::
  (nat_lit 66, ⟨(.type "function"), none, (.func { name := (Str.ofString "allowance"), qualname := (Str.ofString "Entry.allowance"), params := dP (mT 2 3), body := .stmts (dB (mT 2 3)), scope := dS (mT 2 3), globals := 3, closure := [], defaults := .none, kwdefaults := .none, doc := .none, pyModule := (.str (Str.ofString "cpy313.urllib.robotparser") 282), annotations := none, code := (.ref 65), closureTuple := .none, builtins := 0 }), #[]⟩) ::
  (nat_lit 67, ⟨(.type "tuple"), none, (.seq #[(.str (Str.ofString "delay") 334), (.str (Str.ofString "req_rate") 335), (.str (Str.ofString "rulelines") 336), (.str (Str.ofString "useragents") 337)] 0), #[]⟩) ::
  (nat_lit 68, ⟨(.type "dict"), none, (.dict #[⟨PyData.keyHash P (Str.ofString "__module__"), .str (Str.ofString "__module__") 291, (.str (Str.ofString "cpy313.urllib.robotparser") 282)⟩, ⟨PyData.keyHash P (Str.ofString "__firstlineno__"), .str (Str.ofString "__firstlineno__") 295, (.int (3) 294)⟩, ⟨PyData.keyHash P (Str.ofString "__init__"), .str (Str.ofString "__init__") 302, (.ref 45)⟩, ⟨PyData.keyHash P (Str.ofString "__str__"), .str (Str.ofString "__str__") 312, (.ref 52)⟩, ⟨PyData.keyHash P (Str.ofString "applies_to"), .str (Str.ofString "applies_to") 321, (.ref 59)⟩, ⟨PyData.keyHash P (Str.ofString "allowance"), .str (Str.ofString "allowance") 333, (.ref 66)⟩, ⟨PyData.keyHash P (Str.ofString "__static_attributes__"), .str (Str.ofString "__static_attributes__") 338, (.ref 67)⟩, ⟨PyData.keyHash P (Str.ofString "__dict__"), .str (Str.ofString "__dict__") 340, (.ref 70)⟩, ⟨PyData.keyHash P (Str.ofString "__weakref__"), .str (Str.ofString "__weakref__") 342, (.ref 71)⟩, ⟨PyData.keyHash P (Str.ofString "__doc__"), .str (Str.ofString "__doc__") 343, .none⟩] 4), #[]⟩) ::
  (nat_lit 69, ⟨(.type "type"), none, (.cls { name := (Str.ofString "Entry"), bases := [(.type "object")], mro := [(.ref 69), (.type "object")], ns := 68, qualname := (Str.ofString "Entry"), hasDict := true, slotNames := [], subclasses := [], abstract := false, collection := none, hasDel := false }), #[none, none, (some (.str (Str.ofString "Entry") 284)), (some (.str (Str.ofString "Entry") 292)), (some (.builtin "object.__new__")), (some (.bool true))]⟩) ::
  (nat_lit 70, ⟨(.type "getset_descriptor"), none, (.fields #[(.str (Str.ofString "__dict__") 339), (.ref 69), (.builtin "function.__dict__"), (.builtin "function.__dict__#set")]), #[]⟩) ::
  (nat_lit 71, ⟨(.type "getset_descriptor"), none, (.fields #[(.str (Str.ofString "__weakref__") 341), (.ref 69), (.builtin "ExceptionGroup.__weakref__"), .none]), #[]⟩) ::
  (nat_lit 77, ⟨(.type "tuple"), none, (.seq #[(.int (14) 0), (.int (14) 0), (.int (4) 0), (.int (1) 0), (.int (1) 0), (.int (9) 0), (.int (0) 0), (.int (64) 0), (.int (0) 0), (.int (1342177280) 0), (.int (0) 0), (.int (0) 0), (.int (0) 0), (.int (0) 0), (.int (0) 0), (.int (17) 0), (.int (0) 0), (.int (13) 0), (.int (11) 0), (.int (9) 0), (.int (0) 0), (.int (64) 0), (.int (0) 0), (.int (1342177280) 0), (.int (0) 0), (.int (0) 0), (.int (0) 0), (.int (0) 0), (.int (0) 0), (.int (17) 0), (.int (1) 0), (.int (1) 0)] 0), #[]⟩) ::
  (nat_lit 78, ⟨(.type "re.Pattern"), none, (.fields #[(.str (Str.ofString "([&~|])") 349), (.int (32) 384), (.int (1) 0), .none, .none, (.ref 77), (.int (0) 0)]), #[]⟩) ::
  (nat_lit 79, ⟨(.type "tuple"), none, (.seq #[] 0), #[]⟩) ::
  (nat_lit 81, ⟨(.type "tuple"), none, (.seq #[(.str (Str.ofString "pat") 389), (.str (Str.ofString "STAR") 390), (.str (Str.ofString "parts") 391)] 0), #[]⟩) ::
  (nat_lit 82, ⟨(.type "tuple"), none, (.seq #[] 0), #[]⟩) ::
  (nat_lit 84, ⟨(.type "code"), none, (.fields #[(.str (Str.ofString "translate") 386), (.str (Str.ofString "translate") 387), (.str (Str.ofString "/claim/cut.py") 388), (.int (53) 0), (.int (1) 0), (.int (0) 0), (.int (0) 0), (.int (3) 0), (.ref 79), (.bool true), (.int (276) 0), (.ref 80), .none, (.ref 81), (.ref 82), (.ref 83), (.int (392) 0), (.int (53) 0), (.str (Str.ofString "/claim/cut.py") 393)]), #[]⟩) ::
  (nat_lit 85, ⟨(.type "function"), none, (.func { name := (Str.ofString "translate"), qualname := (Str.ofString "translate"), params := dP (dT 5), body := .stmts (dB (dT 5)), scope := dS (dT 5), globals := 3, closure := [], defaults := .none, kwdefaults := .none, doc := .none, pyModule := (.str (Str.ofString "cpy313.fnmatch") 346), annotations := none, code := (.ref 84), closureTuple := .none, builtins := 0 }), #[]⟩) ::
  (nat_lit 87, ⟨(.type "dict"), none, (.dict #[⟨40, (.int (40) 398), (.str (Str.ofString "\\(") 402)⟩, ⟨41, (.int (41) 404), (.str (Str.ofString "\\)") 408)⟩, ⟨91, (.int (91) 410), (.str (Str.ofString "\\[") 414)⟩, ⟨93, (.int (93) 416), (.str (Str.ofString "\\]") 420)⟩, ⟨123, (.int (123) 422), (.str (Str.ofString "\\{") 426)⟩, ⟨125, (.int (125) 428), (.str (Str.ofString "\\}") 432)⟩, ⟨63, (.int (63) 434), (.str (Str.ofString "\\?") 438)⟩, ⟨42, (.int (42) 440), (.str (Str.ofString "\\*") 444)⟩, ⟨43, (.int (43) 446), (.str (Str.ofString "\\+") 450)⟩, ⟨45, (.int (45) 452), (.str (Str.ofString "\\-") 456)⟩, ⟨124, (.int (124) 458), (.str (Str.ofString "\\|") 462)⟩, ⟨94, (.int (94) 464), (.str (Str.ofString "\\^") 468)⟩, ⟨36, (.int (36) 470), (.str (Str.ofString "\\$") 474)⟩, ⟨92, (.int (92) 476), (.str (Str.ofString "\\\\") 480)⟩, ⟨46, (.int (46) 482), (.str (Str.ofString "\\.") 486)⟩, ⟨38, (.int (38) 488), (.str (Str.ofString "\\&") 492)⟩, ⟨126, (.int (126) 494), (.str (Str.ofString "\\~") 498)⟩, ⟨35, (.int (35) 500), (.str (Str.ofString "\\#") 504)⟩, ⟨32, (.int (32) 506), (.str (Str.ofString "\\ ") 510)⟩, ⟨9, (.int (9) 512), (.str (Str.ofString "\\\t") 516)⟩, ⟨10, (.int (10) 518), (.str (Str.ofString "\\\n") 522)⟩, ⟨13, (.int (13) 524), (.str (Str.ofString "\\\x0d") 528)⟩, ⟨11, (.int (11) 530), (.str (Str.ofString "\\\x0b") 534)⟩, ⟨12, (.int (12) 536), (.str (Str.ofString "\\\x0c") 540)⟩] 24), #[]⟩) ::
  (nat_lit 91, ⟨(.type "tuple"), none, (.seq #[] 0), #[]⟩) ::
  (nat_lit 93, ⟨(.type "tuple"), none, (.seq #[(.str (Str.ofString "pattern") 546)] 0), #[]⟩) ::
  (nat_lit 94, ⟨(.type "tuple"), none, (.seq #[] 0), #[]⟩) ::
  (nat_lit 96, ⟨(.type "code"), none, (.fields #[(.str (Str.ofString "escape") 543), (.str (Str.ofString "escape") 544), (.str (Str.ofString "/claim/cut.py") 545), (.int (59) 0), (.int (1) 0), (.int (0) 0), (.int (0) 0), (.int (3) 0), (.ref 91), (.bool true), (.int (276) 0), (.ref 92), .none, (.ref 93), (.ref 94), (.ref 95), (.int (547) 0), (.int (59) 0), (.str (Str.ofString "/claim/cut.py") 548)]), #[]⟩) ::
  (nat_lit 97, ⟨(.type "function"), none, (.func { name := (Str.ofString "escape"), qualname := (Str.ofString "escape"), params := dP (dT 8), body := .stmts (dB (dT 8)), scope := dS (dT 8), globals := 3, closure := [], defaults := .none, kwdefaults := .none, doc := .none, pyModule := (.str (Str.ofString "re") 395), annotations := none, code := (.ref 96), closureTuple := .none, builtins := 0 }), #[]⟩) ::
  (nat_lit 98, ⟨(.type "tuple"), none, (.seq #[] 0), #[]⟩) ::
  (nat_lit 100, ⟨(.type "tuple"), none, (.seq #[(.str (Str.ofString "pat") 555), (.str (Str.ofString "STAR") 556), (.str (Str.ofString "QUESTION_MARK") 557), (.str (Str.ofString "res") 558), (.str (Str.ofString "add") 559), (.str (Str.ofString "i") 560), (.str (Str.ofString "n") 561), (.str (Str.ofString "c") 562), (.str (Str.ofString "j") 563), (.str (Str.ofString "stuff") 564), (.str (Str.ofString "chunks") 565), (.str (Str.ofString "k") 566), (.str (Str.ofString "chunk") 567)] 0), #[]⟩) ::
  (nat_lit 101, ⟨(.type "tuple"), none, (.seq #[] 0), #[]⟩) ::
  (nat_lit 103, ⟨(.type "code"), none, (.fields #[(.str (Str.ofString "_translate") 552), (.str (Str.ofString "_translate") 553), (.str (Str.ofString "/claim/cut.py") 554), (.int (66) 0), (.int (3) 0), (.int (0) 0), (.int (0) 0), (.int (3) 0), (.ref 98), (.bool true), (.int (276) 0), (.ref 99), .none, (.ref 100), (.ref 101), (.ref 102), (.int (568) 0), (.int (66) 0), (.str (Str.ofString "/claim/cut.py") 569)]), #[]⟩) ::
  (nat_lit 104, ⟨(.type "function"), none, (.func { name := (Str.ofString "_translate"), qualname := (Str.ofString "_translate"), params := dP (dT 10), body := .stmts (dB (dT 10)), scope := dS (dT 10), globals := 3, closure := [], defaults := .none, kwdefaults := .none, doc := .none, pyModule := (.str (Str.ofString "cpy313.fnmatch") 550), annotations := none, code := (.ref 103), closureTuple := .none, builtins := 0 }), #[]⟩) ::
  (nat_lit 105, ⟨(.type "tuple"), none, (.seq #[] 0), #[]⟩) ::
  (nat_lit 107, ⟨(.type "tuple"), none, (.seq #[(.str (Str.ofString "inp") 574), (.str (Str.ofString "STAR") 575), (.str (Str.ofString "res") 576), (.str (Str.ofString "add") 577), (.str (Str.ofString "i") 578), (.str (Str.ofString "n") 579), (.str (Str.ofString "fixed") 580)] 0), #[]⟩) ::
  (nat_lit 108, ⟨(.type "tuple"), none, (.seq #[] 0), #[]⟩) ::
  (nat_lit 110, ⟨(.type "code"), none, (.fields #[(.str (Str.ofString "_join_translated_parts") 571), (.str (Str.ofString "_join_translated_parts") 572), (.str (Str.ofString "/claim/cut.py") 573), (.int (128) 0), (.int (2) 0), (.int (0) 0), (.int (0) 0), (.int (3) 0), (.ref 105), (.bool true), (.int (276) 0), (.ref 106), .none, (.ref 107), (.ref 108), (.ref 109), (.int (581) 0), (.int (128) 0), (.str (Str.ofString "/claim/cut.py") 582)]), #[]⟩) ::
  (nat_lit 111, ⟨(.type "function"), none, (.func { name := (Str.ofString "_join_translated_parts"), qualname := (Str.ofString "_join_translated_parts"), params := dP (dT 11), body := .stmts (dB (dT 11)), scope := dS (dT 11), globals := 3, closure := [], defaults := .none, kwdefaults := .none, doc := .none, pyModule := (.str (Str.ofString "cpy313.fnmatch") 550), annotations := none, code := (.ref 110), closureTuple := .none, builtins := 0 }), #[]⟩) ::
  (nat_lit 112, ⟨(.type "tuple"), none, (.seq #[] 0), #[]⟩) ::
  (nat_lit 114, ⟨(.type "tuple"), none, (.seq #[(.str (Str.ofString "mode") 589)] 0), #[]⟩) ::
  (nat_lit 115, ⟨(.type "tuple"), none, (.seq #[] 0), #[]⟩) ::
  (nat_lit 117, ⟨(.type "code"), none, (.fields #[(.str (Str.ofString "S_IFMT") 586), (.str (Str.ofString "S_IFMT") 587), (.str (Str.ofString "/claim/cut.py") 588), (.int (156) 0), (.int (1) 0), (.int (0) 0), (.int (0) 0), (.int (3) 0), (.ref 112), (.bool true), (.int (276) 0), (.ref 113), .none, (.ref 114), (.ref 115), (.ref 116), (.int (590) 0), (.int (156) 0), (.str (Str.ofString "/claim/cut.py") 591)]), #[]⟩) ::
  (nat_lit 118, ⟨(.type "function"), none, (.func { name := (Str.ofString "S_IFMT"), qualname := (Str.ofString "S_IFMT"), params := dP (dT 13), body := .stmts (dB (dT 13)), scope := dS (dT 13), globals := 3, closure := [], defaults := .none, kwdefaults := .none, doc := .none, pyModule := (.str (Str.ofString "cpy313.stat") 584), annotations := none, code := (.ref 117), closureTuple := .none, builtins := 0 }), #[]⟩) ::
  (nat_lit 119, ⟨(.type "tuple"), none, (.seq #[(.int (40960) 603), (.str (Str.ofString "l") 631)] 0), #[]⟩) ::
  (nat_lit 120, ⟨(.type "tuple"), none, (.seq #[(.int (49152) 605), (.str (Str.ofString "s") 632)] 0), #[]⟩) ::
  (nat_lit 121, ⟨(.type "tuple"), none, (.seq #[(.int (32768) 599), (.str (Str.ofString "-") 633)] 0), #[]⟩) ::
  (nat_lit 122, ⟨(.type "tuple"), none, (.seq #[(.int (24576) 597), (.str (Str.ofString "b") 634)] 0), #[]⟩) ::
  (nat_lit 123, ⟨(.type "tuple"), none, (.seq #[(.int (16384) 593), (.str (Str.ofString "d") 635)] 0), #[]⟩) ::
  (nat_lit 124, ⟨(.type "tuple"), none, (.seq #[(.int (8192) 595), (.str (Str.ofString "c") 636)] 0), #[]⟩) ::
  (nat_lit 125, ⟨(.type "tuple"), none, (.seq #[(.int (4096) 601), (.str (Str.ofString "p") 637)] 0), #[]⟩) ::
  (nat_lit 126, ⟨(.type "tuple"), none, (.seq #[(.ref 119), (.ref 120), (.ref 121), (.ref 122), (.ref 123), (.ref 124), (.ref 125)] 0), #[]⟩) ::
  (nat_lit 127, ⟨(.type "tuple"), none, (.seq #[(.int (256) 613), (.str (Str.ofString "r") 638)] 0), #[]⟩) ::
  (nat_lit 128, ⟨(.type "tuple"), none, (.seq #[(.ref 127)] 0), #[]⟩) ::
  (nat_lit 129, ⟨(.type "tuple"), none, (.seq #[(.int (128) 615), (.str (Str.ofString "w") 639)] 0), #[]⟩) ::
  (nat_lit 130, ⟨(.type "tuple"), none, (.seq #[(.ref 129)] 0), #[]⟩) ::
  (nat_lit 131, ⟨(.type "tuple"), none, (.seq #[(.int (2112) 640), (.str (Str.ofString "s") 641)] 0), #[]⟩) ::
  (nat_lit 132, ⟨(.type "tuple"), none, (.seq #[(.int (2048) 607), (.str (Str.ofString "S") 642)] 0), #[]⟩) ::
  (nat_lit 133, ⟨(.type "tuple"), none, (.seq #[(.int (64) 617), (.str (Str.ofString "x") 643)] 0), #[]⟩) ::
  (nat_lit 134, ⟨(.type "tuple"), none, (.seq #[(.ref 131), (.ref 132), (.ref 133)] 0), #[]⟩) ::
  (nat_lit 135, ⟨(.type "tuple"), none, (.seq #[(.int (32) 619), (.str (Str.ofString "r") 644)] 0), #[]⟩) ::
  (nat_lit 136, ⟨(.type "tuple"), none, (.seq #[(.ref 135)] 0), #[]⟩) ::
  (nat_lit 137, ⟨(.type "tuple"), none, (.seq #[(.int (16) 621), (.str (Str.ofString "w") 645)] 0), #[]⟩) ::
  (nat_lit 138, ⟨(.type "tuple"), none, (.seq #[(.ref 137)] 0), #[]⟩) ::
  (nat_lit 139, ⟨(.type "tuple"), none, (.seq #[(.int (1032) 646), (.str (Str.ofString "s") 647)] 0), #[]⟩) ::
  (nat_lit 140, ⟨(.type "tuple"), none, (.seq #[(.int (1024) 609), (.str (Str.ofString "S") 648)] 0), #[]⟩) ::
  (nat_lit 141, ⟨(.type "tuple"), none, (.seq #[(.int (8) 623), (.str (Str.ofString "x") 649)] 0), #[]⟩) ::
  (nat_lit 142, ⟨(.type "tuple"), none, (.seq #[(.ref 139), (.ref 140), (.ref 141)] 0), #[]⟩) ::
  (nat_lit 143, ⟨(.type "tuple"), none, (.seq #[(.int (4) 625), (.str (Str.ofString "r") 650)] 0), #[]⟩) ::
  (nat_lit 144, ⟨(.type "tuple"), none, (.seq #[(.ref 143)] 0), #[]⟩) ::
  (nat_lit 145, ⟨(.type "tuple"), none, (.seq #[(.int (2) 627), (.str (Str.ofString "w") 651)] 0), #[]⟩) ::
  (nat_lit 146, ⟨(.type "tuple"), none, (.seq #[(.ref 145)] 0), #[]⟩) ::
  (nat_lit 147, ⟨(.type "tuple"), none, (.seq #[(.int (513) 652), (.str (Str.ofString "t") 653)] 0), #[]⟩) ::
  (nat_lit 148, ⟨(.type "tuple"), none, (.seq #[(.int (512) 611), (.str (Str.ofString "T") 654)] 0), #[]⟩) ::
  (nat_lit 149, ⟨(.type "tuple"), none, (.seq #[(.int (1) 629), (.str (Str.ofString "x") 655)] 0), #[]⟩) ::
  (nat_lit 150, ⟨(.type "tuple"), none, (.seq #[(.ref 147), (.ref 148), (.ref 149)] 0), #[]⟩) ::
  (nat_lit 151, ⟨(.type "tuple"), none, (.seq #[(.ref 126), (.ref 128), (.ref 130), (.ref 134), (.ref 136), (.ref 138), (.ref 142), (.ref 144), (.ref 146), (.ref 150)] 0), #[]⟩) ::
  (nat_lit 152, ⟨(.type "tuple"), none, (.seq #[] 0), #[]⟩) ::
  (nat_lit 154, ⟨(.type "tuple"), none, (.seq #[(.str (Str.ofString "mode") 660), (.str (Str.ofString "perm") 661), (.str (Str.ofString "index") 662), (.str (Str.ofString "table") 663), (.str (Str.ofString "bit") 664), (.str (Str.ofString "char") 665)] 0), #[]⟩) ::
  (nat_lit 155, ⟨(.type "tuple"), none, (.seq #[] 0), #[]⟩) ::
  (nat_lit 157, ⟨(.type "code"), none, (.fields #[(.str (Str.ofString "filemode") 657), (.str (Str.ofString "filemode") 658), (.str (Str.ofString "/claim/cut.py") 659), (.int (178) 0), (.int (1) 0), (.int (0) 0), (.int (0) 0), (.int (3) 0), (.ref 152), (.bool true), (.int (276) 0), (.ref 153), .none, (.ref 154), (.ref 155), (.ref 156), (.int (666) 0), (.int (178) 0), (.str (Str.ofString "/claim/cut.py") 667)]), #[]⟩) ::
  (nat_lit 158, ⟨(.type "function"), none, (.func { name := (Str.ofString "filemode"), qualname := (Str.ofString "filemode"), params := dP (dT 34), body := .stmts (dB (dT 34)), scope := dS (dT 34), globals := 3, closure := [], defaults := .none, kwdefaults := .none, doc := .none, pyModule := (.str (Str.ofString "cpy313.stat") 584), annotations := none, code := (.ref 157), closureTuple := .none, builtins := 0 }), #[]⟩) ::
  (nat_lit 159, ⟨(.type "tuple"), none, (.seq #[] 0), #[]⟩) ::
  (nat_lit 161, ⟨(.type "tuple"), none, (.seq #[(.str (Str.ofString "mode") 674), (.str (Str.ofString "triples") 675), (.str (Str.ofString "shift") 676), (.str (Str.ofString "last") 677)] 0), #[]⟩) ::
  (nat_lit 162, ⟨(.type "tuple"), none, (.seq #[] 0), #[]⟩) ::
  (nat_lit 164, ⟨(.type "code"), none, (.fields #[(.str (Str.ofString "_law_triples") 671), (.str (Str.ofString "_law_triples") 672), (.str (Str.ofString "/claim/cut.py") 673), (.int (196) 0), (.int (1) 0), (.int (0) 0), (.int (0) 0), (.int (3) 0), (.ref 159), (.bool true), (.int (276) 0), (.ref 160), .none, (.ref 161), (.ref 162), (.ref 163), (.int (678) 0), (.int (196) 0), (.str (Str.ofString "/claim/cut.py") 679)]), #[]⟩) ::
  (nat_lit 165, ⟨(.type "function"), none, (.func { name := (Str.ofString "_law_triples"), qualname := (Str.ofString "_law_triples"), params := dP (dT 36), body := .stmts (dB (dT 36)), scope := dS (dT 36), globals := 3, closure := [], defaults := .none, kwdefaults := .none, doc := .none, pyModule := (.str (Str.ofString "law_in0278_01") 669), annotations := none, code := (.ref 164), closureTuple := .none, builtins := 0 }), #[]⟩) ::
  (nat_lit 166, ⟨(.type "tuple"), none, (.seq #[] 0), #[]⟩) ::
  (nat_lit 168, ⟨(.type "tuple"), none, (.seq #[(.str (Str.ofString "mode") 684), (.str (Str.ofString "row") 685), (.str (Str.ofString "shift") 686), (.str (Str.ofString "triple") 687), (.str (Str.ofString "may") 688)] 0), #[]⟩) ::
  (nat_lit 169, ⟨(.type "tuple"), none, (.seq #[] 0), #[]⟩) ::
  (nat_lit 171, ⟨(.type "code"), none, (.fields #[(.str (Str.ofString "_law_row") 681), (.str (Str.ofString "_law_row") 682), (.str (Str.ofString "/claim/cut.py") 683), (.int (204) 0), (.int (1) 0), (.int (0) 0), (.int (0) 0), (.int (3) 0), (.ref 166), (.bool true), (.int (276) 0), (.ref 167), .none, (.ref 168), (.ref 169), (.ref 170), (.int (689) 0), (.int (204) 0), (.str (Str.ofString "/claim/cut.py") 690)]), #[]⟩) ::
  (nat_lit 172, ⟨(.type "function"), none, (.func { name := (Str.ofString "_law_row"), qualname := (Str.ofString "_law_row"), params := dP (dT 37), body := .stmts (dB (dT 37)), scope := dS (dT 37), globals := 3, closure := [], defaults := .none, kwdefaults := .none, doc := .none, pyModule := (.str (Str.ofString "law_in0278_01") 669), annotations := none, code := (.ref 171), closureTuple := .none, builtins := 0 }), #[]⟩) ::
  (nat_lit 173, ⟨(.type "tuple"), none, (.seq #[] 0), #[]⟩) ::
  (nat_lit 175, ⟨(.type "tuple"), none, (.seq #[(.str (Str.ofString "number") 695), (.str (Str.ofString "code") 696), (.str (Str.ofString "sizes") 697), (.str (Str.ofString "agent") 698), (.str (Str.ofString "place") 699), (.str (Str.ofString "sign") 700)] 0), #[]⟩) ::
  (nat_lit 176, ⟨(.type "tuple"), none, (.seq #[] 0), #[]⟩) ::
  (nat_lit 178, ⟨(.type "code"), none, (.fields #[(.str (Str.ofString "_law_agent") 692), (.str (Str.ofString "_law_agent") 693), (.str (Str.ofString "/claim/cut.py") 694), (.int (210) 0), (.int (1) 0), (.int (0) 0), (.int (0) 0), (.int (3) 0), (.ref 173), (.bool true), (.int (276) 0), (.ref 174), .none, (.ref 175), (.ref 176), (.ref 177), (.int (701) 0), (.int (210) 0), (.str (Str.ofString "/claim/cut.py") 702)]), #[]⟩) ::
  (nat_lit 179, ⟨(.type "function"), none, (.func { name := (Str.ofString "_law_agent"), qualname := (Str.ofString "_law_agent"), params := dP (dT 38), body := .stmts (dB (dT 38)), scope := dS (dT 38), globals := 3, closure := [], defaults := .none, kwdefaults := .none, doc := .none, pyModule := (.str (Str.ofString "law_in0278_01") 669), annotations := none, code := (.ref 178), closureTuple := .none, builtins := 0 }), #[]⟩) ::
  (nat_lit 180, ⟨(.type "tuple"), none, (.seq #[] 0), #[]⟩) ::
  (nat_lit 182, ⟨(.type "tuple"), none, (.seq #[(.str (Str.ofString "agent") 707), (.str (Str.ofString "row") 708), (.str (Str.ofString "text") 709)] 0), #[]⟩) ::
  (nat_lit 183, ⟨(.type "tuple"), none, (.seq #[] 0), #[]⟩) ::
  (nat_lit 185, ⟨(.type "code"), none, (.fields #[(.str (Str.ofString "_law_takes") 704), (.str (Str.ofString "_law_takes") 705), (.str (Str.ofString "/claim/cut.py") 706), (.int (218) 0), (.int (2) 0), (.int (0) 0), (.int (0) 0), (.int (3) 0), (.ref 180), (.bool true), (.int (276) 0), (.ref 181), .none, (.ref 182), (.ref 183), (.ref 184), (.int (710) 0), (.int (218) 0), (.str (Str.ofString "/claim/cut.py") 711)]), #[]⟩) ::
  (nat_lit 186, ⟨(.type "function"), none, (.func { name := (Str.ofString "_law_takes"), qualname := (Str.ofString "_law_takes"), params := dP (dT 39), body := .stmts (dB (dT 39)), scope := dS (dT 39), globals := 3, closure := [], defaults := .none, kwdefaults := .none, doc := .none, pyModule := (.str (Str.ofString "law_in0278_01") 669), annotations := none, code := (.ref 185), closureTuple := .none, builtins := 0 }), #[]⟩) ::
  (nat_lit 187, ⟨(.type "tuple"), none, (.seq #[] 0), #[]⟩) ::
  (nat_lit 189, ⟨(.type "tuple"), none, (.seq #[(.str (Str.ofString "agents") 716), (.str (Str.ofString "verdict") 717), (.str (Str.ofString "record") 718), (.str (Str.ofString "agent") 719)] 0), #[]⟩) ::
  (nat_lit 190, ⟨(.type "tuple"), none, (.seq #[] 0), #[]⟩) ::
  (nat_lit 192, ⟨(.type "code"), none, (.fields #[(.str (Str.ofString "_law_record") 713), (.str (Str.ofString "_law_record") 714), (.str (Str.ofString "/claim/cut.py") 715), (.int (225) 0), (.int (2) 0), (.int (0) 0), (.int (0) 0), (.int (3) 0), (.ref 187), (.bool true), (.int (276) 0), (.ref 188), .none, (.ref 189), (.ref 190), (.ref 191), (.int (720) 0), (.int (225) 0), (.str (Str.ofString "/claim/cut.py") 721)]), #[]⟩) ::
  (nat_lit 193, ⟨(.type "function"), none, (.func { name := (Str.ofString "_law_record"), qualname := (Str.ofString "_law_record"), params := dP (dT 40), body := .stmts (dB (dT 40)), scope := dS (dT 40), globals := 3, closure := [], defaults := .none, kwdefaults := .none, doc := .none, pyModule := (.str (Str.ofString "law_in0278_01") 669), annotations := none, code := (.ref 192), closureTuple := .none, builtins := 0 }), #[]⟩) ::
  (nat_lit 194, ⟨(.type "tuple"), none, (.seq #[] 0), #[]⟩) ::
  (nat_lit 196, ⟨(.type "tuple"), none, (.seq #[(.str (Str.ofString "row") 726), (.str (Str.ofString "mode") 727), (.str (Str.ofString "records") 728), (.str (Str.ofString "book") 729), (.str (Str.ofString "record") 730)] 0), #[]⟩) ::
  (nat_lit 197, ⟨(.type "tuple"), none, (.seq #[] 0), #[]⟩) ::
  (nat_lit 199, ⟨(.type "code"), none, (.fields #[(.str (Str.ofString "_law_book") 723), (.str (Str.ofString "_law_book") 724), (.str (Str.ofString "/claim/cut.py") 725), (.int (231) 0), (.int (3) 0), (.int (0) 0), (.int (0) 0), (.int (3) 0), (.ref 194), (.bool true), (.int (276) 0), (.ref 195), .none, (.ref 196), (.ref 197), (.ref 198), (.int (731) 0), (.int (231) 0), (.str (Str.ofString "/claim/cut.py") 732)]), #[]⟩) ::
  (nat_lit 200, ⟨(.type "function"), none, (.func { name := (Str.ofString "_law_book"), qualname := (Str.ofString "_law_book"), params := dP (dT 41), body := .stmts (dB (dT 41)), scope := dS (dT 41), globals := 3, closure := [], defaults := .none, kwdefaults := .none, doc := .none, pyModule := (.str (Str.ofString "law_in0278_01") 669), annotations := none, code := (.ref 199), closureTuple := .none, builtins := 0 }), #[]⟩) ::
  (nat_lit 201, ⟨(.type "tuple"), none, (.seq #[] 0), #[]⟩) ::
  (nat_lit 203, ⟨(.type "tuple"), none, (.seq #[(.str (Str.ofString "lines") 737), (.str (Str.ofString "rules") 738), (.str (Str.ofString "line") 739)] 0), #[]⟩) ::
  (nat_lit 204, ⟨(.type "tuple"), none, (.seq #[] 0), #[]⟩) ::
  (nat_lit 206, ⟨(.type "code"), none, (.fields #[(.str (Str.ofString "_law_back") 734), (.str (Str.ofString "_law_back") 735), (.str (Str.ofString "/claim/cut.py") 736), (.int (238) 0), (.int (1) 0), (.int (0) 0), (.int (0) 0), (.int (3) 0), (.ref 201), (.bool true), (.int (276) 0), (.ref 202), .none, (.ref 203), (.ref 204), (.ref 205), (.int (740) 0), (.int (238) 0), (.str (Str.ofString "/claim/cut.py") 741)]), #[]⟩) ::
  (nat_lit 207, ⟨(.type "function"), none, (.func { name := (Str.ofString "_law_back"), qualname := (Str.ofString "_law_back"), params := dP (dT 42), body := .stmts (dB (dT 42)), scope := dS (dT 42), globals := 3, closure := [], defaults := .none, kwdefaults := .none, doc := .none, pyModule := (.str (Str.ofString "law_in0278_01") 669), annotations := none, code := (.ref 206), closureTuple := .none, builtins := 0 }), #[]⟩) ::
  (nat_lit 208, ⟨(.type "tuple"), none, (.seq #[] 0), #[]⟩) ::
  (nat_lit 211, ⟨(.type "code"), none, (.fields #[(.str (Str.ofString "law") 743), (.str (Str.ofString "law") 744), (.str (Str.ofString "/claim/cut.py") 745), (.int (248) 0), (.int (1) 0), (.int (0) 0), (.int (0) 0), (.int (3) 0), (.ref 208), (.bool true), (.int (276) 0), (.ref 209), .none, .none, .none, (.ref 210), (.int (746) 0), (.int (248) 0), (.str (Str.ofString "/claim/cut.py") 747)]), #[]⟩) ::
  (nat_lit 212, ⟨(.type "function"), none, (.func { name := (Str.ofString "law"), qualname := (Str.ofString "law"), params := dP (dT 43), body := .stmts (dB (dT 43)), scope := dS (dT 43), globals := 3, closure := [], defaults := .none, kwdefaults := .none, doc := .none, pyModule := (.str (Str.ofString "law_in0278_01") 669), annotations := none, code := (.ref 211), closureTuple := .none, builtins := 0 }), #[]⟩) :: []
noncomputable def A0 : List Addr := [2, 3, 39, 41, 42, 44, 45, 46, 48, 49, 51, 52, 53, 55, 56, 58, 59, 60, 62, 63, 65, 66, 67, 68, 69, 70, 71, 77, 78, 79, 81, 82, 84, 85, 87, 91, 93, 94, 96, 97, 98, 100, 101, 103, 104, 105, 107, 108, 110, 111, 112, 114, 115, 117, 118, 119, 120, 121, 122, 123, 124, 125, 126, 127, 128, 129, 130, 131, 132, 133, 134, 135, 136, 137, 138, 139, 140, 141, 142, 143, 144, 145, 146, 147, 148, 149, 150, 151, 152, 154, 155, 157, 158, 159, 161, 162, 164, 165, 166, 168, 169, 171, 172, 173, 175, 176, 178, 179, 180, 182, 183, 185, 186, 187, 189, 190, 192, 193, 194, 196, 197, 199, 200, 201, 203, 204, 206, 207, 208, 211, 212]
theorem A0_eq : ∀ P, A0 = (K0 P).map (·.1) := fun P => by kernel_rfl
noncomputable def H0 : Hook := kHook K0 A0 A0_eq
end Mine

end
section
open PySem PySem.W PySem.Calls PyProof.Rows
set_option maxRecDepth 100000
namespace Mine
noncomputable def q1 : Program := { PySem.Challenge.pw_in0278_01 with main := { PySem.Challenge.pw_in0278_01.main with body := PySem.Challenge.pw_in0278_01.main.body.drop 43 } }
noncomputable def loose1 : List Str := (["Entry", "_twin_re_1", "translate", "_special_chars_map", "escape", "_translate", "_join_translated_parts", "S_IFMT", "S_IFDIR", "S_IFCHR", "S_IFBLK", "S_IFREG", "S_IFIFO", "S_IFLNK", "S_IFSOCK", "S_ISUID",
  "S_ISGID", "S_ISVTX", "S_IRUSR", "S_IWUSR", "S_IXUSR", "S_IRGRP", "S_IWGRP", "S_IXGRP", "S_IROTH", "S_IWOTH", "S_IXOTH", "_filemode_table", "filemode", "_sre", "_law_triples", "_law_row", "_law_agent", "_law_takes", "_law_record", "_law_book", "_law_back"] : List String).map Str.ofString
noncomputable def N1 : Nat := 6000
noncomputable def X1 (s : Shared) : Bool := xlAt q1 [] s && recOk (RowW.records PySem.Challenge.rw_in0278_01.row.toRowW) s
noncomputable abbrev w2 (w : World) (a b : Bool) : World := (w.withFollow "special-get-raises" b).withFollow "comprehension-iter-twice" a
noncomputable abbrev pG : Program := PySem.Challenge.rw_in0278_01.row.prog
/-! the states between groups of statements of the top, as they stand -/
noncomputable def life0 : Life := {}
noncomputable def ob0 (P : Params) : Obj := ⟨(.type "dict"), none, (.dict #[⟨PyData.keyHash P (Str.ofString "__name__"), .str (Str.ofString "__name__") 1, (.str (Str.ofString "builtins") 160)⟩, ⟨PyData.keyHash P (Str.ofString "__doc__"), .str (Str.ofString "__doc__") 2, (.builtin "builtins.__doc__:str#opaque")⟩, ⟨PyData.keyHash P (Str.ofString "__package__"), .str (Str.ofString "__package__") 3, (.builtin "builtins.__package__:str#opaque")⟩, ⟨PyData.keyHash P (Str.ofString "__loader__"), .str (Str.ofString "__loader__") 4, (.builtin "builtins.__loader__:shared#opaque")⟩, ⟨PyData.keyHash P (Str.ofString "__spec__"), .str (Str.ofString "__spec__") 5, (.builtin "builtins.__spec__#opaque")⟩, ⟨PyData.keyHash P (Str.ofString "__build_class__"), .str (Str.ofString "__build_class__") 6, (.builtin "__build_class__")⟩, ⟨PyData.keyHash P (Str.ofString "__\x69mport__"), .str (Str.ofString "__\x69mport__") 7, (.builtin "__\x69mport__")⟩, ⟨PyData.keyHash P (Str.ofString "abs"), .str (Str.ofString "abs") 8, (.builtin "abs")⟩, ⟨PyData.keyHash P (Str.ofString "all"), .str (Str.ofString "all") 9, (.builtin "all")⟩, ⟨PyData.keyHash P (Str.ofString "any"), .str (Str.ofString "any") 10, (.builtin "any")⟩, ⟨PyData.keyHash P (Str.ofString "ascii"), .str (Str.ofString "ascii") 11, (.builtin "ascii")⟩, ⟨PyData.keyHash P (Str.ofString "bin"), .str (Str.ofString "bin") 12, (.builtin "bin")⟩, ⟨PyData.keyHash P (Str.ofString "breakpoint"), .str (Str.ofString "breakpoint") 13, (.builtin "breakpoint")⟩, ⟨PyData.keyHash P (Str.ofString "callable"), .str (Str.ofString "callable") 14, (.builtin "callable")⟩, ⟨PyData.keyHash P (Str.ofString "chr"), .str (Str.ofString "chr") 15, (.builtin "chr")⟩, ⟨PyData.keyHash P (Str.ofString "compile"), .str (Str.ofString "compile") 16, (.builtin "compile")⟩, ⟨PyData.keyHash P (Str.ofString "delattr"), .str (Str.ofString "delattr") 17, (.builtin "delattr")⟩, ⟨PyData.keyHash P (Str.ofString "dir"), .str (Str.ofString "dir") 18, (.builtin "dir")⟩, ⟨PyData.keyHash P (Str.ofString "divmod"), .str (Str.ofString "divmod") 19, (.builtin "divmod")⟩, ⟨PyData.keyHash P (Str.ofString "eval"), .str (Str.ofString "eval") 20, (.builtin "eval")⟩, ⟨PyData.keyHash P (Str.ofString "exec"), .str (Str.ofString "exec") 21, (.builtin "exec")⟩, ⟨PyData.keyHash P (Str.ofString "format"), .str (Str.ofString "format") 22, (.builtin "format")⟩, ⟨PyData.keyHash P (Str.ofString "getattr"), .str (Str.ofString "getattr") 23, (.builtin "getattr")⟩, ⟨PyData.keyHash P (Str.ofString "globals"), .str (Str.ofString "globals") 24, (.builtin "globals")⟩, ⟨PyData.keyHash P (Str.ofString "hasattr"), .str (Str.ofString "hasattr") 25, (.builtin "hasattr")⟩, ⟨PyData.keyHash P (Str.ofString "hash"), .str (Str.ofString "hash") 26, (.builtin "hash")⟩, ⟨PyData.keyHash P (Str.ofString "hex"), .str (Str.ofString "hex") 27, (.builtin "hex")⟩, ⟨PyData.keyHash P (Str.ofString "id"), .str (Str.ofString "id") 28, (.builtin "id")⟩, ⟨PyData.keyHash P (Str.ofString "input"), .str (Str.ofString "input") 29, (.builtin "input")⟩, ⟨PyData.keyHash P (Str.ofString "isinstance"), .str (Str.ofString "isinstance") 30, (.builtin "isinstance")⟩, ⟨PyData.keyHash P (Str.ofString "issubclass"), .str (Str.ofString "issubclass") 31, (.builtin "issubclass")⟩, ⟨PyData.keyHash P (Str.ofString "iter"), .str (Str.ofString "iter") 32, (.builtin "iter")⟩, ⟨PyData.keyHash P (Str.ofString "aiter"), .str (Str.ofString "aiter") 33, (.builtin "aiter")⟩, ⟨PyData.keyHash P (Str.ofString "len"), .str (Str.ofString "len") 34, (.builtin "len")⟩, ⟨PyData.keyHash P (Str.ofString "locals"), .str (Str.ofString "locals") 35, (.builtin "locals")⟩, ⟨PyData.keyHash P (Str.ofString "max"), .str (Str.ofString "max") 36, (.builtin "max")⟩, ⟨PyData.keyHash P (Str.ofString "min"), .str (Str.ofString "min") 37, (.builtin "min")⟩, ⟨PyData.keyHash P (Str.ofString "next"), .str (Str.ofString "next") 38, (.builtin "next")⟩, ⟨PyData.keyHash P (Str.ofString "anext"), .str (Str.ofString "anext") 39, (.builtin "anext")⟩, ⟨PyData.keyHash P (Str.ofString "oct"), .str (Str.ofString "oct") 40, (.builtin "oct")⟩, ⟨PyData.keyHash P (Str.ofString "ord"), .str (Str.ofString "ord") 41, (.builtin "ord")⟩, ⟨PyData.keyHash P (Str.ofString "pow"), .str (Str.ofString "pow") 42, (.builtin "pow")⟩, ⟨PyData.keyHash P (Str.ofString "print"), .str (Str.ofString "print") 43, (.builtin "print")⟩, ⟨PyData.keyHash P (Str.ofString "repr"), .str (Str.ofString "repr") 44, (.builtin "repr")⟩, ⟨PyData.keyHash P (Str.ofString "round"), .str (Str.ofString "round") 45, (.builtin "round")⟩, ⟨PyData.keyHash P (Str.ofString "setattr"), .str (Str.ofString "setattr") 46, (.builtin "setattr")⟩, ⟨PyData.keyHash P (Str.ofString "sorted"), .str (Str.ofString "sorted") 47, (.builtin "sorted")⟩, ⟨PyData.keyHash P (Str.ofString "sum"), .str (Str.ofString "sum") 48, (.builtin "sum")⟩, ⟨PyData.keyHash P (Str.ofString "vars"), .str (Str.ofString "vars") 49, (.builtin "vars")⟩, ⟨PyData.keyHash P (Str.ofString "None"), .str (Str.ofString "None") 50, .none⟩, ⟨PyData.keyHash P (Str.ofString "Ellipsis"), .str (Str.ofString "Ellipsis") 51, .ellipsis⟩, ⟨PyData.keyHash P (Str.ofString "NotImplemented"), .str (Str.ofString "NotImplemented") 52, .notImplemented⟩, ⟨PyData.keyHash P (Str.ofString "False"), .str (Str.ofString "False") 53, (.bool false)⟩, ⟨PyData.keyHash P (Str.ofString "True"), .str (Str.ofString "True") 54, (.bool true)⟩, ⟨PyData.keyHash P (Str.ofString "bool"), .str (Str.ofString "bool") 55, (.type "bool")⟩, ⟨PyData.keyHash P (Str.ofString "memoryview"), .str (Str.ofString "memoryview") 56, (.type "memoryview")⟩, ⟨PyData.keyHash P (Str.ofString "bytearray"), .str (Str.ofString "bytearray") 57, (.type "bytearray")⟩, ⟨PyData.keyHash P (Str.ofString "bytes"), .str (Str.ofString "bytes") 58, (.type "bytes")⟩, ⟨PyData.keyHash P (Str.ofString "classmethod"), .str (Str.ofString "classmethod") 59, (.type "classmethod")⟩, ⟨PyData.keyHash P (Str.ofString "complex"), .str (Str.ofString "complex") 60, (.type "complex")⟩, ⟨PyData.keyHash P (Str.ofString "dict"), .str (Str.ofString "dict") 61, (.type "dict")⟩, ⟨PyData.keyHash P (Str.ofString "enumerate"), .str (Str.ofString "enumerate") 62, (.type "enumerate")⟩, ⟨PyData.keyHash P (Str.ofString "filter"), .str (Str.ofString "filter") 63, (.type "filter")⟩, ⟨PyData.keyHash P (Str.ofString "float"), .str (Str.ofString "float") 64, (.type "float")⟩, ⟨PyData.keyHash P (Str.ofString "frozenset"), .str (Str.ofString "frozenset") 65, (.type "frozenset")⟩, ⟨PyData.keyHash P (Str.ofString "property"), .str (Str.ofString "property") 66, (.type "property")⟩, ⟨PyData.keyHash P (Str.ofString "int"), .str (Str.ofString "int") 67, (.type "int")⟩, ⟨PyData.keyHash P (Str.ofString "list"), .str (Str.ofString "list") 68, (.type "list")⟩, ⟨PyData.keyHash P (Str.ofString "map"), .str (Str.ofString "map") 69, (.type "map")⟩, ⟨PyData.keyHash P (Str.ofString "object"), .str (Str.ofString "object") 70, (.type "object")⟩, ⟨PyData.keyHash P (Str.ofString "range"), .str (Str.ofString "range") 71, (.type "range")⟩, ⟨PyData.keyHash P (Str.ofString "reversed"), .str (Str.ofString "reversed") 72, (.type "reversed")⟩, ⟨PyData.keyHash P (Str.ofString "set"), .str (Str.ofString "set") 73, (.type "set")⟩, ⟨PyData.keyHash P (Str.ofString "slice"), .str (Str.ofString "slice") 74, (.type "slice")⟩, ⟨PyData.keyHash P (Str.ofString "staticmethod"), .str (Str.ofString "staticmethod") 75, (.type "staticmethod")⟩, ⟨PyData.keyHash P (Str.ofString "str"), .str (Str.ofString "str") 76, (.type "str")⟩, ⟨PyData.keyHash P (Str.ofString "super"), .str (Str.ofString "super") 77, (.type "super")⟩, ⟨PyData.keyHash P (Str.ofString "tuple"), .str (Str.ofString "tuple") 78, (.type "tuple")⟩, ⟨PyData.keyHash P (Str.ofString "type"), .str (Str.ofString "type") 79, (.type "type")⟩, ⟨PyData.keyHash P (Str.ofString "zip"), .str (Str.ofString "zip") 80, (.type "zip")⟩, ⟨PyData.keyHash P (Str.ofString "__debug__"), .str (Str.ofString "__debug__") 81, (.bool true)⟩, ⟨PyData.keyHash P (Str.ofString "BaseException"), .str (Str.ofString "BaseException") 82, (.type "BaseException")⟩, ⟨PyData.keyHash P (Str.ofString "BaseExceptionGroup"), .str (Str.ofString "BaseExceptionGroup") 83, (.type "BaseExceptionGroup")⟩, ⟨PyData.keyHash P (Str.ofString "Exception"), .str (Str.ofString "Exception") 84, (.type "Exception")⟩, ⟨PyData.keyHash P (Str.ofString "GeneratorExit"), .str (Str.ofString "GeneratorExit") 85, (.type "GeneratorExit")⟩, ⟨PyData.keyHash P (Str.ofString "KeyboardInterrupt"), .str (Str.ofString "KeyboardInterrupt") 86, (.type "KeyboardInterrupt")⟩, ⟨PyData.keyHash P (Str.ofString "SystemExit"), .str (Str.ofString "SystemExit") 87, (.type "SystemExit")⟩, ⟨PyData.keyHash P (Str.ofString "ArithmeticError"), .str (Str.ofString "ArithmeticError") 88, (.type "ArithmeticError")⟩, ⟨PyData.keyHash P (Str.ofString "AssertionError"), .str (Str.ofString "AssertionError") 89, (.type "AssertionError")⟩, ⟨PyData.keyHash P (Str.ofString "AttributeError"), .str (Str.ofString "AttributeError") 90, (.type "AttributeError")⟩, ⟨PyData.keyHash P (Str.ofString "BufferError"), .str (Str.ofString "BufferError") 91, (.type "BufferError")⟩, ⟨PyData.keyHash P (Str.ofString "EOFError"), .str (Str.ofString "EOFError") 92, (.type "EOFError")⟩, ⟨PyData.keyHash P (Str.ofString "ImportError"), .str (Str.ofString "ImportError") 93, (.type "ImportError")⟩, ⟨PyData.keyHash P (Str.ofString "LookupError"), .str (Str.ofString "LookupError") 94, (.type "LookupError")⟩, ⟨PyData.keyHash P (Str.ofString "MemoryError"), .str (Str.ofString "MemoryError") 95, (.type "MemoryError")⟩, ⟨PyData.keyHash P (Str.ofString "NameError"), .str (Str.ofString "NameError") 96, (.type "NameError")⟩, ⟨PyData.keyHash P (Str.ofString "OSError"), .str (Str.ofString "OSError") 97, (.type "OSError")⟩, ⟨PyData.keyHash P (Str.ofString "ReferenceError"), .str (Str.ofString "ReferenceError") 98, (.type "ReferenceError")⟩, ⟨PyData.keyHash P (Str.ofString "RuntimeError"), .str (Str.ofString "RuntimeError") 99, (.type "RuntimeError")⟩, ⟨PyData.keyHash P (Str.ofString "StopAsyncIteration"), .str (Str.ofString "StopAsyncIteration") 100, (.type "StopAsyncIteration")⟩, ⟨PyData.keyHash P (Str.ofString "StopIteration"), .str (Str.ofString "StopIteration") 101, (.type "StopIteration")⟩, ⟨PyData.keyHash P (Str.ofString "SyntaxError"), .str (Str.ofString "SyntaxError") 102, (.type "SyntaxError")⟩, ⟨PyData.keyHash P (Str.ofString "SystemError"), .str (Str.ofString "SystemError") 103, (.type "SystemError")⟩, ⟨PyData.keyHash P (Str.ofString "TypeError"), .str (Str.ofString "TypeError") 104, (.type "TypeError")⟩, ⟨PyData.keyHash P (Str.ofString "ValueError"), .str (Str.ofString "ValueError") 105, (.type "ValueError")⟩, ⟨PyData.keyHash P (Str.ofString "Warning"), .str (Str.ofString "Warning") 106, (.type "Warning")⟩, ⟨PyData.keyHash P (Str.ofString "FloatingPointError"), .str (Str.ofString "FloatingPointError") 107, (.type "FloatingPointError")⟩, ⟨PyData.keyHash P (Str.ofString "OverflowError"), .str (Str.ofString "OverflowError") 108, (.type "OverflowError")⟩, ⟨PyData.keyHash P (Str.ofString "ZeroDivisionError"), .str (Str.ofString "ZeroDivisionError") 109, (.type "ZeroDivisionError")⟩, ⟨PyData.keyHash P (Str.ofString "BytesWarning"), .str (Str.ofString "BytesWarning") 110, (.type "BytesWarning")⟩, ⟨PyData.keyHash P (Str.ofString "DeprecationWarning"), .str (Str.ofString "DeprecationWarning") 111, (.type "DeprecationWarning")⟩, ⟨PyData.keyHash P (Str.ofString "EncodingWarning"), .str (Str.ofString "EncodingWarning") 112, (.type "EncodingWarning")⟩, ⟨PyData.keyHash P (Str.ofString "FutureWarning"), .str (Str.ofString "FutureWarning") 113, (.type "FutureWarning")⟩, ⟨PyData.keyHash P (Str.ofString "ImportWarning"), .str (Str.ofString "ImportWarning") 114, (.type "ImportWarning")⟩, ⟨PyData.keyHash P (Str.ofString "PendingDeprecationWarning"), .str (Str.ofString "PendingDeprecationWarning") 115, (.type "PendingDeprecationWarning")⟩, ⟨PyData.keyHash P (Str.ofString "ResourceWarning"), .str (Str.ofString "ResourceWarning") 116, (.type "ResourceWarning")⟩, ⟨PyData.keyHash P (Str.ofString "RuntimeWarning"), .str (Str.ofString "RuntimeWarning") 117, (.type "RuntimeWarning")⟩, ⟨PyData.keyHash P (Str.ofString "SyntaxWarning"), .str (Str.ofString "SyntaxWarning") 118, (.type "SyntaxWarning")⟩, ⟨PyData.keyHash P (Str.ofString "UnicodeWarning"), .str (Str.ofString "UnicodeWarning") 119, (.type "UnicodeWarning")⟩, ⟨PyData.keyHash P (Str.ofString "UserWarning"), .str (Str.ofString "UserWarning") 120, (.type "UserWarning")⟩, ⟨PyData.keyHash P (Str.ofString "BlockingIOError"), .str (Str.ofString "BlockingIOError") 121, (.type "BlockingIOError")⟩, ⟨PyData.keyHash P (Str.ofString "ChildProcessError"), .str (Str.ofString "ChildProcessError") 122, (.type "ChildProcessError")⟩, ⟨PyData.keyHash P (Str.ofString "ConnectionError"), .str (Str.ofString "ConnectionError") 123, (.type "ConnectionError")⟩, ⟨PyData.keyHash P (Str.ofString "FileExistsError"), .str (Str.ofString "FileExistsError") 124, (.type "FileExistsError")⟩, ⟨PyData.keyHash P (Str.ofString "FileNotFoundError"), .str (Str.ofString "FileNotFoundError") 125, (.type "FileNotFoundError")⟩, ⟨PyData.keyHash P (Str.ofString "InterruptedError"), .str (Str.ofString "InterruptedError") 126, (.type "InterruptedError")⟩, ⟨PyData.keyHash P (Str.ofString "IsADirectoryError"), .str (Str.ofString "IsADirectoryError") 127, (.type "IsADirectoryError")⟩, ⟨PyData.keyHash P (Str.ofString "NotADirectoryError"), .str (Str.ofString "NotADirectoryError") 128, (.type "NotADirectoryError")⟩, ⟨PyData.keyHash P (Str.ofString "PermissionError"), .str (Str.ofString "PermissionError") 129, (.type "PermissionError")⟩, ⟨PyData.keyHash P (Str.ofString "ProcessLookupError"), .str (Str.ofString "ProcessLookupError") 130, (.type "ProcessLookupError")⟩, ⟨PyData.keyHash P (Str.ofString "TimeoutError"), .str (Str.ofString "TimeoutError") 131, (.type "TimeoutError")⟩, ⟨PyData.keyHash P (Str.ofString "IndentationError"), .str (Str.ofString "IndentationError") 132, (.type "IndentationError")⟩, ⟨PyData.keyHash P (Str.ofString "_IncompleteInputError"), .str (Str.ofString "_IncompleteInputError") 133, (.type "_IncompleteInputError")⟩, ⟨PyData.keyHash P (Str.ofString "IndexError"), .str (Str.ofString "IndexError") 134, (.type "IndexError")⟩, ⟨PyData.keyHash P (Str.ofString "KeyError"), .str (Str.ofString "KeyError") 135, (.type "KeyError")⟩, ⟨PyData.keyHash P (Str.ofString "ModuleNotFoundError"), .str (Str.ofString "ModuleNotFoundError") 136, (.type "ModuleNotFoundError")⟩, ⟨PyData.keyHash P (Str.ofString "NotImplementedError"), .str (Str.ofString "NotImplementedError") 137, (.type "NotImplementedError")⟩, ⟨PyData.keyHash P (Str.ofString "PythonFinalizationError"), .str (Str.ofString "PythonFinalizationError") 138, (.type "PythonFinalizationError")⟩, ⟨PyData.keyHash P (Str.ofString "RecursionError"), .str (Str.ofString "RecursionError") 139, (.type "RecursionError")⟩, ⟨PyData.keyHash P (Str.ofString "UnboundLocalError"), .str (Str.ofString "UnboundLocalError") 140, (.type "UnboundLocalError")⟩, ⟨PyData.keyHash P (Str.ofString "UnicodeError"), .str (Str.ofString "UnicodeError") 141, (.type "UnicodeError")⟩, ⟨PyData.keyHash P (Str.ofString "BrokenPipeError"), .str (Str.ofString "BrokenPipeError") 142, (.type "BrokenPipeError")⟩, ⟨PyData.keyHash P (Str.ofString "ConnectionAbortedError"), .str (Str.ofString "ConnectionAbortedError") 143, (.type "ConnectionAbortedError")⟩, ⟨PyData.keyHash P (Str.ofString "ConnectionRefusedError"), .str (Str.ofString "ConnectionRefusedError") 144, (.type "ConnectionRefusedError")⟩, ⟨PyData.keyHash P (Str.ofString "ConnectionResetError"), .str (Str.ofString "ConnectionResetError") 145, (.type "ConnectionResetError")⟩, ⟨PyData.keyHash P (Str.ofString "TabError"), .str (Str.ofString "TabError") 146, (.type "TabError")⟩, ⟨PyData.keyHash P (Str.ofString "UnicodeDecodeError"), .str (Str.ofString "UnicodeDecodeError") 147, (.type "UnicodeDecodeError")⟩, ⟨PyData.keyHash P (Str.ofString "UnicodeEncodeError"), .str (Str.ofString "UnicodeEncodeError") 148, (.type "UnicodeEncodeError")⟩, ⟨PyData.keyHash P (Str.ofString "UnicodeTranslateError"), .str (Str.ofString "UnicodeTranslateError") 149, (.type "UnicodeTranslateError")⟩, ⟨PyData.keyHash P (Str.ofString "ExceptionGroup"), .str (Str.ofString "ExceptionGroup") 150, (.type "ExceptionGroup")⟩, ⟨PyData.keyHash P (Str.ofString "EnvironmentError"), .str (Str.ofString "EnvironmentError") 151, (.type "OSError")⟩, ⟨PyData.keyHash P (Str.ofString "IOError"), .str (Str.ofString "IOError") 152, (.type "OSError")⟩, ⟨PyData.keyHash P (Str.ofString "open"), .str (Str.ofString "open") 153, (.builtin "open")⟩, ⟨PyData.keyHash P (Str.ofString "quit"), .str (Str.ofString "quit") 154, (.builtin "builtins.quit#opaque")⟩, ⟨PyData.keyHash P (Str.ofString "exit"), .str (Str.ofString "exit") 155, (.builtin "builtins.exit#opaque")⟩, ⟨PyData.keyHash P (Str.ofString "copyright"), .str (Str.ofString "copyright") 156, (.builtin "builtins.copyright#opaque")⟩, ⟨PyData.keyHash P (Str.ofString "credits"), .str (Str.ofString "credits") 157, (.builtin "builtins.credits#opaque")⟩, ⟨PyData.keyHash P (Str.ofString "license"), .str (Str.ofString "license") 158, (.builtin "builtins.license#opaque")⟩, ⟨PyData.keyHash P (Str.ofString "help"), .str (Str.ofString "help") 159, (.builtin "builtins.help#opaque")⟩] 159), #[]⟩
noncomputable def ob1 (P : Params) : Obj := ⟨(.type "dict"), none, (.dict #[⟨PyData.keyHash P (Str.ofString "builtins"), .str (Str.ofString "builtins") 162, (.ref 4)⟩, ⟨PyData.keyHash P (Str.ofString "__main__"), .str (Str.ofString "__main__") 163, (.ref 5)⟩, ⟨PyData.keyHash P (Str.ofString "_sre"), .str (Str.ofString "_sre") 244, (.ref 12)⟩] 3), #[]⟩
noncomputable def ob2 (P : Params) : Obj := ⟨.none, none, (.dict #[⟨PyData.keyHash P (Str.ofString "\x69mport.loaded._sre"), .str (Str.ofString "\x69mport.loaded._sre") 183, (.bool true)⟩, ⟨PyData.keyHash P (Str.ofString "class._frozen_\x69mportlib.BuiltinImporter"), .str (Str.ofString "class._frozen_\x69mportlib.BuiltinImporter") 185, (.ref 14)⟩, ⟨PyData.keyHash P (Str.ofString "watched.\x69mport"), .str (Str.ofString "watched.\x69mport") 206, (.ref 18)⟩, ⟨PyData.keyHash P (Str.ofString "class._frozen_\x69mportlib.ModuleSpec"), .str (Str.ofString "class._frozen_\x69mportlib.ModuleSpec") 216, (.ref 22)⟩, ⟨PyData.keyHash P (Str.ofString "sys.modules.booked-epoch"), .str (Str.ofString "sys.modules.booked-epoch") 245, (.int (3) 0)⟩, ⟨PyData.keyHash P (Str.ofString "\x69mport.later-laid._sre"), .str (Str.ofString "\x69mport.later-laid._sre") 270, (.bool true)⟩, ⟨PyData.keyHash P (Str.ofString "watched.library"), .str (Str.ofString "watched.library") 272, (.ref 27)⟩, ⟨PyData.keyHash P (Str.ofString "watched.library-objects"), .str (Str.ofString "watched.library-objects") 0, (.str (Str.ofString "\x0c") 0)⟩, ⟨PyData.keyHash P (Str.ofString "watched.library-deep._sre"), .str (Str.ofString "watched.library-deep._sre") 273, (.str (Str.ofString "\x04\x00\x00\x0b\x04\x00\x00\x0b\x04\x00\x00\x03\x04\x00\x00\x0b\x08\x04dict\x02") 0)⟩] 9), #[]⟩
noncomputable def ob3 (P : Params) : Obj := ⟨(.type "dict"), none, (.dict #[⟨PyData.keyHash P (Str.ofString "__name__"), .str (Str.ofString "__name__") 165, (.str (Str.ofString "__main__") 164)⟩, ⟨PyData.keyHash P (Str.ofString "__doc__"), .str (Str.ofString "__doc__") 166, .none⟩, ⟨PyData.keyHash P (Str.ofString "__package__"), .str (Str.ofString "__package__") 167, .none⟩, ⟨PyData.keyHash P (Str.ofString "__loader__"), .str (Str.ofString "__loader__") 168, (.builtin "__main__.__loader__#opaque")⟩, ⟨PyData.keyHash P (Str.ofString "__spec__"), .str (Str.ofString "__spec__") 169, .none⟩, ⟨PyData.keyHash P (Str.ofString "__annotations__"), .str (Str.ofString "__annotations__") 170, (.ref 6)⟩, ⟨PyData.keyHash P (Str.ofString "__builtins__"), .str (Str.ofString "__builtins__") 171, (.ref 4)⟩, ⟨PyData.keyHash P (Str.ofString "__file__"), .str (Str.ofString "__file__") 173, (.str (Str.ofString "/claim/cut.py") 172)⟩, ⟨PyData.keyHash P (Str.ofString "__cached__"), .str (Str.ofString "__cached__") 174, .none⟩, ⟨PyData.keyHash P (Str.ofString "_sre"), .str (Str.ofString "_sre") 275, (.ref 12)⟩] 10), #[]⟩
noncomputable def ob4 : Obj := ⟨(.type "module"), (some 0), .plain, #[]⟩
noncomputable def ob5 : Obj := ⟨(.type "module"), (some 3), .plain, #[]⟩
noncomputable def ob6 : Obj := ⟨(.type "dict"), none, (.dict #[] 0), #[]⟩
noncomputable def ob7 : Obj := ⟨(.type "tuple"), none, (.seq #[] 0), #[]⟩
noncomputable def ob8 : Obj := ⟨.none, none, (.fields #[]), #[]⟩
noncomputable def ob9 : Obj := ⟨(.type "code"), none, (.fields #[(.str (Str.ofString "<module>") 176), (.str (Str.ofString "<module>") 177), (.str (Str.ofString "/claim/cut.py") 178), (.int (1) 0), (.int (0) 0), (.int (0) 0), (.int (0) 0), (.int (0) 0), (.ref 7), (.bool false), (.int (175) 0), (.ref 8), .none, .none, .none, .none, (.int (179) 0), (.int (1) 0), (.str (Str.ofString "/claim/cut.py") 180)]), #[]⟩
noncomputable def ob10 : Obj := ⟨(.type "frame"), none, .plain, #[(some (.ref 9)), (some (.ref 3)), (some (.ref 3)), none, (some (.str (Str.ofString "__main__") 164)), none, (some (.ref 0))]⟩
noncomputable def ob11 (P : Params) : Obj := ⟨(.type "dict"), none, (.dict #[⟨PyData.keyHash P (Str.ofString "__name__"), .str (Str.ofString "__name__") 247, (.str (Str.ofString "_sre") 246)⟩, ⟨PyData.keyHash P (Str.ofString "__doc__"), .str (Str.ofString "__doc__") 248, .none⟩, ⟨PyData.keyHash P (Str.ofString "__package__"), .str (Str.ofString "__package__") 250, (.str (Str.ofString "") 249)⟩, ⟨PyData.keyHash P (Str.ofString "__loader__"), .str (Str.ofString "__loader__") 251, (.builtin "off-the-table:_sre.__loader__:shared#opaque")⟩, ⟨PyData.keyHash P (Str.ofString "__spec__"), .str (Str.ofString "__spec__") 252, (.builtin "off-the-table:_sre.__spec__:shared#opaque")⟩, ⟨PyData.keyHash P (Str.ofString "compile"), .str (Str.ofString "compile") 253, (.builtin "_sre.compile")⟩, ⟨PyData.keyHash P (Str.ofString "template"), .str (Str.ofString "template") 254, (.builtin "off-the-table:_sre.template:shared#opaque")⟩, ⟨PyData.keyHash P (Str.ofString "getcodesize"), .str (Str.ofString "getcodesize") 255, (.builtin "off-the-table:_sre.getcodesize:shared#opaque")⟩, ⟨PyData.keyHash P (Str.ofString "ascii_iscased"), .str (Str.ofString "ascii_iscased") 256, (.builtin "off-the-table:_sre.ascii_iscased:shared#opaque")⟩, ⟨PyData.keyHash P (Str.ofString "unicode_iscased"), .str (Str.ofString "unicode_iscased") 257, (.builtin "off-the-table:_sre.unicode_iscased:shared#opaque")⟩, ⟨PyData.keyHash P (Str.ofString "ascii_tolower"), .str (Str.ofString "ascii_tolower") 258, (.builtin "off-the-table:_sre.ascii_tolower:shared#opaque")⟩, ⟨PyData.keyHash P (Str.ofString "unicode_tolower"), .str (Str.ofString "unicode_tolower") 259, (.builtin "off-the-table:_sre.unicode_tolower:shared#opaque")⟩, ⟨PyData.keyHash P (Str.ofString "MAGIC"), .str (Str.ofString "MAGIC") 261, (.int (20230612) 260)⟩, ⟨PyData.keyHash P (Str.ofString "CODESIZE"), .str (Str.ofString "CODESIZE") 263, (.int (4) 262)⟩, ⟨PyData.keyHash P (Str.ofString "MAXREPEAT"), .str (Str.ofString "MAXREPEAT") 265, (.int (4294967295) 264)⟩, ⟨PyData.keyHash P (Str.ofString "MAXGROUPS"), .str (Str.ofString "MAXGROUPS") 267, (.int (1073741823) 266)⟩, ⟨PyData.keyHash P (Str.ofString "copyright"), .str (Str.ofString "copyright") 269, (.str (Str.ofString " SRE 2.2.2 Copyright (c) 1997-2002 by Secret Labs AB ") 268)⟩] 17), #[]⟩
noncomputable def ob12 : Obj := ⟨(.type "module"), (some 11), .plain, #[]⟩
noncomputable def ob13 (P : Params) : Obj := ⟨(.type "dict"), none, (.dict #[⟨PyData.keyHash P (Str.ofString "__module__"), .str (Str.ofString "__module__") 189, (.str (Str.ofString "_frozen_\x69mportlib") 186)⟩, ⟨PyData.keyHash P (Str.ofString "__firstlineno__"), .str (Str.ofString "__firstlineno__") 190, (.int (971) 187)⟩, ⟨PyData.keyHash P (Str.ofString "__doc__"), .str (Str.ofString "__doc__") 191, (.builtin "_frozen_\x69mportlib.BuiltinImporter.__doc__:str#opaque")⟩, ⟨PyData.keyHash P (Str.ofString "_ORIGIN"), .str (Str.ofString "_ORIGIN") 192, (.str (Str.ofString "built-in") 188)⟩, ⟨PyData.keyHash P (Str.ofString "find_spec"), .str (Str.ofString "find_spec") 193, (.builtin "_frozen_\x69mportlib.BuiltinImporter.find_spec#opaque")⟩, ⟨PyData.keyHash P (Str.ofString "create_module"), .str (Str.ofString "create_module") 194, (.builtin "_frozen_\x69mportlib.BuiltinImporter.create_module#opaque")⟩, ⟨PyData.keyHash P (Str.ofString "exec_module"), .str (Str.ofString "exec_module") 195, (.builtin "_frozen_\x69mportlib.BuiltinImporter.exec_module#opaque")⟩, ⟨PyData.keyHash P (Str.ofString "get_code"), .str (Str.ofString "get_code") 196, (.builtin "_frozen_\x69mportlib.BuiltinImporter.get_code#opaque")⟩, ⟨PyData.keyHash P (Str.ofString "get_source"), .str (Str.ofString "get_source") 197, (.builtin "_frozen_\x69mportlib.BuiltinImporter.get_source#opaque")⟩, ⟨PyData.keyHash P (Str.ofString "is_package"), .str (Str.ofString "is_package") 198, (.builtin "_frozen_\x69mportlib.BuiltinImporter.is_package#opaque")⟩, ⟨PyData.keyHash P (Str.ofString "load_module"), .str (Str.ofString "load_module") 199, (.builtin "_frozen_\x69mportlib.BuiltinImporter.load_module#opaque")⟩, ⟨PyData.keyHash P (Str.ofString "__static_attributes__"), .str (Str.ofString "__static_attributes__") 200, (.ref 15)⟩, ⟨PyData.keyHash P (Str.ofString "__dict__"), .str (Str.ofString "__dict__") 202, (.ref 16)⟩, ⟨PyData.keyHash P (Str.ofString "__weakref__"), .str (Str.ofString "__weakref__") 204, (.ref 17)⟩] 14), #[]⟩
noncomputable def ob14 : Obj := ⟨(.type "type"), none, (.cls { name := (Str.ofString "BuiltinImporter"), bases := [(.type "object")], mro := [(.ref 14), (.type "object")], ns := 13, qualname := (Str.ofString "BuiltinImporter"), hasDict := true, slotNames := [], subclasses := [], abstract := false, collection := none, hasDel := false }), #[]⟩
noncomputable def ob15 : Obj := ⟨(.type "getset_descriptor"), none, (.fields #[(.str (Str.ofString "__dict__") 201), (.ref 14), (.builtin "function.__dict__"), (.builtin "function.__dict__#set")]), #[]⟩
noncomputable def ob16 : Obj := ⟨(.type "getset_descriptor"), none, (.fields #[(.str (Str.ofString "__weakref__") 203), (.ref 14), (.builtin "ExceptionGroup.__weakref__"), .none]), #[]⟩
noncomputable def ob17 : Obj := ⟨.none, none, (.seq #[(.int (13) 0), (.str (⟨#[6, 189, 10, 95, 95, 109, 111, 100, 117, 108, 101, 95, 95, 6, 186, 17, 95, 102, 114, 111, 122, 101, 110, 95, 105, 109, 112, 111, 114, 116, 108, 105, 98, 6, 190, 15, 95, 95, 102, 105, 114, 115, 116, 108, 105, 110, 101, 110, 111, 95, 95, 4, 187, 0, 971, 6, 191, 7, 95, 95, 100, 111, 99, 95, 95, 9, 52, 95, 102, 114, 111, 122, 101, 110, 95, 105, 109, 112, 111, 114, 116, 108, 105, 98, 46, 66, 117, 105, 108, 116, 105, 110, 73, 109, 112, 111, 114, 116, 101, 114, 46, 95, 95, 100, 111, 99, 95, 95, 58, 115, 116, 114, 35, 111, 112, 97, 113, 117, 101, 6, 192, 7, 95, 79, 82, 73, 71, 73, 78, 6, 188, 8, 98, 117, 105, 108, 116, 45, 105, 110, 6, 193, 9, 102, 105, 110, 100, 95, 115, 112, 101, 99, 9, 50, 95, 102, 114, 111, 122, 101, 110, 95, 105, 109, 112, 111, 114, 116, 108, 105, 98, 46, 66, 117, 105, 108, 116, 105, 110, 73, 109, 112, 111, 114, 116, 101, 114, 46, 102, 105, 110, 100, 95, 115, 112, 101, 99, 35, 111, 112, 97, 113, 117, 101, 6, 194, 13, 99, 114, 101, 97, 116, 101, 95, 109, 111, 100, 117, 108, 101, 9, 54, 95, 102, 114, 111, 122, 101, 110, 95, 105, 109, 112, 111, 114, 116, 108, 105, 98, 46, 66, 117, 105, 108, 116, 105, 110, 73, 109, 112, 111, 114, 116, 101, 114, 46, 99, 114, 101, 97, 116, 101, 95, 109, 111, 100, 117, 108, 101, 35, 111, 112, 97, 113, 117, 101, 6, 195, 11, 101, 120, 101, 99, 95, 109, 111, 100, 117, 108, 101, 9, 52, 95, 102, 114, 111, 122, 101, 110, 95, 105, 109, 112, 111, 114, 116, 108, 105, 98, 46, 66, 117, 105, 108, 116, 105, 110, 73, 109, 112, 111, 114, 116, 101, 114, 46, 101, 120, 101, 99, 95, 109, 111, 100, 117, 108, 101, 35, 111, 112, 97, 113, 117, 101, 6, 196, 8, 103, 101, 116, 95, 99, 111, 100, 101, 9, 49, 95, 102, 114, 111, 122, 101, 110, 95, 105, 109, 112, 111, 114, 116, 108, 105, 98, 46, 66, 117, 105, 108, 116, 105, 110, 73, 109, 112, 111, 114, 116, 101, 114, 46, 103, 101, 116, 95, 99, 111, 100, 101, 35, 111, 112, 97, 113, 117, 101, 6, 197, 10, 103, 101, 116, 95, 115, 111, 117, 114, 99, 101, 9, 51, 95, 102, 114, 111, 122, 101, 110, 95, 105, 109, 112, 111, 114, 116, 108, 105, 98, 46, 66, 117, 105, 108, 116, 105, 110, 73, 109, 112, 111, 114, 116, 101, 114, 46, 103, 101, 116, 95, 115, 111, 117, 114, 99, 101, 35, 111, 112, 97, 113, 117, 101, 6, 198, 10, 105, 115, 95, 112, 97, 99, 107, 97, 103, 101, 9, 51, 95, 102, 114, 111, 122, 101, 110, 95, 105, 109, 112, 111, 114, 116, 108, 105, 98, 46, 66, 117, 105, 108, 116, 105, 110, 73, 109, 112, 111, 114, 116, 101, 114, 46, 105, 115, 95, 112, 97, 99, 107, 97, 103, 101, 35, 111, 112, 97, 113, 117, 101, 6, 199, 11, 108, 111, 97, 100, 95, 109, 111, 100, 117, 108, 101, 9, 52, 95, 102, 114, 111, 122, 101, 110, 95, 105, 109, 112, 111, 114, 116, 108, 105, 98, 46, 66, 117, 105, 108, 116, 105, 110, 73, 109, 112, 111, 114, 116, 101, 114, 46, 108, 111, 97, 100, 95, 109, 111, 100, 117, 108, 101, 35, 111, 112, 97, 113, 117, 101, 6, 200, 21, 95, 95, 115, 116, 97, 116, 105, 99, 95, 97, 116, 116, 114, 105, 98, 117, 116, 101, 115, 95, 95, 4, 0, 0, 15, 6, 202, 8, 95, 95, 100, 105, 99, 116, 95, 95, 4, 0, 0, 16, 6, 204, 11, 95, 95, 119, 101, 97, 107, 114, 101, 102, 95, 95, 4, 0, 0, 17]⟩ : PySem.Str) 0), (.bool true), (.bool true), (.str (Str.ofString "") 205), (.int (21) 0), (.str (⟨#[6, 227, 10, 95, 95, 109, 111, 100, 117, 108, 101, 95, 95, 6, 217, 17, 95, 102, 114, 111, 122, 101, 110, 95, 105, 109, 112, 111, 114, 116, 108, 105, 98, 6, 228, 15, 95, 95, 102, 105, 114, 115, 116, 108, 105, 110, 101, 110, 111, 95, 95, 4, 218, 0, 562, 6, 229, 7, 95, 95, 100, 111, 99, 95, 95, 9, 47, 95, 102, 114, 111, 122, 101, 110, 95, 105, 109, 112, 111, 114, 116, 108, 105, 98, 46, 77, 111, 100, 117, 108, 101, 83, 112, 101, 99, 46, 95, 95, 100, 111, 99, 95, 95, 58, 115, 116, 114, 35, 111, 112, 97, 113, 117, 101, 6, 230, 8, 95, 95, 105, 110, 105, 116, 95, 95, 9, 44, 95, 102, 114, 111, 122, 101, 110, 95, 105, 109, 112, 111, 114, 116, 108, 105, 98, 46, 77, 111, 100, 117, 108, 101, 83, 112, 101, 99, 46, 95, 95, 105, 110, 105, 116, 95, 95, 35, 111, 112, 97, 113, 117, 101, 6, 231, 8, 95, 95, 114, 101, 112, 114, 95, 95, 9, 44, 95, 102, 114, 111, 122, 101, 110, 95, 105, 109, 112, 111, 114, 116, 108, 105, 98, 46, 77, 111, 100, 117, 108, 101, 83, 112, 101, 99, 46, 95, 95, 114, 101, 112, 114, 95, 95, 35, 111, 112, 97, 113, 117, 101, 6, 232, 6, 95, 95, 101, 113, 95, 95, 9, 42, 95, 102, 114, 111, 122, 101, 110, 95, 105, 109, 112, 111, 114, 116, 108, 105, 98, 46, 77, 111, 100, 117, 108, 101, 83, 112, 101, 99, 46, 95, 95, 101, 113, 95, 95, 35, 111, 112, 97, 113, 117, 101, 6, 233, 6, 99, 97, 99, 104, 101, 100, 9, 42, 95, 102, 114, 111, 122, 101, 110, 95, 105, 109, 112, 111, 114, 116, 108, 105, 98, 46, 77, 111, 100, 117, 108, 101, 83, 112, 101, 99, 46, 99, 97, 99, 104, 101, 100, 35, 111, 112, 97, 113, 117, 101, 6, 234, 6, 112, 97, 114, 101, 110, 116, 9, 42, 95, 102, 114, 111, 122, 101, 110, 95, 105, 109, 112, 111, 114, 116, 108, 105, 98, 46, 77, 111, 100, 117, 108, 101, 83, 112, 101, 99, 46, 112, 97, 114, 101, 110, 116, 35, 111, 112, 97, 113, 117, 101, 6, 235, 12, 104, 97, 115, 95, 108, 111, 99, 97, 116, 105, 111, 110, 9, 48, 95, 102, 114, 111, 122, 101, 110, 95, 105, 109, 112, 111, 114, 116, 108, 105, 98, 46, 77, 111, 100, 117, 108, 101, 83, 112, 101, 99, 46, 104, 97, 115, 95, 108, 111, 99, 97, 116, 105, 111, 110, 35, 111, 112, 97, 113, 117, 101, 6, 236, 21, 95, 95, 115, 116, 97, 116, 105, 99, 95, 97, 116, 116, 114, 105, 98, 117, 116, 101, 115, 95, 95, 4, 0, 0, 23, 6, 238, 8, 95, 95, 100, 105, 99, 116, 95, 95, 4, 0, 0, 24, 6, 240, 11, 95, 95, 119, 101, 97, 107, 114, 101, 102, 95, 95, 4, 0, 0, 25, 6, 241, 8, 95, 95, 104, 97, 115, 104, 95, 95, 0]⟩ : PySem.Str) 0), (.bool true), (.bool true), (.str (Str.ofString "") 242)] 1), #[]⟩
noncomputable def ob18 : Obj := ⟨(.type "list"), none, (.seq #[] 0), #[]⟩
noncomputable def ob19 (P : Params) : Obj := ⟨(.type "dict"), none, (.dict #[⟨PyData.keyHash P (Str.ofString "name"), .str (Str.ofString "name") 208, (.str (Str.ofString "_sre") 207)⟩, ⟨PyData.keyHash P (Str.ofString "loader"), .str (Str.ofString "loader") 209, (.ref 14)⟩, ⟨PyData.keyHash P (Str.ofString "origin"), .str (Str.ofString "origin") 210, (.str (Str.ofString "built-in") 184)⟩, ⟨PyData.keyHash P (Str.ofString "loader_state"), .str (Str.ofString "loader_state") 211, .none⟩, ⟨PyData.keyHash P (Str.ofString "submodule_search_locations"), .str (Str.ofString "submodule_search_locations") 212, .none⟩, ⟨PyData.keyHash P (Str.ofString "_uninitialized_submodules"), .str (Str.ofString "_uninitialized_submodules") 213, (.ref 19)⟩, ⟨PyData.keyHash P (Str.ofString "_set_fileattr"), .str (Str.ofString "_set_fileattr") 214, (.bool false)⟩, ⟨PyData.keyHash P (Str.ofString "_cached"), .str (Str.ofString "_cached") 215, .none⟩, ⟨PyData.keyHash P (Str.ofString "_initializing"), .str (Str.ofString "_initializing") 243, (.bool false)⟩] 9), #[]⟩
noncomputable def ob20 (P : Params) : Obj := ⟨(.type "dict"), none, (.dict #[⟨PyData.keyHash P (Str.ofString "__module__"), .str (Str.ofString "__module__") 227, (.str (Str.ofString "_frozen_\x69mportlib") 217)⟩, ⟨PyData.keyHash P (Str.ofString "__firstlineno__"), .str (Str.ofString "__firstlineno__") 228, (.int (562) 218)⟩, ⟨PyData.keyHash P (Str.ofString "__doc__"), .str (Str.ofString "__doc__") 229, (.builtin "_frozen_\x69mportlib.ModuleSpec.__doc__:str#opaque")⟩, ⟨PyData.keyHash P (Str.ofString "__init__"), .str (Str.ofString "__init__") 230, (.builtin "_frozen_\x69mportlib.ModuleSpec.__init__#opaque")⟩, ⟨PyData.keyHash P (Str.ofString "__repr__"), .str (Str.ofString "__repr__") 231, (.builtin "_frozen_\x69mportlib.ModuleSpec.__repr__#opaque")⟩, ⟨PyData.keyHash P (Str.ofString "__eq__"), .str (Str.ofString "__eq__") 232, (.builtin "_frozen_\x69mportlib.ModuleSpec.__eq__#opaque")⟩, ⟨PyData.keyHash P (Str.ofString "cached"), .str (Str.ofString "cached") 233, (.builtin "_frozen_\x69mportlib.ModuleSpec.cached#opaque")⟩, ⟨PyData.keyHash P (Str.ofString "parent"), .str (Str.ofString "parent") 234, (.builtin "_frozen_\x69mportlib.ModuleSpec.parent#opaque")⟩, ⟨PyData.keyHash P (Str.ofString "has_location"), .str (Str.ofString "has_location") 235, (.builtin "_frozen_\x69mportlib.ModuleSpec.has_location#opaque")⟩, ⟨PyData.keyHash P (Str.ofString "__static_attributes__"), .str (Str.ofString "__static_attributes__") 236, (.ref 23)⟩, ⟨PyData.keyHash P (Str.ofString "__dict__"), .str (Str.ofString "__dict__") 238, (.ref 24)⟩, ⟨PyData.keyHash P (Str.ofString "__weakref__"), .str (Str.ofString "__weakref__") 240, (.ref 25)⟩, ⟨PyData.keyHash P (Str.ofString "__hash__"), .str (Str.ofString "__hash__") 241, .none⟩] 13), #[]⟩
noncomputable def ob21 : Obj := ⟨(.type "type"), none, (.cls { name := (Str.ofString "ModuleSpec"), bases := [(.type "object")], mro := [(.ref 22), (.type "object")], ns := 21, qualname := (Str.ofString "ModuleSpec"), hasDict := true, slotNames := [], subclasses := [], abstract := false, collection := none, hasDel := false }), #[]⟩
noncomputable def ob22 : Obj := ⟨(.type "tuple"), none, (.seq #[(.str (Str.ofString "_cached") 219), (.str (Str.ofString "_set_fileattr") 220), (.str (Str.ofString "_uninitialized_submodules") 221), (.str (Str.ofString "loader") 222), (.str (Str.ofString "loader_state") 223), (.str (Str.ofString "name") 224), (.str (Str.ofString "origin") 225), (.str (Str.ofString "submodule_search_locations") 226)] 0), #[]⟩
noncomputable def ob23 : Obj := ⟨(.type "getset_descriptor"), none, (.fields #[(.str (Str.ofString "__dict__") 237), (.ref 22), (.builtin "function.__dict__"), (.builtin "function.__dict__#set")]), #[]⟩
noncomputable def ob24 : Obj := ⟨(.type "getset_descriptor"), none, (.fields #[(.str (Str.ofString "__weakref__") 239), (.ref 22), (.builtin "ExceptionGroup.__weakref__"), .none]), #[]⟩
noncomputable def ob25 : Obj := ⟨(.ref 22), (some 20), .plain, #[]⟩
noncomputable def ob26 : Obj := ⟨.none, none, (.seq #[(.int (11) 0), (.str (⟨#[6, 247, 8, 95, 95, 110, 97, 109, 101, 95, 95, 6, 246, 4, 95, 115, 114, 101, 6, 248, 7, 95, 95, 100, 111, 99, 95, 95, 0, 6, 250, 11, 95, 95, 112, 97, 99, 107, 97, 103, 101, 95, 95, 6, 249, 0, 6, 251, 10, 95, 95, 108, 111, 97, 100, 101, 114, 95, 95, 4, 0, 0, 14, 6, 252, 8, 95, 95, 115, 112, 101, 99, 95, 95, 4, 0, 0, 26, 6, 253, 7, 99, 111, 109, 112, 105, 108, 101, 9, 12, 95, 115, 114, 101, 46, 99, 111, 109, 112, 105, 108, 101, 6, 254, 8, 116, 101, 109, 112, 108, 97, 116, 101, 9, 13, 95, 115, 114, 101, 46, 116, 101, 109, 112, 108, 97, 116, 101, 6, 255, 11, 103, 101, 116, 99, 111, 100, 101, 115, 105, 122, 101, 9, 16, 95, 115, 114, 101, 46, 103, 101, 116, 99, 111, 100, 101, 115, 105, 122, 101, 6, 256, 13, 97, 115, 99, 105, 105, 95, 105, 115, 99, 97, 115, 101, 100, 9, 18, 95, 115, 114, 101, 46, 97, 115, 99, 105, 105, 95, 105, 115, 99, 97, 115, 101, 100, 6, 257, 15, 117, 110, 105, 99, 111, 100, 101, 95, 105, 115, 99, 97, 115, 101, 100, 9, 20, 95, 115, 114, 101, 46, 117, 110, 105, 99, 111, 100, 101, 95, 105, 115, 99, 97, 115, 101, 100, 6, 258, 13, 97, 115, 99, 105, 105, 95, 116, 111, 108, 111, 119, 101, 114, 9, 18, 95, 115, 114, 101, 46, 97, 115, 99, 105, 105, 95, 116, 111, 108, 111, 119, 101, 114, 6, 259, 15, 117, 110, 105, 99, 111, 100, 101, 95, 116, 111, 108, 111, 119, 101, 114, 9, 20, 95, 115, 114, 101, 46, 117, 110, 105, 99, 111, 100, 101, 95, 116, 111, 108, 111, 119, 101, 114, 6, 261, 5, 77, 65, 71, 73, 67, 4, 260, 0, 20230612, 6, 263, 8, 67, 79, 68, 69, 83, 73, 90, 69, 4, 262, 0, 4, 6, 265, 9, 77, 65, 88, 82, 69, 80, 69, 65, 84, 4, 264, 0, 4294967295, 6, 267, 9, 77, 65, 88, 71, 82, 79, 85, 80, 83, 4, 266, 0, 1073741823, 6, 269, 9, 99, 111, 112, 121, 114, 105, 103, 104, 116, 6, 268, 53, 32, 83, 82, 69, 32, 50, 46, 50, 46, 50, 32, 67, 111, 112, 121, 114, 105, 103, 104, 116, 32, 40, 99, 41, 32, 49, 57, 57, 55, 45, 50, 48, 48, 50, 32, 98, 121, 32, 83, 101, 99, 114, 101, 116, 32, 76, 97, 98, 115, 32, 65, 66, 32]⟩ : PySem.Str) 0), (.bool true), (.bool false), (.str (Str.ofString "_sre") 271)] 0), #[]⟩
noncomputable def hp0 (P : Params) : Heap := ⟨⟨ob0 P :: ob1 P :: ob2 P :: ob3 P :: ob4 :: ob5 :: ob6 :: ob7 :: ob8 :: ob9 :: ob10 :: ob11 P :: ob12 :: ob13 P :: ob14 :: ob7 :: ob15 :: ob16 :: ob17 :: ob18 :: ob19 P :: ob20 P :: ob21 :: ob22 :: ob23 :: ob24 :: ob25 :: ob26 :: []⟩, life0⟩
noncomputable def ob27 : Obj := ⟨(.type "code"), none, (.fields #[(.str (Str.ofString "<module>") 277), (.str (Str.ofString "<module>") 278), (.str (Str.ofString "/claim/cut.py") 279), (.int (1) 0), (.int (0) 0), (.int (0) 0), (.int (0) 0), (.int (0) 0), (.ref 28), (.bool false), (.int (276) 0), (.ref 29), .none, .none, .none, .none, (.int (280) 0), (.int (1) 0), (.str (Str.ofString "/claim/cut.py") 281)]), #[]⟩
noncomputable def ob28 : Obj := ⟨(.type "frame"), none, .plain, #[(some (.ref 30)), (some (.ref 3)), (some (.ref 3)), none, (some (.str (Str.ofString "__main__") 164)), none, (some (.ref 0))]⟩
noncomputable def hpa (P : Params) : Heap := ⟨⟨ob0 P :: ob1 P :: ob2 P :: ob3 P :: ob4 :: ob5 :: ob6 :: ob7 :: ob8 :: ob9 :: ob10 :: ob11 P :: ob12 :: ob13 P :: ob14 :: ob7 :: ob15 :: ob16 :: ob17 :: ob18 :: ob19 P :: ob20 P :: ob21 :: ob22 :: ob23 :: ob24 :: ob25 :: ob26 :: ob7 :: ob8 :: ob27 :: ob28 :: []⟩, life0⟩
noncomputable abbrev hpb (P : Params) : Heap := hpa P
noncomputable def ob29 (P : Params) : Obj := ⟨(.type "dict"), none, (.dict #[⟨PyData.keyHash P (Str.ofString "__name__"), .str (Str.ofString "__name__") 165, (.str (Str.ofString "cpy313.urllib.robotparser") 282)⟩, ⟨PyData.keyHash P (Str.ofString "__doc__"), .str (Str.ofString "__doc__") 166, .none⟩, ⟨PyData.keyHash P (Str.ofString "__package__"), .str (Str.ofString "__package__") 167, .none⟩, ⟨PyData.keyHash P (Str.ofString "__loader__"), .str (Str.ofString "__loader__") 168, (.builtin "__main__.__loader__#opaque")⟩, ⟨PyData.keyHash P (Str.ofString "__spec__"), .str (Str.ofString "__spec__") 169, .none⟩, ⟨PyData.keyHash P (Str.ofString "__annotations__"), .str (Str.ofString "__annotations__") 170, (.ref 6)⟩, ⟨PyData.keyHash P (Str.ofString "__builtins__"), .str (Str.ofString "__builtins__") 171, (.ref 4)⟩, ⟨PyData.keyHash P (Str.ofString "__file__"), .str (Str.ofString "__file__") 173, (.str (Str.ofString "/claim/cut.py") 172)⟩, ⟨PyData.keyHash P (Str.ofString "__cached__"), .str (Str.ofString "__cached__") 174, .none⟩, ⟨PyData.keyHash P (Str.ofString "_sre"), .str (Str.ofString "_sre") 275, (.ref 12)⟩, ⟨PyData.keyHash P (Str.ofString "Entry"), .str (Str.ofString "Entry") 345, (.ref 69)⟩] 11), #[]⟩
noncomputable def ob30 : Obj := ⟨.none, none, (.fields #[(.int (3) 0), (.int (0) 0), (.ref 37)]), #[]⟩
noncomputable def ob31 : Obj := ⟨(.type "builtin_function_or_method"), none, (.fields #[(.builtin "type.__prepare__"), (.type "type")]), #[]⟩
noncomputable def ob32 (P : Params) : Obj := ⟨(.type "dict"), none, (.dict #[⟨PyData.keyHash P (Str.ofString "__module__"), .str (Str.ofString "__module__") 291, (.str (Str.ofString "cpy313.urllib.robotparser") 282)⟩, ⟨PyData.keyHash P (Str.ofString "__qualname__"), .str (Str.ofString "__qualname__") 293, (.str (Str.ofString "Entry") 292)⟩, ⟨PyData.keyHash P (Str.ofString "__firstlineno__"), .str (Str.ofString "__firstlineno__") 295, (.int (3) 294)⟩, ⟨PyData.keyHash P (Str.ofString "__init__"), .str (Str.ofString "__init__") 302, (.ref 45)⟩, ⟨PyData.keyHash P (Str.ofString "__str__"), .str (Str.ofString "__str__") 312, (.ref 52)⟩, ⟨PyData.keyHash P (Str.ofString "applies_to"), .str (Str.ofString "applies_to") 321, (.ref 59)⟩, ⟨PyData.keyHash P (Str.ofString "allowance"), .str (Str.ofString "allowance") 333, (.ref 66)⟩, ⟨PyData.keyHash P (Str.ofString "__static_attributes__"), .str (Str.ofString "__static_attributes__") 338, (.ref 67)⟩] 8), #[]⟩
noncomputable def ob33 : Obj := ⟨.none, none, (.fields #[(.int (5) 0), (.int (4) 0), (.ref 44), (.int (11) 0), (.int (4) 0), (.ref 51), (.int (28) 0), (.int (4) 0), (.ref 58), (.int (39) 0), (.int (4) 0), (.ref 65)]), #[]⟩
noncomputable def ob34 : Obj := ⟨(.type "code"), none, (.fields #[(.str (Str.ofString "Entry") 286), (.str (Str.ofString "Entry") 287), (.str (Str.ofString "/claim/cut.py") 288), (.int (3) 0), (.int (0) 0), (.int (0) 0), (.int (0) 0), (.int (0) 0), (.ref 35), (.bool false), (.int (276) 0), (.ref 36), .none, .none, .none, .none, (.int (289) 0), (.int (3) 0), (.str (Str.ofString "/claim/cut.py") 290)]), #[]⟩
noncomputable def ob35 : Obj := ⟨(.type "frame"), none, .plain, #[(some (.ref 37)), (some (.ref 3)), (some (.ref 34)), none, (some (.str (Str.ofString "cpy313.urllib.robotparser") 282)), none, (some (.ref 0))]⟩
noncomputable def ob36 : Obj := ⟨(.type "tuple"), none, (.seq #[(.str (Str.ofString "self") 299)] 0), #[]⟩
noncomputable def ob37 : Obj := ⟨.none, none, (.func { name := (Str.ofString "__init__"), qualname := (Str.ofString "Entry.__init__"), params := dP (mT 2 0), body := .stmts (dB (mT 2 0)), scope := dS (mT 2 0), globals := 0, closure := [], defaults := .none, kwdefaults := .none, doc := .none, pyModule := .none, annotations := none, code := .none, closureTuple := .none, builtins := 0 }), #[]⟩
noncomputable def ob38 : Obj := ⟨(.type "code"), none, (.fields #[(.str (Str.ofString "__init__") 296), (.str (Str.ofString "Entry.__init__") 297), (.str (Str.ofString "/claim/cut.py") 298), (.int (5) 0), (.int (1) 0), (.int (0) 0), (.int (0) 0), (.int (3) 0), (.ref 39), (.bool true), (.int (276) 0), (.ref 40), .none, (.ref 41), (.ref 42), (.ref 43), (.int (300) 0), (.int (5) 0), (.str (Str.ofString "/claim/cut.py") 301)]), #[]⟩
noncomputable def ob39 : Obj := ⟨(.type "function"), none, (.func { name := (Str.ofString "__init__"), qualname := (Str.ofString "Entry.__init__"), params := dP (mT 2 0), body := .stmts (dB (mT 2 0)), scope := dS (mT 2 0), globals := 3, closure := [], defaults := .none, kwdefaults := .none, doc := .none, pyModule := (.str (Str.ofString "cpy313.urllib.robotparser") 282), annotations := none, code := (.ref 44), closureTuple := .none, builtins := 0 }), #[]⟩
noncomputable def ob40 : Obj := ⟨(.type "tuple"), none, (.seq #[(.str (Str.ofString "self") 306), (.str (Str.ofString "ret") 307), (.str (Str.ofString "agent") 308), (.str (Str.ofString "rate") 309)] 0), #[]⟩
noncomputable def ob41 : Obj := ⟨.none, none, (.func { name := (Str.ofString "__str__"), qualname := (Str.ofString "Entry.__str__"), params := dP (mT 2 1), body := .stmts (dB (mT 2 1)), scope := dS (mT 2 1), globals := 0, closure := [], defaults := .none, kwdefaults := .none, doc := .none, pyModule := .none, annotations := none, code := .none, closureTuple := .none, builtins := 0 }), #[]⟩
noncomputable def ob42 : Obj := ⟨(.type "code"), none, (.fields #[(.str (Str.ofString "__str__") 303), (.str (Str.ofString "Entry.__str__") 304), (.str (Str.ofString "/claim/cut.py") 305), (.int (11) 0), (.int (1) 0), (.int (0) 0), (.int (0) 0), (.int (3) 0), (.ref 46), (.bool true), (.int (276) 0), (.ref 47), .none, (.ref 48), (.ref 49), (.ref 50), (.int (310) 0), (.int (11) 0), (.str (Str.ofString "/claim/cut.py") 311)]), #[]⟩
noncomputable def ob43 : Obj := ⟨(.type "function"), none, (.func { name := (Str.ofString "__str__"), qualname := (Str.ofString "Entry.__str__"), params := dP (mT 2 1), body := .stmts (dB (mT 2 1)), scope := dS (mT 2 1), globals := 3, closure := [], defaults := .none, kwdefaults := .none, doc := .none, pyModule := (.str (Str.ofString "cpy313.urllib.robotparser") 282), annotations := none, code := (.ref 51), closureTuple := .none, builtins := 0 }), #[]⟩
noncomputable def ob44 : Obj := ⟨(.type "tuple"), none, (.seq #[(.str (Str.ofString "self") 316), (.str (Str.ofString "useragent") 317), (.str (Str.ofString "agent") 318)] 0), #[]⟩
noncomputable def ob45 : Obj := ⟨.none, none, (.func { name := (Str.ofString "applies_to"), qualname := (Str.ofString "Entry.applies_to"), params := dP (mT 2 2), body := .stmts (dB (mT 2 2)), scope := dS (mT 2 2), globals := 0, closure := [], defaults := .none, kwdefaults := .none, doc := .none, pyModule := .none, annotations := none, code := .none, closureTuple := .none, builtins := 0 }), #[]⟩
noncomputable def ob46 : Obj := ⟨(.type "code"), none, (.fields #[(.str (Str.ofString "applies_to") 313), (.str (Str.ofString "Entry.applies_to") 314), (.str (Str.ofString "/claim/cut.py") 315), (.int (28) 0), (.int (2) 0), (.int (0) 0), (.int (0) 0), (.int (3) 0), (.ref 53), (.bool true), (.int (276) 0), (.ref 54), .none, (.ref 55), (.ref 56), (.ref 57), (.int (319) 0), (.int (28) 0), (.str (Str.ofString "/claim/cut.py") 320)]), #[]⟩
noncomputable def ob47 : Obj := ⟨(.type "function"), none, (.func { name := (Str.ofString "applies_to"), qualname := (Str.ofString "Entry.applies_to"), params := dP (mT 2 2), body := .stmts (dB (mT 2 2)), scope := dS (mT 2 2), globals := 3, closure := [], defaults := .none, kwdefaults := .none, doc := .none, pyModule := (.str (Str.ofString "cpy313.urllib.robotparser") 282), annotations := none, code := (.ref 58), closureTuple := .none, builtins := 0 }), #[]⟩
noncomputable def ob48 : Obj := ⟨(.type "tuple"), none, (.seq #[(.str (Str.ofString "self") 325), (.str (Str.ofString "filename") 326), (.str (Str.ofString "best_match") 327), (.str (Str.ofString "allowance") 328), (.str (Str.ofString "line") 329), (.str (Str.ofString "m") 330)] 0), #[]⟩
noncomputable def ob49 : Obj := ⟨.none, none, (.func { name := (Str.ofString "allowance"), qualname := (Str.ofString "Entry.allowance"), params := dP (mT 2 3), body := .stmts (dB (mT 2 3)), scope := dS (mT 2 3), globals := 0, closure := [], defaults := .none, kwdefaults := .none, doc := .none, pyModule := .none, annotations := none, code := .none, closureTuple := .none, builtins := 0 }), #[]⟩
noncomputable def ob50 : Obj := ⟨(.type "code"), none, (.fields #[(.str (Str.ofString "allowance") 322), (.str (Str.ofString "Entry.allowance") 323), (.str (Str.ofString "/claim/cut.py") 324), (.int (39) 0), (.int (2) 0), (.int (0) 0), (.int (0) 0), (.int (3) 0), (.ref 60), (.bool true), (.int (276) 0), (.ref 61), .none, (.ref 62), (.ref 63), (.ref 64), (.int (331) 0), (.int (39) 0), (.str (Str.ofString "/claim/cut.py") 332)]), #[]⟩
noncomputable def ob51 : Obj := ⟨(.type "function"), none, (.func { name := (Str.ofString "allowance"), qualname := (Str.ofString "Entry.allowance"), params := dP (mT 2 3), body := .stmts (dB (mT 2 3)), scope := dS (mT 2 3), globals := 3, closure := [], defaults := .none, kwdefaults := .none, doc := .none, pyModule := (.str (Str.ofString "cpy313.urllib.robotparser") 282), annotations := none, code := (.ref 65), closureTuple := .none, builtins := 0 }), #[]⟩
noncomputable def ob52 : Obj := ⟨(.type "tuple"), none, (.seq #[(.str (Str.ofString "delay") 334), (.str (Str.ofString "req_rate") 335), (.str (Str.ofString "rulelines") 336), (.str (Str.ofString "useragents") 337)] 0), #[]⟩
noncomputable def ob53 (P : Params) : Obj := ⟨(.type "dict"), none, (.dict #[⟨PyData.keyHash P (Str.ofString "__module__"), .str (Str.ofString "__module__") 291, (.str (Str.ofString "cpy313.urllib.robotparser") 282)⟩, ⟨PyData.keyHash P (Str.ofString "__firstlineno__"), .str (Str.ofString "__firstlineno__") 295, (.int (3) 294)⟩, ⟨PyData.keyHash P (Str.ofString "__init__"), .str (Str.ofString "__init__") 302, (.ref 45)⟩, ⟨PyData.keyHash P (Str.ofString "__str__"), .str (Str.ofString "__str__") 312, (.ref 52)⟩, ⟨PyData.keyHash P (Str.ofString "applies_to"), .str (Str.ofString "applies_to") 321, (.ref 59)⟩, ⟨PyData.keyHash P (Str.ofString "allowance"), .str (Str.ofString "allowance") 333, (.ref 66)⟩, ⟨PyData.keyHash P (Str.ofString "__static_attributes__"), .str (Str.ofString "__static_attributes__") 338, (.ref 67)⟩, ⟨PyData.keyHash P (Str.ofString "__dict__"), .str (Str.ofString "__dict__") 340, (.ref 70)⟩, ⟨PyData.keyHash P (Str.ofString "__weakref__"), .str (Str.ofString "__weakref__") 342, (.ref 71)⟩, ⟨PyData.keyHash P (Str.ofString "__doc__"), .str (Str.ofString "__doc__") 343, .none⟩] 4), #[]⟩
noncomputable def ob54 : Obj := ⟨(.type "type"), none, (.cls { name := (Str.ofString "Entry"), bases := [(.type "object")], mro := [(.ref 69), (.type "object")], ns := 68, qualname := (Str.ofString "Entry"), hasDict := true, slotNames := [], subclasses := [], abstract := false, collection := none, hasDel := false }), #[none, none, (some (.str (Str.ofString "Entry") 284)), (some (.str (Str.ofString "Entry") 292)), (some (.builtin "object.__new__")), (some (.bool true))]⟩
noncomputable def ob55 : Obj := ⟨(.type "getset_descriptor"), none, (.fields #[(.str (Str.ofString "__dict__") 339), (.ref 69), (.builtin "function.__dict__"), (.builtin "function.__dict__#set")]), #[]⟩
noncomputable def ob56 : Obj := ⟨(.type "getset_descriptor"), none, (.fields #[(.str (Str.ofString "__weakref__") 341), (.ref 69), (.builtin "ExceptionGroup.__weakref__"), .none]), #[]⟩
noncomputable def ob57 : Obj := ⟨(.type "super"), none, (.fields #[(.ref 69), (.ref 69), (.ref 69)]), #[]⟩
noncomputable def ob58 : Obj := ⟨(.type "builtin_function_or_method"), none, (.fields #[(.builtin "object.__init_subclass__"), (.ref 69)]), #[]⟩
noncomputable def hp1 (P : Params) : Heap := ⟨⟨ob0 P :: ob1 P :: ob2 P :: ob29 P :: ob4 :: ob5 :: ob6 :: ob7 :: ob8 :: ob9 :: ob10 :: ob11 P :: ob12 :: ob13 P :: ob14 :: ob7 :: ob15 :: ob16 :: ob17 :: ob18 :: ob19 P :: ob20 P :: ob21 :: ob22 :: ob23 :: ob24 :: ob25 :: ob26 :: ob7 :: ob30 :: ob27 :: ob28 :: ob7 :: ob31 :: ob32 P :: ob7 :: ob33 :: ob34 :: ob35 :: ob7 :: ob8 :: ob36 :: ob7 :: ob37 :: ob38 :: ob39 :: ob7 :: ob8 :: ob40 :: ob7 :: ob41 :: ob42 :: ob43 :: ob7 :: ob8 :: ob44 :: ob7 :: ob45 :: ob46 :: ob47 :: ob7 :: ob8 :: ob48 :: ob7 :: ob49 :: ob50 :: ob51 :: ob52 :: ob53 P :: ob54 :: ob55 :: ob56 :: ob57 :: ob58 :: []⟩, life0⟩
noncomputable def ob59 (P : Params) : Obj := ⟨(.type "dict"), none, (.dict #[⟨PyData.keyHash P (Str.ofString "__name__"), .str (Str.ofString "__name__") 165, (.str (Str.ofString "re") 395)⟩, ⟨PyData.keyHash P (Str.ofString "__doc__"), .str (Str.ofString "__doc__") 166, .none⟩, ⟨PyData.keyHash P (Str.ofString "__package__"), .str (Str.ofString "__package__") 167, .none⟩, ⟨PyData.keyHash P (Str.ofString "__loader__"), .str (Str.ofString "__loader__") 168, (.builtin "__main__.__loader__#opaque")⟩, ⟨PyData.keyHash P (Str.ofString "__spec__"), .str (Str.ofString "__spec__") 169, .none⟩, ⟨PyData.keyHash P (Str.ofString "__annotations__"), .str (Str.ofString "__annotations__") 170, (.ref 6)⟩, ⟨PyData.keyHash P (Str.ofString "__builtins__"), .str (Str.ofString "__builtins__") 171, (.ref 4)⟩, ⟨PyData.keyHash P (Str.ofString "__file__"), .str (Str.ofString "__file__") 173, (.str (Str.ofString "/claim/cut.py") 172)⟩, ⟨PyData.keyHash P (Str.ofString "__cached__"), .str (Str.ofString "__cached__") 174, .none⟩, ⟨PyData.keyHash P (Str.ofString "_sre"), .str (Str.ofString "_sre") 275, (.ref 12)⟩, ⟨PyData.keyHash P (Str.ofString "Entry"), .str (Str.ofString "Entry") 345, (.ref 69)⟩, ⟨PyData.keyHash P (Str.ofString "_twin_re_1"), .str (Str.ofString "_twin_re_1") 385, (.ref 78)⟩, ⟨PyData.keyHash P (Str.ofString "translate"), .str (Str.ofString "translate") 394, (.ref 85)⟩] 13), #[]⟩
noncomputable def ob60 : Obj := ⟨.none, none, (.fields #[(.int (3) 0), (.int (0) 0), (.ref 37), (.int (53) 0), (.int (0) 0), (.ref 84)]), #[]⟩
noncomputable def ob61 : Obj := ⟨(.type "list"), none, (.seq #[(.int (14) 351), (.int (14) 352), (.int (4) 353), (.int (1) 354), (.int (1) 355), (.int (9) 356), (.int (0) 357), (.int (64) 358), (.int (0) 359), (.int (1342177280) 360), (.int (0) 361), (.int (0) 362), (.int (0) 363), (.int (0) 364), (.int (0) 365), (.int (17) 366), (.int (0) 367), (.int (13) 368), (.int (11) 369), (.int (9) 370), (.int (0) 371), (.int (64) 372), (.int (0) 373), (.int (1342177280) 374), (.int (0) 375), (.int (0) 376), (.int (0) 377), (.int (0) 378), (.int (0) 379), (.int (17) 380), (.int (1) 381), (.int (1) 382)] 0), #[]⟩
noncomputable def ob62 : Obj := ⟨(.type "tuple"), none, (.seq #[.none, .none] 0), #[]⟩
noncomputable def ob63 : Obj := ⟨(.type "tuple"), none, (.seq #[(.int (14) 0), (.int (14) 0), (.int (4) 0), (.int (1) 0), (.int (1) 0), (.int (9) 0), (.int (0) 0), (.int (64) 0), (.int (0) 0), (.int (1342177280) 0), (.int (0) 0), (.int (0) 0), (.int (0) 0), (.int (0) 0), (.int (0) 0), (.int (17) 0), (.int (0) 0), (.int (13) 0), (.int (11) 0), (.int (9) 0), (.int (0) 0), (.int (64) 0), (.int (0) 0), (.int (1342177280) 0), (.int (0) 0), (.int (0) 0), (.int (0) 0), (.int (0) 0), (.int (0) 0), (.int (17) 0), (.int (1) 0), (.int (1) 0)] 0), #[]⟩
noncomputable def ob64 : Obj := ⟨(.type "re.Pattern"), none, (.fields #[(.str (Str.ofString "([&~|])") 349), (.int (32) 384), (.int (1) 0), .none, .none, (.ref 77), (.int (0) 0)]), #[]⟩
noncomputable def ob65 : Obj := ⟨(.type "tuple"), none, (.seq #[(.str (Str.ofString "pat") 389), (.str (Str.ofString "STAR") 390), (.str (Str.ofString "parts") 391)] 0), #[]⟩
noncomputable def ob66 : Obj := ⟨.none, none, (.func { name := (Str.ofString "translate"), qualname := (Str.ofString "translate"), params := dP (dT 5), body := .stmts (dB (dT 5)), scope := dS (dT 5), globals := 0, closure := [], defaults := .none, kwdefaults := .none, doc := .none, pyModule := .none, annotations := none, code := .none, closureTuple := .none, builtins := 0 }), #[]⟩
noncomputable def ob67 : Obj := ⟨(.type "code"), none, (.fields #[(.str (Str.ofString "translate") 386), (.str (Str.ofString "translate") 387), (.str (Str.ofString "/claim/cut.py") 388), (.int (53) 0), (.int (1) 0), (.int (0) 0), (.int (0) 0), (.int (3) 0), (.ref 79), (.bool true), (.int (276) 0), (.ref 80), .none, (.ref 81), (.ref 82), (.ref 83), (.int (392) 0), (.int (53) 0), (.str (Str.ofString "/claim/cut.py") 393)]), #[]⟩
noncomputable def ob68 : Obj := ⟨(.type "function"), none, (.func { name := (Str.ofString "translate"), qualname := (Str.ofString "translate"), params := dP (dT 5), body := .stmts (dB (dT 5)), scope := dS (dT 5), globals := 3, closure := [], defaults := .none, kwdefaults := .none, doc := .none, pyModule := (.str (Str.ofString "cpy313.fnmatch") 346), annotations := none, code := (.ref 84), closureTuple := .none, builtins := 0 }), #[]⟩
noncomputable def hp2 (P : Params) : Heap := ⟨⟨ob0 P :: ob1 P :: ob2 P :: ob59 P :: ob4 :: ob5 :: ob6 :: ob7 :: ob8 :: ob9 :: ob10 :: ob11 P :: ob12 :: ob13 P :: ob14 :: ob7 :: ob15 :: ob16 :: ob17 :: ob18 :: ob19 P :: ob20 P :: ob21 :: ob22 :: ob23 :: ob24 :: ob25 :: ob26 :: ob7 :: ob60 :: ob27 :: ob28 :: ob7 :: ob31 :: ob32 P :: ob7 :: ob33 :: ob34 :: ob35 :: ob7 :: ob8 :: ob36 :: ob7 :: ob37 :: ob38 :: ob39 :: ob7 :: ob8 :: ob40 :: ob7 :: ob41 :: ob42 :: ob43 :: ob7 :: ob8 :: ob44 :: ob7 :: ob45 :: ob46 :: ob47 :: ob7 :: ob8 :: ob48 :: ob7 :: ob49 :: ob50 :: ob51 :: ob52 :: ob53 P :: ob54 :: ob55 :: ob56 :: ob57 :: ob58 :: ob61 :: ob6 :: ob62 :: ob63 :: ob64 :: ob7 :: ob8 :: ob65 :: ob7 :: ob66 :: ob67 :: ob68 :: []⟩, life0⟩
noncomputable def ob69 (P : Params) : Obj := ⟨(.type "dict"), none, (.dict #[⟨PyData.keyHash P (Str.ofString "__name__"), .str (Str.ofString "__name__") 165, (.str (Str.ofString "re") 395)⟩, ⟨PyData.keyHash P (Str.ofString "__doc__"), .str (Str.ofString "__doc__") 166, .none⟩, ⟨PyData.keyHash P (Str.ofString "__package__"), .str (Str.ofString "__package__") 167, .none⟩, ⟨PyData.keyHash P (Str.ofString "__loader__"), .str (Str.ofString "__loader__") 168, (.builtin "__main__.__loader__#opaque")⟩, ⟨PyData.keyHash P (Str.ofString "__spec__"), .str (Str.ofString "__spec__") 169, .none⟩, ⟨PyData.keyHash P (Str.ofString "__annotations__"), .str (Str.ofString "__annotations__") 170, (.ref 6)⟩, ⟨PyData.keyHash P (Str.ofString "__builtins__"), .str (Str.ofString "__builtins__") 171, (.ref 4)⟩, ⟨PyData.keyHash P (Str.ofString "__file__"), .str (Str.ofString "__file__") 173, (.str (Str.ofString "/claim/cut.py") 172)⟩, ⟨PyData.keyHash P (Str.ofString "__cached__"), .str (Str.ofString "__cached__") 174, .none⟩, ⟨PyData.keyHash P (Str.ofString "_sre"), .str (Str.ofString "_sre") 275, (.ref 12)⟩, ⟨PyData.keyHash P (Str.ofString "Entry"), .str (Str.ofString "Entry") 345, (.ref 69)⟩, ⟨PyData.keyHash P (Str.ofString "_twin_re_1"), .str (Str.ofString "_twin_re_1") 385, (.ref 78)⟩, ⟨PyData.keyHash P (Str.ofString "translate"), .str (Str.ofString "translate") 394, (.ref 85)⟩, ⟨PyData.keyHash P (Str.ofString "_special_chars_map"), .str (Str.ofString "_special_chars_map") 542, (.ref 87)⟩] 14), #[]⟩
noncomputable def ob70 : Obj := ⟨(.type "bytes_iterator"), none, (.fields #[.none, (.int (24) 0)]), #[]⟩
noncomputable def ob71 : Obj := ⟨(.type "dict"), none, (.dict #[⟨40, (.int (40) 398), (.str (Str.ofString "\\(") 402)⟩, ⟨41, (.int (41) 404), (.str (Str.ofString "\\)") 408)⟩, ⟨91, (.int (91) 410), (.str (Str.ofString "\\[") 414)⟩, ⟨93, (.int (93) 416), (.str (Str.ofString "\\]") 420)⟩, ⟨123, (.int (123) 422), (.str (Str.ofString "\\{") 426)⟩, ⟨125, (.int (125) 428), (.str (Str.ofString "\\}") 432)⟩, ⟨63, (.int (63) 434), (.str (Str.ofString "\\?") 438)⟩, ⟨42, (.int (42) 440), (.str (Str.ofString "\\*") 444)⟩, ⟨43, (.int (43) 446), (.str (Str.ofString "\\+") 450)⟩, ⟨45, (.int (45) 452), (.str (Str.ofString "\\-") 456)⟩, ⟨124, (.int (124) 458), (.str (Str.ofString "\\|") 462)⟩, ⟨94, (.int (94) 464), (.str (Str.ofString "\\^") 468)⟩, ⟨36, (.int (36) 470), (.str (Str.ofString "\\$") 474)⟩, ⟨92, (.int (92) 476), (.str (Str.ofString "\\\\") 480)⟩, ⟨46, (.int (46) 482), (.str (Str.ofString "\\.") 486)⟩, ⟨38, (.int (38) 488), (.str (Str.ofString "\\&") 492)⟩, ⟨126, (.int (126) 494), (.str (Str.ofString "\\~") 498)⟩, ⟨35, (.int (35) 500), (.str (Str.ofString "\\#") 504)⟩, ⟨32, (.int (32) 506), (.str (Str.ofString "\\ ") 510)⟩, ⟨9, (.int (9) 512), (.str (Str.ofString "\\\t") 516)⟩, ⟨10, (.int (10) 518), (.str (Str.ofString "\\\n") 522)⟩, ⟨13, (.int (13) 524), (.str (Str.ofString "\\\x0d") 528)⟩, ⟨11, (.int (11) 530), (.str (Str.ofString "\\\x0b") 534)⟩, ⟨12, (.int (12) 536), (.str (Str.ofString "\\\x0c") 540)⟩] 24), #[]⟩
noncomputable def ob72 : Obj := ⟨(.type "dict"), none, (.dict #[] 2), #[]⟩
noncomputable def ob73 : Obj := ⟨(.type "StopIteration"), none, (.fields #[(.ref 89), .none, .none, .none, (.bool false), .none]), #[]⟩
noncomputable def hp3 (P : Params) : Heap := ⟨⟨ob0 P :: ob1 P :: ob2 P :: ob69 P :: ob4 :: ob5 :: ob6 :: ob7 :: ob8 :: ob9 :: ob10 :: ob11 P :: ob12 :: ob13 P :: ob14 :: ob7 :: ob15 :: ob16 :: ob17 :: ob18 :: ob19 P :: ob20 P :: ob21 :: ob22 :: ob23 :: ob24 :: ob25 :: ob26 :: ob7 :: ob60 :: ob27 :: ob28 :: ob7 :: ob31 :: ob32 P :: ob7 :: ob33 :: ob34 :: ob35 :: ob7 :: ob8 :: ob36 :: ob7 :: ob37 :: ob38 :: ob39 :: ob7 :: ob8 :: ob40 :: ob7 :: ob41 :: ob42 :: ob43 :: ob7 :: ob8 :: ob44 :: ob7 :: ob45 :: ob46 :: ob47 :: ob7 :: ob8 :: ob48 :: ob7 :: ob49 :: ob50 :: ob51 :: ob52 :: ob53 P :: ob54 :: ob55 :: ob56 :: ob57 :: ob58 :: ob61 :: ob6 :: ob62 :: ob63 :: ob64 :: ob7 :: ob8 :: ob65 :: ob7 :: ob66 :: ob67 :: ob68 :: ob70 :: ob71 :: ob72 :: ob7 :: ob73 :: []⟩, life0⟩
noncomputable def ob74 (P : Params) : Obj := ⟨(.type "dict"), none, (.dict #[⟨PyData.keyHash P (Str.ofString "__name__"), .str (Str.ofString "__name__") 165, (.str (Str.ofString "cpy313.stat") 584)⟩, ⟨PyData.keyHash P (Str.ofString "__doc__"), .str (Str.ofString "__doc__") 166, .none⟩, ⟨PyData.keyHash P (Str.ofString "__package__"), .str (Str.ofString "__package__") 167, .none⟩, ⟨PyData.keyHash P (Str.ofString "__loader__"), .str (Str.ofString "__loader__") 168, (.builtin "__main__.__loader__#opaque")⟩, ⟨PyData.keyHash P (Str.ofString "__spec__"), .str (Str.ofString "__spec__") 169, .none⟩, ⟨PyData.keyHash P (Str.ofString "__annotations__"), .str (Str.ofString "__annotations__") 170, (.ref 6)⟩, ⟨PyData.keyHash P (Str.ofString "__builtins__"), .str (Str.ofString "__builtins__") 171, (.ref 4)⟩, ⟨PyData.keyHash P (Str.ofString "__file__"), .str (Str.ofString "__file__") 173, (.str (Str.ofString "/claim/cut.py") 172)⟩, ⟨PyData.keyHash P (Str.ofString "__cached__"), .str (Str.ofString "__cached__") 174, .none⟩, ⟨PyData.keyHash P (Str.ofString "_sre"), .str (Str.ofString "_sre") 275, (.ref 12)⟩, ⟨PyData.keyHash P (Str.ofString "Entry"), .str (Str.ofString "Entry") 345, (.ref 69)⟩, ⟨PyData.keyHash P (Str.ofString "_twin_re_1"), .str (Str.ofString "_twin_re_1") 385, (.ref 78)⟩, ⟨PyData.keyHash P (Str.ofString "translate"), .str (Str.ofString "translate") 394, (.ref 85)⟩, ⟨PyData.keyHash P (Str.ofString "_special_chars_map"), .str (Str.ofString "_special_chars_map") 542, (.ref 87)⟩, ⟨PyData.keyHash P (Str.ofString "escape"), .str (Str.ofString "escape") 549, (.ref 97)⟩, ⟨PyData.keyHash P (Str.ofString "_translate"), .str (Str.ofString "_translate") 570, (.ref 104)⟩, ⟨PyData.keyHash P (Str.ofString "_join_translated_parts"), .str (Str.ofString "_join_translated_parts") 583, (.ref 111)⟩, ⟨PyData.keyHash P (Str.ofString "S_IFMT"), .str (Str.ofString "S_IFMT") 592, (.ref 118)⟩, ⟨PyData.keyHash P (Str.ofString "S_IFDIR"), .str (Str.ofString "S_IFDIR") 594, (.int (16384) 593)⟩, ⟨PyData.keyHash P (Str.ofString "S_IFCHR"), .str (Str.ofString "S_IFCHR") 596, (.int (8192) 595)⟩, ⟨PyData.keyHash P (Str.ofString "S_IFBLK"), .str (Str.ofString "S_IFBLK") 598, (.int (24576) 597)⟩, ⟨PyData.keyHash P (Str.ofString "S_IFREG"), .str (Str.ofString "S_IFREG") 600, (.int (32768) 599)⟩, ⟨PyData.keyHash P (Str.ofString "S_IFIFO"), .str (Str.ofString "S_IFIFO") 602, (.int (4096) 601)⟩, ⟨PyData.keyHash P (Str.ofString "S_IFLNK"), .str (Str.ofString "S_IFLNK") 604, (.int (40960) 603)⟩, ⟨PyData.keyHash P (Str.ofString "S_IFSOCK"), .str (Str.ofString "S_IFSOCK") 606, (.int (49152) 605)⟩, ⟨PyData.keyHash P (Str.ofString "S_ISUID"), .str (Str.ofString "S_ISUID") 608, (.int (2048) 607)⟩, ⟨PyData.keyHash P (Str.ofString "S_ISGID"), .str (Str.ofString "S_ISGID") 610, (.int (1024) 609)⟩, ⟨PyData.keyHash P (Str.ofString "S_ISVTX"), .str (Str.ofString "S_ISVTX") 612, (.int (512) 611)⟩, ⟨PyData.keyHash P (Str.ofString "S_IRUSR"), .str (Str.ofString "S_IRUSR") 614, (.int (256) 613)⟩, ⟨PyData.keyHash P (Str.ofString "S_IWUSR"), .str (Str.ofString "S_IWUSR") 616, (.int (128) 615)⟩, ⟨PyData.keyHash P (Str.ofString "S_IXUSR"), .str (Str.ofString "S_IXUSR") 618, (.int (64) 617)⟩, ⟨PyData.keyHash P (Str.ofString "S_IRGRP"), .str (Str.ofString "S_IRGRP") 620, (.int (32) 619)⟩, ⟨PyData.keyHash P (Str.ofString "S_IWGRP"), .str (Str.ofString "S_IWGRP") 622, (.int (16) 621)⟩, ⟨PyData.keyHash P (Str.ofString "S_IXGRP"), .str (Str.ofString "S_IXGRP") 624, (.int (8) 623)⟩, ⟨PyData.keyHash P (Str.ofString "S_IROTH"), .str (Str.ofString "S_IROTH") 626, (.int (4) 625)⟩, ⟨PyData.keyHash P (Str.ofString "S_IWOTH"), .str (Str.ofString "S_IWOTH") 628, (.int (2) 627)⟩, ⟨PyData.keyHash P (Str.ofString "S_IXOTH"), .str (Str.ofString "S_IXOTH") 630, (.int (1) 629)⟩] 37), #[]⟩
noncomputable def ob75 : Obj := ⟨.none, none, (.fields #[(.int (3) 0), (.int (0) 0), (.ref 37), (.int (53) 0), (.int (0) 0), (.ref 84), (.int (59) 0), (.int (0) 0), (.ref 96), (.int (66) 0), (.int (0) 0), (.ref 103), (.int (128) 0), (.int (0) 0), (.ref 110), (.int (156) 0), (.int (0) 0), (.ref 117)]), #[]⟩
noncomputable def ob76 : Obj := ⟨(.type "tuple"), none, (.seq #[(.str (Str.ofString "pattern") 546)] 0), #[]⟩
noncomputable def ob77 : Obj := ⟨.none, none, (.func { name := (Str.ofString "escape"), qualname := (Str.ofString "escape"), params := dP (dT 8), body := .stmts (dB (dT 8)), scope := dS (dT 8), globals := 0, closure := [], defaults := .none, kwdefaults := .none, doc := .none, pyModule := .none, annotations := none, code := .none, closureTuple := .none, builtins := 0 }), #[]⟩
noncomputable def ob78 : Obj := ⟨(.type "code"), none, (.fields #[(.str (Str.ofString "escape") 543), (.str (Str.ofString "escape") 544), (.str (Str.ofString "/claim/cut.py") 545), (.int (59) 0), (.int (1) 0), (.int (0) 0), (.int (0) 0), (.int (3) 0), (.ref 91), (.bool true), (.int (276) 0), (.ref 92), .none, (.ref 93), (.ref 94), (.ref 95), (.int (547) 0), (.int (59) 0), (.str (Str.ofString "/claim/cut.py") 548)]), #[]⟩
noncomputable def ob79 : Obj := ⟨(.type "function"), none, (.func { name := (Str.ofString "escape"), qualname := (Str.ofString "escape"), params := dP (dT 8), body := .stmts (dB (dT 8)), scope := dS (dT 8), globals := 3, closure := [], defaults := .none, kwdefaults := .none, doc := .none, pyModule := (.str (Str.ofString "re") 395), annotations := none, code := (.ref 96), closureTuple := .none, builtins := 0 }), #[]⟩
noncomputable def ob80 : Obj := ⟨(.type "tuple"), none, (.seq #[(.str (Str.ofString "pat") 555), (.str (Str.ofString "STAR") 556), (.str (Str.ofString "QUESTION_MARK") 557), (.str (Str.ofString "res") 558), (.str (Str.ofString "add") 559), (.str (Str.ofString "i") 560), (.str (Str.ofString "n") 561), (.str (Str.ofString "c") 562), (.str (Str.ofString "j") 563), (.str (Str.ofString "stuff") 564), (.str (Str.ofString "chunks") 565), (.str (Str.ofString "k") 566), (.str (Str.ofString "chunk") 567)] 0), #[]⟩
noncomputable def ob81 : Obj := ⟨.none, none, (.func { name := (Str.ofString "_translate"), qualname := (Str.ofString "_translate"), params := dP (dT 10), body := .stmts (dB (dT 10)), scope := dS (dT 10), globals := 0, closure := [], defaults := .none, kwdefaults := .none, doc := .none, pyModule := .none, annotations := none, code := .none, closureTuple := .none, builtins := 0 }), #[]⟩
noncomputable def ob82 : Obj := ⟨(.type "code"), none, (.fields #[(.str (Str.ofString "_translate") 552), (.str (Str.ofString "_translate") 553), (.str (Str.ofString "/claim/cut.py") 554), (.int (66) 0), (.int (3) 0), (.int (0) 0), (.int (0) 0), (.int (3) 0), (.ref 98), (.bool true), (.int (276) 0), (.ref 99), .none, (.ref 100), (.ref 101), (.ref 102), (.int (568) 0), (.int (66) 0), (.str (Str.ofString "/claim/cut.py") 569)]), #[]⟩
noncomputable def ob83 : Obj := ⟨(.type "function"), none, (.func { name := (Str.ofString "_translate"), qualname := (Str.ofString "_translate"), params := dP (dT 10), body := .stmts (dB (dT 10)), scope := dS (dT 10), globals := 3, closure := [], defaults := .none, kwdefaults := .none, doc := .none, pyModule := (.str (Str.ofString "cpy313.fnmatch") 550), annotations := none, code := (.ref 103), closureTuple := .none, builtins := 0 }), #[]⟩
noncomputable def ob84 : Obj := ⟨(.type "tuple"), none, (.seq #[(.str (Str.ofString "inp") 574), (.str (Str.ofString "STAR") 575), (.str (Str.ofString "res") 576), (.str (Str.ofString "add") 577), (.str (Str.ofString "i") 578), (.str (Str.ofString "n") 579), (.str (Str.ofString "fixed") 580)] 0), #[]⟩
noncomputable def ob85 : Obj := ⟨.none, none, (.func { name := (Str.ofString "_join_translated_parts"), qualname := (Str.ofString "_join_translated_parts"), params := dP (dT 11), body := .stmts (dB (dT 11)), scope := dS (dT 11), globals := 0, closure := [], defaults := .none, kwdefaults := .none, doc := .none, pyModule := .none, annotations := none, code := .none, closureTuple := .none, builtins := 0 }), #[]⟩
noncomputable def ob86 : Obj := ⟨(.type "code"), none, (.fields #[(.str (Str.ofString "_join_translated_parts") 571), (.str (Str.ofString "_join_translated_parts") 572), (.str (Str.ofString "/claim/cut.py") 573), (.int (128) 0), (.int (2) 0), (.int (0) 0), (.int (0) 0), (.int (3) 0), (.ref 105), (.bool true), (.int (276) 0), (.ref 106), .none, (.ref 107), (.ref 108), (.ref 109), (.int (581) 0), (.int (128) 0), (.str (Str.ofString "/claim/cut.py") 582)]), #[]⟩
noncomputable def ob87 : Obj := ⟨(.type "function"), none, (.func { name := (Str.ofString "_join_translated_parts"), qualname := (Str.ofString "_join_translated_parts"), params := dP (dT 11), body := .stmts (dB (dT 11)), scope := dS (dT 11), globals := 3, closure := [], defaults := .none, kwdefaults := .none, doc := .none, pyModule := (.str (Str.ofString "cpy313.fnmatch") 550), annotations := none, code := (.ref 110), closureTuple := .none, builtins := 0 }), #[]⟩
noncomputable def ob88 : Obj := ⟨(.type "tuple"), none, (.seq #[(.str (Str.ofString "mode") 589)] 0), #[]⟩
noncomputable def ob89 : Obj := ⟨.none, none, (.func { name := (Str.ofString "S_IFMT"), qualname := (Str.ofString "S_IFMT"), params := dP (dT 13), body := .stmts (dB (dT 13)), scope := dS (dT 13), globals := 0, closure := [], defaults := .none, kwdefaults := .none, doc := .none, pyModule := .none, annotations := none, code := .none, closureTuple := .none, builtins := 0 }), #[]⟩
noncomputable def ob90 : Obj := ⟨(.type "code"), none, (.fields #[(.str (Str.ofString "S_IFMT") 586), (.str (Str.ofString "S_IFMT") 587), (.str (Str.ofString "/claim/cut.py") 588), (.int (156) 0), (.int (1) 0), (.int (0) 0), (.int (0) 0), (.int (3) 0), (.ref 112), (.bool true), (.int (276) 0), (.ref 113), .none, (.ref 114), (.ref 115), (.ref 116), (.int (590) 0), (.int (156) 0), (.str (Str.ofString "/claim/cut.py") 591)]), #[]⟩
noncomputable def ob91 : Obj := ⟨(.type "function"), none, (.func { name := (Str.ofString "S_IFMT"), qualname := (Str.ofString "S_IFMT"), params := dP (dT 13), body := .stmts (dB (dT 13)), scope := dS (dT 13), globals := 3, closure := [], defaults := .none, kwdefaults := .none, doc := .none, pyModule := (.str (Str.ofString "cpy313.stat") 584), annotations := none, code := (.ref 117), closureTuple := .none, builtins := 0 }), #[]⟩
noncomputable def hp4 (P : Params) : Heap := ⟨⟨ob0 P :: ob1 P :: ob2 P :: ob74 P :: ob4 :: ob5 :: ob6 :: ob7 :: ob8 :: ob9 :: ob10 :: ob11 P :: ob12 :: ob13 P :: ob14 :: ob7 :: ob15 :: ob16 :: ob17 :: ob18 :: ob19 P :: ob20 P :: ob21 :: ob22 :: ob23 :: ob24 :: ob25 :: ob26 :: ob7 :: ob75 :: ob27 :: ob28 :: ob7 :: ob31 :: ob32 P :: ob7 :: ob33 :: ob34 :: ob35 :: ob7 :: ob8 :: ob36 :: ob7 :: ob37 :: ob38 :: ob39 :: ob7 :: ob8 :: ob40 :: ob7 :: ob41 :: ob42 :: ob43 :: ob7 :: ob8 :: ob44 :: ob7 :: ob45 :: ob46 :: ob47 :: ob7 :: ob8 :: ob48 :: ob7 :: ob49 :: ob50 :: ob51 :: ob52 :: ob53 P :: ob54 :: ob55 :: ob56 :: ob57 :: ob58 :: ob61 :: ob6 :: ob62 :: ob63 :: ob64 :: ob7 :: ob8 :: ob65 :: ob7 :: ob66 :: ob67 :: ob68 :: ob70 :: ob71 :: ob72 :: ob7 :: ob73 :: ob7 :: ob8 :: ob76 :: ob7 :: ob77 :: ob78 :: ob79 :: ob7 :: ob8 :: ob80 :: ob7 :: ob81 :: ob82 :: ob83 :: ob7 :: ob8 :: ob84 :: ob7 :: ob85 :: ob86 :: ob87 :: ob7 :: ob8 :: ob88 :: ob7 :: ob89 :: ob90 :: ob91 :: []⟩, life0⟩
noncomputable def ob92 (P : Params) : Obj := ⟨(.type "dict"), none, (.dict #[⟨PyData.keyHash P (Str.ofString "__name__"), .str (Str.ofString "__name__") 165, (.str (Str.ofString "law_in0278_01") 669)⟩, ⟨PyData.keyHash P (Str.ofString "__doc__"), .str (Str.ofString "__doc__") 166, .none⟩, ⟨PyData.keyHash P (Str.ofString "__package__"), .str (Str.ofString "__package__") 167, .none⟩, ⟨PyData.keyHash P (Str.ofString "__loader__"), .str (Str.ofString "__loader__") 168, (.builtin "__main__.__loader__#opaque")⟩, ⟨PyData.keyHash P (Str.ofString "__spec__"), .str (Str.ofString "__spec__") 169, .none⟩, ⟨PyData.keyHash P (Str.ofString "__annotations__"), .str (Str.ofString "__annotations__") 170, (.ref 6)⟩, ⟨PyData.keyHash P (Str.ofString "__builtins__"), .str (Str.ofString "__builtins__") 171, (.ref 4)⟩, ⟨PyData.keyHash P (Str.ofString "__file__"), .str (Str.ofString "__file__") 173, (.str (Str.ofString "/claim/cut.py") 172)⟩, ⟨PyData.keyHash P (Str.ofString "__cached__"), .str (Str.ofString "__cached__") 174, .none⟩, ⟨PyData.keyHash P (Str.ofString "_sre"), .str (Str.ofString "_sre") 275, (.ref 12)⟩, ⟨PyData.keyHash P (Str.ofString "Entry"), .str (Str.ofString "Entry") 345, (.ref 69)⟩, ⟨PyData.keyHash P (Str.ofString "_twin_re_1"), .str (Str.ofString "_twin_re_1") 385, (.ref 78)⟩, ⟨PyData.keyHash P (Str.ofString "translate"), .str (Str.ofString "translate") 394, (.ref 85)⟩, ⟨PyData.keyHash P (Str.ofString "_special_chars_map"), .str (Str.ofString "_special_chars_map") 542, (.ref 87)⟩, ⟨PyData.keyHash P (Str.ofString "escape"), .str (Str.ofString "escape") 549, (.ref 97)⟩, ⟨PyData.keyHash P (Str.ofString "_translate"), .str (Str.ofString "_translate") 570, (.ref 104)⟩, ⟨PyData.keyHash P (Str.ofString "_join_translated_parts"), .str (Str.ofString "_join_translated_parts") 583, (.ref 111)⟩, ⟨PyData.keyHash P (Str.ofString "S_IFMT"), .str (Str.ofString "S_IFMT") 592, (.ref 118)⟩, ⟨PyData.keyHash P (Str.ofString "S_IFDIR"), .str (Str.ofString "S_IFDIR") 594, (.int (16384) 593)⟩, ⟨PyData.keyHash P (Str.ofString "S_IFCHR"), .str (Str.ofString "S_IFCHR") 596, (.int (8192) 595)⟩, ⟨PyData.keyHash P (Str.ofString "S_IFBLK"), .str (Str.ofString "S_IFBLK") 598, (.int (24576) 597)⟩, ⟨PyData.keyHash P (Str.ofString "S_IFREG"), .str (Str.ofString "S_IFREG") 600, (.int (32768) 599)⟩, ⟨PyData.keyHash P (Str.ofString "S_IFIFO"), .str (Str.ofString "S_IFIFO") 602, (.int (4096) 601)⟩, ⟨PyData.keyHash P (Str.ofString "S_IFLNK"), .str (Str.ofString "S_IFLNK") 604, (.int (40960) 603)⟩, ⟨PyData.keyHash P (Str.ofString "S_IFSOCK"), .str (Str.ofString "S_IFSOCK") 606, (.int (49152) 605)⟩, ⟨PyData.keyHash P (Str.ofString "S_ISUID"), .str (Str.ofString "S_ISUID") 608, (.int (2048) 607)⟩, ⟨PyData.keyHash P (Str.ofString "S_ISGID"), .str (Str.ofString "S_ISGID") 610, (.int (1024) 609)⟩, ⟨PyData.keyHash P (Str.ofString "S_ISVTX"), .str (Str.ofString "S_ISVTX") 612, (.int (512) 611)⟩, ⟨PyData.keyHash P (Str.ofString "S_IRUSR"), .str (Str.ofString "S_IRUSR") 614, (.int (256) 613)⟩, ⟨PyData.keyHash P (Str.ofString "S_IWUSR"), .str (Str.ofString "S_IWUSR") 616, (.int (128) 615)⟩, ⟨PyData.keyHash P (Str.ofString "S_IXUSR"), .str (Str.ofString "S_IXUSR") 618, (.int (64) 617)⟩, ⟨PyData.keyHash P (Str.ofString "S_IRGRP"), .str (Str.ofString "S_IRGRP") 620, (.int (32) 619)⟩, ⟨PyData.keyHash P (Str.ofString "S_IWGRP"), .str (Str.ofString "S_IWGRP") 622, (.int (16) 621)⟩, ⟨PyData.keyHash P (Str.ofString "S_IXGRP"), .str (Str.ofString "S_IXGRP") 624, (.int (8) 623)⟩, ⟨PyData.keyHash P (Str.ofString "S_IROTH"), .str (Str.ofString "S_IROTH") 626, (.int (4) 625)⟩, ⟨PyData.keyHash P (Str.ofString "S_IWOTH"), .str (Str.ofString "S_IWOTH") 628, (.int (2) 627)⟩, ⟨PyData.keyHash P (Str.ofString "S_IXOTH"), .str (Str.ofString "S_IXOTH") 630, (.int (1) 629)⟩, ⟨PyData.keyHash P (Str.ofString "_filemode_table"), .str (Str.ofString "_filemode_table") 656, (.ref 151)⟩, ⟨PyData.keyHash P (Str.ofString "filemode"), .str (Str.ofString "filemode") 668, (.ref 158)⟩, ⟨PyData.keyHash P (Str.ofString "_law_triples"), .str (Str.ofString "_law_triples") 680, (.ref 165)⟩, ⟨PyData.keyHash P (Str.ofString "_law_row"), .str (Str.ofString "_law_row") 691, (.ref 172)⟩, ⟨PyData.keyHash P (Str.ofString "_law_agent"), .str (Str.ofString "_law_agent") 703, (.ref 179)⟩, ⟨PyData.keyHash P (Str.ofString "_law_takes"), .str (Str.ofString "_law_takes") 712, (.ref 186)⟩, ⟨PyData.keyHash P (Str.ofString "_law_record"), .str (Str.ofString "_law_record") 722, (.ref 193)⟩, ⟨PyData.keyHash P (Str.ofString "_law_book"), .str (Str.ofString "_law_book") 733, (.ref 200)⟩, ⟨PyData.keyHash P (Str.ofString "_law_back"), .str (Str.ofString "_law_back") 742, (.ref 207)⟩, ⟨PyData.keyHash P (Str.ofString "law"), .str (Str.ofString "law") 748, (.ref 212)⟩] 47), #[]⟩
noncomputable def ob93 : Obj := ⟨.none, none, (.fields #[(.int (3) 0), (.int (0) 0), (.ref 37), (.int (53) 0), (.int (0) 0), (.ref 84), (.int (59) 0), (.int (0) 0), (.ref 96), (.int (66) 0), (.int (0) 0), (.ref 103), (.int (128) 0), (.int (0) 0), (.ref 110), (.int (156) 0), (.int (0) 0), (.ref 117), (.int (178) 0), (.int (0) 0), (.ref 157), (.int (196) 0), (.int (0) 0), (.ref 164), (.int (204) 0), (.int (0) 0), (.ref 171), (.int (210) 0), (.int (0) 0), (.ref 178), (.int (218) 0), (.int (0) 0), (.ref 185), (.int (225) 0), (.int (0) 0), (.ref 192), (.int (231) 0), (.int (0) 0), (.ref 199), (.int (238) 0), (.int (0) 0), (.ref 206), (.int (248) 0), (.int (0) 0), (.ref 211)]), #[]⟩
noncomputable def ob94 : Obj := ⟨(.type "tuple"), none, (.seq #[(.int (40960) 603), (.str (Str.ofString "l") 631)] 0), #[]⟩
noncomputable def ob95 : Obj := ⟨(.type "tuple"), none, (.seq #[(.int (49152) 605), (.str (Str.ofString "s") 632)] 0), #[]⟩
noncomputable def ob96 : Obj := ⟨(.type "tuple"), none, (.seq #[(.int (32768) 599), (.str (Str.ofString "-") 633)] 0), #[]⟩
noncomputable def ob97 : Obj := ⟨(.type "tuple"), none, (.seq #[(.int (24576) 597), (.str (Str.ofString "b") 634)] 0), #[]⟩
noncomputable def ob98 : Obj := ⟨(.type "tuple"), none, (.seq #[(.int (16384) 593), (.str (Str.ofString "d") 635)] 0), #[]⟩
noncomputable def ob99 : Obj := ⟨(.type "tuple"), none, (.seq #[(.int (8192) 595), (.str (Str.ofString "c") 636)] 0), #[]⟩
noncomputable def ob100 : Obj := ⟨(.type "tuple"), none, (.seq #[(.int (4096) 601), (.str (Str.ofString "p") 637)] 0), #[]⟩
noncomputable def ob101 : Obj := ⟨(.type "tuple"), none, (.seq #[(.ref 119), (.ref 120), (.ref 121), (.ref 122), (.ref 123), (.ref 124), (.ref 125)] 0), #[]⟩
noncomputable def ob102 : Obj := ⟨(.type "tuple"), none, (.seq #[(.int (256) 613), (.str (Str.ofString "r") 638)] 0), #[]⟩
noncomputable def ob103 : Obj := ⟨(.type "tuple"), none, (.seq #[(.ref 127)] 0), #[]⟩
noncomputable def ob104 : Obj := ⟨(.type "tuple"), none, (.seq #[(.int (128) 615), (.str (Str.ofString "w") 639)] 0), #[]⟩
noncomputable def ob105 : Obj := ⟨(.type "tuple"), none, (.seq #[(.ref 129)] 0), #[]⟩
noncomputable def ob106 : Obj := ⟨(.type "tuple"), none, (.seq #[(.int (2112) 640), (.str (Str.ofString "s") 641)] 0), #[]⟩
noncomputable def ob107 : Obj := ⟨(.type "tuple"), none, (.seq #[(.int (2048) 607), (.str (Str.ofString "S") 642)] 0), #[]⟩
noncomputable def ob108 : Obj := ⟨(.type "tuple"), none, (.seq #[(.int (64) 617), (.str (Str.ofString "x") 643)] 0), #[]⟩
noncomputable def ob109 : Obj := ⟨(.type "tuple"), none, (.seq #[(.ref 131), (.ref 132), (.ref 133)] 0), #[]⟩
noncomputable def ob110 : Obj := ⟨(.type "tuple"), none, (.seq #[(.int (32) 619), (.str (Str.ofString "r") 644)] 0), #[]⟩
noncomputable def ob111 : Obj := ⟨(.type "tuple"), none, (.seq #[(.ref 135)] 0), #[]⟩
noncomputable def ob112 : Obj := ⟨(.type "tuple"), none, (.seq #[(.int (16) 621), (.str (Str.ofString "w") 645)] 0), #[]⟩
noncomputable def ob113 : Obj := ⟨(.type "tuple"), none, (.seq #[(.ref 137)] 0), #[]⟩
noncomputable def ob114 : Obj := ⟨(.type "tuple"), none, (.seq #[(.int (1032) 646), (.str (Str.ofString "s") 647)] 0), #[]⟩
noncomputable def ob115 : Obj := ⟨(.type "tuple"), none, (.seq #[(.int (1024) 609), (.str (Str.ofString "S") 648)] 0), #[]⟩
noncomputable def ob116 : Obj := ⟨(.type "tuple"), none, (.seq #[(.int (8) 623), (.str (Str.ofString "x") 649)] 0), #[]⟩
noncomputable def ob117 : Obj := ⟨(.type "tuple"), none, (.seq #[(.ref 139), (.ref 140), (.ref 141)] 0), #[]⟩
noncomputable def ob118 : Obj := ⟨(.type "tuple"), none, (.seq #[(.int (4) 625), (.str (Str.ofString "r") 650)] 0), #[]⟩
noncomputable def ob119 : Obj := ⟨(.type "tuple"), none, (.seq #[(.ref 143)] 0), #[]⟩
noncomputable def ob120 : Obj := ⟨(.type "tuple"), none, (.seq #[(.int (2) 627), (.str (Str.ofString "w") 651)] 0), #[]⟩
noncomputable def ob121 : Obj := ⟨(.type "tuple"), none, (.seq #[(.ref 145)] 0), #[]⟩
noncomputable def ob122 : Obj := ⟨(.type "tuple"), none, (.seq #[(.int (513) 652), (.str (Str.ofString "t") 653)] 0), #[]⟩
noncomputable def ob123 : Obj := ⟨(.type "tuple"), none, (.seq #[(.int (512) 611), (.str (Str.ofString "T") 654)] 0), #[]⟩
noncomputable def ob124 : Obj := ⟨(.type "tuple"), none, (.seq #[(.int (1) 629), (.str (Str.ofString "x") 655)] 0), #[]⟩
noncomputable def ob125 : Obj := ⟨(.type "tuple"), none, (.seq #[(.ref 147), (.ref 148), (.ref 149)] 0), #[]⟩
noncomputable def ob126 : Obj := ⟨(.type "tuple"), none, (.seq #[(.ref 126), (.ref 128), (.ref 130), (.ref 134), (.ref 136), (.ref 138), (.ref 142), (.ref 144), (.ref 146), (.ref 150)] 0), #[]⟩
noncomputable def ob127 : Obj := ⟨(.type "tuple"), none, (.seq #[(.str (Str.ofString "mode") 660), (.str (Str.ofString "perm") 661), (.str (Str.ofString "index") 662), (.str (Str.ofString "table") 663), (.str (Str.ofString "bit") 664), (.str (Str.ofString "char") 665)] 0), #[]⟩
noncomputable def ob128 : Obj := ⟨.none, none, (.func { name := (Str.ofString "filemode"), qualname := (Str.ofString "filemode"), params := dP (dT 34), body := .stmts (dB (dT 34)), scope := dS (dT 34), globals := 0, closure := [], defaults := .none, kwdefaults := .none, doc := .none, pyModule := .none, annotations := none, code := .none, closureTuple := .none, builtins := 0 }), #[]⟩
noncomputable def ob129 : Obj := ⟨(.type "code"), none, (.fields #[(.str (Str.ofString "filemode") 657), (.str (Str.ofString "filemode") 658), (.str (Str.ofString "/claim/cut.py") 659), (.int (178) 0), (.int (1) 0), (.int (0) 0), (.int (0) 0), (.int (3) 0), (.ref 152), (.bool true), (.int (276) 0), (.ref 153), .none, (.ref 154), (.ref 155), (.ref 156), (.int (666) 0), (.int (178) 0), (.str (Str.ofString "/claim/cut.py") 667)]), #[]⟩
noncomputable def ob130 : Obj := ⟨(.type "function"), none, (.func { name := (Str.ofString "filemode"), qualname := (Str.ofString "filemode"), params := dP (dT 34), body := .stmts (dB (dT 34)), scope := dS (dT 34), globals := 3, closure := [], defaults := .none, kwdefaults := .none, doc := .none, pyModule := (.str (Str.ofString "cpy313.stat") 584), annotations := none, code := (.ref 157), closureTuple := .none, builtins := 0 }), #[]⟩
noncomputable def ob131 : Obj := ⟨(.type "tuple"), none, (.seq #[(.str (Str.ofString "mode") 674), (.str (Str.ofString "triples") 675), (.str (Str.ofString "shift") 676), (.str (Str.ofString "last") 677)] 0), #[]⟩
noncomputable def ob132 : Obj := ⟨.none, none, (.func { name := (Str.ofString "_law_triples"), qualname := (Str.ofString "_law_triples"), params := dP (dT 36), body := .stmts (dB (dT 36)), scope := dS (dT 36), globals := 0, closure := [], defaults := .none, kwdefaults := .none, doc := .none, pyModule := .none, annotations := none, code := .none, closureTuple := .none, builtins := 0 }), #[]⟩
noncomputable def ob133 : Obj := ⟨(.type "code"), none, (.fields #[(.str (Str.ofString "_law_triples") 671), (.str (Str.ofString "_law_triples") 672), (.str (Str.ofString "/claim/cut.py") 673), (.int (196) 0), (.int (1) 0), (.int (0) 0), (.int (0) 0), (.int (3) 0), (.ref 159), (.bool true), (.int (276) 0), (.ref 160), .none, (.ref 161), (.ref 162), (.ref 163), (.int (678) 0), (.int (196) 0), (.str (Str.ofString "/claim/cut.py") 679)]), #[]⟩
noncomputable def ob134 : Obj := ⟨(.type "function"), none, (.func { name := (Str.ofString "_law_triples"), qualname := (Str.ofString "_law_triples"), params := dP (dT 36), body := .stmts (dB (dT 36)), scope := dS (dT 36), globals := 3, closure := [], defaults := .none, kwdefaults := .none, doc := .none, pyModule := (.str (Str.ofString "law_in0278_01") 669), annotations := none, code := (.ref 164), closureTuple := .none, builtins := 0 }), #[]⟩
noncomputable def ob135 : Obj := ⟨(.type "tuple"), none, (.seq #[(.str (Str.ofString "mode") 684), (.str (Str.ofString "row") 685), (.str (Str.ofString "shift") 686), (.str (Str.ofString "triple") 687), (.str (Str.ofString "may") 688)] 0), #[]⟩
noncomputable def ob136 : Obj := ⟨.none, none, (.func { name := (Str.ofString "_law_row"), qualname := (Str.ofString "_law_row"), params := dP (dT 37), body := .stmts (dB (dT 37)), scope := dS (dT 37), globals := 0, closure := [], defaults := .none, kwdefaults := .none, doc := .none, pyModule := .none, annotations := none, code := .none, closureTuple := .none, builtins := 0 }), #[]⟩
noncomputable def ob137 : Obj := ⟨(.type "code"), none, (.fields #[(.str (Str.ofString "_law_row") 681), (.str (Str.ofString "_law_row") 682), (.str (Str.ofString "/claim/cut.py") 683), (.int (204) 0), (.int (1) 0), (.int (0) 0), (.int (0) 0), (.int (3) 0), (.ref 166), (.bool true), (.int (276) 0), (.ref 167), .none, (.ref 168), (.ref 169), (.ref 170), (.int (689) 0), (.int (204) 0), (.str (Str.ofString "/claim/cut.py") 690)]), #[]⟩
noncomputable def ob138 : Obj := ⟨(.type "function"), none, (.func { name := (Str.ofString "_law_row"), qualname := (Str.ofString "_law_row"), params := dP (dT 37), body := .stmts (dB (dT 37)), scope := dS (dT 37), globals := 3, closure := [], defaults := .none, kwdefaults := .none, doc := .none, pyModule := (.str (Str.ofString "law_in0278_01") 669), annotations := none, code := (.ref 171), closureTuple := .none, builtins := 0 }), #[]⟩
noncomputable def ob139 : Obj := ⟨(.type "tuple"), none, (.seq #[(.str (Str.ofString "number") 695), (.str (Str.ofString "code") 696), (.str (Str.ofString "sizes") 697), (.str (Str.ofString "agent") 698), (.str (Str.ofString "place") 699), (.str (Str.ofString "sign") 700)] 0), #[]⟩
noncomputable def ob140 : Obj := ⟨.none, none, (.func { name := (Str.ofString "_law_agent"), qualname := (Str.ofString "_law_agent"), params := dP (dT 38), body := .stmts (dB (dT 38)), scope := dS (dT 38), globals := 0, closure := [], defaults := .none, kwdefaults := .none, doc := .none, pyModule := .none, annotations := none, code := .none, closureTuple := .none, builtins := 0 }), #[]⟩
noncomputable def ob141 : Obj := ⟨(.type "code"), none, (.fields #[(.str (Str.ofString "_law_agent") 692), (.str (Str.ofString "_law_agent") 693), (.str (Str.ofString "/claim/cut.py") 694), (.int (210) 0), (.int (1) 0), (.int (0) 0), (.int (0) 0), (.int (3) 0), (.ref 173), (.bool true), (.int (276) 0), (.ref 174), .none, (.ref 175), (.ref 176), (.ref 177), (.int (701) 0), (.int (210) 0), (.str (Str.ofString "/claim/cut.py") 702)]), #[]⟩
noncomputable def ob142 : Obj := ⟨(.type "function"), none, (.func { name := (Str.ofString "_law_agent"), qualname := (Str.ofString "_law_agent"), params := dP (dT 38), body := .stmts (dB (dT 38)), scope := dS (dT 38), globals := 3, closure := [], defaults := .none, kwdefaults := .none, doc := .none, pyModule := (.str (Str.ofString "law_in0278_01") 669), annotations := none, code := (.ref 178), closureTuple := .none, builtins := 0 }), #[]⟩
noncomputable def ob143 : Obj := ⟨(.type "tuple"), none, (.seq #[(.str (Str.ofString "agent") 707), (.str (Str.ofString "row") 708), (.str (Str.ofString "text") 709)] 0), #[]⟩
noncomputable def ob144 : Obj := ⟨.none, none, (.func { name := (Str.ofString "_law_takes"), qualname := (Str.ofString "_law_takes"), params := dP (dT 39), body := .stmts (dB (dT 39)), scope := dS (dT 39), globals := 0, closure := [], defaults := .none, kwdefaults := .none, doc := .none, pyModule := .none, annotations := none, code := .none, closureTuple := .none, builtins := 0 }), #[]⟩
noncomputable def ob145 : Obj := ⟨(.type "code"), none, (.fields #[(.str (Str.ofString "_law_takes") 704), (.str (Str.ofString "_law_takes") 705), (.str (Str.ofString "/claim/cut.py") 706), (.int (218) 0), (.int (2) 0), (.int (0) 0), (.int (0) 0), (.int (3) 0), (.ref 180), (.bool true), (.int (276) 0), (.ref 181), .none, (.ref 182), (.ref 183), (.ref 184), (.int (710) 0), (.int (218) 0), (.str (Str.ofString "/claim/cut.py") 711)]), #[]⟩
noncomputable def ob146 : Obj := ⟨(.type "function"), none, (.func { name := (Str.ofString "_law_takes"), qualname := (Str.ofString "_law_takes"), params := dP (dT 39), body := .stmts (dB (dT 39)), scope := dS (dT 39), globals := 3, closure := [], defaults := .none, kwdefaults := .none, doc := .none, pyModule := (.str (Str.ofString "law_in0278_01") 669), annotations := none, code := (.ref 185), closureTuple := .none, builtins := 0 }), #[]⟩
noncomputable def ob147 : Obj := ⟨(.type "tuple"), none, (.seq #[(.str (Str.ofString "agents") 716), (.str (Str.ofString "verdict") 717), (.str (Str.ofString "record") 718), (.str (Str.ofString "agent") 719)] 0), #[]⟩
noncomputable def ob148 : Obj := ⟨.none, none, (.func { name := (Str.ofString "_law_record"), qualname := (Str.ofString "_law_record"), params := dP (dT 40), body := .stmts (dB (dT 40)), scope := dS (dT 40), globals := 0, closure := [], defaults := .none, kwdefaults := .none, doc := .none, pyModule := .none, annotations := none, code := .none, closureTuple := .none, builtins := 0 }), #[]⟩
noncomputable def ob149 : Obj := ⟨(.type "code"), none, (.fields #[(.str (Str.ofString "_law_record") 713), (.str (Str.ofString "_law_record") 714), (.str (Str.ofString "/claim/cut.py") 715), (.int (225) 0), (.int (2) 0), (.int (0) 0), (.int (0) 0), (.int (3) 0), (.ref 187), (.bool true), (.int (276) 0), (.ref 188), .none, (.ref 189), (.ref 190), (.ref 191), (.int (720) 0), (.int (225) 0), (.str (Str.ofString "/claim/cut.py") 721)]), #[]⟩
noncomputable def ob150 : Obj := ⟨(.type "function"), none, (.func { name := (Str.ofString "_law_record"), qualname := (Str.ofString "_law_record"), params := dP (dT 40), body := .stmts (dB (dT 40)), scope := dS (dT 40), globals := 3, closure := [], defaults := .none, kwdefaults := .none, doc := .none, pyModule := (.str (Str.ofString "law_in0278_01") 669), annotations := none, code := (.ref 192), closureTuple := .none, builtins := 0 }), #[]⟩
noncomputable def ob151 : Obj := ⟨(.type "tuple"), none, (.seq #[(.str (Str.ofString "row") 726), (.str (Str.ofString "mode") 727), (.str (Str.ofString "records") 728), (.str (Str.ofString "book") 729), (.str (Str.ofString "record") 730)] 0), #[]⟩
noncomputable def ob152 : Obj := ⟨.none, none, (.func { name := (Str.ofString "_law_book"), qualname := (Str.ofString "_law_book"), params := dP (dT 41), body := .stmts (dB (dT 41)), scope := dS (dT 41), globals := 0, closure := [], defaults := .none, kwdefaults := .none, doc := .none, pyModule := .none, annotations := none, code := .none, closureTuple := .none, builtins := 0 }), #[]⟩
noncomputable def ob153 : Obj := ⟨(.type "code"), none, (.fields #[(.str (Str.ofString "_law_book") 723), (.str (Str.ofString "_law_book") 724), (.str (Str.ofString "/claim/cut.py") 725), (.int (231) 0), (.int (3) 0), (.int (0) 0), (.int (0) 0), (.int (3) 0), (.ref 194), (.bool true), (.int (276) 0), (.ref 195), .none, (.ref 196), (.ref 197), (.ref 198), (.int (731) 0), (.int (231) 0), (.str (Str.ofString "/claim/cut.py") 732)]), #[]⟩
noncomputable def ob154 : Obj := ⟨(.type "function"), none, (.func { name := (Str.ofString "_law_book"), qualname := (Str.ofString "_law_book"), params := dP (dT 41), body := .stmts (dB (dT 41)), scope := dS (dT 41), globals := 3, closure := [], defaults := .none, kwdefaults := .none, doc := .none, pyModule := (.str (Str.ofString "law_in0278_01") 669), annotations := none, code := (.ref 199), closureTuple := .none, builtins := 0 }), #[]⟩
noncomputable def ob155 : Obj := ⟨(.type "tuple"), none, (.seq #[(.str (Str.ofString "lines") 737), (.str (Str.ofString "rules") 738), (.str (Str.ofString "line") 739)] 0), #[]⟩
noncomputable def ob156 : Obj := ⟨.none, none, (.func { name := (Str.ofString "_law_back"), qualname := (Str.ofString "_law_back"), params := dP (dT 42), body := .stmts (dB (dT 42)), scope := dS (dT 42), globals := 0, closure := [], defaults := .none, kwdefaults := .none, doc := .none, pyModule := .none, annotations := none, code := .none, closureTuple := .none, builtins := 0 }), #[]⟩
noncomputable def ob157 : Obj := ⟨(.type "code"), none, (.fields #[(.str (Str.ofString "_law_back") 734), (.str (Str.ofString "_law_back") 735), (.str (Str.ofString "/claim/cut.py") 736), (.int (238) 0), (.int (1) 0), (.int (0) 0), (.int (0) 0), (.int (3) 0), (.ref 201), (.bool true), (.int (276) 0), (.ref 202), .none, (.ref 203), (.ref 204), (.ref 205), (.int (740) 0), (.int (238) 0), (.str (Str.ofString "/claim/cut.py") 741)]), #[]⟩
noncomputable def ob158 : Obj := ⟨(.type "function"), none, (.func { name := (Str.ofString "_law_back"), qualname := (Str.ofString "_law_back"), params := dP (dT 42), body := .stmts (dB (dT 42)), scope := dS (dT 42), globals := 3, closure := [], defaults := .none, kwdefaults := .none, doc := .none, pyModule := (.str (Str.ofString "law_in0278_01") 669), annotations := none, code := (.ref 206), closureTuple := .none, builtins := 0 }), #[]⟩
noncomputable def ob159 : Obj := ⟨.none, none, (.func { name := (Str.ofString "law"), qualname := (Str.ofString "law"), params := dP (dT 43), body := .stmts (dB (dT 43)), scope := dS (dT 43), globals := 0, closure := [], defaults := .none, kwdefaults := .none, doc := .none, pyModule := .none, annotations := none, code := .none, closureTuple := .none, builtins := 0 }), #[]⟩
noncomputable def ob160 : Obj := ⟨(.type "code"), none, (.fields #[(.str (Str.ofString "law") 743), (.str (Str.ofString "law") 744), (.str (Str.ofString "/claim/cut.py") 745), (.int (248) 0), (.int (1) 0), (.int (0) 0), (.int (0) 0), (.int (3) 0), (.ref 208), (.bool true), (.int (276) 0), (.ref 209), .none, .none, .none, (.ref 210), (.int (746) 0), (.int (248) 0), (.str (Str.ofString "/claim/cut.py") 747)]), #[]⟩
noncomputable def ob161 : Obj := ⟨(.type "function"), none, (.func { name := (Str.ofString "law"), qualname := (Str.ofString "law"), params := dP (dT 43), body := .stmts (dB (dT 43)), scope := dS (dT 43), globals := 3, closure := [], defaults := .none, kwdefaults := .none, doc := .none, pyModule := (.str (Str.ofString "law_in0278_01") 669), annotations := none, code := (.ref 211), closureTuple := .none, builtins := 0 }), #[]⟩
noncomputable def hp5 (P : Params) : Heap := ⟨⟨ob0 P :: ob1 P :: ob2 P :: ob92 P :: ob4 :: ob5 :: ob6 :: ob7 :: ob8 :: ob9 :: ob10 :: ob11 P :: ob12 :: ob13 P :: ob14 :: ob7 :: ob15 :: ob16 :: ob17 :: ob18 :: ob19 P :: ob20 P :: ob21 :: ob22 :: ob23 :: ob24 :: ob25 :: ob26 :: ob7 :: ob93 :: ob27 :: ob28 :: ob7 :: ob31 :: ob32 P :: ob7 :: ob33 :: ob34 :: ob35 :: ob7 :: ob8 :: ob36 :: ob7 :: ob37 :: ob38 :: ob39 :: ob7 :: ob8 :: ob40 :: ob7 :: ob41 :: ob42 :: ob43 :: ob7 :: ob8 :: ob44 :: ob7 :: ob45 :: ob46 :: ob47 :: ob7 :: ob8 :: ob48 :: ob7 :: ob49 :: ob50 :: ob51 :: ob52 :: ob53 P :: ob54 :: ob55 :: ob56 :: ob57 :: ob58 :: ob61 :: ob6 :: ob62 :: ob63 :: ob64 :: ob7 :: ob8 :: ob65 :: ob7 :: ob66 :: ob67 :: ob68 :: ob70 :: ob71 :: ob72 :: ob7 :: ob73 :: ob7 :: ob8 :: ob76 :: ob7 :: ob77 :: ob78 :: ob79 :: ob7 :: ob8 :: ob80 :: ob7 :: ob81 :: ob82 :: ob83 :: ob7 :: ob8 :: ob84 :: ob7 :: ob85 :: ob86 :: ob87 :: ob7 :: ob8 :: ob88 :: ob7 :: ob89 :: ob90 :: ob91 :: ob94 :: ob95 :: ob96 :: ob97 :: ob98 :: ob99 :: ob100 :: ob101 :: ob102 :: ob103 :: ob104 :: ob105 :: ob106 :: ob107 :: ob108 :: ob109 :: ob110 :: ob111 :: ob112 :: ob113 :: ob114 :: ob115 :: ob116 :: ob117 :: ob118 :: ob119 :: ob120 :: ob121 :: ob122 :: ob123 :: ob124 :: ob125 :: ob126 :: ob7 :: ob8 :: ob127 :: ob7 :: ob128 :: ob129 :: ob130 :: ob7 :: ob8 :: ob131 :: ob7 :: ob132 :: ob133 :: ob134 :: ob7 :: ob8 :: ob135 :: ob7 :: ob136 :: ob137 :: ob138 :: ob7 :: ob8 :: ob139 :: ob7 :: ob140 :: ob141 :: ob142 :: ob7 :: ob8 :: ob143 :: ob7 :: ob144 :: ob145 :: ob146 :: ob7 :: ob8 :: ob147 :: ob7 :: ob148 :: ob149 :: ob150 :: ob7 :: ob8 :: ob151 :: ob7 :: ob152 :: ob153 :: ob154 :: ob7 :: ob8 :: ob155 :: ob7 :: ob156 :: ob157 :: ob158 :: ob7 :: ob8 :: ob159 :: ob160 :: ob161 :: []⟩, life0⟩
noncomputable abbrev hpz (P : Params) : Heap := hp5 P
noncomputable def tk0 : Nat := 276
noncomputable def ps0 : Pos := ⟨0, 0, 0, 0⟩
noncomputable def tka : Nat := 282
noncomputable def psa : Pos := ⟨0, 0, 0, 0⟩
noncomputable def tkb : Nat := 282
noncomputable def psb : Pos := ⟨0, 0, 0, 0⟩
noncomputable def tk1 : Nat := 346
noncomputable def ps1 : Pos := ⟨3, 0, 50, 24⟩
noncomputable def tk2 : Nat := 397
noncomputable def ps2 : Pos := ⟨57, 0, 57, 8⟩
noncomputable def tk3 : Nat := 543
noncomputable def ps3 : Pos := ⟨58, 0, 58, 18⟩
noncomputable def tk4 : Nat := 631
noncomputable def ps4 : Pos := ⟨176, 0, 176, 7⟩
noncomputable def tk5 : Nat := 749
noncomputable def ps5 : Pos := ⟨248, 0, 280, 15⟩
noncomputable def tkz : Nat := 749
noncomputable def psz : Pos := ⟨248, 0, 280, 15⟩
noncomputable def mG : Nat := 28
noncomputable def annG : Option Value := some (.ref 6)
noncomputable def envG : Env := { scope := pG.main.scope, locals := mainNs, globals := mainNs, cells := [], code := (.ref 30), frame := some 31 }
noncomputable def qG : Pos := ⟨0, 0, 0, 0⟩
-- steps 12 0 [9, 327, 9, 81, 31, 9, 1242, 29, 9, 41, 35, 9, 29, 9, 9, 9, 9, 9, 9, 9, 9, 9, 9, 9, 9, 9, 9, 9, 9, 9, 9, 9, 161, 34, 9, 32, 33, 34, 31, 32, 33, 31, 26] 1

noncomputable def bG : List Stmt := behindTheImports pG
noncomputable def cG : Code := .body bG envG
noncomputable abbrev BG : List Frame := [topFrame qG]
noncomputable def g1 : List Stmt := bG.take 2
noncomputable def g2 : List Stmt := (bG.drop 2).take 4
noncomputable def g3 : List Stmt := (bG.drop 6).take 1
noncomputable def g4 : List Stmt := (bG.drop 7).take 25
noncomputable def g5 : List Stmt := bG.drop 32
theorem bG_eq : bG = g1 ++ (g2 ++ (g3 ++ (g4 ++ (g5 ++ [])))) := by kernel_rfl
theorem openG : ∀ w : World, (fencedOpening treeTable pG w N1).map (fun s => (s.heap, s.gens, s.drawn, s.toks)) = some (hp0 w.params, #[], {}, tk0) := by intro w; kernel_rfl
theorem sizeG : ∀ w : World, ((hp0 w.params).isNs mainGlobals && (#[] : Array GenState).size == 0, (hp0 w.params).objs.size, (hp0 w.params).nsMap mainGlobals "__annotations__") = (true, mG, annG) := by intro w; kernel_rfl
theorem preG : ∀ (w : World) (os : OsState), topGo treeTable pG w mG annG 12 ⟨hp0 w.params, #[], {}, tk0, os⟩ (topStub pG) = some (⟨hpa w.params, #[], {}, tka, os⟩, ⟨denote treeTable cG, cG, psa, BG⟩) := by intro w os; kernel_rfl
theorem blockG : ∀ (w : World) (os : OsState), segRun treeTable pG w mG annG 1 2 ⟨hpa w.params, #[], {}, tka, os⟩ (blockOf bG envG cG psa BG) = some (.next, ⟨hpb w.params, #[], {}, tkb, os⟩, cG, psb) := by intro w os; kernel_rfl
theorem sG1 : ∀ (w : World) (os : OsState), segRun treeTable pG w mG annG 1 600 ⟨hpb w.params, #[], {}, tkb, os⟩ (piecesOf g1 envG cG psb BG) = some (.next, ⟨hp1 w.params, #[], {}, tk1, os⟩, cG, ps1) := by intro w os; kernel_rfl
theorem sG2 : ∀ (w : World) (os : OsState), segRun treeTable pG w mG annG 1 600 ⟨hp1 w.params, #[], {}, tk1, os⟩ (piecesOf g2 envG cG ps1 BG) = some (.next, ⟨hp2 w.params, #[], {}, tk2, os⟩, cG, ps2) := by intro w os; kernel_rfl
noncomputable abbrev S3 (w : World) : Prop := ∀ os : OsState, segRun treeTable pG w mG annG 1 1500 ⟨hp2 w.params, #[], {}, tk2, os⟩ (piecesOf g3 envG cG ps2 BG) = some (.next, ⟨hp3 w.params, #[], {}, tk3, os⟩, cG, ps3)
theorem l00 : ∀ w : World, S3 (w2 w false false) := by intro w os; kernel_rfl
theorem l01 : ∀ w : World, S3 (w2 w false true) := by intro w os; kernel_rfl
theorem l10 : ∀ w : World, S3 (w2 w true false) := by intro w os; kernel_rfl
theorem l11 : ∀ w : World, S3 (w2 w true true) := by intro w os; kernel_rfl
theorem sG3 : ∀ w : World, S3 w :=
  byRow2 "comprehension-iter-twice" (P := S3) (byRow2 "special-get-raises" (P := fun w => S3 (w.withFollow "comprehension-iter-twice" false)) l00 l01) (byRow2 "special-get-raises" (P := fun w => S3 (w.withFollow "comprehension-iter-twice" true)) l10 l11)
theorem sG4 : ∀ (w : World) (os : OsState), segRun treeTable pG w mG annG 1 600 ⟨hp3 w.params, #[], {}, tk3, os⟩ (piecesOf g4 envG cG ps3 BG) = some (.next, ⟨hp4 w.params, #[], {}, tk4, os⟩, cG, ps4) := by intro w os; kernel_rfl
theorem sG5 : ∀ (w : World) (os : OsState), segRun treeTable pG w mG annG 1 600 ⟨hp4 w.params, #[], {}, tk4, os⟩ (piecesOf g5 envG cG ps4 BG) = some (.next, ⟨hp5 w.params, #[], {}, tk5, os⟩, cG, ps5) := by intro w os; kernel_rfl
theorem finG : ∀ (w : World) (os : OsState), topRun treeTable pG w mG annG 3 ⟨hp5 w.params, #[], {}, tk5, os⟩ ⟨doneF .next, cG, ps5, BG⟩ = some ⟨hpz w.params, #[], {}, tkz, os⟩ := by intro w os; kernel_rfl
theorem runG : ∀ (w : World) (os : OsState), topRun treeTable pG w mG annG (12 + (2 + (600 + (600 + (1500 + (600 + (600 + 3))))))) ⟨hp0 w.params, #[], {}, tk0, os⟩ (topStub pG) = some ⟨hpz w.params, #[], {}, tkz, os⟩ := fun w os => by
  refine go_top (preG w os) (piece_block (blockG w os) ?_)
  have k := piece_app (sG1 w os) (piece_app (sG2 w os) (piece_app (sG3 w os) (piece_app (sG4 w os) (piece_app (sG5 w os) (piece_nil (env := envG) (finG w os))))))
  rw [← bG_eq] at k
  exact k
theorem looksG : ∀ w : World, (fun os => ((staticsOk (importedModules pG.main.body) (hp0 w.params) (hpz w.params) && namesBound pG (hpz w.params) && gensDone ⟨hpz w.params, #[], {}, tkz, os⟩ && laidKept (hp0 w.params) (hpz w.params)),
    openSeen q1 loose1 (importedModules pG.main.body) X1 true ⟨hpz w.params, #[], {}, tkz, os⟩, H0.obs ⟨hpz w.params, #[], {}, tkz, os⟩)) = fun _ => (true, openGood q1 loose1, H0.val w) := by intro w; funext os; kernel_rfl
theorem left1 : LeftO PySem.Challenge.rw_in0278_01.row.prog q1 loose1 X1 H0.obs H0.val N1 :=
  LeftO.of_pieces (H₀ := hp0) (H₁ := hpz) (gs₀ := #[]) (gs₁ := #[]) (d₀ := {}) (d₁ := {}) (k₀ := tk0) (k₁ := tkz) (m₀ := mG) (ann := annG) (M := 12 + (2 + (600 + (600 + (1500 + (600 + (600 + 3))))))) openG sizeG runG (by decide) looksG
end Mine

end
section
open PySem PySem.W PySem.Calls PyProof.Rows
set_option linter.unusedVariables false
set_option maxRecDepth 100000
namespace Mine

/-! A small program logic over deep values: a frozen part of the heap bears the values, the frame's own lists turn. -/

/-- a deep value -/
inductive V where
  | nil
  | bool (b : Bool)
  | int (i : Int)
  | str (x : Str)
  | tup (vs : List V)
  | lst (vs : List V)
  | raw (v : Value)
  | ins (ks : List Str) (vs : List V)
  | obj (p d : Addr)

noncomputable abbrev Zp := Addr → Option Obj
noncomputable def Sub (z : Zp) (h : Heap) : Prop := ∀ b o, z b = some o → h.get? b = some o

/-- a plain list or tuple of these items -/
noncomputable def SeqIs (T : String) (q : Option Obj) (xs : List Value) : Prop := ∃ o n, q = some o ∧ o.cls = .type T ∧ o.dict = o.dict ∧ o.data = .seq xs.toArray n
theorem SeqIs.mono {T : String} {q q' : Option Obj} {xs : List Value} (h : SeqIs T q xs) (k : ∀ o, q = some o → q' = some o) : SeqIs T q' xs :=
  let ⟨o, n, e, r⟩ := h; ⟨o, n, k o e, r⟩

theorem SeqIs.plain {h : Heap} {a : Addr} {xs : List Value} (p : h.PlainList a xs.toArray) : SeqIs "list" (h.get? a) xs := let ⟨n, e⟩ := p; ⟨_, n, e, rfl, rfl, rfl⟩

/-- the dict of an object of a class -/
noncomputable def FieldsOk : List Str → List Value → List DictEntry → Prop
  | [], [], [] => True
  | k :: ks, x :: xs, e :: es => e.val = x ∧ (∃ t, e.key = .str k t) ∧ FieldsOk ks xs es
  | _, _, _ => False

mutual
/-- the value x bears v over the frozen part z; C: the class of the instances -/
noncomputable def Rz (C : Addr) (z : Zp) : V → Value → Prop
  | .nil, x => x = .none
  | .bool b, x => x = .bool b
  | .int i, x => ∃ t, x = .int i t
  | .str s, x => ∃ t, x = .str s t
  | .tup vs, x => ∃ a xs, x = .ref a ∧ SeqIs "tuple" (z a) xs ∧ RzL C z vs xs
  | .lst vs, x => ∃ a xs, x = .ref a ∧ SeqIs "list" (z a) xs ∧ RzL C z vs xs
  | .raw v, x => x = v
  | .obj p d, x => x = .ref p ∧ z p = some (instObj C d)
  | .ins ks vs, x => ∃ a d es n xs, x = .ref a ∧ z a = some (instObj C d) ∧ z d = some (dictOf es n) ∧ FieldsOk ks xs es ∧ RzL C z vs xs
noncomputable def RzL (C : Addr) (z : Zp) : List V → List Value → Prop
  | [], xs => xs = []
  | v :: vs, xs => ∃ x r, xs = x :: r ∧ Rz C z v x ∧ RzL C z vs r
end

mutual
theorem Rz.mono {C : Addr} {z z' : Zp} (hz : ∀ b o, z b = some o → z' b = some o) : ∀ {v : V} {x : Value}, Rz C z v x → Rz C z' v x
  | .nil, _, h => h
  | .bool _, _, h => h
  | .int _, _, h => h
  | .str _, _, h => h
  | .raw _, _, h => h
  | .tup _, _, ⟨a, xs, e, o, r⟩ => ⟨a, xs, e, o.mono (hz a), RzL.mono hz r⟩
  | .lst _, _, ⟨a, xs, e, o, r⟩ => ⟨a, xs, e, o.mono (hz a), RzL.mono hz r⟩
  | .obj _ _, _, ⟨e, o⟩ => ⟨e, hz _ _ o⟩
  | .ins _ _, _, ⟨a, d, es, n, xs, e, o, q, f, r⟩ => ⟨a, d, es, n, xs, e, hz _ _ o, hz _ _ q, f, RzL.mono hz r⟩
theorem RzL.mono {C : Addr} {z z' : Zp} (hz : ∀ b o, z b = some o → z' b = some o) : ∀ {vs : List V} {xs : List Value}, RzL C z vs xs → RzL C z' vs xs
  | [], _, h => h
  | _ :: _, _, ⟨x, r, e, h, t⟩ => ⟨x, r, e, Rz.mono hz h, RzL.mono hz t⟩
end

theorem RzL.length {C : Addr} {z : Zp} : ∀ {vs : List V} {xs : List Value}, RzL C z vs xs → xs.length = vs.length
  | [], _, h => by cases h; rfl
  | _ :: vs, _, ⟨x, r, e, _, t⟩ => by rw [e, List.length_cons, List.length_cons, RzL.length t]
theorem RzL.append {C : Addr} {z : Zp} {ws : List V} {ys : List Value} (h2 : RzL C z ws ys) : ∀ {vs : List V} {xs : List Value}, RzL C z vs xs → RzL C z (vs ++ ws) (xs ++ ys)
  | [], _, h => by cases h; exact h2
  | _ :: _, _, ⟨x, r, e, h, t⟩ => ⟨x, r ++ ys, by rw [e]; rfl, h, RzL.append h2 t⟩
theorem RzL.one {C : Addr} {z : Zp} {v : V} {x : Value} (h : Rz C z v x) : RzL C z [v] [x] := ⟨x, [], rfl, h, rfl⟩
theorem RzL.get {C : Addr} {z : Zp} : ∀ {vs : List V} {xs : List Value}, RzL C z vs xs → ∀ (i : Nat) (v : V), vs[i]? = some v → ∃ x, xs[i]? = some x ∧ Rz C z v x
  | [], _, _, _, _, h => by cases h
  | _ :: _, _, ⟨x, r, e, h, t⟩, 0, v, hv => by
    cases hv; exact ⟨x, by rw [e]; rfl, h⟩
  | _ :: _, _, ⟨x, r, e, h, t⟩, i + 1, v, hv => by
    obtain ⟨y, hy, hr⟩ := RzL.get t i v (by simpa using hv)
    exact ⟨y, by rw [e]; simpa using hy, hr⟩

/-- what a step of an expression leaves -/
structure Ext (z : Zp) (s : Shared) (z' : Zp) (s' : Shared) : Prop where
  zz : ∀ b o, z b = some o → z' b = some o
  sub : Sub z' s'.heap
  keep : ∀ b o, s.heap.get? b = some o → s'.heap.get? b = some o
  new : ∀ b o, z' b = some o → z b = none → s.heap.get? b = none
  gens : s'.gens = s.gens
  dr : s'.drawn = s.drawn
  os : s'.os = s.os

theorem Ext.refl {z : Zp} {s : Shared} (h : Sub z s.heap) : Ext z s z s := ⟨fun _ _ e => e, h, fun _ _ e => e, fun _ _ e n => (by rw [n] at e; cases e), rfl, rfl, rfl⟩
theorem Ext.trans {z z' z'' : Zp} {s s' s'' : Shared} (x : Ext z s z' s') (y : Ext z' s' z'' s'') : Ext z s z'' s'' where
  zz b o e := y.zz b o (x.zz b o e)
  sub := y.sub
  keep b o e := y.keep b o (x.keep b o e)
  new b o e n := by
    cases q : z' b with
    | some o' => exact x.new b o' q n
    | none =>
      have := y.new b o e q
      cases q2 : s.heap.get? b with
      | none => rfl
      | some o2 => rw [x.keep b o2 q2] at this; cases this
  gens := y.gens.trans x.gens
  dr := y.dr.trans x.dr
  os := y.os.trans x.os

/-- a state that differs by its tokens -/
theorem Ext.toks {z : Zp} {s : Shared} (h : Sub z s.heap) (t : Nat) : Ext z s z { s with toks := t } := ⟨fun _ _ e => e, h, fun _ _ e => e, fun _ _ e n => (by rw [n] at e; cases e), rfl, rfl, rfl⟩
/-- a heap that has grown -/
theorem Ext.grow {z : Zp} {s : Shared} {h' : Heap} {t : Nat} (h : Sub z s.heap) (k : ∀ b o, s.heap.get? b = some o → h'.get? b = some o) : Ext z s z { s with heap := h', toks := t } :=
  ⟨fun _ _ e => e, fun b o e => k b o (h b o e), k, fun _ _ e n => (by rw [n] at e; cases e), rfl, rfl, rfl⟩
/-- one new object, frozen at once -/
noncomputable def Zp.put (z : Zp) (a : Addr) (o : Obj) : Zp := fun b => if b = a then some o else z b
theorem Zp.put_self {z : Zp} {a : Addr} {o : Obj} : z.put a o a = some o := by simp [Zp.put]
theorem Zp.put_old {z : Zp} {a : Addr} {o : Obj} (hz : z a = none) : ∀ b q, z b = some q → z.put a o b = some q := by
  intro b q e
  have : b ≠ a := fun h => by rw [h, hz] at e; cases e
  simp [Zp.put, this, e]
theorem Sub.fresh {z : Zp} {h : Heap} (k : Sub z h) : z h.objs.size = none := by
  cases q : z h.objs.size with
  | none => rfl
  | some o => exact absurd (Heap.lt_size (k _ _ q)) (Nat.lt_irrefl _)
theorem get_fresh (h : Heap) : h.get? h.objs.size = none := by
  cases q : h.get? h.objs.size with
  | none => rfl
  | some o => exact absurd (Heap.lt_size q) (Nat.lt_irrefl _)
theorem Ext.push {z : Zp} {s : Shared} {o : Obj} (h : Sub z s.heap) (hf : o.isFreed = false) : Ext z s (z.put s.heap.objs.size o) { s with heap := s.heap.push o } :=
  ⟨Zp.put_old h.fresh, fun b q e => by
    by_cases hb : b = s.heap.objs.size
    · subst hb
      rw [Zp.put_self] at e; cases e
      exact Heap.get?_push_size _ hf
    · exact Heap.get?_push_of_some _ (h b q (by simpa [Zp.put, hb] using e)),
   fun _ _ e => Heap.get?_push_of_some _ e, fun b q e n => by
    by_cases hb : b = s.heap.objs.size
    · subst hb; exact get_fresh _
    · simp [Zp.put, hb, n] at e, rfl, rfl, rfl⟩
end Mine

end
section
open PySem PySem.W PySem.Calls PyProof.Rows
set_option linter.unusedVariables false
set_option maxRecDepth 100000
namespace Mine

/-- what stands for the whole law: the top's written part, its names -/
structure Gl (prog : Program) (w : World) (K : Frag) where
  zB : Zp
  C : Addr
  mg : Str → Option Value
  mb : Str → Option Value
  inK : ∀ a o, K.lookup a = some o → zB a = some o
  nolim : ∀ h, Sub zB h → h.NoLimit
  gNs : ∀ h, Sub zB h → h.Ns mainGlobals mg
  bNs : ∀ h, Sub zB h → h.Ns builtinsNs mb
  gK : ∀ x v, nsIn K mainGlobals x = some (some v) → mg x = some v
  gB : ∀ x v, nsIn K mainGlobals x = some none → bootBuiltins x = some v → x ≠ "__name__" → mg x = none ∧ mb x = some v

noncomputable def Room (r : Nat) (A : Around) : Prop := A.depth + r < recursionLimit ∧ A.units + 60 * r + 60 < cLine
theorem Room.lt {r : Nat} {A : Around} (h : Room r A) : A.depth < recursionLimit := by unfold Room at h; omega
theorem Room.units {r : Nat} {A : Around} (h : Room r A) : A.units + 60 < cLine := by unfold Room at h; omega
theorem Room.deeper {r : Nat} {A : Around} {env : Env} (h : Room (r + 1) A) : Room r (A.deeper env) := by
  unfold Room at h ⊢
  show A.depth + 1 + r < _ ∧ A.units + 3 + 60 * r + 60 < _
  omega
theorem Room.less {r r' : Nat} {A : Around} (h : Room r A) (hr : r' ≤ r) : Room r' A := by unfold Room at h ⊢; omega

section
variable {prog : Program} {w : World} {K : Frag}

/-- a frame at work -/
structure Frm (G : Gl prog w K) (r : Nat) (sc : Scope) where
  L : Addr
  cells : List (Str × Addr)
  qual : Str
  func : Option Addr
  code : Value
  frame : Option Addr
  A : Around
  base : Zp
  z0 : Zp
  g : Array GenState
  dr : Drawn
  os : OsState
  hk : sc.kind = .function
  zB : ∀ b o, G.zB b = some o → z0 b = some o
  hh : A.handled = none
  room : Room r A
@[reducible] noncomputable def Frm.env {G : Gl prog w K} {r : Nat} {sc : Scope} (F : Frm G r sc) : Env :=
  { scope := sc, locals := F.L, globals := mainGlobals, cells := F.cells, qual := F.qual, func := F.func, code := F.code, frame := F.frame, builtins := builtinsNs }

/-- what a name holds: a value; an own list; the append of an own list. Ghosts (names of no scope): a list at a, an object's dict at a -/
inductive LV where
  | v (x : V)
  | own (xs : List V)
  | app (y : Str)
  | gl (a : Addr) (xs : List V)
  | gd (a : Addr) (ks : List Str) (vs : List V)
noncomputable def LV.mine : LV → Bool
  | .v _ | .app _ => false
  | _ => true
noncomputable def LV.isApp (x : Str) : LV → Bool
  | .app y => y == x
  | _ => false
noncomputable abbrev Locs := List (Str × LV)
noncomputable def put (l : Locs) (x : Str) (lv : LV) : Locs := (x, lv) :: l.filter fun p => !(p.1 == x) && !p.2.isApp x

variable {G : Gl prog w K} {r : Nat} {sc : Scope}

/-- the name x holds the value -/
noncomputable def Frm.Nm (F : Frm G r sc) (m : Str → Option Value) (h : Heap) (x : Str) (val : Value) : Prop :=
  (sc.names.lookup x = some .local ∧ m x = some val) ∨ ((sc.names.lookup x = some .cell ∨ sc.names.lookup x = some .free) ∧ ∃ c, F.cells.lookup x = some c ∧ h.IsCell c (some val))
noncomputable def Frm.Fresh (F : Frm G r sc) (z : Zp) (a : Addr) : Prop := z a = none ∧ F.base a = none

noncomputable def appObj (a : Addr) (o : Obj) : Prop := o.cls = .type "builtin_function_or_method" ∧ ∃ vs, o.data = .fields vs ∧ vs.toList = [.builtin "list.append", .ref a]

/-- what an own thing holds -/
noncomputable def Cont (C : Addr) (z : Zp) (h : Heap) (a : Addr) : LV → Prop
  | .own xs | .gl _ xs => ∃ vals, h.PlainList a vals.toArray ∧ RzL C z xs vals
  | .gd _ ks vs => ∃ es n xs, h.get? a = some (dictOf es n) ∧ FieldsOk ks xs es ∧ RzL C z vs xs
  | _ => True
theorem Cont.mono {C : Addr} {z z' : Zp} {h h' : Heap} {a : Addr} {u : LV} (c : Cont C z h a u) (hz : ∀ b o, z b = some o → z' b = some o) (hh : ∀ o, h.get? a = some o → h'.get? a = some o) : Cont C z' h' a u := by
  cases u with
  | v _ => exact c
  | app _ => exact c
  | own xs => obtain ⟨vals, p, rl⟩ := c; exact ⟨vals, p.at hh, RzL.mono hz rl⟩
  | gl _ xs => obtain ⟨vals, p, rl⟩ := c; exact ⟨vals, p.at hh, RzL.mono hz rl⟩
  | gd _ ks vs => obtain ⟨es, n, xs, p, f, rl⟩ := c; exact ⟨es, n, xs, hh _ p, f, RzL.mono hz rl⟩
theorem Cont.alive {C : Addr} {z : Zp} {h : Heap} {a : Addr} {u : LV} (c : Cont C z h a u) (hu : u.mine = true) : ∃ o, h.get? a = some o := by
  cases u with
  | v _ => cases hu
  | app _ => cases hu
  | own xs => obtain ⟨vals, ⟨n, p⟩, _⟩ := c; exact ⟨_, p⟩
  | gl _ xs => obtain ⟨vals, ⟨n, p⟩, _⟩ := c; exact ⟨_, p⟩
  | gd _ ks vs => obtain ⟨es, n, xs, p, _⟩ := c; exact ⟨_, p⟩
structure Frm.Mine (F : Frm G r sc) (z : Zp) (a : Addr) : Prop where
  fr : F.Fresh z a
  nl : a ≠ F.L
  nc : ∀ y c, sc.names.lookup y = some .cell → F.cells.lookup y = some c → c ≠ a
noncomputable def Frm.Tag (F : Frm G r sc) (h : Heap) (m : Str → Option Value) (am : Str → Addr) (x : Str) : LV → Prop
  | .own _ => F.Nm m h x (.ref (am x))
  | .gl a _ | .gd a _ _ => am x = a
  | _ => True
noncomputable def Frm.VOk (F : Frm G r sc) (z : Zp) (h : Heap) (m : Str → Option Value) (am : Str → Addr) (x : Str) : LV → Prop
  | .v v => ∃ val, F.Nm m h x val ∧ Rz G.C z v val
  | .app y => ∃ q o, F.Nm m h x (.ref q) ∧ z q = some o ∧ appObj (am y) o
  | u => F.Mine z (am x) ∧ Cont G.C z h (am x) u ∧ F.Tag h m am x u
theorem Frm.VOk.of {F : Frm G r sc} {z : Zp} {h : Heap} {m : Str → Option Value} {am : Str → Addr} {x : Str} {u : LV} (k : F.VOk z h m am x u) (hu : u.mine = true) : F.Mine z (am x) ∧ Cont G.C z h (am x) u ∧ F.Tag h m am x u := by
  cases u <;> first | exact k | cases hu
theorem Frm.VOk.to {F : Frm G r sc} {z : Zp} {h : Heap} {m : Str → Option Value} {am : Str → Addr} {x : Str} {u : LV} (hu : u.mine = true) (k : F.Mine z (am x) ∧ Cont G.C z h (am x) u ∧ F.Tag h m am x u) : F.VOk z h m am x u := by
  cases u <;> first | exact k | cases hu

structure Frm.LocOk (F : Frm G r sc) (l : Locs) (z : Zp) (h : Heap) (m : Str → Option Value) (am : Str → Addr) : Prop where
  nd : (l.map (·.1)).Nodup
  ns : h.Ns F.L m
  fr : F.Fresh z F.L
  ce : ∀ x, sc.names.lookup x = some .cell → ∃ c v, F.cells.lookup x = some c ∧ h.IsCell c v ∧ F.Fresh z c ∧ c ≠ F.L
  cd : ∀ x y c, sc.names.lookup x = some .cell → sc.names.lookup y = some .cell → F.cells.lookup x = some c → F.cells.lookup y = some c → x = y
  fe : ∀ x c, sc.names.lookup x = some .free → F.cells.lookup x = some c → ∃ o, F.base c = some o
  ok : ∀ x lv, l.lookup x = some lv → F.VOk z h m am x lv
  ds : ∀ x y u u', l.lookup x = some u → l.lookup y = some u' → u.mine = true → u'.mine = true → am x = am y → x = y

/-- the state bears the frame's names -/
structure Rep (F : Frm G r sc) (l : Locs) (z : Zp) (s : Shared) : Prop where
  sub : Sub z s.heap
  zz : ∀ b o, F.z0 b = some o → z b = some o
  base : ∀ b o, F.base b = some o → s.heap.get? b = some o
  new : ∀ b o, z b = some o → F.z0 b = none → F.base b = none
  gens : s.gens = F.g
  dr : s.drawn = F.dr
  os : s.os = F.os
  loc : ∃ m am, F.LocOk l z s.heap m am

theorem Frm.Nm.keep {F : Frm G r sc} {m : Str → Option Value} {h h' : Heap} {x : Str} {val : Value} (n : F.Nm m h x val) (k : ∀ b o, h.get? b = some o → h'.get? b = some o) : F.Nm m h' x val := by
  rcases n with n | ⟨n, c, e, ⟨o, ho, hd⟩⟩
  · exact .inl n
  · exact .inr ⟨n, c, e, o, k _ _ ho, hd⟩

theorem stays_none {z z' : Zp} {s s' : Shared} (x : Ext z s z' s') {a : Addr} {o : Obj} (ha : s.heap.get? a = some o) (hz : z a = none) : z' a = none := by
  cases q : z' a with
  | none => rfl
  | some o' => rw [x.new a o' q hz] at ha; cases ha

theorem Frm.Tag.keep {F : Frm G r sc} {h h' : Heap} {m m' : Str → Option Value} {am am' : Str → Addr} {x : Str} {u : LV} (t : F.Tag h m am x u) (k : ∀ val, F.Nm m h x val → F.Nm m' h' x val) (ha : am' x = am x) : F.Tag h' m' am' x u := by
  cases u with
  | own xs => show F.Nm m' h' x _; rw [ha]; exact k _ t
  | gl a xs => exact ha.trans t
  | gd a ks vs => exact ha.trans t
  | v _ => trivial
  | app _ => trivial

theorem Frm.LocOk.ext {F : Frm G r sc} {l : Locs} {z z' : Zp} {s s' : Shared} {m : Str → Option Value} {am : Str → Addr} (L : F.LocOk l z s.heap m am) (x : Ext z s z' s') : F.LocOk l z' s'.heap m am := by
  have fr : ∀ {a o}, s.heap.get? a = some o → F.Fresh z a → F.Fresh z' a := fun ha f => ⟨stays_none x ha f.1, f.2⟩
  refine ⟨L.nd, L.ns.keeps x.keep, ?_, fun y hy => ?_, L.cd, L.fe, fun y lv hy => ?_, L.ds⟩
  · obtain ⟨o, _, _, ho, _⟩ := L.ns
    exact fr ho L.fr
  · obtain ⟨c, v, e, ⟨o, ho, hd⟩, f, ne⟩ := L.ce y hy
    exact ⟨c, v, e, ⟨o, x.keep _ _ ho, hd⟩, fr ho f, ne⟩
  · have k := L.ok y lv hy
    cases hu : lv.mine with
    | true =>
      obtain ⟨mi, c, t⟩ := k.of hu
      obtain ⟨o, ho⟩ := c.alive hu
      exact .to hu ⟨⟨fr ho mi.fr, mi.nl, mi.nc⟩, c.mono x.zz fun o' => x.keep _ o', t.keep (fun val n => n.keep x.keep) rfl⟩
    | false =>
      cases lv with
      | v v =>
        obtain ⟨val, n, rz⟩ := k
        exact ⟨val, n.keep x.keep, rz.mono x.zz⟩
      | app y' =>
        obtain ⟨q, o, n, zq, ap⟩ := k
        exact ⟨q, o, n.keep x.keep, x.zz _ _ zq, ap⟩
      | _ => cases hu

structure RepE (F : Frm G r sc) (z : Zp) (s : Shared) : Prop where
  sub : Sub z s.heap
  zz : ∀ b o, F.z0 b = some o → z b = some o
  base : ∀ b o, F.base b = some o → s.heap.get? b = some o
  new : ∀ b o, z b = some o → F.z0 b = none → F.base b = none
  gens : s.gens = F.g
  dr : s.drawn = F.dr
  os : s.os = F.os
theorem Rep.end {F : Frm G r sc} {l : Locs} {z : Zp} {s : Shared} (R : Rep F l z s) : RepE F z s := ⟨R.sub, R.zz, R.base, R.new, R.gens, R.dr, R.os⟩
theorem RepE.at {F : Frm G r sc} {l : Locs} {z : Zp} {s : Shared} {m : Str → Option Value} {am : Str → Addr} (R : RepE F z s) (L : F.LocOk l z s.heap m am) : Rep F l z s := ⟨R.sub, R.zz, R.base, R.new, R.gens, R.dr, R.os, m, am, L⟩
theorem RepE.ext {F : Frm G r sc} {z z' : Zp} {s s' : Shared} (R : RepE F z s) (x : Ext z s z' s') : RepE F z' s' := by
  refine ⟨x.sub, fun b o e => x.zz b o (R.zz b o e), fun b o e => x.keep b o (R.base b o e), fun b o e n => ?_, x.gens.trans R.gens, x.dr.trans R.dr, x.os.trans R.os⟩
  cases q : z b with
  | some o' => exact R.new b o' q n
  | none =>
    have hn := x.new b o e q
    cases q2 : F.base b with
    | none => rfl
    | some o2 => rw [R.base b o2 q2] at hn; cases hn
theorem Rep.ext {F : Frm G r sc} {l : Locs} {z z' : Zp} {s s' : Shared} (R : Rep F l z s) (x : Ext z s z' s') : Rep F l z' s' := by
  obtain ⟨m, am, L⟩ := R.loc
  exact (R.end.ext x).at (L.ext x)

/-- an expression's meaning -/
noncomputable def WE (G : Gl prog w K) (r : Nat) (sc : Scope) (l : Locs) (e : Expr) (Q : V → Prop) : Prop :=
  ∀ (F : Frm G r sc) z s, Rep F l z s → wpAny (model prog w) F.A (eval e F.env) (fun x s' => ∃ z' v, Ext z s z' s' ∧ Rz G.C z' v x ∧ Q v) (fun _ _ => False) s
/-- a test's meaning -/
noncomputable def WT (G : Gl prog w K) (r : Nat) (sc : Scope) (l : Locs) (e : Expr) (Q : Bool → Prop) : Prop :=
  ∀ (F : Frm G r sc) z s, Rep F l z s → wpAny (model prog w) F.A (isTrue e F.env (eval e F.env)) (fun b s' => ∃ z', Ext z s z' s' ∧ Q b) (fun _ _ => False) s
/-- a call's meaning, for a caller with room r -/
noncomputable def CS (G : Gl prog w K) (r : Nat) (f : Value) (vs : List V) (Q : V → Prop) : Prop :=
  ∀ A z s xs, A.handled = none → Room r A → (∀ b o, G.zB b = some o → z b = some o) → Sub z s.heap → RzL G.C z vs xs →
    wpAny (model prog w) A (call f xs) (fun x s' => ∃ z' v, Ext z s z' s' ∧ Rz G.C z' v x ∧ Q v) (fun _ _ => False) s

structure Kt where
  nx : Locs → Prop
  bk : Locs → Prop := fun _ => False
  ct : Locs → Prop := fun _ => False
  rt : V → Prop := fun _ => False

noncomputable def Post (F : Frm G r sc) (k : Kt) (f : Flow) (s : Shared) : Prop := match f with
  | .next => ∃ z l, Rep F l z s ∧ k.nx l
  | .brk => ∃ z l, Rep F l z s ∧ k.bk l
  | .cont => ∃ z l, Rep F l z s ∧ k.ct l
  | .ret x => ∃ z v, RepE F z s ∧ Rz G.C z v x ∧ k.rt v
noncomputable def WS (G : Gl prog w K) (r : Nat) (sc : Scope) (l : Locs) (st : List Stmt) (k : Kt) : Prop := ∀ (F : Frm G r sc) z s, Rep F l z s → wpAny (model prog w) F.A (execs st F.env) (Post F k) (fun _ _ => False) s
noncomputable def WX (G : Gl prog w K) (r : Nat) (sc : Scope) (l : Locs) (st : Stmt) (k : Kt) : Prop := ∀ (F : Frm G r sc) z s, Rep F l z s → wpAny (model prog w) F.A (exec st F.env) (Post F k) (fun _ _ => False) s

section rules
variable {l : Locs} {k : Kt} {Q : V → Prop}

theorem noE {α : Type} {t : Sem α} {A : Around} {s : Shared} {P P' : α → Shared → Prop} {E : Value → Shared → Prop} (h : wpAny (model prog w) A t P (fun _ _ => False) s) (hp : ∀ a s', P a s' → P' a s') : wpAny (model prog w) A t P' E s :=
  wpAny_mono h hp fun _ _ x => x.elim

theorem WS_nil (h : k.nx l) : WS G r sc l [] k := fun F z s R => wpAny_execs_nil ⟨z, l, R, h⟩
theorem WS_cons {st : Stmt} {rest : List Stmt} (h : WX G r sc l st { k with nx := fun l' => WS G r sc l' rest k }) : WS G r sc l (st :: rest) k := fun F z s R =>
  wpAny_execs_cons (noE (h F z s R) fun f s' p => by
    cases f with
    | next => obtain ⟨z', l', R', p⟩ := p; exact p F z' s' R'
    | brk => exact p
    | cont => exact p
    | ret x => exact p)
end rules
end
end Mine

end
section
open PySem PySem.W PySem.Calls PyProof.Rows
set_option linter.unusedVariables false
set_option maxRecDepth 100000
namespace Mine
section
variable {prog : Program} {w : World} {K : Frag} {G : Gl prog w K} {r : Nat} {sc : Scope} {l : Locs} {k : Kt} {Q : V → Prop} {P : Bool → Prop}

/-- what an action on values gives back -/
noncomputable abbrev Ret (G : Gl prog w K) (z : Zp) (s : Shared) (Q : V → Prop) (x : Value) (s' : Shared) : Prop := ∃ z' v, Ext z s z' s' ∧ Rz G.C z' v x ∧ Q v
noncomputable abbrev RetB (_G : Gl prog w K) (z : Zp) (s : Shared) (P : Bool → Prop) (b : Bool) (s' : Shared) : Prop := ∃ z', Ext z s z' s' ∧ P b

theorem Rep.zBsub {F : Frm G r sc} {z : Zp} {s : Shared} (R : Rep F l z s) : ∀ b o, G.zB b = some o → z b = some o := fun b o e => R.zz b o (F.zB b o e)
theorem Rep.sB {F : Frm G r sc} {z : Zp} {s : Shared} (R : Rep F l z s) : Sub G.zB s.heap := fun b o e => R.sub b o (R.zBsub b o e)

/-- an action on two values -/
noncomputable def Act2 (G : Gl prog w K) (t : Value → Value → Sem Value) (a b : V) (Q : V → Prop) : Prop :=
  ∀ A z s xa xb, A.handled = none → Room 0 A → (∀ b o, G.zB b = some o → z b = some o) → Sub z s.heap → Rz G.C z a xa → Rz G.C z b xb →
    wpAny (model prog w) A (t xa xb) (Ret G z s Q) (fun _ _ => False) s
noncomputable def Act1 (G : Gl prog w K) (t : Value → Sem Value) (a : V) (Q : V → Prop) : Prop :=
  ∀ A z s xa, A.handled = none → Room 0 A → (∀ b o, G.zB b = some o → z b = some o) → Sub z s.heap → Rz G.C z a xa →
    wpAny (model prog w) A (t xa) (Ret G z s Q) (fun _ _ => False) s
noncomputable def Tru (G : Gl prog w K) (a : V) (P : Bool → Prop) : Prop :=
  ∀ A z s xa, A.handled = none → Room 0 A → (∀ b o, G.zB b = some o → z b = some o) → Sub z s.heap → Rz G.C z a xa →
    wpAny (model prog w) A (truthy xa) (RetB G z s P) (fun _ _ => False) s

theorem ret_of {z : Zp} {s s' : Shared} {v : V} {x : Value} (h : Q v) (e : Ext z s z s') (rz : Rz G.C z v x) : Ret G z s Q x s' := ⟨z, v, e, rz, h⟩
theorem ret_trans {z z' : Zp} {s s' s'' : Shared} {x : Value} (e : Ext z s z' s') (h : Ret G z' s' Q x s'') : Ret G z s Q x s'' := by
  obtain ⟨z'', v, e', rz, q⟩ := h
  exact ⟨z'', v, e.trans e', rz, q⟩

theorem WE.mono {e : Expr} {Q' : V → Prop} (h : WE G r sc l e Q) (k : ∀ v, Q v → Q' v) : WE G r sc l e Q' := fun F z s R =>
  noE (h F z s R) fun _ _ ⟨z', v, e, rz, q⟩ => ⟨z', v, e, rz, k v q⟩
theorem WT.mono {e : Expr} {P' : Bool → Prop} (h : WT G r sc l e P) (k : ∀ v, P v → P' v) : WT G r sc l e P' := fun F z s R =>
  noE (h F z s R) fun _ _ ⟨z', e, q⟩ => ⟨z', e, k _ q⟩

/-! leaves -/
theorem WE_int {i : Int} {kd : Nat} {p : Pos} (h : Q (.int i)) : WE G r sc l (.Constant (.int i) kd p) Q := fun F z s R =>
  wpAny_Constant_int (ret_of h (Ext.toks R.sub _) ⟨_, rfl⟩)
theorem WE_str {x : Str} {kd : Nat} {p : Pos} (h : Q (.str x)) : WE G r sc l (.Constant (.str x) kd p) Q := fun F z s R =>
  wpAny_Constant_str (ret_of h (Ext.toks R.sub _) ⟨_, rfl⟩)
theorem WE_bool {b : Bool} {kd : Nat} {p : Pos} (h : Q (.bool b)) : WE G r sc l (.Constant (.bool b) kd p) Q := fun F z s R =>
  wpAny_Constant_bool (ret_of h (Ext.refl R.sub) rfl)
theorem WE_none {kd : Nat} {p : Pos} (h : Q .nil) : WE G r sc l (.Constant .none kd p) Q := fun F z s R =>
  wpAny_Constant_none (ret_of h (Ext.refl R.sub) rfl)

theorem Frm.kindOf (F : Frm G r sc) (x : Str) : F.env.kindOf x = sc.names.lookup x := rfl
theorem Frm.kind (F : Frm G r sc) : F.env.scope.kind = .function := F.hk
theorem Frm.notClass (F : Frm G r sc) : (F.env.scope.kind == .class || (F.env.scope.kind == .module && F.L != F.env.globals)) = false := by rw [F.kind]; rfl

/-- a name is read -/
theorem Frm.load {F : Frm G r sc} {m : Str → Option Value} {s : Shared} {x : Str} {val : Value} {P : Value → Shared → Prop} (ns : s.heap.Ns F.L m) (n : F.Nm m s.heap x val) (hc : (x == ("__classdict__" : Str)) = false) (h : P val s) :
    wpAny (model prog w) F.A (loadName F.env x) P (fun _ _ => False) s := by
  rcases n with ⟨n, e⟩ | ⟨n, c, e, hc'⟩
  · exact wpAny_loadName_local F.kind ((F.kindOf x).trans n) ns e h
  · rcases n with n | n
    · exact wpAny_loadName_cell F.kind ((F.kindOf x).trans n) e hc' h
    · exact wpAny_loadName_free F.kind ((F.kindOf x).trans n) e hc' h hc

theorem WE_v {x : Str} {p : Pos} {v : V} (e : l.lookup x = some (.v v)) (h : Q v) (hd : (x == ("__debug__" : Str)) = false := by decide) (hc : (x == ("__classdict__" : Str)) = false := by decide) : WE G r sc l (.Name x p) Q := fun F z s R => by
  obtain ⟨m, am, L⟩ := R.loc
  obtain ⟨val, n, rz⟩ := L.ok x _ e
  exact wpAny_Name (Frm.load L.ns n hc (ret_of h (Ext.refl R.sub) rz)) hd

theorem Frm.global {F : Frm G r sc} {s : Shared} {x : Str} {val : Value} {P : Value → Shared → Prop} (hB : Sub G.zB s.heap) (hx : sc.names.lookup x = some .globalImplicit) (hv : G.mg x = some val ∨ (G.mg x = none ∧ G.mb x = some val)) (h : P val s) :
    wpAny (model prog w) F.A (loadName F.env x) P (fun _ _ => False) s := by
  have hk : F.env.kindOf x = some .globalImplicit := (F.kindOf x).trans hx
  have e : loadName F.env x = loadGlobal F.env x := by
    unfold loadName
    have h1 : F.env.scope.kind.isAnnotationScope = false := by rw [F.kind]; rfl
    have h2 : F.env.blockKind = .function := by unfold Env.blockKind; rw [h1]; exact F.kind
    rw [h1, h2, hk]
    rfl
  rw [e]
  unfold loadGlobal
  refine wpAny_bind (wpAny_nsGet (G.gNs _ hB) ?_)
  rcases hv with hv | ⟨hn, hv⟩
  · rw [hv]; exact wpAny_pure h
  · rw [hn]
    refine wpAny_bind (wpAny_nsGet (G.bNs _ hB) ?_)
    rw [hv]; exact wpAny_pure h

theorem WE_g {x : Str} {p : Pos} {val : Value} (e : nsIn K mainGlobals x = some (some val)) (h : Q (.raw val)) (hx : sc.names.lookup x = some .globalImplicit := by rfl) (hd : (x == ("__debug__" : Str)) = false := by decide) : WE G r sc l (.Name x p) Q := fun F z s R =>
  wpAny_Name (Frm.global R.sB hx (.inl (G.gK x val e)) (ret_of h (Ext.refl R.sub) rfl)) hd
theorem WE_gd {x : Str} {p : Pos} {val : Value} {v : V} (e : nsIn K mainGlobals x = some (some val)) (hv : Rz G.C G.zB v val) (h : Q v) (hx : sc.names.lookup x = some .globalImplicit := by rfl) (hd : (x == ("__debug__" : Str)) = false := by decide) : WE G r sc l (.Name x p) Q := fun F z s R =>
  wpAny_Name (Frm.global R.sB hx (.inl (G.gK x val e)) (ret_of h (Ext.refl R.sub) (hv.mono R.zBsub))) hd
theorem WE_b {x : Str} {p : Pos} {val : Value} (e : nsIn K mainGlobals x = some none) (hv : bootBuiltins x = some val) (h : Q (.raw val)) (hn : x ≠ "__name__" := by decide) (hx : sc.names.lookup x = some .globalImplicit := by rfl) (hd : (x == ("__debug__" : Str)) = false := by decide) : WE G r sc l (.Name x p) Q := fun F z s R =>
  wpAny_Name (Frm.global R.sB hx (.inr (G.gB x val e hv hn)) (ret_of h (Ext.refl R.sub) rfl)) hd

/-! operators -/
theorem Frm.room0 (F : Frm G r sc) : Room 0 F.A := F.room.less (Nat.zero_le _)

theorem WE_bin {a b : Expr} {op : Operator} {p : Pos} (h : WE G r sc l a fun x => WE G r sc l b fun y => Act2 G (binaryOp op) x y Q) : WE G r sc l (.BinOp a op b p) Q := fun F z s R =>
  wpAny_BinOp (noE (h F z s R) fun xa s₁ ⟨z₁, va, e₁, ra, h₁⟩ => noE (h₁ F z₁ s₁ (R.ext e₁)) fun xb s₂ ⟨z₂, vb, e₂, rb, h₂⟩ =>
    noE (h₂ F.A z₂ s₂ xa xb F.hh F.room0 (R.ext (e₁.trans e₂)).zBsub e₂.sub (ra.mono e₂.zz) rb) fun _ _ q => ret_trans (e₁.trans e₂) q)

theorem WE_cmp {a b : Expr} {op : CmpOp} {p : Pos} (h : WE G r sc l a fun x => WE G r sc l b fun y => Act2 G (compareOp op) x y Q) (hm : behindInMarks op b = false := by with_unfolding_all rfl) : WE G r sc l (.Compare a [op] [b] p) Q := fun F z s R =>
  wpAny_Compare1 (noE (h F z s R) fun xa s₁ ⟨z₁, va, e₁, ra, h₁⟩ => noE (h₁ F z₁ s₁ (R.ext e₁)) fun xb s₂ ⟨z₂, vb, e₂, rb, h₂⟩ =>
    noE (h₂ F.A z₂ s₂ xa xb F.hh F.room0 (R.ext (e₁.trans e₂)).zBsub e₂.sub (ra.mono e₂.zz) rb) fun _ _ q => ret_trans (e₁.trans e₂) q) hm

/-- a value that is a bool -/
noncomputable def IsB (P : Bool → Prop) : V → Prop
  | .bool b => P b
  | _ => False
theorem IsB.truthy {z z' : Zp} {s s' : Shared} {v : V} {x : Value} {A : Around} (e : Ext z s z' s') (rz : Rz G.C z' v x) (h : IsB P v) : wpAny (model prog w) A (PySem.truthy x) (RetB G z s P) (fun _ _ => False) s' := by
  cases v <;> first | exact h.elim | skip
  cases rz
  exact wpAny_truthy_bool ⟨z', e, h⟩

theorem WT_cmp {a b : Expr} {op : CmpOp} {p : Pos} (h : WE G r sc l a fun x => WE G r sc l b fun y => Act2 G (compareOp op) x y (IsB P)) (hm : behindInMarks op b = false := by with_unfolding_all rfl) : WT G r sc l (.Compare a [op] [b] p) P := fun F z s R =>
  wpAny_isTrue_Compare1 (noE (h F z s R) fun xa s₁ ⟨z₁, va, e₁, ra, h₁⟩ => noE (h₁ F z₁ s₁ (R.ext e₁)) fun xb s₂ ⟨z₂, vb, e₂, rb, h₂⟩ =>
    noE (h₂ F.A z₂ s₂ xa xb F.hh F.room0 (R.ext (e₁.trans e₂)).zBsub e₂.sub (ra.mono e₂.zz) rb) fun _ _ ⟨z₃, v, e₃, rz, q⟩ => IsB.truthy (e₁.trans (e₂.trans e₃)) rz q) hm

/-- a test that is a plain value -/
theorem WT_val {e : Expr} (h : WE G r sc l e fun x => Tru G x P) (he : ∀ env whole, isTrue e env whole = (do let v ← whole; standAt e.pos; holding [v] (truthy v)) := by intro _ _; rfl) : WT G r sc l e P := fun F z s R =>
  wpAny_isTrue_value (noE (h F z s R) fun xa s₁ ⟨z₁, va, e₁, ra, h₁⟩ =>
    noE (h₁ F.A z₁ s₁ xa F.hh F.room0 (R.ext e₁).zBsub e₁.sub ra) fun _ _ ⟨z₂, e₂, q⟩ => ⟨z₂, e₁.trans e₂, q⟩) (he _ _)
theorem WT_not {e : Expr} {p : Pos} (h : WT G r sc l e fun b => P (!b)) : WT G r sc l (.UnaryOp .Not e p) P := fun F z s R => wpAny_isTrue_Not (h F z s R)

theorem WT_or2 {a b : Expr} {p : Pos} (h : WT G r sc l a fun x => (x = true → P true) ∧ (x = false → WT G r sc l b P)) : WT G r sc l (.BoolOp .Or [a, b] p) P := fun F z s R =>
  wpAny_isTrue_BoolOp (wpAny_allTrue_Or_cons (noE (h F z s R) fun x s₁ ⟨z₁, e₁, h₁⟩ => by
    cases x with
    | true => exact ⟨z₁, e₁, h₁.1 rfl⟩
    | false =>
      simp only [Bool.false_eq_true, if_false]
      refine wpAny_allTrue_Or_cons (noE (h₁.2 rfl F z₁ s₁ (R.ext e₁)) fun y s₂ ⟨z₂, e₂, h₂⟩ => ?_)
      cases y with
      | true => exact ⟨z₂, e₁.trans e₂, h₂⟩
      | false => exact wpAny_pure ⟨z₂, e₁.trans e₂, h₂⟩))
theorem WT_and2 {a b : Expr} {p : Pos} (h : WT G r sc l a fun x => (x = false → P false) ∧ (x = true → WT G r sc l b P)) : WT G r sc l (.BoolOp .And [a, b] p) P := fun F z s R =>
  wpAny_isTrue_BoolOp (wpAny_allTrue_And_cons (noE (h F z s R) fun x s₁ ⟨z₁, e₁, h₁⟩ => by
    cases x with
    | false => exact ⟨z₁, e₁, h₁.1 rfl⟩
    | true =>
      simp only [if_true]
      refine wpAny_allTrue_And_cons (noE (h₁.2 rfl F z₁ s₁ (R.ext e₁)) fun y s₂ ⟨z₂, e₂, h₂⟩ => ?_)
      cases y with
      | false => exact ⟨z₂, e₁.trans e₂, h₂⟩
      | true => exact wpAny_pure ⟨z₂, e₁.trans e₂, h₂⟩))

theorem WE_ite {t a b : Expr} {p : Pos} (h : WT G r sc l t fun c => (c = true → WE G r sc l a Q) ∧ (c = false → WE G r sc l b Q)) : WE G r sc l (.IfExp t a b p) Q := fun F z s R =>
  wpAny_IfExp (noE (h F z s R) fun c s₁ ⟨z₁, e₁, h₁⟩ => by
    cases c with
    | true => exact noE (h₁.1 rfl F z₁ s₁ (R.ext e₁)) fun _ _ q => ret_trans e₁ q
    | false => exact noE (h₁.2 rfl F z₁ s₁ (R.ext e₁)) fun _ _ q => ret_trans e₁ q)
/-- both ways joined -/
theorem WE_ite_join {t a b : Expr} {p : Pos} {va vb : V} (h : WT G r sc l t fun c => WE G r sc l a (· = va) ∧ WE G r sc l b (· = vb) ∧ Q (if c = true then va else vb)) : WE G r sc l (.IfExp t a b p) Q := fun F z s R =>
  wpAny_IfExp (noE (h F z s R) fun c s₁ ⟨z₁, e₁, ha, hb, hq⟩ => by
    cases c with
    | true => exact noE (ha F z₁ s₁ (R.ext e₁)) fun _ _ ⟨z₂, v, e₂, rz, e⟩ => ⟨z₂, v, e₁.trans e₂, rz, by rw [e]; exact hq⟩
    | false => exact noE (hb F z₁ s₁ (R.ext e₁)) fun _ _ ⟨z₂, v, e₂, rz, e⟩ => ⟨z₂, v, e₁.trans e₂, rz, by rw [e]; exact hq⟩)
theorem WE_not {e : Expr} {p : Pos} (h : WE G r sc l e fun x => Tru G x fun b => Q (.bool (!b))) : WE G r sc l (.UnaryOp .Not e p) Q := fun F z s R =>
  wpAny_UnaryOp (noE (h F z s R) fun xa s₁ ⟨z₁, va, e₁, ra, h₁⟩ => by
    show wpAny _ _ (holding [xa] _) _ _ _
    refine wpAny_holding ?_
    simp only [beq_self_eq_true, if_true]
    exact wpAny_bind (noE (h₁ F.A z₁ s₁ xa F.hh F.room0 (R.ext e₁).zBsub e₁.sub ra) fun b s₂ ⟨z₂, e₂, q⟩ => wpAny_pure ⟨z₂, .bool (!b), e₁.trans e₂, rfl, q⟩))
theorem WE_or2 {a b : Expr} {p : Pos} (h : WE G r sc l a fun x => Tru G x fun c => (c = true → Q x) ∧ (c = false → WE G r sc l b Q)) : WE G r sc l (.BoolOp .Or [a, b] p) Q := fun F z s R =>
  BoolOp_or (noE (h F z s R) fun xa s₁ ⟨z₁, va, e₁, ra, h₁⟩ => noE (h₁ F.A z₁ s₁ xa F.hh F.room0 (R.ext e₁).zBsub e₁.sub ra) fun c s₂ ⟨z₂, e₂, q⟩ => by
    cases c with
    | true => exact ⟨z₂, va, e₁.trans e₂, ra.mono e₂.zz, q.1 rfl⟩
    | false =>
      simp only [Bool.false_eq_true, if_false]
      exact BoolOp_one (noE (q.2 rfl F z₂ s₂ (R.ext (e₁.trans e₂))) fun _ _ q => ret_trans (e₁.trans e₂) q))
end
end Mine

end
section
open PySem PySem.W PySem.Calls PyProof.Rows
set_option linter.unusedVariables false
set_option maxRecDepth 100000
namespace Mine
section
variable {prog : Program} {w : World} {K : Frag} {G : Gl prog w K} {Q : V → Prop} {P : Bool → Prop} {a b : Int} {x y : Str} {c d : Bool}

theorem A_add (h : Q (.int (a + b))) : Act2 G (binaryOp .Add) (.int a) (.int b) Q := fun A z s xa xb hh hr zB hs ⟨t, ra⟩ ⟨u, rb⟩ => by
  subst ra rb; exact noE (PyProof.Rows.add_int (ret_of h (Ext.toks hs _) ⟨_, rfl⟩)) fun _ _ q => q
theorem A_sub (h : Q (.int (a - b))) : Act2 G (binaryOp .Sub) (.int a) (.int b) Q := fun A z s xa xb hh hr zB hs ⟨t, ra⟩ ⟨u, rb⟩ => by
  subst ra rb; exact noE (PyProof.Rows.sub_int (ret_of h (Ext.toks hs _) ⟨_, rfl⟩)) fun _ _ q => q
theorem A_mul (h : Q (.int (a * b))) (hm : IntMulOk a b) : Act2 G (binaryOp .Mult) (.int a) (.int b) Q := fun A z s xa xb hh hr zB hs ⟨t, ra⟩ ⟨u, rb⟩ => by
  subst ra rb; exact noE (PySem.P.mul_int (ret_of h (Ext.toks hs _) ⟨_, rfl⟩) hm) fun _ _ q => q
theorem A_and (h : Q (.int (Builtin.bitAnd a b))) : Act2 G (binaryOp .BitAnd) (.int a) (.int b) Q := fun A z s xa xb hh hr zB hs ⟨t, ra⟩ ⟨u, rb⟩ => by
  subst ra rb; exact noE (PyProof.Rows.and_int (ret_of h (Ext.toks hs _) ⟨_, rfl⟩)) fun _ _ q => q
theorem A_xor (h : Q (.int (Builtin.bitXor a b))) : Act2 G (binaryOp .BitXor) (.int a) (.int b) Q := fun A z s xa xb hh hr zB hs ⟨t, ra⟩ ⟨u, rb⟩ => by
  subst ra rb; exact noE (PyProof.Rows.xor_int (ret_of h (Ext.toks hs _) ⟨_, rfl⟩)) fun _ _ q => q
theorem A_mod (hb : b ≠ 0) (h : Q (.int (a.fmod b))) : Act2 G (binaryOp .Mod) (.int a) (.int b) Q := fun A z s xa xb hh hr zB hs ⟨t, ra⟩ ⟨u, rb⟩ => by
  subst ra rb; exact noE (PyProof.Rows.mod_int hb (ret_of h (Ext.toks hs _) ⟨_, rfl⟩)) fun _ _ q => q
theorem A_fdiv (hb : b ≠ 0) (hp : Builtin.divisionGoesByPylong a b = false) (h : Q (.int (a.fdiv b))) : Act2 G (binaryOp .FloorDiv) (.int a) (.int b) Q := fun A z s xa xb hh hr zB hs ⟨t, ra⟩ ⟨u, rb⟩ => by
  subst ra rb; exact noE (PyProof.Rows.floordiv_int hb (ret_of h (Ext.toks hs _) ⟨_, rfl⟩) (.inl hp)) fun _ _ q => q
theorem A_pow (hn : 0 ≤ b) (hsz : (Builtin.Int.intBits a : Int) * b ≤ 2 ^ 27) (h : Q (.int (a ^ b.toNat))) : Act2 G (binaryOp .Pow) (.int a) (.int b) Q := fun A z s xa xb hh hr zB hs ⟨t, ra⟩ ⟨u, rb⟩ => by
  subst ra rb; exact noE (PyProof.Rows.pow_int hn hsz (ret_of h (Ext.toks hs _) ⟨_, rfl⟩)) fun _ _ q => q
theorem A_shr (hn : 0 ≤ b) (h : Q (.int (a.fdiv (2 ^ b.toNat)))) : Act2 G (binaryOp .RShift) (.int a) (.int b) Q := fun A z s xa xb hh hr zB hs ⟨t, ra⟩ ⟨u, rb⟩ => by
  subst ra rb; exact noE (PyProof.Rows.rshift_int hn (ret_of h (Ext.toks hs _) ⟨_, rfl⟩)) fun _ _ q => q
theorem A_shl (hn : 0 ≤ b) (hn2 : b ≤ 1000000) (ha : a.natAbs < 2 ^ 64) (h : Q (.int (a * 2 ^ b.toNat))) : Act2 G (binaryOp .LShift) (.int a) (.int b) Q := fun A z s xa xb hh hr zB hs ⟨t, ra⟩ ⟨u, rb⟩ => by
  subst ra rb; exact noE (PyProof.Rows.lshift_int_small hn hn2 ha (ret_of h (Ext.toks hs _) ⟨_, rfl⟩)) fun _ _ q => q
theorem A_cat (hsz : (x ++ y).length ≤ sizeLine) (h : Q (.str (x ++ y))) : Act2 G (binaryOp .Add) (.str x) (.str y) Q := fun A z s xa xb hh hr zB hs ⟨t, ra⟩ ⟨u, rb⟩ => by
  subst ra rb
  refine noE (PySem.P.add_str ?_) fun _ _ q => q
  by_cases hx : (x.length == 0) = true
  · rw [if_pos hx]
    have : x ++ y = y := by
      have : x = Str.empty := Str.ext' (by simpa [Str.length, Str.empty] using hx)
      rw [this]; exact Str.empty_append y
    rw [this] at h
    exact ret_of h (Ext.refl hs) ⟨_, rfl⟩
  · rw [if_neg hx]
    by_cases hy : (y.length == 0) = true
    · rw [if_pos hy]
      have : x ++ y = x := by
        have : y = Str.empty := Str.ext' (by simpa [Str.length, Str.empty] using hy)
        rw [this]; exact Str.append_empty x
      rw [this] at h
      exact ret_of h (Ext.refl hs) ⟨_, rfl⟩
    · rw [if_neg hy]
      exact ⟨hsz, ret_of h (Ext.toks hs _) ⟨_, rfl⟩⟩

theorem C_eqI (h : Q (.bool (a == b))) : Act2 G (compareOp .Eq) (.int a) (.int b) Q := fun A z s xa xb hh hr zB hs ⟨t, ra⟩ ⟨u, rb⟩ => by
  subst ra rb; exact noE (PySem.P.eq_int (ret_of h (Ext.refl hs) rfl)) fun _ _ q => q
theorem C_neI (h : Q (.bool (a != b))) : Act2 G (compareOp .NotEq) (.int a) (.int b) Q := fun A z s xa xb hh hr zB hs ⟨t, ra⟩ ⟨u, rb⟩ => by
  subst ra rb; exact noE (PySem.P.ne_int (ret_of h (Ext.refl hs) rfl)) fun _ _ q => q
theorem C_ltI (h : Q (.bool (decide (a < b)))) : Act2 G (compareOp .Lt) (.int a) (.int b) Q := fun A z s xa xb hh hr zB hs ⟨t, ra⟩ ⟨u, rb⟩ => by
  subst ra rb; exact noE (PySem.P.lt_int (ret_of h (Ext.refl hs) rfl)) fun _ _ q => q
theorem C_leI (h : Q (.bool (decide (a ≤ b)))) : Act2 G (compareOp .LtE) (.int a) (.int b) Q := fun A z s xa xb hh hr zB hs ⟨t, ra⟩ ⟨u, rb⟩ => by
  subst ra rb; exact noE (PySem.P.le_int (ret_of h (Ext.refl hs) rfl)) fun _ _ q => q
theorem C_gtI (h : Q (.bool (decide (a > b)))) : Act2 G (compareOp .Gt) (.int a) (.int b) Q := fun A z s xa xb hh hr zB hs ⟨t, ra⟩ ⟨u, rb⟩ => by
  subst ra rb; exact noE (PySem.P.gt_int (ret_of h (Ext.refl hs) rfl)) fun _ _ q => q
theorem C_geI (h : Q (.bool (decide (a ≥ b)))) : Act2 G (compareOp .GtE) (.int a) (.int b) Q := fun A z s xa xb hh hr zB hs ⟨t, ra⟩ ⟨u, rb⟩ => by
  subst ra rb; exact noE (PySem.P.ge_int (ret_of h (Ext.refl hs) rfl)) fun _ _ q => q
theorem str_beq (x y : Str) : (x.cps.toList == y.cps.toList) = (x == y) := by
  rw [Bool.eq_iff_iff, beq_iff_eq, beq_iff_eq]
  exact ⟨fun h => Str.ext' (Array.ext' h), fun h => by rw [h]⟩
theorem C_eqS (h : Q (.bool (x == y))) : Act2 G (compareOp .Eq) (.str x) (.str y) Q := fun A z s xa xb hh hr zB hs ⟨t, ra⟩ ⟨u, rb⟩ => by
  subst ra rb
  rw [← str_beq] at h
  exact noE (PySem.P.eq_str (ret_of h (Ext.refl hs) rfl)) fun _ _ q => q
theorem C_neS (h : Q (.bool (x != y))) : Act2 G (compareOp .NotEq) (.str x) (.str y) Q := fun A z s xa xb hh hr zB hs ⟨t, ra⟩ ⟨u, rb⟩ => by
  subst ra rb
  have e : (x.cps.toList != y.cps.toList) = (x != y) := by rw [bne, bne, str_beq]
  rw [← e] at h
  exact noE (PySem.P.ne_str (ret_of h (Ext.refl hs) rfl)) fun _ _ q => q
theorem C_inS (h : Q (.bool (Txt.contains y x))) : Act2 G (compareOp .In) (.str x) (.str y) Q := fun A z s xa xb hh hr zB hs ⟨t, ra⟩ ⟨u, rb⟩ => by
  subst ra rb; exact noE (PySem.SB.contains (ret_of h (Ext.refl hs) rfl)) fun _ _ q => q
theorem C_eqB (h : Q (.bool (c == d))) : Act2 G (compareOp .Eq) (.bool c) (.bool d) Q := fun A z s xa xb hh hr zB hs ra rb => by
  subst ra rb; exact noE (PyProof.Rows.eq_bool (ret_of h (Ext.refl hs) rfl)) fun _ _ q => q
theorem C_neB (h : Q (.bool (c != d))) : Act2 G (compareOp .NotEq) (.bool c) (.bool d) Q := fun A z s xa xb hh hr zB hs ra rb => by
  subst ra rb; exact noE (PyProof.Rows.ne_bool (ret_of h (Ext.refl hs) rfl)) fun _ _ q => q
theorem C_gtB (h : Q (.bool (decide (b2i c > b2i d)))) : Act2 G (compareOp .Gt) (.bool c) (.bool d) Q := fun A z s xa xb hh hr zB hs ra rb => by
  subst ra rb; exact noE (PyProof.Rows.gt_bool (ret_of h (Ext.refl hs) rfl)) fun _ _ q => q
theorem C_eqBI (h : Q (.bool ((if c then 1 else 0) == b))) : Act2 G (compareOp .Eq) (.bool c) (.int b) Q := fun A z s xa xb hh hr zB hs ra ⟨u, rb⟩ => by
  subst ra rb; exact noE (EqBoolInt.eq_bool_int (ret_of h (Ext.refl hs) rfl)) fun _ _ q => q

theorem T_bool (h : P c) : Tru G (.bool c) P := fun A z s xa hh hr zB hs ra => by subst ra; exact wpAny_truthy_bool ⟨z, Ext.refl hs, h⟩
theorem T_nil (h : P false) : Tru G .nil P := fun A z s xa hh hr zB hs ra => by subst ra; exact PyProof.Rows.truthy_none ⟨z, Ext.refl hs, h⟩
theorem T_int (h : P (a != 0)) : Tru G (.int a) P := fun A z s xa hh hr zB hs ⟨t, ra⟩ => by subst ra; exact PySem.P.truthy_int ⟨z, Ext.refl hs, h⟩
theorem T_str (hsz : x.length ≤ sizeLine) (h : P ((x.length : Int) != 0)) : Tru G (.str x) P := fun A z s xa hh hr zB hs ⟨t, ra⟩ => by
  subst ra
  exact PySem.P.truthy_str (by rw [sizeLine_eq] at hsz; omega) ⟨z, Ext.toks hs _, h⟩
theorem T_lst {vs : List V} (hsz : vs.length ≤ sizeLine) (h : P (!vs.isEmpty)) : Tru G (.lst vs) P := fun A z s xa hh hr zB hs ra => by
  obtain ⟨a, xs, rfl, ⟨o, n, e, e1, e2, e3⟩, rl⟩ := ra
  have hl : s.heap.IsList a xs.toArray := ⟨o, hs _ _ e, e1, n, e3⟩
  have hlen := rl.length
  refine wpAny_truthy_list hl (by rw [List.size_toArray, hlen]; rw [sizeLine_eq] at hsz; omega) ?_
  have e : xs.toArray.isEmpty = vs.isEmpty := by
    cases vs <;> cases xs <;> first | rfl | (simp at hlen)
  rw [e]
  exact ⟨z, Ext.toks hs _, h⟩
end
end Mine

end
section
open PySem PySem.W PySem.Calls PyProof.Rows
set_option linter.unusedVariables false
set_option maxRecDepth 100000
namespace Mine
theorem lookup_mem {α : Type} {x : Str} {u : α} : ∀ {l : List (Str × α)}, l.lookup x = some u → (x, u) ∈ l
  | (y, v) :: l, h => by
    rw [List.lookup_cons] at h
    cases q : x == y with
    | true => rw [q] at h; cases h; rw [eq_of_beq q]; exact .head _
    | false => rw [q] at h; exact .tail _ (lookup_mem h)
theorem mem_lookup {α : Type} {x : Str} {u : α} : ∀ {l : List (Str × α)}, (l.map (·.1)).Nodup → (x, u) ∈ l → l.lookup x = some u
  | (y, v) :: l, nd, h => by
    rw [List.lookup_cons]
    rw [List.map_cons, List.nodup_cons] at nd
    rcases List.mem_cons.mp h with h | h
    · cases h; simp
    · have : (x == y) = false := by
        cases q : x == y with
        | false => rfl
        | true => exact absurd (List.mem_map_of_mem (f := Prod.fst) h) (eq_of_beq q ▸ nd.1)
      rw [this]; exact mem_lookup nd.2 h
theorem put_lookup {l : Locs} (nd : (l.map (·.1)).Nodup) {x y : Str} {lv u : LV} (h : (put l x lv).lookup y = some u) : (y = x ∧ u = lv) ∨ (y ≠ x ∧ l.lookup y = some u ∧ u.isApp x = false) := by
  unfold put at h
  rw [List.lookup_cons] at h
  cases q : y == x with
  | true => rw [q] at h; cases h; exact .inl ⟨eq_of_beq q, rfl⟩
  | false =>
    rw [q] at h
    have m := List.mem_filter.mp (lookup_mem h)
    refine .inr ⟨fun e => by simp [e] at q, mem_lookup nd m.1, ?_⟩
    have := m.2
    simp at this
    exact this.2
theorem put_nodup {l : Locs} (nd : (l.map (·.1)).Nodup) {x : Str} {lv : LV} : ((put l x lv).map (·.1)).Nodup := by
  unfold put
  rw [List.map_cons, List.nodup_cons]
  refine ⟨fun h => ?_, (List.filter_sublist.map _).nodup nd⟩
  obtain ⟨p, hp, e⟩ := List.mem_map.mp h
  have := (List.mem_filter.mp hp).2
  simp [e] at this

section
variable {prog : Program} {w : World} {K : Frag} {G : Gl prog w K} {r : Nat} {sc : Scope} {F : Frm G r sc} {l : Locs} {k : Kt} {Q : V → Prop}

theorem isApp_self {x : Str} : (LV.app x).isApp x = true := by simp [LV.isApp]

/-- the frame's names behind a store -/
theorem Frm.LocOk.put {z : Zp} {h h' : Heap} {m m' : Str → Option Value} {am am' : Str → Addr} {x : Str} {lv : LV} (L : F.LocOk l z h m am)
    (ns : h'.Ns F.L m') (nm : ∀ y val, y ≠ x → F.Nm m h y val → F.Nm m' h' y val)
    (cells : ∀ y c v, sc.names.lookup y = some .cell → F.cells.lookup y = some c → h.IsCell c v → ∃ v', h'.IsCell c v')
    (lists : ∀ y u, y ≠ x → l.lookup y = some u → u.mine = true → h'.get? (am y) = h.get? (am y))
    (hm : ∀ y, y ≠ x → am' y = am y) (hn : F.VOk z h' m' am' x lv) (hd : lv.mine = true → ∀ y u, y ≠ x → l.lookup y = some u → u.mine = true → am y ≠ am' x)
    (ha : ∀ y, lv = .app y → y ≠ x) : F.LocOk (put l x lv) z h' m' am' := by
  refine ⟨put_nodup L.nd, ns, L.fr, fun y hy => ?_, L.cd, L.fe, fun y u hy => ?_, fun y y' u u' hy hy' hu hu' e => ?_⟩
  · obtain ⟨c, v, e, q, f, n⟩ := L.ce y hy
    obtain ⟨v', q'⟩ := cells y c v hy e q
    exact ⟨c, v', e, q', f, n⟩
  · rcases put_lookup L.nd hy with ⟨rfl, rfl⟩ | ⟨ne, hl, na⟩
    · exact hn
    · have q := L.ok y u hl
      cases hu : u.mine with
      | true =>
        obtain ⟨mi, c, t⟩ := q.of hu
        refine .to hu ⟨by rw [hm y ne]; exact mi, ?_, t.keep (fun val n => nm y val ne n) (hm y ne)⟩
        rw [hm y ne]
        exact c.mono (fun _ _ e => e) fun o e => (lists y u ne hl hu).trans e
      | false =>
        cases u with
        | v v => obtain ⟨val, n, rz⟩ := q; exact ⟨val, nm y val ne n, rz⟩
        | app y' =>
          obtain ⟨q, o, n, zq, ap⟩ := q
          have : y' ≠ x := fun e => by rw [e, isApp_self] at na; cases na
          exact ⟨q, o, nm y _ ne n, zq, by rw [hm y' this]; exact ap⟩
        | _ => cases hu
  · rcases put_lookup L.nd hy with ⟨rfl, e1⟩ | ⟨ne, hl, _⟩
    · rcases put_lookup L.nd hy' with ⟨rfl, _⟩ | ⟨ne', hl', _⟩
      · rfl
      · rw [hm y' ne'] at e
        exact absurd e.symm (hd (e1 ▸ hu) y' u' ne' hl' hu')
    · rcases put_lookup L.nd hy' with ⟨rfl, e1⟩ | ⟨ne', hl', _⟩
      · rw [hm y ne] at e
        exact absurd e (hd (e1 ▸ hu') y u ne hl hu)
      · rw [hm y ne, hm y' ne'] at e
        exact L.ds y y' u u' hl hl' hu hu' e

/-- a name is stored: a value that the frozen part bears -/
theorem RepE.store {z : Zp} {s : Shared} {x : Str} {val : Value} {lv : LV} {m : Str → Option Value} {am am' : Str → Addr} {P : Unit → Shared → Prop} (R : RepE F z s) (L : F.LocOk l z s.heap m am) (hx : sc.names.lookup x = some .local ∨ sc.names.lookup x = some .cell)
    (hm : ∀ y, y ≠ x → am' y = am y) (hd : lv.mine = true → ∀ y u, y ≠ x → l.lookup y = some u → u.mine = true → am y ≠ am' x) (ha : ∀ y, lv = .app y → y ≠ x)
    (hn : ∀ h' m', F.Nm m' h' x val → (∀ b o, b ≠ F.L → (∀ c, sc.names.lookup x = some .cell → F.cells.lookup x = some c → b ≠ c) → s.heap.get? b = some o → h'.get? b = some o) → F.VOk z h' m' am' x lv)
    (h : ∀ s', Rep F (put l x lv) z s' → P () s') : wpAny (model prog w) F.A (storeName F.env x val) P (fun _ _ => False) s := by
  rcases hx with hx | hx
  · refine wpAny_storeName_local ((F.kindOf x).trans hx) L.ns (fun h' ns sb => h _ ?_) F.notClass
    have kp : ∀ b o, b ≠ F.L → s.heap.get? b = some o → h'.get? b = some o := fun b o nb e => (sb.2 b nb).trans e
    refine ⟨fun b o e => kp b o (fun q => by rw [q, L.fr.1] at e; cases e) (R.sub b o e), R.zz, fun b o e => kp b o (fun q => by rw [q, L.fr.2] at e; cases e) (R.base b o e), R.new, R.gens, R.dr, R.os, fun y => if y = x then some val else m y, am', ?_⟩
    refine L.put ns (fun y vy ne n => ?_) (fun y c v hy e q => ⟨v, ?_⟩) (fun y u ne e hu => sb.2 _ ((L.ok y _ e).of hu).1.nl) hm (hn h' _ (.inl ⟨hx, by simp⟩) fun b o nb _ e => kp b o nb e) hd ha
    · rcases n with ⟨n, e⟩ | ⟨n, c, e, q⟩
      · exact .inl ⟨n, by simp [ne, e]⟩
      · refine .inr ⟨n, c, e, q.sameBut sb ?_⟩
        rcases n with n | n
        · obtain ⟨c', _, e', _, _, n'⟩ := L.ce y n
          rw [e] at e'; cases e'; exact n'
        · obtain ⟨o, ho⟩ := L.fe y c n e
          intro q; rw [q, L.fr.2] at ho; cases ho
    · obtain ⟨c', _, e', _, _, n'⟩ := L.ce y hy
      rw [e] at e'; cases e'
      exact q.sameBut sb n'
  · obtain ⟨c, v, ec, qc, fc, nc⟩ := L.ce x hx
    refine wpAny_storeName_cell F.kind ((F.kindOf x).trans hx) ec qc fun h' ic sb => h _ ?_
    have kp : ∀ b o, b ≠ c → s.heap.get? b = some o → h'.get? b = some o := fun b o nb e => (sb.2 b nb).trans e
    refine ⟨fun b o e => kp b o (fun q => by rw [q, fc.1] at e; cases e) (R.sub b o e), R.zz, fun b o e => kp b o (fun q => by rw [q, fc.2] at e; cases e) (R.base b o e), R.new, R.gens, R.dr, R.os, m, am', ?_⟩
    refine L.put (L.ns.sameBut sb (Ne.symm nc)) (fun y vy ne n => ?_) (fun y c' v hy e q => ?_) (fun y u ne e hu => sb.2 _ (Ne.symm (((L.ok y _ e).of hu).1.nc x c hx ec))) hm (hn h' _ (.inr ⟨.inl hx, c, ec, ic⟩) fun b o nb nb' e => kp b o (nb' c hx ec) e) hd ha
    · rcases n with n | ⟨n, c', e, q⟩
      · exact .inl n
      · refine .inr ⟨n, c', e, q.sameBut sb ?_⟩
        rcases n with n | n
        · intro q; subst q; exact ne (L.cd y x c' n hx e ec)
        · obtain ⟨o, ho⟩ := L.fe y c' n e
          intro q; rw [q, fc.2] at ho; cases ho
    · by_cases hc : c' = c
      · subst hc; exact ⟨_, ic⟩
      · exact ⟨v, q.sameBut sb hc⟩

theorem Rep.storeV {z : Zp} {s : Shared} {x : Str} {val : Value} {v : V} {P : Unit → Shared → Prop} (R : Rep F l z s) (hx : sc.names.lookup x = some .local ∨ sc.names.lookup x = some .cell) (rz : Rz G.C z v val)
    (h : ∀ s', Rep F (Mine.put l x (.v v)) z s' → P () s') : wpAny (model prog w) F.A (storeName F.env x val) P (fun _ _ => False) s := by
  obtain ⟨m, am, L⟩ := R.loc
  exact R.end.store (lv := .v v) L hx (fun _ _ => rfl) (fun e => (by cases e)) (fun _ e => (by cases e)) (fun h' m' n _ => ⟨val, n, rz⟩) h

theorem Rep.size_fresh {z : Zp} {s : Shared} (R : Rep F l z s) : F.Mine z s.heap.objs.size := by
  have hn := get_fresh s.heap
  obtain ⟨m, am, L⟩ := R.loc
  refine ⟨⟨R.sub.fresh, ?_⟩, ?_, ?_⟩
  · cases q : F.base s.heap.objs.size with
    | none => rfl
    | some o => rw [R.base _ _ q] at hn; cases hn
  · obtain ⟨o, _, _, ho, _⟩ := L.ns
    intro e; rw [← e, hn] at ho; cases ho
  · intro y c hy e
    obtain ⟨c', v, e', ⟨o, ho, _⟩, _⟩ := L.ce y hy
    rw [e] at e'; cases e'
    intro q; rw [q, hn] at ho; cases ho

/-- a new list of the frame's own -/
theorem Rep.storeOwn {z z' : Zp} {s s' : Shared} {x : Str} {vals : List Value} {xs : List V} {P : Unit → Shared → Prop} (R : Rep F l z s) (ex : Ext z s z' s') (hx : sc.names.lookup x = some .local ∨ sc.names.lookup x = some .cell)
    (hz : z' s.heap.objs.size = none) (hs : s'.heap.PlainList s.heap.objs.size vals.toArray) (rz : RzL G.C z' xs vals)
    (h : ∀ s', Rep F (Mine.put l x (.own xs)) z' s' → P () s') : wpAny (model prog w) F.A (storeName F.env x (.ref s.heap.objs.size)) P (fun _ _ => False) s' := by
  have hn := get_fresh s.heap
  obtain ⟨f, n1, n2⟩ := R.size_fresh
  obtain ⟨m, am, L⟩ := R.loc
  refine (R.end.ext ex).store (lv := .own xs) (am' := fun y => if y = x then s.heap.objs.size else am y) (L.ext ex) hx (fun y n => by simp [n]) (fun e y u n hl hu => ?_) (fun _ e => (by cases e)) (fun h' m' n kp => ?_) h
  · simp only [if_true]
    obtain ⟨o, ho⟩ := ((L.ok y _ hl).of hu).2.1.alive hu
    intro q; rw [q, hn] at ho; cases ho
  · have e : (fun y => if y = x then s.heap.objs.size else am y) x = s.heap.objs.size := if_pos rfl
    refine ⟨by rw [e]; exact ⟨⟨hz, f.2⟩, n1, n2⟩, ⟨vals, ?_, rz⟩, ?_⟩
    · rw [e]
      exact hs.at fun o e => kp _ o n1 (fun c h1 h2 => (n2 x c h1 h2).symm) e
    · show F.Nm _ _ _ (.ref _)
      rw [e]; exact n

/-- the frozen view: own lists as values -/
noncomputable def LV.frz : LV → LV
  | .own xs => .v (.lst xs)
  | u => u
noncomputable def frz (S : Str → Bool) (l : Locs) : Locs := l.map fun p => (p.1, if S p.1 then p.2.frz else p.2)
theorem frz_lookup {S : Str → Bool} {x : Str} : ∀ {l : Locs}, (frz S l).lookup x = (l.lookup x).map fun u => if S x then u.frz else u
  | [] => rfl
  | (y, v) :: l => by
    show List.lookup x ((y, _) :: frz S l) = _
    rw [List.lookup_cons, List.lookup_cons]
    cases q : x == y with
    | true => rw [eq_of_beq q]; rfl
    | false => exact frz_lookup

open Classical in
theorem Rep.freeze {z : Zp} {s : Shared} (S : Str → Bool) (R : Rep F l z s) : ∃ z', (∀ b o, z b = some o → z' b = some o) ∧ Rep F (frz S l) z' s := by
  obtain ⟨m, am, L⟩ := R.loc
  let own (b : Addr) : Prop := ∃ x xs, S x = true ∧ l.lookup x = some (.own xs) ∧ am x = b
  let z' : Zp := fun b => if own b then s.heap.get? b else z b
  have nown : ∀ {b o}, z b = some o → ¬ own b := by
    rintro b o e ⟨x, xs, _, hl, rfl⟩
    rw [((L.ok x _ hl).of rfl).1.fr.1] at e; cases e
  have zz : ∀ b o, z b = some o → z' b = some o := fun b o e => by show (if own b then _ else _) = _; rw [if_neg (nown e)]; exact e
  have fr : ∀ {a}, F.Fresh z a → ¬ own a → F.Fresh z' a := fun f n => ⟨by show (if own _ then _ else _) = _; rw [if_neg n]; exact f.1, f.2⟩
  have un : ∀ {x u}, (frz S l).lookup x = some u → u.mine = true → l.lookup x = some u ∧ ¬ own (am x) := by
    intro x u h hu
    rw [frz_lookup] at h
    cases hl : l.lookup x with
    | none => rw [hl] at h; cases h
    | some u0 =>
      rw [hl] at h
      have h : (if S x = true then u0.frz else u0) = u := Option.some.inj h
      have k : u0 = u ∧ (S x = true → ∀ xs, u0 ≠ .own xs) := by
        cases hS : S x with
        | false => rw [hS] at h; exact ⟨h, fun e => by cases e⟩
        | true =>
          rw [hS] at h
          cases u0 with
          | own ys => have h : LV.v (.lst ys) = u := h; subst h; cases hu
          | v a => exact ⟨h, fun _ xs e => by cases e⟩
          | app a => exact ⟨h, fun _ xs e => by cases e⟩
          | gl a b => exact ⟨h, fun _ xs e => by cases e⟩
          | gd a b c => exact ⟨h, fun _ xs e => by cases e⟩
      refine ⟨by rw [k.1], ?_⟩
      rintro ⟨y, ys, hS, hy, e⟩
      have hxy := L.ds y x _ _ hy hl rfl (k.1 ▸ hu) e
      subst hxy
      rw [hl] at hy
      exact k.2 hS ys (Option.some.inj hy)
  refine ⟨z', zz, fun b o e => ?_, fun b o e => zz b o (R.zz b o e), R.base, fun b o e n => ?_, R.gens, R.dr, R.os, m, am, ?_⟩
  · by_cases q : own b
    · have : z' b = s.heap.get? b := if_pos q
      rw [← this]; exact e
    · have : z' b = z b := if_neg q
      rw [this] at e; exact R.sub b o e
  · by_cases q : own b
    · obtain ⟨x, xs, _, hl, rfl⟩ := q
      exact ((L.ok x _ hl).of rfl).1.fr.2
    · have : z' b = z b := if_neg q
      rw [this] at e; exact R.new b o e n
  · refine ⟨?_, L.ns, fr L.fr fun ⟨x, xs, _, hl, e⟩ => ((L.ok x _ hl).of rfl).1.nl e, fun y hy => ?_, L.cd, L.fe, fun x u hu => ?_, fun x y u u' hx hy hu hu' e => L.ds x y u u' (un hx hu).1 (un hy hu').1 hu hu' e⟩
    · have : (frz S l).map (·.1) = l.map (·.1) := by unfold frz; rw [List.map_map]; rfl
      rw [this]; exact L.nd
    · obtain ⟨c, v, e, q, f, n⟩ := L.ce y hy
      exact ⟨c, v, e, q, fr f fun ⟨x, xs, _, hl, e'⟩ => ((L.ok x _ hl).of rfl).1.nc y c hy e e'.symm, n⟩
    · cases hm : u.mine with
      | true =>
        obtain ⟨hl, no⟩ := un hu hm
        obtain ⟨mi, c, t⟩ := (L.ok x u hl).of hm
        exact .to hm ⟨⟨fr mi.fr no, mi.nl, mi.nc⟩, c.mono zz fun _ e => e, t⟩
      | false =>
        rw [frz_lookup] at hu
        cases hl : l.lookup x with
        | none => rw [hl] at hu; cases hu
        | some u0 =>
          rw [hl] at hu
          have hu : (if S x = true then u0.frz else u0) = u := Option.some.inj hu
          have q := L.ok x u0 hl
          cases u0 with
          | v v =>
            have : u = .v v := by rw [← hu]; cases S x <;> rfl
            subst this
            obtain ⟨val, n, rz⟩ := q
            exact ⟨val, n, rz.mono zz⟩
          | app y =>
            have : u = .app y := by rw [← hu]; cases S x <;> rfl
            subst this
            obtain ⟨a, o, n, za, ap⟩ := q
            exact ⟨a, o, n, zz _ _ za, ap⟩
          | gl a b => have : u = .gl a b := by rw [← hu]; cases S x <;> rfl
                      subst this; cases hm
          | gd a b c => have : u = .gd a b c := by rw [← hu]; cases S x <;> rfl
                        subst this; cases hm
          | own xs =>
            obtain ⟨mi, ⟨vals, sq, rz⟩, n⟩ := q
            cases hS : S x with
            | true =>
              rw [hS] at hu
              have : u = .v (.lst xs) := hu.symm
              subst this
              refine ⟨_, n, am x, vals, rfl, ?_, RzL.mono zz rz⟩
              have : z' (am x) = s.heap.get? (am x) := if_pos ⟨x, xs, hS, hl, rfl⟩
              rw [this]; exact SeqIs.plain sq
            | false =>
              rw [hS] at hu
              have : u = .own xs := hu.symm
              subst this; cases hm

noncomputable def V.imm : V → Bool
  | .tup _ | .lst _ | .ins _ _ | .obj _ _ => false
  | _ => true
theorem Rz.imm {C : Addr} {z z' : Zp} {v : V} {x : Value} (h : Rz C z v x) (i : v.imm = true) : Rz C z' v x := by
  cases v <;> first | exact h | cases i

/-- a look at own lists: the answer is a plain value -/
theorem WE_peek {e : Expr} (h : WE G r sc (frz (fun _ => true) l) e fun v => v.imm = true ∧ Q v) : WE G r sc l e Q := fun F z s R => by
  obtain ⟨z', zz, R'⟩ := R.freeze fun _ => true
  exact noE (h F z' s R') fun x s' ⟨z'', v, e, rz, i, q⟩ => ⟨z, v, Ext.mk (fun _ _ e => e) (fun b o h => e.keep b o (R.sub b o h)) e.keep (fun b o h n => by rw [n] at h; cases h) e.gens e.dr e.os, rz.imm i, q⟩
theorem WT_peek {e : Expr} {P : Bool → Prop} (h : WT G r sc (frz (fun _ => true) l) e P) : WT G r sc l e P := fun F z s R => by
  obtain ⟨z', zz, R'⟩ := R.freeze fun _ => true
  exact noE (h F z' s R') fun x s' ⟨z'', e, q⟩ => ⟨z, Ext.mk (fun _ _ e => e) (fun b o h => e.keep b o (R.sub b o h)) e.keep (fun b o h n => by rw [n] at h; cases h) e.gens e.dr e.os, q⟩
/-- own lists are given up -/
theorem WS_freeze {st : List Stmt} (S : Str → Bool) (h : WS G r sc (frz S l) st k) : WS G r sc l st k := fun F z s R => by
  obtain ⟨z', zz, R'⟩ := R.freeze S
  exact h F z' s R'
theorem WX_freeze {st : Stmt} (S : Str → Bool) (h : WX G r sc (frz S l) st k) : WX G r sc l st k := fun F z s R => by
  obtain ⟨z', zz, R'⟩ := R.freeze S
  exact h F z' s R'
end
end Mine

end
section
open PySem PySem.W PySem.Calls PyProof.Rows
set_option linter.unusedVariables false
set_option maxRecDepth 100000
namespace Mine
section
variable {prog : Program} {w : World} {K : Frag} {G : Gl prog w K} {r : Nat} {sc : Scope} {l : Locs} {k : Kt} {Q : V → Prop}

noncomputable def stored (sc : Scope) (x : Str) : Bool := sc.names.lookup x == some .local || sc.names.lookup x == some .cell
theorem stored_or {x : Str} (h : stored sc x = true) : sc.names.lookup x = some .local ∨ sc.names.lookup x = some .cell := by
  unfold stored at h
  rcases Bool.or_eq_true_iff.mp h with h | h
  · exact .inl (by simpa using h)
  · exact .inr (by simpa using h)

noncomputable def noComp : Expr → Bool
  | .ListComp .. | .SetComp .. | .DictComp .. => false
  | _ => true
theorem swaps_no {e : Expr} (h : noComp e = true) (t : Option Expr) (n : Nat) (env : Env) : swapsWith e t n env = pure false := by
  cases e <;> first | rfl | cases h

theorem WX_assign {x : Str} {p p' : Pos} {e : Expr} (h : WE G r sc l e fun v => k.nx (put l x (.v v))) (hx : stored sc x = true := by rfl) (hc : noComp e = true := by rfl) : WX G r sc l (.Assign [.Name x p'] e p) k := fun F z s R =>
  wpAny_Assign_Name (noE (h F z s R) fun val s₁ ⟨z₁, v, e₁, rz, q⟩ => (R.ext e₁).storeV (stored_or hx) rz fun s₂ R₂ => ⟨z₁, _, R₂, q⟩) (swaps_no hc _ _ _)

/-- an empty list of the frame's own -/
theorem WX_own {x : Str} {p p' q : Pos} (h : k.nx (put l x (.own []))) (hx : stored sc x = true := by rfl) : WX G r sc l (.Assign [.Name x p'] (.List [] q) p) k := fun F z s R =>
  wpAny_Assign_Name (wpAny_List (wpAny_pure ⟨Nat.zero_le _,
    R.storeOwn (Ext.grow (t := s.toks) R.sub fun b o e => Heap.get?_push_of_some { cls := .type "list", data := .seq ([] : List Value).toArray } e) (xs := []) (vals := []) (stored_or hx) R.sub.fresh ⟨0, Heap.get?_push_size _ rfl⟩ rfl fun s₂ R₂ => ⟨z, _, R₂, h⟩⟩)) (swaps_no rfl _ _ _)

theorem WX_if {t : Expr} {a b : List Stmt} {p : Pos} (h : WT G r sc l t fun c => (c = true → WS G r sc l a k) ∧ (c = false → WS G r sc l b k)) : WX G r sc l (.If t a b p) k := fun F z s R =>
  wpAny_If (noE (h F z s R) fun c s₁ ⟨z₁, e₁, q⟩ => by
    cases c with
    | true => exact q.1 rfl F z₁ s₁ (R.ext e₁)
    | false => exact q.2 rfl F z₁ s₁ (R.ext e₁))
theorem WX_ret {e : Expr} {p : Pos} (h : WE G r sc l e k.rt) : WX G r sc l (.Return (some e) p) k := fun F z s R =>
  wpAny_Return_some (noE (h F z s R) fun x s₁ ⟨z₁, v, e₁, rz, q⟩ => ⟨z₁, v, (R.ext e₁).end, rz, q⟩)
theorem WX_break {p : Pos} (h : k.bk l) : WX G r sc l (.Break p) k := fun F z s R => wpAny_Break ⟨z, l, R, h⟩
theorem WX_assert {t : Expr} {p : Pos} (h : WT G r sc l t fun c => c = true ∧ k.nx l) : WX G r sc l (.Assert t none p) k := fun F z s R =>
  wpAny_Assert_holds (noE (h F z s R) fun c s₁ ⟨z₁, e₁, q⟩ => ⟨q.1, z₁, l, R.ext e₁, q.2⟩)

theorem Frm.notI (F : Frm G r sc) : interactive F.env = false := by
  unfold interactive
  have := F.hk
  simp [this]

noncomputable def upd (l : Locs) (x : Str) (lv : LV) : Locs := l.map fun p => if p.1 == x then (p.1, lv) else p
theorem upd_lookup {x y : Str} {lv : LV} : ∀ {l : Locs}, (upd l x lv).lookup y = if y = x then (l.lookup y).map fun _ => lv else l.lookup y
  | [] => by simp [upd]
  | (u, v) :: l => by
    have ih := upd_lookup (x := x) (y := y) (lv := lv) (l := l)
    show List.lookup y ((if u == x then (u, lv) else (u, v)) :: upd l x lv) = _
    by_cases hu : u = x
    · subst hu
      simp only [beq_self_eq_true, if_true, List.lookup_cons]
      by_cases hy : y = u
      · subst hy; simp
      · have : (y == u) = false := by simpa using hy
        rw [this, ih]
    · have : (u == x) = false := by simpa using hu
      simp only [this, Bool.false_eq_true, if_false, List.lookup_cons]
      by_cases hy : y = u
      · subst hy; simp [hu]
      · have : (y == u) = false := by simpa using hy
        rw [this, ih]
theorem upd_keys {x : Str} {lv : LV} {l : Locs} : (upd l x lv).map (·.1) = l.map (·.1) := by
  unfold upd
  rw [List.map_map]
  apply List.map_congr_left
  intro p _
  simp only [Function.comp]
  split <;> simp_all

/-- an own thing turns -/
theorem RepE.turn {F : Frm G r sc} {z : Zp} {s : Shared} {x : Str} {u u' : LV} {m : Str → Option Value} {am : Str → Addr} {h' : Heap} {t : Nat} (R : RepE F z s) (L : F.LocOk l z s.heap m am) (hl : l.lookup x = some u) (hu : u.mine = true) (hu' : u'.mine = true)
    (ht : ∀ h, F.Tag h m am x u → F.Tag h m am x u') (sb : Heap.SameBut (am x) s.heap h') (hc : Cont G.C z h' (am x) u') : Rep F (upd l x u') z { s with heap := h', toks := t } := by
  obtain ⟨⟨f, n1, n2⟩, _, tg⟩ := (L.ok x _ hl).of hu
  have kp : ∀ b o, b ≠ am x → s.heap.get? b = some o → h'.get? b = some o := fun b o nb e => (sb.2 b nb).trans e
  refine RepE.at (am := am) (m := m) ⟨fun b o e => kp b o (fun q => by rw [q, f.1] at e; cases e) (R.sub b o e), R.zz, fun b o e => kp b o (fun q => by rw [q, f.2] at e; cases e) (R.base b o e), R.new, R.gens, R.dr, R.os⟩ ?_
  have nm : ∀ y vy, F.Nm m s.heap y vy → F.Nm m h' y vy := fun y vy ny => by
    rcases ny with ny | ⟨ny, c, e, q⟩
    · exact .inl ny
    · refine .inr ⟨ny, c, e, q.sameBut sb ?_⟩
      rcases ny with ny | ny
      · exact n2 y c ny e
      · obtain ⟨o, ho⟩ := L.fe y c ny e
        intro q; rw [q, f.2] at ho; cases ho
  have un : ∀ {y w}, (upd l x u').lookup y = some w → w.mine = true → ∃ w', l.lookup y = some w' ∧ w'.mine = true := by
    intro y w hy hw
    rw [upd_lookup] at hy
    by_cases hyx : y = x
    · exact ⟨u, hyx ▸ hl, hu⟩
    · rw [if_neg hyx] at hy; exact ⟨w, hy, hw⟩
  refine ⟨by rw [upd_keys]; exact L.nd, L.ns.sameBut sb (Ne.symm n1), L.fr, fun y hy => ?_, L.cd, L.fe, fun y w hy => ?_, fun y y' w w' hy hy' hw hw' e => ?_⟩
  · obtain ⟨c, v', e, q, fc, nc⟩ := L.ce y hy
    exact ⟨c, v', e, q.sameBut sb (n2 y c hy e), fc, nc⟩
  · rw [upd_lookup] at hy
    by_cases hyx : y = x
    · subst hyx
      rw [if_pos rfl, hl] at hy
      cases hy
      exact .to hu' ⟨⟨f, n1, n2⟩, hc, ht _ (tg.keep (fun val n => nm y val n) rfl)⟩
    · rw [if_neg hyx] at hy
      have q := L.ok y w hy
      cases hw : w.mine with
      | true =>
        obtain ⟨mi, c, tw⟩ := q.of hw
        exact .to hw ⟨mi, c.mono (fun _ _ e => e) fun o e => kp _ o (fun q => hyx (L.ds y x w u hy hl hw hu q)) e, tw.keep (fun val n => nm y val n) rfl⟩
      | false =>
        cases w with
        | v v => obtain ⟨vy, ny, ry⟩ := q; exact ⟨vy, nm y vy ny, ry⟩
        | app y' => obtain ⟨q, o, ny, zq, ap⟩ := q; exact ⟨q, o, nm y _ ny, zq, ap⟩
        | _ => cases hw
  · obtain ⟨a, ha, ma⟩ := un hy hw
    obtain ⟨b, hb, mb⟩ := un hy' hw'
    exact L.ds y y' a b ha hb ma mb e

/-- an append to an own list -/
theorem RepE.append {F : Frm G r sc} {z : Zp} {s : Shared} {x : Str} {xs : List V} {v : V} {val : Value} {m : Str → Option Value} {am : Str → Addr} {P : Value → Shared → Prop} (R : RepE F z s) (L : F.LocOk l z s.heap m am) (hl : l.lookup x = some (.own xs)) (rz : Rz G.C z v val)
    (hsz : xs.length ≤ sizeLine) (h : ∀ s', Rep F (upd l x (.own (xs ++ [v]))) z s' → P .none s') : wpAny (model prog w) F.A (call (.builtin "list.append") [.ref (am x), val]) P (fun _ _ => False) s := by
  obtain ⟨_, ⟨vals, hp, rl⟩, _⟩ := (L.ok x _ hl).of rfl
  refine wpAny_list_append_plain hp (fun h' hp' sb => h _ (R.turn (t := s.toks) L hl rfl rfl (fun _ t => t) sb ⟨vals ++ [val], ?_, RzL.append (RzL.one rz) rl⟩)) (by rw [List.size_toArray, rl.length]; exact hsz)
  have : (vals ++ [val]).toArray = vals.toArray.push val := by simp
  rw [this]; exact hp'
theorem RepE.appendG {F : Frm G r sc} {z : Zp} {s : Shared} {x : Str} {a : Addr} {xs : List V} {v : V} {val : Value} {m : Str → Option Value} {am : Str → Addr} {P : Value → Shared → Prop} (R : RepE F z s) (L : F.LocOk l z s.heap m am) (hl : l.lookup x = some (.gl a xs)) (rz : Rz G.C z v val)
    (hsz : xs.length ≤ sizeLine) (h : ∀ s', Rep F (upd l x (.gl a (xs ++ [v]))) z s' → P .none s') : wpAny (model prog w) F.A (call (.builtin "list.append") [.ref a, val]) P (fun _ _ => False) s := by
  obtain ⟨_, ⟨vals, hp, rl⟩, ha⟩ := (L.ok x _ hl).of rfl
  have ha : am x = a := ha
  subst ha
  refine wpAny_list_append_plain hp (fun h' hp' sb => h _ (R.turn (t := s.toks) L hl rfl rfl (fun _ t => t) sb ⟨vals ++ [val], ?_, RzL.append (RzL.one rz) rl⟩)) (by rw [List.size_toArray, rl.length]; exact hsz)
  have : (vals ++ [val]).toArray = vals.toArray.push val := by simp
  rw [this]; exact hp'

/-- names are forgotten -/
theorem Rep.weak {F : Frm G r sc} {z : Zp} {s : Shared} {l' : Locs} (R : Rep F l z s) (hd : (l'.map (·.1)).Nodup) (hs : ∀ x u, l'.lookup x = some u → l.lookup x = some u) : Rep F l' z s := by
  obtain ⟨m, am, L⟩ := R.loc
  exact R.end.at (m := m) (am := am) ⟨hd, L.ns, L.fr, L.ce, L.cd, L.fe, fun x u h => L.ok x u (hs x u h), fun x y u u' h h' => L.ds x y u u' (hs x u h) (hs y u' h')⟩
theorem WS.weak {st : List Stmt} {l' : Locs} (hd : (l'.map (·.1)).Nodup) (hs : ∀ p ∈ l', l.lookup p.1 = some p.2) (h : WS G r sc l' st k) : WS G r sc l st k := fun F z s R => h F z s (R.weak hd fun x u e => hs (x, u) (lookup_mem e))
theorem WS.mono {st : List Stmt} {k' : Kt} (h : WS G r sc l st k) (hn : ∀ l, k.nx l → k'.nx l) (hb : ∀ l, k.bk l → k'.bk l) (hc : ∀ l, k.ct l → k'.ct l) (hr : ∀ v, k.rt v → k'.rt v) : WS G r sc l st k' := fun F z s R =>
  noE (h F z s R) fun f s' p => by
    cases f with
    | next => obtain ⟨z, l, R, q⟩ := p; exact ⟨z, l, R, hn _ q⟩
    | brk => obtain ⟨z, l, R, q⟩ := p; exact ⟨z, l, R, hb _ q⟩
    | cont => obtain ⟨z, l, R, q⟩ := p; exact ⟨z, l, R, hc _ q⟩
    | ret x => obtain ⟨z, v, R, rz, q⟩ := p; exact ⟨z, v, R, rz, hr _ q⟩

noncomputable def drop (l : Locs) (x : Str) : Locs := l.filter fun p => !(p.1 == x)
theorem drop_lookup {x y : Str} {u : LV} : ∀ {l : Locs}, (drop l x).lookup y = some u → y ≠ x ∧ l.lookup y = some u
  | [], h => by cases h
  | (n, v) :: l, h => by
    unfold drop at h
    rw [List.filter_cons] at h
    by_cases hn : n = x
    · subst hn
      simp only [beq_self_eq_true, Bool.not_true, Bool.false_eq_true, if_false] at h
      obtain ⟨a, b⟩ := drop_lookup h
      refine ⟨a, ?_⟩
      rw [List.lookup_cons]
      have : (y == n) = false := by simpa using a
      rw [this]; exact b
    · have : (n == x) = false := by simpa using hn
      rw [this] at h
      simp only [Bool.not_false, if_true, List.lookup_cons] at h ⊢
      cases q : y == n with
      | true => rw [q] at h; exact ⟨eq_of_beq q ▸ hn, h⟩
      | false => rw [q] at h; exact drop_lookup h

/-- an own thing is given up: what it held is frozen -/
theorem Rep.settle {F : Frm G r sc} {z : Zp} {s : Shared} {y : Str} {u : LV} (R : Rep F l z s) (hl : l.lookup y = some u) (hu : u.mine = true) :
    ∃ z' a, (∀ b o, z b = some o → z' b = some o) ∧ Rep F (drop l y) z' s ∧ Cont G.C z' s.heap a u ∧ (∀ o, s.heap.get? a = some o → z' a = some o) ∧ (∀ b xs, u = .gl b xs → a = b) ∧ (∀ b ks vs, u = .gd b ks vs → a = b) := by
  obtain ⟨m, am, L⟩ := R.loc
  obtain ⟨mi, c, t⟩ := (L.ok y _ hl).of hu
  obtain ⟨o, ho⟩ := c.alive hu
  have zz : ∀ b q, z b = some q → z.put (am y) o b = some q := Zp.put_old mi.fr.1
  have fr : ∀ {a}, F.Fresh z a → a ≠ am y → F.Fresh (z.put (am y) o) a := fun f n => ⟨by simp [Zp.put, n, f.1], f.2⟩
  refine ⟨z.put (am y) o, am y, zz, ⟨fun b q e => ?_, fun b q e => zz b q (R.zz b q e), R.base, fun b q e n => ?_, R.gens, R.dr, R.os, m, am, ?_⟩, c.mono zz fun _ e => e, fun q e => ?_, fun b xs e => ?_, fun b ks vs e => ?_⟩
  · by_cases hb : b = am y
    · subst hb; rw [Zp.put_self] at e; cases e; exact ho
    · exact R.sub b q (by simpa [Zp.put, hb] using e)
  · by_cases hb : b = am y
    · subst hb; exact mi.fr.2
    · exact R.new b q (by simpa [Zp.put, hb] using e) n
  · refine ⟨?_, L.ns, fr L.fr (Ne.symm mi.nl), fun x hx => ?_, L.cd, L.fe, fun x w hx => ?_, fun x x' w w' hx hx' => L.ds x x' w w' (drop_lookup hx).2 (drop_lookup hx').2⟩
    · exact (List.filter_sublist.map _).nodup L.nd
    · obtain ⟨c', v, e, q, f, n⟩ := L.ce x hx
      exact ⟨c', v, e, q, fr f (mi.nc x c' hx e), n⟩
    · obtain ⟨ne, hx⟩ := drop_lookup hx
      have q := L.ok x w hx
      cases hw : w.mine with
      | true =>
        obtain ⟨mi', c', t'⟩ := q.of hw
        exact .to hw ⟨⟨fr mi'.fr fun e => ne (L.ds x y w u hx hl hw hu e), mi'.nl, mi'.nc⟩, c'.mono zz fun _ e => e, t'⟩
      | false =>
        cases w with
        | v v => obtain ⟨val, n, rz⟩ := q; exact ⟨val, n, rz.mono zz⟩
        | app y' => obtain ⟨a, o, n, za, ap⟩ := q; exact ⟨a, o, n, zz _ _ za, ap⟩
        | _ => cases hw
  · rw [ho] at e; cases e; exact Zp.put_self
  · subst e; exact t
  · subst e; exact t

/-- what stands for another in the frozen part z, where u lies at a -/
noncomputable def Turns (C : Addr) (z : Zp) : LV → LV → Prop
  | .v v, .v v' => ∀ x, Rz C z v x → Rz C z v' x
  | .own xs, .own xs' => ∀ vs, RzL C z xs vs → RzL C z xs' vs
  | .gl a xs, .gl a' xs' => a = a' ∧ ∀ vs, RzL C z xs vs → RzL C z xs' vs
  | .gd a ks vs, .gd a' ks' vs' => a = a' ∧ ks = ks' ∧ ∀ xs, RzL C z vs xs → RzL C z vs' xs
  | _, _ => False
theorem Rep.turns {F : Frm G r sc} {z : Zp} {s : Shared} {x : Str} {u u' : LV} (R : Rep F l z s) (hl : l.lookup x = some u) (t : Turns G.C z u u') : Rep F (upd l x u') z s := by
  obtain ⟨m, am, L⟩ := R.loc
  have hm : u'.mine = u.mine := by cases u <;> cases u' <;> first | rfl | exact t.elim
  have un : ∀ {y w}, (upd l x u').lookup y = some w → ∃ w', l.lookup y = some w' ∧ w'.mine = w.mine := by
    intro y w hy
    rw [upd_lookup] at hy
    by_cases hyx : y = x
    · rw [if_pos hyx, hyx, hl] at hy
      cases hy
      exact ⟨u, hyx ▸ hl, hm.symm⟩
    · rw [if_neg hyx] at hy; exact ⟨w, hy, rfl⟩
  refine R.end.at (m := m) (am := am) ⟨by rw [upd_keys]; exact L.nd, L.ns, L.fr, L.ce, L.cd, L.fe, fun y w hy => ?_, fun y y' w w' hy hy' hw hw' e => ?_⟩
  · rw [upd_lookup] at hy
    by_cases hyx : y = x
    · subst hyx
      rw [if_pos rfl, hl] at hy
      cases hy
      have q := L.ok y u hl
      cases u <;> cases u' <;> first | exact t.elim | skip
      · obtain ⟨val, n, rz⟩ := q; exact ⟨val, n, t _ rz⟩
      · obtain ⟨mi, ⟨vals, p, rl⟩, n⟩ := q; exact ⟨mi, ⟨vals, p, t _ rl⟩, n⟩
      · obtain ⟨mi, ⟨vals, p, rl⟩, n⟩ := q; exact ⟨mi, ⟨vals, p, t.2 _ rl⟩, t.1 ▸ n⟩
      · obtain ⟨mi, ⟨es, n, xs, p, fo, rl⟩, tg⟩ := q
        obtain ⟨rfl, rfl, t⟩ := t
        exact ⟨mi, ⟨es, n, xs, p, fo, t _ rl⟩, tg⟩
    · rw [if_neg hyx] at hy; exact L.ok y w hy
  · obtain ⟨a, ha, ma⟩ := un hy
    obtain ⟨b, hb, mb⟩ := un hy'
    exact L.ds y y' a b ha hb (ma.trans hw) (mb.trans hw') e

/-- a ghost list is given up; what names it bears the list itself -/
theorem Rep.fill {F : Frm G r sc} {z : Zp} {s : Shared} {y x : Str} {a : Addr} {xs : List V} {u u' : LV} (R : Rep F l z s) (hy : l.lookup y = some (.gl a xs)) (hx : (drop l y).lookup x = some u)
    (ht : ∀ z, Rz G.C z (.lst xs) (.ref a) → Turns G.C z u u') : ∃ z', (∀ b o, z b = some o → z' b = some o) ∧ Rep F (upd (drop l y) x u') z' s := by
  obtain ⟨z', a', zz, R', ⟨vals, p, rl⟩, hz, e1, _⟩ := R.settle hy rfl
  have e1 := e1 a xs rfl
  subst e1
  exact ⟨z', zz, R'.turns hx (ht z' ⟨_, vals, rfl, (SeqIs.plain p).mono hz, rl⟩)⟩
/-- a ghost dict is given up: the object is whole -/
theorem Rep.fillObj {F : Frm G r sc} {z : Zp} {s : Shared} {y x : Str} {p d : Addr} {ks : List Str} {vs : List V} (R : Rep F l z s) (hy : l.lookup y = some (.gd d ks vs)) (hx : (drop l y).lookup x = some (.v (.obj p d))) :
    ∃ z', (∀ b o, z b = some o → z' b = some o) ∧ Rep F (upd (drop l y) x (.v (.ins ks vs))) z' s := by
  obtain ⟨z', a', zz, R', ⟨es, n, xs, q, fo, rl⟩, hz, _, e1⟩ := R.settle hy rfl
  have e1 := e1 d ks vs rfl
  subst e1
  refine ⟨z', zz, R'.turns hx ?_⟩
  rintro x ⟨rfl, ho⟩
  exact ⟨p, _, es, n, xs, rfl, ho, hz _ q, fo, rl⟩
theorem WS_fill {st : List Stmt} (y x : Str) {a : Addr} {xs : List V} {u : LV} (u' : LV) (hy : l.lookup y = some (.gl a xs)) (hx : (drop l y).lookup x = some u)
    (ht : ∀ z, Rz G.C z (.lst xs) (.ref a) → Turns G.C z u u') (h : WS G r sc (upd (drop l y) x u') st k) : WS G r sc l st k := fun F z s R => by
  obtain ⟨z', _, R'⟩ := R.fill hy hx ht
  exact h F z' s R'
theorem WX_fill {st : Stmt} (y x : Str) {a : Addr} {xs : List V} {u : LV} (u' : LV) (hy : l.lookup y = some (.gl a xs)) (hx : (drop l y).lookup x = some u)
    (ht : ∀ z, Rz G.C z (.lst xs) (.ref a) → Turns G.C z u u') (h : WX G r sc (upd (drop l y) x u') st k) : WX G r sc l st k := fun F z s R => by
  obtain ⟨z', _, R'⟩ := R.fill hy hx ht
  exact h F z' s R'
theorem WS_fillObj {st : List Stmt} (y x : Str) {p d : Addr} {ks : List Str} {vs : List V} (hy : l.lookup y = some (.gd d ks vs)) (hx : (drop l y).lookup x = some (.v (.obj p d)))
    (h : WS G r sc (upd (drop l y) x (.v (.ins ks vs))) st k) : WS G r sc l st k := fun F z s R => by
  obtain ⟨z', _, R'⟩ := R.fillObj hy hx
  exact h F z' s R'

/-- x.append(e) -/
theorem WX_append {x : Str} {xs : List V} {e : Expr} {p pn pc pa : Pos} (hl : l.lookup x = some (.own xs)) (h : WE G r sc l e fun v => xs.length ≤ sizeLine ∧ k.nx (upd l x (.own (xs ++ [v]))))
    (hfew : ∀ env : Env, ((backTo pc (starEach [e] env)).all (fun x => !x.1) && (backToKw pc (keywordEach [] env)).all (fun x => x.1.isSome)
      && decide (([e] : List Expr).length + ([] : List Keyword).length + (if ([] : List Keyword).isEmpty then 0 else 1) < 30)) = true := by intro _; rfl)
    (hline : (pa.endLine == pc.line) = true := by rfl) (htrees : ∀ env : Env, backTo pc (starEach [e] env) = [(false, eval e env)] := by intro _; rfl)
    (hd : (x == ("__debug__" : Str)) = false := by decide) (hc : (x == ("__classdict__" : Str)) = false := by decide) :
    WX G r sc l (.Expr (.Call (.Attribute (.Name x pn) "append" pa) [e] [] pc) p) k := fun F z s R => by
  obtain ⟨m, am, L⟩ := R.loc
  obtain ⟨_, ⟨vals, hp, rl⟩, n⟩ := (L.ok x _ hl).of rfl
  refine wpAny_Expr (wpAny_Call_append rfl (hfew _) hline (htrees _) (wpAny_Name (Frm.load L.ns n hc ?_) hd)) (Frm.notI F) (swaps_no rfl _ _ _)
  refine ⟨am x, vals.toArray, rfl, ⟨_, _, hp.choose_spec, rfl, rfl, rfl⟩, ?_⟩
  refine noE (h F z s R) fun val s₁ ⟨z₁, v, e₁, rz, hs, q⟩ => ?_
  exact (R.end.ext e₁).append (L.ext e₁) hl rz hs fun s₂ R₂ => ⟨z₁, _, R₂, q⟩
/-- e.append(e'), where e is a ghost list -/
theorem WX_appendG {o e : Expr} {p pc pa : Pos} (y : Str) {a : Addr} {xs : List V} (hl : l.lookup y = some (.gl a xs)) (ho : WE G r sc l o (· = .raw (.ref a))) (h : WE G r sc l e fun v => xs.length ≤ sizeLine ∧ k.nx (upd l y (.gl a (xs ++ [v]))))
    (hfew : ∀ env : Env, ((backTo pc (starEach [e] env)).all (fun x => !x.1) && (backToKw pc (keywordEach [] env)).all (fun x => x.1.isSome)
      && decide (([e] : List Expr).length + ([] : List Keyword).length + (if ([] : List Keyword).isEmpty then 0 else 1) < 30)) = true := by intro _; rfl)
    (hline : (pa.endLine == pc.line) = true := by rfl) (htrees : ∀ env : Env, backTo pc (starEach [e] env) = [(false, eval e env)] := by intro _; rfl) (hb : ∀ env whole, attributeBase o "append" env whole = whole := by intro _ _; rfl) :
    WX G r sc l (.Expr (.Call (.Attribute o "append" pa) [e] [] pc) p) k := fun F z s R => by
  refine wpAny_Expr (wpAny_Call_append (hb _ _) (hfew _) hline (htrees _) (noE (ho F z s R) fun oa s₀ ⟨z₀, v, e₀, rz, hv⟩ => ?_)) (Frm.notI F) (swaps_no rfl _ _ _)
  subst hv
  have rz : oa = .ref a := rz
  have R₀ := R.ext e₀
  obtain ⟨m, am, L⟩ := R₀.loc
  obtain ⟨_, ⟨vals, hp, rl⟩, ha⟩ := (L.ok y _ hl).of rfl
  have ha : am y = a := ha
  refine ⟨a, vals.toArray, rz, ?_, ?_⟩
  · rw [← ha]; exact ⟨_, _, hp.choose_spec, rfl, rfl, rfl⟩
  · refine noE (h F z₀ s₀ R₀) fun val s₁ ⟨z₁, v, e₁, rz, hs, q⟩ => ?_
    exact (R₀.end.ext e₁).appendG (L.ext e₁) hl rz hs fun s₂ R₂ => ⟨z₁, _, R₂, q⟩
end
end Mine

end
section
open PySem PySem.W PySem.Calls PyProof.Rows
set_option linter.unusedVariables false
set_option maxRecDepth 100000
namespace Mine
section
variable {prog : Program} {w : World} {K : Frag} {G : Gl prog w K} {r : Nat} {sc : Scope} {l : Locs} {k : Kt} {Q : V → Prop}

/-! arguments -/
noncomputable def plainEs (es : List Expr) : Bool := es.all fun e => match e with | .Starred .. => false | _ => true
theorem starEach_plain {env : Env} : ∀ {es : List Expr}, plainEs es = true → starEach es env = es.map fun e => (false, eval e env)
  | [], _ => rfl
  | e :: es, h => by
    unfold plainEs at h
    rw [List.all_cons, Bool.and_eq_true] at h
    have ih := starEach_plain (env := env) (es := es) h.2
    cases e <;> first | (show _ :: starEach es env = _; rw [ih]; rfl) | (exact absurd h.1 (by simp))
theorem backTo_plain {env : Env} {es : List Expr} {p : Pos} (h : plainEs es = true) : backTo p (starEach es env) = es.map fun e => (false, eval e env) := by
  rw [starEach_plain h]
  unfold backTo
  rw [List.map_map]
  rfl

noncomputable def WEs (G : Gl prog w K) (r : Nat) (sc : Scope) (l : Locs) : List Expr → (List V → Prop) → Prop
  | [], Q => Q []
  | e :: es, Q => WE G r sc l e fun v => WEs G r sc l es fun vs => Q (v :: vs)
theorem WEs.run {F : Frm G r sc} : ∀ {es : List Expr} {Q : List V → Prop}, WEs G r sc l es Q → ∀ z s, Rep F l z s →
    wpAny (model prog w) F.A (spliced (es.map fun e => (false, eval e F.env))) (fun xs s' => ∃ z' vs, Ext z s z' s' ∧ RzL G.C z' vs xs ∧ Q vs) (fun _ _ => False) s
  | [], Q, h, z, s, R => Calls.spliced_nil ⟨z, [], Ext.refl R.sub, rfl, h⟩
  | e :: es, Q, h, z, s, R => Calls.spliced_cons (noE (h F z s R) fun x s₁ ⟨z₁, v, e₁, rz, q⟩ => noE (WEs.run q z₁ s₁ (R.ext e₁)) fun xs s₂ ⟨z₂, vs, e₂, rl, q⟩ =>
      ⟨z₂, v :: vs, e₁.trans e₂, ⟨x, xs, rfl, rz.mono e₂.zz, rl⟩, q⟩)

/-! calls -/
noncomputable def Cal (K : Frag) (f : Value) : Bool := match f with
  | .ref a => keepIn K (.ref a)
  | .builtin _ | .type _ => true
  | _ => false
theorem keeps_any {f : Value} (h : Cal K f = true) (hp : Heap) (X : K.In hp) : ∃ k, (k = Keeper.frame ∨ k = Keeper.machine ∨ k = Keeper.boundFrame) ∧ Looks (model prog w) hp (keeperOf f) k := by
  cases f <;> first | cases h | skip
  · exact ⟨.machine, .inr (.inl rfl), Looks.of_pure rfl⟩
  · exact ⟨.machine, .inr (.inl rfl), Looks.of_pure rfl⟩
  · rename_i a
    exact keeps_K (K := K) (show keepIn K (.ref a) = true from h) hp X

theorem Rep.inK {F : Frm G r sc} {z : Zp} {s : Shared} (R : Rep F l z s) : K.In s.heap := fun a o e => R.sB a o (G.inK a o e)

theorem WEs.callWith {F : Frm G r sc} {es : List Expr} {p : Pos} {f : Value} {first : List Value} {Q : List V → Prop} {P : Value → Shared → Prop} (hf : Cal K f = true) (hp : plainEs es = true) {z : Zp} {s : Shared} (R : Rep F l z s) (h : WEs G r sc l es Q)
    (hc : ∀ xs s' z' vs, Ext z s z' s' → RzL G.C z' vs xs → Q vs → wpAny (model prog w) F.A (call f (first ++ xs)) P (fun _ _ => False) s') :
    wpAny (model prog w) F.A (PySem.callWith p f first (backTo p (starEach es F.env)) []) P (fun _ _ => False) s := by
  rw [backTo_plain hp]
  refine callWith_of (P := K.In) (by
    show ((es.map fun e => (false, eval e F.env)).any (·.1) || false) = false
    rw [Bool.or_false, List.any_map]
    exact List.any_eq_false.mpr fun _ _ => by simp) (fun hp X => keeps_any hf hp X) ?_
  have fin := h.run z s R
  cases es with
  | nil => exact evalArgs_nil3 ⟨R.inK, hc [] s z [] (Ext.refl R.sub) rfl h⟩
  | cons e es =>
    exact Calls.evalArgs_plain (noE fin fun xs s' ⟨z', vs, e', rl, q⟩ => ⟨(R.ext e').inK, hc xs s' z' vs e' rl q⟩)

theorem CS.room {r r' : Nat} {f : Value} {vs : List V} (h : CS G r' f vs Q) (hr : r' ≤ r) : CS G r f vs Q := fun A z s xs hh hR zB hs rl => h A z s xs hh (hR.less hr) zB hs rl

theorem WE_call {x : Str} {p1 p : Pos} {es : List Expr} (h : WE G r sc l (.Name x p1) fun c => ∃ f, c = .raw f ∧ Cal K f = true ∧ WEs G r sc l es fun vs => CS G r f vs Q) (hp : plainEs es = true := by rfl) :
    WE G r sc l (.Call (.Name x p1) es [] p) Q := fun F z s R =>
  wpAny_Call_ofName (noE (h F z s R) fun f s₁ ⟨z₁, v, e₁, rz, f', hv, hf, q⟩ => by
    subst hv
    have : f = f' := rz
    subst this
    exact WEs.callWith hf hp (R.ext e₁) q fun xs s₂ z₂ vs e₂ rl q => noE (q F.A z₂ s₂ xs F.hh F.room ((R.ext e₁).ext e₂).zBsub e₂.sub rl) fun _ _ q => ret_trans (e₁.trans e₂) q)
/-- a def of the top -/
theorem WE_def {x : Str} {p1 p : Pos} {es : List Expr} {f : Addr} (e : nsIn K mainGlobals x = some (some (.ref f))) (hf : keepIn K (.ref f) = true) (h : WEs G r sc l es fun vs => CS G r (.ref f) vs Q)
    (hx : sc.names.lookup x = some .globalImplicit := by rfl) (hd : (x == ("__debug__" : Str)) = false := by decide) (hp : plainEs es = true := by rfl) : WE G r sc l (.Call (.Name x p1) es [] p) Q :=
  WE_call (WE_g e ⟨_, rfl, hf, h⟩ hx hd) hp
/-- a built-in -/
theorem WE_bi {x : Str} {p1 p : Pos} {es : List Expr} {val : Value} (e : nsIn K mainGlobals x = some none) (hv : bootBuiltins x = some val) (hf : Cal K val = true) (h : WEs G r sc l es fun vs => CS G r val vs Q)
    (hn : x ≠ "__name__" := by decide) (hx : sc.names.lookup x = some .globalImplicit := by rfl) (hd : (x == ("__debug__" : Str)) = false := by decide) (hp : plainEs es = true := by rfl) : WE G r sc l (.Call (.Name x p1) es [] p) Q :=
  WE_call (WE_b e hv ⟨_, rfl, hf, h⟩ hn hx hd) hp

/-! methods -/
/-- what getMethod finds on a value -/
noncomputable def GMt (G : Gl prog w K) (nm : Str) (a : V) (Q : Value → Prop) : Prop :=
  ∀ A z s xa pl, A.handled = none → (∀ b o, G.zB b = some o → z b = some o) → Sub z s.heap → Rz G.C z a xa →
    wpAny (model prog w) A (getMethod xa nm pl) (fun q s' => s' = s ∧ q.2 = [xa] ∧ Q q.1) (fun _ _ => False) s

theorem WE_meth {o : Expr} {nm : Str} {pa p : Pos} {es : List Expr} (h : WE G r sc l o fun v => GMt G nm v fun f => Cal K f = true ∧ WEs G r sc l es fun vs => CS G r f (v :: vs) Q)
    (hp : plainEs es = true := by rfl) (hfew : es.length < 30 := by decide) (hline : (pa.endLine == p.line) = true := by rfl) (hb : ∀ env whole, attributeBase o nm env whole = whole := by intro _ _; rfl) :
    WE G r sc l (.Call (.Attribute o nm pa) es [] p) Q := fun F z s R => by
  rw [arm_eval_Call, hb]
  refine wpAny_bind (noE (h F z s R) fun xa s₁ ⟨z₁, v, e₁, rz, q⟩ => wpAny_bind (wpAny_standAt ?_))
  have hform : methodCallForm (es.length + ([] : List Keyword).length) (backTo p (starEach es F.env)) (backToKw p (keywordEach [] F.env)) = true := by
    rw [backTo_plain hp]
    show (List.all _ _ && true && decide (es.length + 0 + 0 < 30)) = true
    rw [List.all_map, Bool.and_true, Bool.and_eq_true]
    exact ⟨List.all_eq_true.mpr fun _ _ => rfl, decide_eq_true hfew⟩
  have hpos : methodCallPos true o F.env pa p = pure p := by unfold methodCallPos; simp [hline]
  unfold methodCall
  rw [hform]
  refine wpAny_bind (wpAny_holding ?_)
  show wpAny _ _ (getMethod xa nm _) _ _ _
  refine noE (q F.A z₁ s₁ xa _ F.hh (R.ext e₁).zBsub e₁.sub rz) fun ⟨f, fs⟩ s₂ ⟨hs, hfs, hf, q⟩ => ?_
  dsimp only at hfs hf q ⊢
  subst hfs
  subst hs
  refine wpAny_bind (wpAny_of_eq hpos ?_)
  exact WEs.callWith hf hp (R.ext e₁) q fun xs s₃ z₃ vs e₃ rl q =>
    noE (q F.A z₃ s₃ (xa :: xs) F.hh F.room ((R.ext e₁).ext e₃).zBsub e₃.sub ⟨xa, xs, rfl, rz.mono e₃.zz, rl⟩) fun _ _ q => ret_trans (e₁.trans e₃) q

theorem GM_str {nm : Str} {id : String} {x : Str} {P : Value → Prop} (slot : Slot "str" nm id) (ty : typeOf (.builtin id) = pure (.type "method_descriptor")) (h : P (.builtin id)) : GMt G nm (.str x) P := fun A z s xa pl hh zB hs ⟨t, rz⟩ => by
  subst rz
  exact GM.of (.str x t) (typeIs_str _ _ _) slot ty GM.noRef ⟨rfl, rfl, h⟩

/-- an object's field by its name -/
noncomputable def fieldOf (nm : Str) : List Str → List V → Option V
  | k :: ks, v :: vs => if k == nm then some v else fieldOf nm ks vs
  | _, _ => none

theorem FieldsOk.find {nm : Str} : ∀ {ks : List Str} {xs : List Value} {es : List DictEntry}, FieldsOk ks xs es → ks.all (fun k => !(k == nm)) = true → es.find? (·.key.isStr nm) = none
  | [], [], [], _, _ => rfl
  | k :: ks, x :: xs, e :: es, ⟨_, ⟨t, ht⟩, r⟩, hk => by
    rw [List.all_cons, Bool.and_eq_true] at hk
    have h0 : e.key.isStr nm = false := by rw [ht]; show (k == nm) = false; simpa using hk.1
    rw [List.find?_cons, h0]; exact r.find hk.2
theorem FieldsOk.noRef : ∀ {ks : List Str} {xs : List Value} {es : List DictEntry}, FieldsOk ks xs es → es.any (·.refKey) = false
  | [], [], [], _ => rfl
  | k :: ks, x :: xs, e :: es, ⟨_, ⟨t, ht⟩, r⟩ => by
    rw [List.any_cons, r.noRef, Bool.or_false]
    unfold DictEntry.refKey; rw [ht]
theorem getL_none {C : Addr} {z : Zp} {nm : Str} {ks : List Str} {xs : List Value} {es : List DictEntry} (h : FieldsOk ks xs es) (hk : ks.all (fun k => !(k == nm)) = true) : getL nm es = some none := by
  unfold getL
  rw [h.find hk, h.noRef]
  rfl

theorem GM_ins {nm : Str} {f : Addr} {ks : List Str} {vs : List V} {P : Value → Prop} (hg : plainGet K G.C nm = true) (hf : findIn K (.ref G.C) nm = some (some (.ref f))) (ht : isFn K (.ref f) = true) (hk : ks.all (fun k => !(k == nm)) = true) (h : P (.ref f)) :
    GMt G nm (.ins ks vs) P := fun A z s xa pl hh zB hs ⟨a, d, es, n, xs, e, o1, o2, fo, rl⟩ => by
  subst e
  have X : K.In s.heap := fun b o e => hs _ _ (zB _ _ (G.inK b o e))
  have I : InstAt s.heap a (instObj G.C d) G.C (some (dictOf es n)) := ⟨hs _ _ o1, rfl, rfl, hs _ _ o2⟩
  refine method_fn X I (plainGet_of hg).1 (plainGet_of hg).2 hf (beq_iff_eq.mp ht) ?_ ⟨rfl, rfl, h⟩
  show (lookIn nm (dictOf es n)).map _ = _
  rw [lookIn_dict, getL_none (C := G.C) (z := z) fo hk]; rfl
end
end Mine

end
section
open PySem PySem.W PySem.Calls PyProof.Rows
set_option linter.unusedVariables false
set_option maxRecDepth 100000
namespace Mine
theorem xl1 {xs : List Value} (h : xs.length = 1) : ∃ a, xs = [a] := List.length_eq_one_iff.mp h
theorem xl2 {xs : List Value} (h : xs.length = 2) : ∃ a b, xs = [a, b] := by
  cases xs with
  | nil => cases h
  | cons a r => obtain ⟨b, rfl⟩ := xl1 (Nat.succ.inj h); exact ⟨a, b, rfl⟩
theorem xl3 {xs : List Value} (h : xs.length = 3) : ∃ a b c, xs = [a, b, c] := by
  cases xs with
  | nil => cases h
  | cons a r => obtain ⟨b, c, rfl⟩ := xl2 (Nat.succ.inj h); exact ⟨a, b, c, rfl⟩
section
variable {prog : Program} {w : World} {K : Frag} {G : Gl prog w K} {r : Nat} {sc : Scope} {l : Locs} {k : Kt} {Q : V → Prop}

theorem zip_bears {C : Addr} {z : Zp} {x : Str} {lv : LV} : ∀ {nms : List Str} {vs : List V} {xs : List Value}, RzL C z vs xs → (nms.zip (vs.map LV.v)).lookup x = some lv → ∃ v val, lv = .v v ∧ (nms.zip xs).lookup x = some val ∧ Rz C z v val
  | [], _, _, _, h => by cases h
  | _ :: _, [], _, _, h => by cases h
  | n :: nms, v :: vs, _, ⟨y, r, e, h1, h2⟩, h => by
    subst e
    simp only [List.map_cons, List.zip_cons_cons, List.lookup_cons] at h ⊢
    cases q : x == n with
    | true => rw [q] at h; cases h; exact ⟨v, y, rfl, rfl, h1⟩
    | false => rw [q] at h; exact zip_bears h2 h
theorem lookup_reverse {α : Type} {l : List (Str × α)} (nd : (l.map (·.1)).Nodup) {x : Str} {v : α} (h : l.lookup x = some v) : l.reverse.lookup x = some v :=
  mem_lookup (by rw [List.map_reverse]; exact List.pairwise_reverse.mpr (List.Pairwise.imp (fun h => Ne.symm h) nd)) (List.mem_reverse.mpr (lookup_mem h))
theorem lookup_some_mem {x : Str} {kd : NameKind} {l : List (Str × NameKind)} (h : l.lookup x = some kd) : (x, kd) ∈ l := lookup_mem h

/-- a def of the top is called: its body's meaning -/
theorem CS_def {f : Addr} {name qual : Str} {params : Arguments} {body : List Stmt} {dV kV doc pm cdv ct oc : Value} {an od : Option Addr} {osl : Array (Option Value)} {vs : List V} (nms : List Str)
    (ho : K.lookup f = some ⟨oc, od, .func (fnOf name qual params body sc dV kV doc pm an cdv ct), osl⟩) (hcd : codeIn K cdv qual = true)
    (h : WS G r sc (nms.zip (vs.map LV.v)) body { nx := fun _ => Q .nil, rt := Q })
    (hb : ∀ xs : List Value, xs.length = nms.length → bindArgs (fnOf name qual params body sc dV kV doc pm an cdv ct) ⟨xs, []⟩ = pure (nms.zip xs))
    (hl : nms.length = vs.length := by rfl) (hnd : nms.Nodup := by decide) (hloc : (nms.all fun x => sc.names.lookup x == some .local) = true := by decide +kernel)
    (hcell : (sc.names.all fun x => x.2 != .cell) = true := by decide +kernel) (hco : sc.isCoroutine = false := by rfl) (hgen : sc.isGenerator = false := by rfl) (hk : sc.kind = .function := by rfl) :
    CS G (r + 1) (.ref f) vs Q := fun A z s xs hh hR zB hs rl => by
  have X : K.In s.heap := fun b o e => hs _ _ (zB _ _ (G.inK b o e))
  have hlen : xs.length = nms.length := by rw [rl.length, hl]
  have hnk : ∀ x, sc.names.lookup x ≠ some .cell := fun x e => by
    have := List.all_eq_true.mp hcell _ (lookup_some_mem e)
    simp at this
  have hkeys : ((nms.zip xs).map (·.1)) = nms := by
    have : (nms.zip xs).map Prod.fst = nms := List.map_fst_zip (by omega)
    exact this
  refine wpAny_call (codeAny_call_def (fd := fnOf name qual params body sc dV kV doc pm an cdv ct) (body := body) (binds := nms.zip xs) hR.lt (X _ _ ho) rfl (G.nolim _ fun b o e => hs _ _ (zB _ _ e)) (codeRec_of X hcd) rfl (.of_eq (hb xs hlen))
    (fun x hx e => by
      have := List.all_eq_true.mp hcell _ hx
      simp [e] at this) (fun x hx => ?_) (fun h₀ ns kp => ?_) hco hgen hk)
  · have : x.1 ∈ nms := by rw [← hkeys]; exact List.mem_map_of_mem hx
    exact beq_iff_eq.mp (List.all_eq_true.mp hloc _ this)
  · let F : Frm G r sc := Frm.mk s.heap.objs.size [] (qual ++ ".<locals>.") (some f) cdv (some s.heap.objs.size) (A.deeper (callEnv (fnOf name qual params body sc dV kV doc pm an cdv ct) s.heap.objs.size f))
      (fun b => s.heap.get? b) z s.gens s.drawn s.os hk zB hh hR.deeper
    have L0 : F.LocOk (nms.zip (vs.map LV.v)) z h₀ (fun x => (nms.zip xs).reverse.lookup x) (fun _ => 0) := by
      refine ⟨?_, ns, ⟨hs.fresh, get_fresh _⟩, fun x hx => absurd hx (hnk x), fun x y c hx => absurd hx (hnk x), fun x c _ e => (by cases e), fun x lv e => ?_, fun x y u u' hx _ hu => ?_⟩
      · have : (nms.zip (vs.map LV.v)).map (·.1) = nms := List.map_fst_zip (by rw [List.length_map]; omega)
        rw [this]; exact hnd
      · obtain ⟨v, val, rfl, e2, rz⟩ := zip_bears rl e
        refine ⟨val, .inl ⟨?_, lookup_reverse (by rw [hkeys]; exact hnd) e2⟩, rz⟩
        have : x ∈ nms := by
          have := List.mem_map_of_mem (f := Prod.fst) (lookup_mem e2)
          rw [hkeys] at this; exact this
        exact beq_iff_eq.mp (List.all_eq_true.mp hloc _ this)
      · obtain ⟨v, val, e, _⟩ := zip_bears rl hx
        rw [e] at hu; cases hu
    have R0 : Rep F (nms.zip (vs.map LV.v)) z { s with heap := h₀, toks := s.toks + (nms.zip xs).length } :=
      ⟨fun b o e => kp b o (hs b o e), fun _ _ e => e, kp, fun b o e n => (by have n' : z b = none := n; rw [n'] at e; cases e), rfl, rfl, rfl, _, _, L0⟩
    have ex : ∀ {z' : Zp} {s' : Shared}, RepE F z' s' → Ext z s z' s' := fun R => ⟨R.zz, R.sub, R.base, R.new, R.gens, R.dr, R.os⟩
    refine noE (h F z _ R0) fun fl s' p => ?_
    cases fl with
    | next => obtain ⟨z', l', R', q⟩ := p; exact ⟨z', .nil, ex R'.end, rfl, q⟩
    | brk => obtain ⟨_, _, _, q⟩ := p; exact q.elim
    | cont => obtain ⟨_, _, _, q⟩ := p; exact q.elim
    | ret x => obtain ⟨z', v, R', rz, q⟩ := p; exact ⟨z', v, ex R', rz, q⟩

/-! attributes -/
theorem getL_some {C : Addr} {z : Zp} {nm : Str} {v : V} : ∀ {ks : List Str} {xs : List Value} {vs : List V} {es : List DictEntry}, FieldsOk ks xs es → RzL C z vs xs → fieldOf nm ks vs = some v → ∃ x, getL nm es = some (some x) ∧ Rz C z v x
  | [], _, _, _, _, _, h => by cases h
  | _ :: _, _, [], _, _, _, h => by cases h
  | q :: ks, xs, v0 :: vs, es, fo, rl, h => by
    obtain ⟨x0, r0, rfl, r1, r2⟩ := rl
    cases es with
    | nil => exact fo.elim
    | cons e es =>
      obtain ⟨h1, ⟨t, ht⟩, fo⟩ := fo
      unfold fieldOf at h
      have hq : e.key.isStr nm = (q == nm) := by rw [ht]; rfl
      by_cases hn : (q == nm) = true
      · rw [if_pos hn] at h
        cases h
        refine ⟨x0, ?_, r1⟩
        unfold getL
        rw [List.find?_cons, hq, hn]
        show some (some e.val) = _
        rw [h1]
      · rw [if_neg hn] at h
        have hn' : (q == nm) = false := by simpa using hn
        obtain ⟨x, g, rz⟩ := getL_some fo r2 h
        refine ⟨x, ?_, rz⟩
        unfold getL at g ⊢
        rw [List.find?_cons, hq, hn']
        cases hf : List.find? (fun x => x.key.isStr nm) es with
        | some e' => rw [hf] at g; exact g
        | none =>
          rw [hf] at g
          exfalso
          dsimp only at g
          split at g <;> cases g

theorem handed_rz {C : Addr} {z : Zp} {v : V} {x : Value} (h : Rz C z v x) (hr : ∀ u, v = .raw u → handedIn u = true) : handedIn x = true := by
  cases v with
  | raw u0 => have e : x = u0 := h; rw [e]; exact hr u0 rfl
  | nil => cases h; rfl
  | bool b => cases h; rfl
  | int i => obtain ⟨t, rfl⟩ := h; rfl
  | str i => obtain ⟨t, rfl⟩ := h; rfl
  | tup vs => obtain ⟨a, xs, rfl, _⟩ := h; rfl
  | lst vs => obtain ⟨a, xs, rfl, _⟩ := h; rfl
  | ins ks vs => obtain ⟨a, d, es, n, xs, rfl, _⟩ := h; rfl
  | obj p d => obtain ⟨rfl, _⟩ := h; rfl

theorem WE_attr {e : Expr} {nm : Str} {p : Pos} {attr : Option Value} (hg : plainGet K G.C nm = true) (hh : hasDictIn K G.C = true) (ha : findIn K (.ref G.C) nm = some attr) (hn : noGet K attr = true)
    (h : WE G r sc l e fun v => ∃ ks vs u, v = .ins ks vs ∧ fieldOf nm ks vs = some u ∧ (∀ q, u = .raw q → handedIn q = true) ∧ Q u)
    (he : ∀ env, eval (.Attribute e nm p) env = (do let o ← eval e env; standAt p.atName; let r ← holding [o] (getAttr o nm true); letTemporaryGo e o r; pure r) := by intro _; with_unfolding_all rfl) :
    WE G r sc l (.Attribute e nm p) Q := fun F z s R =>
  Attribute_any_ (noE (h F z s R) fun xa s₁ ⟨z₁, v, e₁, rz, ks, vs, u, hv, hf, hu, q⟩ => by
    subst hv
    obtain ⟨a, d, es, n, xs, rfl, o1, o2, fo, rl⟩ := rz
    obtain ⟨x, gx, rx⟩ := getL_some fo rl hf
    have I : InstAt s₁.heap a (instObj G.C d) G.C (some (dictOf es n)) := ⟨e₁.sub _ _ o1, rfl, rfl, e₁.sub _ _ o2⟩
    exact get_value (R.ext e₁).inK I (plainGet_of hg).1 (findObj_own hh ha hn gx) (handed_rz rx hu) ⟨z₁, u, e₁.trans (Ext.toks e₁.sub _), rx, q⟩) (he _)
end
end Mine

end
section
open PySem PySem.W PySem.Calls PyProof.Rows
set_option linter.unusedVariables false
set_option maxRecDepth 100000
namespace Mine
section
variable {prog : Program} {w : World} {K : Frag} {G : Gl prog w K} {r : Nat} {sc : Scope} {l : Locs} {k : Kt} {Q : V → Prop}

/-! a part of the heap beside the frame's own: it stays while a body runs -/
noncomputable def Frm.Off (F : Frm G r sc) (l : Locs) (z : Zp) (am : Str → Addr) (b : Addr) : Prop :=
  z b = none ∧ F.base b = none ∧ b ≠ F.L ∧ (∀ y c, sc.names.lookup y = some .cell → F.cells.lookup y = some c → c ≠ b) ∧ ∀ x u, l.lookup x = some u → u.mine = true → am x ≠ b
noncomputable def RepO (F : Frm G r sc) (l : Locs) (z : Zp) (s : Shared) (ad : List Addr) : Prop := ∃ m am, RepE F z s ∧ F.LocOk l z s.heap m am ∧ ∀ b ∈ ad, F.Off l z am b
theorem RepO.rep {F : Frm G r sc} {z : Zp} {s : Shared} {ad : List Addr} (R : RepO F l z s ad) : Rep F l z s := let ⟨_, _, E, L, _⟩ := R; E.at L

open Classical in
noncomputable def Frm.inner (F : Frm G r sc) (l : Locs) (am : Str → Addr) (z : Zp) (h : Heap) (zB : ∀ b o, G.zB b = some o → z b = some o) : Frm G r sc :=
  Frm.mk F.L F.cells F.qual F.func F.code F.frame F.A
    (fun b => if b = F.L ∨ (∃ x, sc.names.lookup x = some .cell ∧ F.cells.lookup x = some b) ∨ (∃ x u, l.lookup x = some u ∧ u.mine = true ∧ am x = b) then none else h.get? b) z F.g F.dr F.os F.hk zB F.hh F.room

section inner
variable {F : Frm G r sc} {z : Zp} {s : Shared} {m : Str → Option Value} {am : Str → Addr}
theorem inner_some {hz : ∀ b o, G.zB b = some o → z b = some o} {h : Heap} {b : Addr} {o : Obj} (e : (F.inner l am z h hz).base b = some o) : h.get? b = some o := by
  unfold Frm.inner at e
  dsimp only at e
  split at e
  · cases e
  · exact e
theorem base_inner {hz : ∀ b o, G.zB b = some o → z b = some o} {b : Addr} {o : Obj} (L : F.LocOk l z s.heap m am) (hb : ∃ q, F.base b = some q) (e : s.heap.get? b = some o) : (F.inner l am z s.heap hz).base b = some o := by
  obtain ⟨q, hb⟩ := hb
  unfold Frm.inner
  dsimp only
  rw [if_neg]
  · exact e
  · rintro (h | ⟨x, hx, hc⟩ | ⟨x, u, hx, hu, h⟩)
    · rw [h, L.fr.2] at hb; cases hb
    · obtain ⟨c, v, e1, _, f, _⟩ := L.ce x hx
      rw [hc] at e1; cases e1
      rw [f.2] at hb; cases hb
    · rw [← h, ((L.ok x _ hx).of hu).1.fr.2] at hb; cases hb
theorem off_inner {hz : ∀ b o, G.zB b = some o → z b = some o} {b : Addr} {o : Obj} (hb : F.Off l z am b) (e : s.heap.get? b = some o) : (F.inner l am z s.heap hz).base b = some o := by
  unfold Frm.inner
  dsimp only
  rw [if_neg]
  · exact e
  · rintro (h | ⟨x, hx, hc⟩ | ⟨x, u, hx, hu, h⟩)
    · exact hb.2.2.1 h
    · exact hb.2.2.2.1 x b hx hc rfl
    · exact hb.2.2.2.2 x u hx hu h
theorem inner_rep (E : RepE F z s) (L : F.LocOk l z s.heap m am) (hz : ∀ b o, G.zB b = some o → z b = some o) : Rep (F.inner l am z s.heap hz) l z s := by
  have mt : ∀ b, (b = F.L ∨ (∃ x, sc.names.lookup x = some .cell ∧ F.cells.lookup x = some b) ∨ (∃ x u, l.lookup x = some u ∧ u.mine = true ∧ am x = b)) → (F.inner l am z s.heap hz).base b = none := fun b h => by
    unfold Frm.inner; dsimp only; rw [if_pos h]
  refine ⟨E.sub, fun _ _ e => e, fun b o e => inner_some e, fun b o e n => ?_, E.gens, E.dr, E.os, m, am, L.nd, L.ns, ⟨L.fr.1, mt _ (.inl rfl)⟩, fun y hy => ?_, L.cd, fun x c hx e => ?_, fun x lv hl => ?_, L.ds⟩
  · exact absurd e (by rw [show z b = none from n]; intro h; cases h)
  · obtain ⟨c, v, e, q, f, n⟩ := L.ce y hy
    exact ⟨c, v, e, q, ⟨f.1, mt _ (.inr (.inl ⟨y, hy, e⟩))⟩, n⟩
  · obtain ⟨o, ho⟩ := L.fe x c hx e
    exact ⟨o, base_inner L ⟨o, ho⟩ (E.base _ _ ho)⟩
  · have q := L.ok x lv hl
    cases hu : lv.mine with
    | true =>
      obtain ⟨⟨f, n1, n2⟩, rest⟩ := q.of hu
      exact .to hu ⟨⟨⟨f.1, mt _ (.inr (.inr ⟨x, lv, hl, hu, rfl⟩))⟩, n1, n2⟩, rest.1, rest.2.keep (fun _ n => n) rfl⟩
    | false =>
      cases lv with
      | v v => exact q
      | app y => exact q
      | _ => cases hu

variable {hz : ∀ b o, G.zB b = some o → z b = some o} {z' : Zp} {s' : Shared}
theorem inner_end (E : RepE F z s) (L : F.LocOk l z s.heap m am) (R : RepE (F.inner l am z s.heap hz) z' s') : RepE F z' s' := by
  refine ⟨R.sub, fun b o e => R.zz b o (E.zz b o e), fun b o e => R.base b o (base_inner L ⟨o, e⟩ (E.base b o e)), fun b o e n => ?_, R.gens, R.dr, R.os⟩
  cases q : z b with
  | some o' => exact E.new b o' q n
  | none =>
    have hn := R.new b o e q
    cases q2 : F.base b with
    | none => rfl
    | some o2 => rw [base_inner L ⟨o2, q2⟩ (E.base b o2 q2)] at hn; cases hn
theorem inner_out {l' : Locs} {ad : List Addr} (E : RepE F z s) (L : F.LocOk l z s.heap m am) (O : ∀ b ∈ ad, F.Off l z am b) (al : ∀ b ∈ ad, ∃ o, s.heap.get? b = some o) (R : Rep (F.inner l am z s.heap hz) l' z' s') :
    RepO F l' z' s' ad ∧ ∀ b ∈ ad, ∀ o, s.heap.get? b = some o → s'.heap.get? b = some o := by
  obtain ⟨m', am', L'⟩ := R.loc
  have un : ∀ {a}, (F.inner l am z s.heap hz).Fresh z' a → F.Fresh z' a := fun {a} f => ⟨f.1, by
    cases q : F.base a with
    | none => rfl
    | some o =>
      have := base_inner (hz := hz) L ⟨o, q⟩ (E.base a o q)
      rw [f.2] at this; cases this⟩
  refine ⟨⟨m', am', inner_end E L R.end, ⟨L'.nd, L'.ns, un L'.fr, fun y hy => ?_, L'.cd, fun x c hx e => L.fe x c hx e, fun x lv hl => ?_, L'.ds⟩, fun b hb => ?_⟩, fun b hb o e => R.base b o (off_inner (O b hb) e)⟩
  · obtain ⟨c, v, e, q, f, n⟩ := L'.ce y hy
    exact ⟨c, v, e, q, un f, n⟩
  · have q := L'.ok x lv hl
    cases hu : lv.mine with
    | true =>
      obtain ⟨⟨f, n1, n2⟩, rest⟩ := q.of hu
      exact .to hu ⟨⟨un f, n1, n2⟩, rest.1, rest.2.keep (fun _ n => n) rfl⟩
    | false =>
      cases lv with
      | v v => exact q
      | app y => exact q
      | _ => cases hu
  · obtain ⟨o, e⟩ := al b hb
    have hB := off_inner (hz := hz) (O b hb) e
    refine ⟨?_, (O b hb).2.1, (O b hb).2.2.1, (O b hb).2.2.2.1, fun x u hx hu q => ?_⟩
    · cases q : z' b with
      | none => rfl
      | some o' => have := R.new b o' q (O b hb).1; rw [hB] at this; cases this
    · have := ((L'.ok x _ hx).of hu).1.fr.2
      rw [q, hB] at this; cases this
end inner

/-- growth beside some objects that turn -/
structure ExtI (ad : List Addr) (z : Zp) (s : Shared) (z' : Zp) (s' : Shared) : Prop where
  zz : ∀ b o, z b = some o → z' b = some o
  sub : Sub z' s'.heap
  keep : ∀ b o, b ∉ ad → s.heap.get? b = some o → s'.heap.get? b = some o
  new : ∀ b o, z' b = some o → z b = none → s.heap.get? b = none
  gens : s'.gens = s.gens
  dr : s'.drawn = s.drawn
  os : s'.os = s.os
theorem RepO.next {F : Frm G r sc} {z z' : Zp} {s s' : Shared} {ad : List Addr} (R : RepO F l z s ad) (al : ∀ b ∈ ad, ∃ o, s.heap.get? b = some o) (x : ExtI ad z s z' s') : RepO F l z' s' ad := by
  obtain ⟨m, am, E, L, O⟩ := R
  have fr : ∀ {a o}, s.heap.get? a = some o → z a = none → z' a = none := fun {a o} ha hz => by
    cases q : z' a with
    | none => rfl
    | some o' => rw [x.new a o' q hz] at ha; cases ha
  have nL : F.L ∉ ad := fun h => (O _ h).2.2.1 rfl
  have nz : ∀ {b o}, z b = some o → b ∉ ad := fun e h => by rw [(O _ h).1] at e; cases e
  have nb : ∀ {b o}, F.base b = some o → b ∉ ad := fun e h => by rw [(O _ h).2.1] at e; cases e
  have nm : ∀ {y vy}, F.Nm m s.heap y vy → F.Nm m s'.heap y vy := fun {y vy} n => by
    rcases n with n | ⟨n, c, e, o, ho, hd⟩
    · exact .inl n
    · refine .inr ⟨n, c, e, o, x.keep c o (fun h => ?_) ho, hd⟩
      rcases n with n | n
      · exact (O _ h).2.2.2.1 y c n e rfl
      · obtain ⟨q, hq⟩ := L.fe y c n e
        exact nb hq h
  refine ⟨m, am, ⟨x.sub, fun b o e => x.zz b o (E.zz b o e), fun b o e => x.keep b o (nb e) (E.base b o e), fun b o e n => ?_, x.gens.trans E.gens, x.dr.trans E.dr, x.os.trans E.os⟩,
    ⟨L.nd, ?_, ?_, fun y hy => ?_, L.cd, L.fe, fun y lv hl => ?_, L.ds⟩, fun b hb => ?_⟩
  · cases q : z b with
    | some o' => exact E.new b o' q n
    | none =>
      have hn := x.new b o e q
      cases q2 : F.base b with
      | none => rfl
      | some o2 => rw [E.base b o2 q2] at hn; cases hn
  · obtain ⟨o, es, ep, ho, rest⟩ := L.ns
    exact ⟨o, es, ep, x.keep _ _ nL ho, rest⟩
  · obtain ⟨o, _, _, ho, _⟩ := L.ns
    exact ⟨fr ho L.fr.1, L.fr.2⟩
  · obtain ⟨c, v, e, ⟨o, ho, hd⟩, f, n⟩ := L.ce y hy
    exact ⟨c, v, e, ⟨o, x.keep _ _ (fun h => (O _ h).2.2.2.1 y c hy e rfl) ho, hd⟩, ⟨fr ho f.1, f.2⟩, n⟩
  · have q := L.ok y lv hl
    cases hu : lv.mine with
    | true =>
      obtain ⟨⟨f, n1, n2⟩, c, t⟩ := q.of hu
      obtain ⟨o, ho⟩ := c.alive hu
      exact .to hu ⟨⟨⟨fr ho f.1, f.2⟩, n1, n2⟩, c.mono x.zz fun o' => x.keep _ o' (fun h => (O _ h).2.2.2.2 y lv hl hu rfl), t.keep (fun _ n => nm n) rfl⟩
    | false =>
      cases lv with
      | v v => obtain ⟨val, n, rz⟩ := q; exact ⟨val, nm n, rz.mono x.zz⟩
      | app y' => obtain ⟨a, o, n, za, ap⟩ := q; exact ⟨a, o, nm n, x.zz _ _ za, ap⟩
      | _ => cases hu
  · obtain ⟨o, ho⟩ := al b hb
    obtain ⟨q, rest⟩ := O b hb
    exact ⟨fr ho q, rest⟩

/-! for -/
/-- an iterator that hands out deep values -/
structure DIt (G : Gl prog w K) (A : Around) (tgt : Expr) (I : Value) (ad : List Addr) (z : Zp) (vs : List V) (St : Nat → Heap → Prop) : Prop where
  alive : ∀ i h, St i h → ∀ b ∈ ad, ∃ o, h.get? b = some o
  keep : ∀ i h h', St i h → (∀ b ∈ ad, ∀ o, h.get? b = some o → h'.get? b = some o) → Sub z h' → St i h'
  item : ∀ i v, vs[i]? = some v → ∀ z' s, (∀ b o, z b = some o → z' b = some o) → Sub z' s.heap → St i s.heap → (∀ b ∈ ad, z' b = none) →
    wpAny (model prog w) A (pyNext I) (fun o s₁ => ∃ x, o = some x ∧ wpAny (model prog w) A (letOwnedTupleGo tgt I x) (fun _ s₂ => ∃ z'', ExtI ad z' s z'' s₂ ∧ Rz G.C z'' v x ∧ St (i + 1) s₂.heap) (fun _ _ => False) s₁) (fun _ _ => False) s
  done : ∀ z' s, (∀ b o, z b = some o → z' b = some o) → Sub z' s.heap → St vs.length s.heap → (∀ b ∈ ad, z' b = none) →
    wpAny (model prog w) A (pyNext I) (fun o s₁ => o = none ∧ ExtI ad z' s z' s₁) (fun _ _ => False) s

/-- an assignment to a target -/
noncomputable def WAs (G : Gl prog w K) (r : Nat) (sc : Scope) (l : Locs) (tgt : Expr) (v : V) (P : Locs → Prop) : Prop :=
  ∀ (F : Frm G r sc) z s x, Rep F l z s → Rz G.C z v x → wpAny (model prog w) F.A (assign tgt F.env x) (fun _ s' => ∃ z' l', (∀ b o, z b = some o → z' b = some o) ∧ Rep F l' z' s' ∧ P l') (fun _ _ => False) s

/-- a for over these values -/
noncomputable def WF (G : Gl prog w K) (r : Nat) (sc : Scope) (tgt : Expr) (body orelse : List Stmt) (k : Kt) : List V → Locs → Prop
  | [], l => WS G r sc l orelse k
  | v :: vs, l => WAs G r sc l tgt v fun l' => WS G r sc l' body { nx := WF G r sc tgt body orelse k vs, ct := WF G r sc tgt body orelse k vs, bk := k.nx, rt := k.rt }

theorem for_run {F : Frm G r sc} {tgt : Expr} {I : Value} {ad : List Addr} {z₀ : Zp} {vs : List V} {St : Nat → Heap → Prop} {body orelse : List Stmt} (D : DIt G F.A tgt I ad z₀ vs St)
    {z : Zp} {s : Shared} (hz : ∀ b o, z₀ b = some o → z b = some o) (R : RepO F l z s ad) (hst : St 0 s.heap) (h : WF G r sc tgt body orelse k vs l) :
    codeAny (model prog w) F.A (.forLoop tgt I body orelse F.env) (fun r s' => match r with | .ok f => Post F k f s' | .error _ => False) s := by
  refine codeAny_forLoop_any (fun n s' => ∃ i l' z', (∀ b o, z₀ b = some o → z' b = some o) ∧ RepO F l' z' s' ad ∧ St i s'.heap ∧ i ≤ vs.length ∧ n = vs.length + 1 - i ∧ WF G r sc tgt body orelse k (vs.drop i) l') ?_ (vs.length + 1)
    ⟨0, l, z, hz, R, hst, Nat.zero_le _, rfl, h⟩
  rintro n s' ⟨i, l', z', hz', R', st, hi, hn, hw⟩
  have al := D.alive i _ st
  have adz : ∀ b ∈ ad, z' b = none := fun b hb => by obtain ⟨m, am, _, _, O⟩ := R'; exact (O b hb).1
  cases hv : vs[i]? with
  | none =>
    have hi' : i = vs.length := Nat.le_antisymm hi (by simpa using hv)
    subst hi'
    rw [List.drop_length] at hw
    refine noE (D.done z' s' hz' R'.rep.sub st adz) fun o s₁ ⟨ho, ex⟩ => ?_
    subst ho
    exact noE (hw F z' s₁ (R'.next al ex).rep) fun f s₃ p => p
  | some v =>
    have hlt : i < vs.length := by
      rcases Nat.lt_or_ge i vs.length with h | h
      · exact h
      · rw [List.getElem?_eq_none h] at hv; cases hv
    have hd : vs.drop i = v :: vs.drop (i + 1) := by
      rw [List.drop_eq_getElem_cons hlt]
      congr 1
      rw [List.getElem?_eq_getElem hlt] at hv
      exact Option.some.inj hv
    rw [hd] at hw
    refine noE (D.item i v hv z' s' hz' R'.rep.sub st adz) fun o s₁ ⟨x, ho, hgo⟩ => ?_
    subst ho
    dsimp only
    refine noE hgo fun _ s₂ ⟨z₂, ex, rz, st₂⟩ => ?_
    have R₂ := R'.next al ex
    have hz₂ : ∀ b o, z₀ b = some o → z₂ b = some o := fun b o e => ex.zz b o (hz' b o e)
    obtain ⟨m, am, E, L, O⟩ := R₂
    have zB₂ := (E.at L).zBsub
    have al₂ := D.alive _ _ st₂
    refine noE (hw (F.inner l' am z₂ s₂.heap zB₂) z₂ s₂ x (inner_rep E L zB₂) rz) fun _ s₃ ⟨z₃, l₃, _, R₃, hw₃⟩ => ?_
    refine noE (hw₃ (F.inner l' am z₂ s₂.heap zB₂) z₃ s₃ R₃) fun f s₄ p => ?_
    have next : ∀ {l₄ z₄}, Rep (F.inner l' am z₂ s₂.heap zB₂) l₄ z₄ s₄ → WF G r sc tgt body orelse k (vs.drop (i + 1)) l₄ → ∃ m, m < n ∧ ∃ i l' z', (∀ b o, z₀ b = some o → z' b = some o) ∧ RepO F l' z' s₄ ad ∧ St i s₄.heap ∧ i ≤ vs.length ∧ m = vs.length + 1 - i ∧ WF G r sc tgt body orelse k (vs.drop i) l' := by
      intro l₄ z₄ R₄ hw₄
      obtain ⟨RO, kp⟩ := inner_out E L O al₂ R₄
      have hz₄ : ∀ b o, z₀ b = some o → z₄ b = some o := fun b o e => R₄.zz b o (hz₂ b o e)
      exact ⟨vs.length + 1 - (i + 1), by omega, i + 1, l₄, z₄, hz₄, RO, D.keep _ _ _ st₂ kp (fun b o e => R₄.sub b o (hz₄ b o e)), hlt, rfl, hw₄⟩
    cases f with
    | next => obtain ⟨z₄, l₄, R₄, q⟩ := p; exact next R₄ q
    | cont => obtain ⟨z₄, l₄, R₄, q⟩ := p; exact next R₄ q
    | brk => obtain ⟨z₄, l₄, R₄, q⟩ := p; exact ⟨z₄, l₄, (inner_out E L O al₂ R₄).1.rep, q⟩
    | ret y => obtain ⟨z₄, v₄, R₄, rz₄, q⟩ := p; exact ⟨z₄, v₄, inner_end E L R₄, rz₄, q⟩

theorem WAs_name {x : Str} {p : Pos} {v : V} {P : Locs → Prop} (h : P (put l x (.v v))) (hx : stored sc x = true := by rfl) : WAs G r sc l (.Name x p) v P := fun F z s val R rz =>
  wpAny_assign_Name (R.storeV (stored_or hx) rz fun s₂ R₂ => ⟨z, _, fun _ _ e => e, R₂, h⟩)

/-- the heap's own new objects stand beside the frame -/
theorem Rep.beside {F : Frm G r sc} {z : Zp} {s : Shared} {z' : Zp} {s' : Shared} {ad : List Addr} (R : Rep F l z s) (x : Ext z s z' s') (hn : ∀ b ∈ ad, s.heap.get? b = none ∧ z' b = none) : RepO F l z' s' ad := by
  obtain ⟨m, am, L⟩ := R.loc
  refine ⟨m, am, R.end.ext x, L.ext x, fun b hb => ⟨(hn b hb).2, ?_, ?_, ?_, ?_⟩⟩
  · cases q : F.base b with
    | none => rfl
    | some o => have := R.base b o q; rw [(hn b hb).1] at this; cases this
  · obtain ⟨o, _, _, ho, _⟩ := L.ns
    intro e; rw [← e, (hn b hb).1] at ho; cases ho
  · intro y c hy e
    obtain ⟨c', v, e', ⟨o, ho, _⟩, _⟩ := L.ce y hy
    rw [e] at e'; cases e'
    intro q; rw [q, (hn b hb).1] at ho; cases ho
  · intro y u hl hu q
    obtain ⟨o, ho⟩ := ((L.ok y _ hl).of hu).2.1.alive hu
    rw [q, (hn b hb).1] at ho; cases ho

/-- over a list -/
theorem letOwned_plain {A : Around} {tgt : Expr} {it : Addr} {o : Obj} {x : Value} {s : Shared} {P : Unit → Shared → Prop} {n : String} (ho : s.heap.get? it = some o) (hc : o.cls = .type n)
    (hn : (["enumerate", "zip", "dict_itemiterator", "dict_reverseitemiterator", "odict_iterator", "itertools.zip_longest", "itertools.pairwise"] : List String).contains n = false) (h : P () s) :
    wpAny (model prog w) A (letOwnedTupleGo tgt (.ref it) x) P (fun _ _ => False) s := by
  have go : wpAny (model prog w) A (do
      let (.ref r, .ref a) := ((Value.ref it, x) : Value × Value) | return ()
      let o ← load r
      match o.cls, o.data with
      | .type n, .fields vs =>
        if ["enumerate", "zip", "dict_itemiterator", "dict_reverseitemiterator", "odict_iterator", "itertools.zip_longest", "itertools.pairwise"].contains n && vs[0]? == some (rawInt a) then
          rule "for.unpacks-the-owned-tuple"
          updateField r 0 .none
      | _, _ => pure () : Sem Unit) P (fun _ _ => False) s := by
    cases x <;> first | exact wpAny_pure h | skip
    refine wpAny_bind (wpAny_load ho ?_)
    rw [hc]
    cases o.data <;> first | exact wpAny_pure h | skip
    dsimp only
    rw [if_neg (by rw [hn]; simp)]
    exact wpAny_pure h
  cases tgt <;> first | exact wpAny_pure h | exact go

theorem DIt.list {A : Around} (hh : A.handled = none) {tgt : Expr} {it a : Addr} {xs : List Value} {vs : List V} {z : Zp} (ha : SeqIs "list" (z a) xs) (rl : RzL G.C z vs xs) (hne : z it = none) :
    DIt G A tgt (.ref it) [it] z vs (fun i h => h.IsListIter it a i ∧ h.IsList a xs.toArray) := by
  obtain ⟨o, ep, e, e1, e2, e3⟩ := ha
  have ne : a ≠ it := fun q => by rw [q, hne] at e; cases e
  refine ⟨fun i h st b hb => ?_, fun i h h' st kp sub => ⟨st.1.at fun o e => kp it (by simp) o e, ⟨o, sub _ _ e, e1, ep, e3⟩⟩, fun i v hv z' s hz hs st had => ?_, fun z' s hz hs st had => ?_⟩
  · obtain ⟨⟨o, ho, _⟩, _⟩ := st
    rw [List.mem_singleton.mp hb]; exact ⟨o, ho⟩
  · obtain ⟨x, hx, rz⟩ := rl.get i v hv
    refine wpAny_pyNext_list_item st.1 st.2 (x := x) (by simpa using hx) fun h' hit' sb => ⟨x, rfl, ?_⟩
    obtain ⟨oi, hoi, hci, _⟩ := id hit'
    have kp : ∀ b o, b ∉ [it] → s.heap.get? b = some o → h'.get? b = some o := fun b o nb e => (sb.2 b (by simpa using nb)).trans e
    exact letOwned_plain hoi hci (by decide) ⟨z', ⟨fun _ _ e => e, fun b o e => kp b o (fun q => by rw [had b q] at e; cases e) (hs b o e), kp, fun b o e n => (by rw [n] at e; cases e), rfl, rfl, rfl⟩, rz.mono hz, hit', st.2.extBut sb.extBut ne⟩
  · refine wpAny_pyNext_list_end hh st.1 st.2 (by simp [rl.length]) fun h' eb => ⟨rfl, ?_⟩
    have kp : ∀ b o, b ∉ [it] → s.heap.get? b = some o → h'.get? b = some o := fun b o nb e => eb b o (by simpa using nb) e
    exact ⟨fun _ _ e => e, fun b o e => kp b o (fun q => by rw [had b q] at e; cases e) (hs b o e), kp, fun b o e n => (by rw [n] at e; cases e), rfl, rfl, rfl⟩
theorem DIt.tuple {A : Around} (hh : A.handled = none) {tgt : Expr} {it a : Addr} {xs : List Value} {vs : List V} {z : Zp} (ha : SeqIs "tuple" (z a) xs) (rl : RzL G.C z vs xs) (hne : z it = none) :
    DIt G A tgt (.ref it) [it] z vs (fun i h => h.IsTupleIter it a i ∧ h.IsTuple a xs.toArray) := by
  obtain ⟨o, ep, e, e1, e2, e3⟩ := ha
  have ne : a ≠ it := fun q => by rw [q, hne] at e; cases e
  refine ⟨fun i h st b hb => ?_, fun i h h' st kp sub => ⟨?_, ⟨o, sub _ _ e, e1, ep, e3⟩⟩, fun i v hv z' s hz hs st had => ?_, fun z' s hz hs st had => ?_⟩
  · obtain ⟨⟨o, ho, _⟩, _⟩ := st
    rw [List.mem_singleton.mp hb]; exact ⟨o, ho⟩
  · obtain ⟨o, ho, r⟩ := st.1
    exact ⟨o, kp it (by simp) o ho, r⟩
  · obtain ⟨x, hx, rz⟩ := rl.get i v hv
    refine wpAny_pyNext_tuple_item st.1 st.2 (x := x) (by simpa using hx) fun h' hit' sb => ⟨x, rfl, ?_⟩
    obtain ⟨oi, hoi, hci, _⟩ := id hit'
    have kp : ∀ b o, b ∉ [it] → s.heap.get? b = some o → h'.get? b = some o := fun b o nb e => (sb.2 b (by simpa using nb)).trans e
    exact letOwned_plain hoi hci (by decide) ⟨z', ⟨fun _ _ e => e, fun b o e => kp b o (fun q => by rw [had b q] at e; cases e) (hs b o e), kp, fun b o e n => (by rw [n] at e; cases e), rfl, rfl, rfl⟩, rz.mono hz, hit', st.2.extBut sb.extBut ne⟩
  · refine wpAny_pyNext_tuple_end hh st.1 st.2 (by simp [rl.length]) fun h' eb => ⟨rfl, ?_⟩
    have kp : ∀ b o, b ∉ [it] → s.heap.get? b = some o → h'.get? b = some o := fun b o nb e => eb b o (by simpa using nb) e
    exact ⟨fun _ _ e => e, fun b o e => kp b o (fun q => by rw [had b q] at e; cases e) (hs b o e), kp, fun b o e n => (by rw [n] at e; cases e), rfl, rfl, rfl⟩

noncomputable def noSet : Expr → Bool
  | .Set .. => false
  | _ => true
theorem folded_no {e : Expr} (h : noSet e = true) (env : Env) (x : Value) : foldedSetIterable e env x = pure x := by
  cases e <;> first | rfl | cases h

theorem cameBack {A : Around} {env : Env} {P : Flow → Shared → Prop} {E : Value → Shared → Prop} {c : Code} {s : Shared} (h : codeAny (model prog w) A c (fun r s' => match r with | .ok f => P f s' | .error _ => False) s) :
    codeAny (model prog w) A c (fun r s' => match r with | .ok f => P f s' | .error e => cameBackBy (model prog w) A env E e s') s := codeAny_mono h fun r s' q => by
  cases r with
  | ok f => exact q
  | error e => exact q.elim

/-- for over a list or a tuple -/
theorem WX_for {tgt iter : Expr} {body orelse : List Stmt} {p : Pos} (h : WE G r sc l iter fun v => ∃ vs, (v = .lst vs ∨ v = .tup vs) ∧ WF G r sc tgt body orelse k vs l) (hs : noSet iter = true := by rfl) : WX G r sc l (.For tgt iter body orelse p) k := fun F z s R =>
  wpAny_For (noE (h F z s R) fun x s₁ ⟨z₁, v, e₁, rz, vs, hv, q⟩ => by
    have R₁ := R.ext e₁
    rcases hv with rfl | rfl
    · obtain ⟨a, xs, rfl, sq, rl⟩ := rz
      obtain ⟨o, ep, e, e1, e2, e3⟩ := id sq
      have hl : s₁.heap.IsList a xs.toArray := ⟨o, R₁.sub _ _ e, e1, ep, e3⟩
      refine wpAny_pyIter_list hl (cameBack ?_)
      have ex : Ext z₁ s₁ z₁ { s₁ with heap := s₁.heap.push { cls := .type "list_iterator", data := .fields #[.ref a, .int 0 0] } } := Ext.grow (t := s₁.toks) R₁.sub fun b o e => Heap.get?_push_of_some _ e
      exact for_run (DIt.list F.hh sq rl R₁.sub.fresh) (fun _ _ e => e) (R₁.beside ex fun b hb => by rw [List.mem_singleton.mp hb]; exact ⟨get_fresh _, R₁.sub.fresh⟩) ⟨⟨_, Heap.get?_push_size _ rfl, rfl, rfl⟩, hl.push _⟩ q
    · obtain ⟨a, xs, rfl, sq, rl⟩ := rz
      obtain ⟨o, ep, e, e1, e2, e3⟩ := id sq
      have hl : s₁.heap.IsTuple a xs.toArray := ⟨o, R₁.sub _ _ e, e1, ep, e3⟩
      refine wpAny_pyIter_tuple hl (cameBack ?_)
      have ex : Ext z₁ s₁ z₁ { s₁ with heap := s₁.heap.push { cls := .type "tuple_iterator", data := .fields #[.ref a, .int 0 0] } } := Ext.grow (t := s₁.toks) R₁.sub fun b o e => Heap.get?_push_of_some _ e
      exact for_run (DIt.tuple F.hh sq rl R₁.sub.fresh) (fun _ _ e => e) (R₁.beside ex fun b hb => by rw [List.mem_singleton.mp hb]; exact ⟨get_fresh _, R₁.sub.fresh⟩) ⟨⟨_, Heap.get?_push_size _ rfl, rfl, rfl⟩, hl.push _⟩ q) (folded_no hs _)
end
end Mine

end
section
open PySem PySem.W PySem.Calls PyProof.Rows
open AutoSeq1 (wpAny_loadPart')
set_option linter.unusedVariables false
set_option maxRecDepth 100000
namespace Mine

/-! iterators of lists and tuples alike -/
noncomputable def ItN (T : String) : String := if T = "list" then "list_iterator" else "tuple_iterator"
noncomputable def IsIt (T : String) (h : Heap) (it a : Addr) (i : Nat) : Prop := ∃ o, h.get? it = some o ∧ o.cls = .type (ItN T) ∧ o.data = .fields #[.ref a, .int i 0]
noncomputable abbrev LT (T : String) : Prop := T = "list" ∨ T = "tuple"
section
variable {prog : Program} {w : World} {A : Around} {E : Value → Shared → Prop} {s : Shared}
theorem IsIt.at {T : String} {h h' : Heap} {it a : Addr} {i : Nat} (x : IsIt T h it a i) (k : ∀ o, h.get? it = some o → h'.get? it = some o) : IsIt T h' it a i :=
  let ⟨o, e, r⟩ := x; ⟨o, k o e, r⟩
theorem isList_of {h : Heap} {a : Addr} {xs : List Value} (p : SeqIs "list" (h.get? a) xs) : h.IsList a xs.toArray := let ⟨o, n, e, e1, e2, e3⟩ := p; ⟨o, e, e1, n, e3⟩
theorem isTuple_of {h : Heap} {a : Addr} {xs : List Value} (p : SeqIs "tuple" (h.get? a) xs) : h.IsTuple a xs.toArray := let ⟨o, n, e, e1, e2, e3⟩ := p; ⟨o, e, e1, n, e3⟩

theorem nextOf_tuple_item {it l : Addr} {i : Nat} {items} {x : Value} {Q : Value → Shared → Prop} (hit : IsIt "tuple" s.heap it l i)
    (hl : s.heap.IsTuple l items) (hx : items[i]? = some x)
    (hQ : ∀ h', IsIt "tuple" h' it l (i + 1) → Heap.SameBut it s.heap h' → Q x { s with heap := h' }) :
    wpAny (model prog w) A (Builtin.SmallTypes.nextOf (.ref it)) Q E s := by
  obtain ⟨o, ho, hc, hd⟩ := id hit
  obtain ⟨ol, hol, _, nl, hdl⟩ := hl
  have hty : s.TypeIs (.ref it) "tuple_iterator" := ⟨o, ho, hc⟩
  unfold Builtin.SmallTypes.nextOf
  refine wpAny_bind (wpAny_callSpecial?_slot (name := Str.ofString "__next__") hty F.slot_tuple_iterator_next
    (wpAny_call_entry F.slot_tuple_iterator_next hty F.entry_tuple_iterator_next ?_ (F.args_tuple_iterator_next_1 _)))
  show wpAny _ _ (field (.ref it) 0 >>= _) _ _ s
  refine wpAny_bind (wpAny_field ho hd (x := .ref l) rfl ?_)
  show wpAny _ _ (if (Value.ref l == Value.none) = true then _ else _) _ _ s
  rw [if_neg (show ¬ ((Value.ref l == Value.none) = true) from Bool.false_ne_true)]
  show wpAny _ _ (field (.ref it) 1 >>= _) _ _ s
  refine wpAny_bind (wpAny_field ho hd (x := .int i 0) rfl ?_)
  show wpAny _ _ (seqItems? (.ref l) >>= _) _ _ s
  refine wpAny_bind (wpAny_seqItems hol hdl ?_)
  simp only [Int.toNat_natCast, hx]
  refine wpAny_bind (wpAny_setField ho hd (by simp) (wpAny_pure ⟨x, rfl, wpAny_pure (hQ _ ?_ (Heap.SameBut.update ..))⟩))
  exact ⟨_, Heap.get?_update_self _ ho (Obj.isFreed_of_fields (Obj.data_mapFields hd _)), (Obj.cls_mapFields ..).trans hc, by
    rw [Obj.data_mapFields hd]; simp [rawInt]⟩

theorem nextOf_tuple_end {it l : Addr} {i : Nat} {items} {Q : Value → Shared → Prop} (hh : A.handled = none) (hit : IsIt "tuple" s.heap it l i)
    (hl : s.heap.IsTuple l items) (hx : items[i]? = none)
    (hE : ∀ h' e, Heap.ExtBut it s.heap h' → (∃ o, h'.get? e = some o ∧ o.cls = .type "StopIteration") → E (.ref e) { s with heap := h' }) :
    wpAny (model prog w) A (Builtin.SmallTypes.nextOf (.ref it)) Q E s := by
  obtain ⟨o, ho, hc, hd⟩ := id hit
  obtain ⟨ol, hol, _, nl, hdl⟩ := hl
  have hty : s.TypeIs (.ref it) "tuple_iterator" := ⟨o, ho, hc⟩
  unfold Builtin.SmallTypes.nextOf
  refine wpAny_bind (wpAny_callSpecial?_slot (name := Str.ofString "__next__") hty F.slot_tuple_iterator_next
    (wpAny_call_entry F.slot_tuple_iterator_next hty F.entry_tuple_iterator_next ?_ (F.args_tuple_iterator_next_1 _)))
  show wpAny _ _ (field (.ref it) 0 >>= _) _ _ s
  refine wpAny_bind (wpAny_field ho hd (x := .ref l) rfl ?_)
  show wpAny _ _ (if (Value.ref l == Value.none) = true then _ else _) _ _ s
  rw [if_neg (show ¬ ((Value.ref l == Value.none) = true) from Bool.false_ne_true)]
  show wpAny _ _ (field (.ref it) 1 >>= _) _ _ s
  refine wpAny_bind (wpAny_field ho hd (x := .int i 0) rfl ?_)
  show wpAny _ _ (seqItems? (.ref l) >>= _) _ _ s
  refine wpAny_bind (wpAny_seqItems hol hdl ?_)
  simp only [Int.toNat_natCast, hx]
  refine wpAny_bind (wpAny_rule (wpAny_bind (wpAny_setField ho hd (by simp) ?_)))
  show wpAny _ _ (newExc (.type "StopIteration") [] >>= _) _ _ _
  refine wpAny_bind ?_
  simp only [newExc, newTuple]
  refine wpAny_bind (wpAny_newObj_type ?_ (by size_fits))
  refine wpAny_bind (m := firstArgMember _ _) (wpAny_of_eq (a := Value.none) (by first | rfl | (simp only [firstArgMember]; rfl)) ?_)
  refine wpAny_newObj_type ?_ (by size_fits)
  simp only [raiseNew]
  refine wpAny_bind (wpAny_handled ?_)
  first | rw [show A.in1.handled = none from hh] | rw [hh]
  refine wpAny_bind (wpAny_pure (wpAny_throw ?_))
  exact hE _ _ (((Heap.SameBut.update ..).extBut.push _).push _) ⟨_, Heap.get?_push_size _ rfl, rfl⟩

theorem seq_draws {T : String} (hT : LT T) (hh : A.handled = none) (it a : Addr) (hne : a ≠ it) (xs : List Value) :
    Draws prog w A it [it, a] xs.length (fun i v => xs[i]? = some v) (fun i h => IsIt T h it a i ∧ SeqIs T (h.get? a) xs) where
  live := fun _ _ st => let ⟨o, ho, _⟩ := st.1; ⟨o, ho⟩
  frame := fun _ _ _ st hk => ⟨st.1.at fun o e => hk it (by simp) o e, st.2.mono fun o e => hk a (by simp) o e⟩
  item := fun i s Q E hi st hQ => by
    rcases hT with rfl | rfl
    · refine wpAny_nextOf_list_item st.1 (isList_of st.2) (x := xs[i]) (by simp [hi]) fun h' hit' hs' => ?_
      exact hQ _ h' s.toks (by simp [hi]) ⟨hit', st.2.mono fun o e => hs'.extBut _ _ hne e⟩ hs'
    · refine nextOf_tuple_item st.1 (isTuple_of st.2) (x := xs[i]) (by simp [hi]) fun h' hit' hs' => ?_
      exact hQ _ h' s.toks (by simp [hi]) ⟨hit', st.2.mono fun o e => hs'.extBut _ _ hne e⟩ hs'
  done := fun s Q E st hE => by
    rcases hT with rfl | rfl
    · exact wpAny_nextOf_list_end hh st.1 (isList_of st.2) (by simp) hE
    · exact nextOf_tuple_end hh st.1 (isTuple_of st.2) (by simp) hE

theorem pyIter_seq {T : String} {a : Addr} {xs : List Value} {Q : Value → Shared → Prop} (hT : LT T) (hl : SeqIs T (s.heap.get? a) xs)
    (h : Q (.ref s.heap.objs.size) { s with heap := s.heap.push { cls := .type (ItN T), data := .fields #[.ref a, .int 0 0] } }) : wpAny (model prog w) A (pyIter (.ref a)) Q E s := by
  rcases hT with rfl | rfl
  · exact wpAny_pyIter_list (isList_of hl) h
  · exact wpAny_pyIter_tuple (isTuple_of hl) h

/-! enumerate -/
noncomputable def EnOut (s : Shared) (T : String) (l : Addr) (Q : Value → Shared → Prop) : Prop :=
  Q (.ref (s.heap.push { cls := .type (ItN T), data := .fields #[.ref l, .int 0 0] }).objs.size)
        { s with heap := (s.heap.push { cls := .type (ItN T), data := .fields #[.ref l, .int 0 0] }).push { cls := .type "enumerate", data := .fields #[.none, .bool false, .ref s.heap.objs.size, rawInt 0, .none, .none] } }

theorem meets_enum_tup (l : Addr) (items : Array Value) (n : Nat) (dct : Option Addr) (sl : Array (Option Value)) :
    Meets (Builtin.«enumerate.__new__» ⟨[.type "enumerate", .ref l], []⟩) (fun _ R s => s.heap.get? l = some { cls := .type "tuple", dict := dct, data := .seq items n, slots := sl } ∧
      R (.ok (.ret (.ref (s.heap.push { cls := .type "tuple_iterator", data := .fields #[.ref l, .int 0 0] }).objs.size)))
        { s with heap := (s.heap.push { cls := .type "tuple_iterator", data := .fields #[.ref l, .int 0 0] }).push { cls := .type "enumerate", data := .fields #[.none, .bool false, .ref s.heap.objs.size, rawInt 0, .none, .none] } }) :=
  .of_wp fun prog w A R s h => by
    obtain ⟨hp, g, d, tk, os⟩ := s; obtain ⟨hl, h⟩ := h
    have hsub := sub_enumerate
    have hL : Heap.IsTuple (Shared.heap ⟨hp, g, d, tk, os⟩) l items := ⟨_, hl, rfl, n, rfl⟩
    wp_walk using wpAny_loadPart' hl
    refine wpAny_stack_any fun st => wpAny_pure ?_
    split
    · rename_i c _ _ _ _ _
      cases (c == Value.type "enumerate")
      · wp_walk using wpAny_loadPart' hl, wpAny_pyIter_tuple hL
        exact ⟨_, rfl, h⟩
      · wp_walk using wpAny_loadPart' hl, wpAny_pyIter_tuple hL
        exact ⟨_, rfl, h⟩
    · wp_walk using wpAny_loadPart' hl, wpAny_pyIter_tuple hL
      exact ⟨_, rfl, h⟩

theorem call_enum {T : String} (hT : LT T) {l : Addr} {xs : List Value} {Q : Value → Shared → Prop} (hl : SeqIs T (s.heap.get? l) xs)
    (h : ∀ h', IsEnum h' (s.heap.objs.size + 1) s.heap.objs.size 0 .none → IsIt T h' s.heap.objs.size l 0 → h'.objs.size = s.heap.objs.size + 2 →
      (∀ b o, s.heap.get? b = some o → h'.get? b = some o) → Q (.ref (s.heap.objs.size + 1)) { s with heap := h' }) :
    wpAny (model prog w) A (call (.type "enumerate") [.ref l]) Q E s := by
  have fin : ∀ (o : Obj), o.isFreed = false → o = { cls := .type (ItN T), data := .fields #[.ref l, .int 0 0] } →
      let h' := (s.heap.push o).push { cls := .type "enumerate", data := .fields #[.none, .bool false, .ref s.heap.objs.size, rawInt 0, .none, .none] }
      (∃ ob : Obj, h'.get? (s.heap.push o).objs.size = some ob ∧ ob.cls = .type "enumerate") ∧ Q (.ref (s.heap.push o).objs.size) { s with heap := h' } := by
    intro o hf ho h'
    have hz : (s.heap.push o).objs.size = s.heap.objs.size + 1 := Heap.size_push ..
    have he : IsEnum h' (s.heap.objs.size + 1) s.heap.objs.size 0 .none := by
      have := Heap.get?_push_size (s.heap.push o) (o := { cls := .type "enumerate", data := .fields #[.none, .bool false, .ref s.heap.objs.size, rawInt 0, .none, .none] }) rfl
      rw [hz] at this; exact this
    rw [hz]
    exact ⟨⟨_, he, rfl⟩, h h' he ⟨o, Heap.get?_push_of_some _ (Heap.get?_push_size _ hf), by rw [ho], by rw [ho]; rfl⟩ (by show (Heap.push _ _).objs.size = _; rw [Heap.size_push, hz]) fun b o x => Heap.get?_push_of_some _ (Heap.get?_push_of_some _ x)⟩
  obtain ⟨⟨c, dct, dt, sl⟩, n, e, e1, e2, e3⟩ := hl
  dsimp only at e1 e2 e3
  subst e1 e3
  rcases hT with rfl | rfl
  · exact callType_new F.called_enumerate (by decide) (F.typeCall_enumerate_1 _) (F.newCall_enumerate_1 _) (fun obj => F.args_object_init_2 obj _) F.entry_enumerate_new
      (meets_enumerate_newL l _ n dct sl) ⟨e, fin { cls := .type "list_iterator", data := .fields #[.ref l, .int 0 0] } rfl rfl⟩
  · exact callType_new F.called_enumerate (by decide) (F.typeCall_enumerate_1 _) (F.newCall_enumerate_1 _) (fun obj => F.args_object_init_2 obj _) F.entry_enumerate_new
      (meets_enum_tup l _ n dct sl) ⟨e, fin { cls := .type "tuple_iterator", data := .fields #[.ref l, .int 0 0] } rfl rfl⟩
end
end Mine

end
section
open PySem PySem.W PySem.Calls PyProof.Rows
set_option linter.unusedVariables false
set_option maxRecDepth 100000
namespace Mine
section
variable {prog : Program} {w : World} {A : Around} {E : Value → Shared → Prop} {s : Shared}

/-! zip of two sequences of any kind: like ZipIter's proofs, over Draws -/
structure ZDraw (prog : Program) (w : World) (A : Around) (i1 i2 : Addr) (n1 n2 : Nat) (P1 P2 : Nat → Value → Prop) (S1 S2 : Nat → Heap → Prop) (f1 f2 : List Addr) : Prop where
  D1 : Draws prog w A i1 f1 n1 P1 S1
  D2 : Draws prog w A i2 f2 n2 P2 S2
  m1 : i1 ∈ f1
  m2 : i2 ∈ f2
  i1f2 : i1 ∉ f2
  i2f1 : i2 ∉ f1

structure ZApart (z TI TO i1 i2 : Addr) (f1 f2 : List Addr) : Prop where
  TIz : TI ≠ z
  TOz : TO ≠ z
  TITO : TI ≠ TO
  i12 : i1 ≠ i2
  TIi1 : TI ≠ i1
  TIi2 : TI ≠ i2
  zf1 : z ∉ f1
  zf2 : z ∉ f2
  Tf1 : TO ∉ f1
  Tf2 : TO ∉ f2

variable {z TI TO i1 i2 : Addr} {n1 n2 k : Nat} {P1 P2 : Nat → Value → Prop} {S1 S2 : Nat → Heap → Prop} {f1 f2 : List Addr} {a b : Value}

theorem frame_but {it : Addr} {f : List Addr} {n : Nat} {P : Nat → Value → Prop} {S : Nat → Heap → Prop} (D : Draws prog w A it f n P S) {i : Nat} {h h' : Heap} {x : Addr} (st : S i h) (e : Heap.ExtBut x h h') (hx : x ∉ f) : S i h' :=
  D.frame _ _ _ st fun b hb o y => e b o (fun q => hx (q ▸ hb)) y

theorem zipN_item {Q : Value → Shared → Prop} (Z : ZDraw prog w A i1 i2 n1 n2 P1 P2 S1 S2 f1 f2) (D : ZApart z TI TO i1 i2 f1 f2)
    (hz : IsZip s.heap z TI TO .none) (hTI : IsPair s.heap TI (.ref i1) (.ref i2)) (hTO : IsPair s.heap TO a b) (h1 : S1 k s.heap) (h2 : S2 k s.heap) (hx : k < n1) (hy : k < n2)
    (hQ : ∀ x y h' tk, P1 k x → P2 k y → IsZip h' z TI TO (rawInt s.heap.objs.size) → IsPair h' TO x y → S1 (k + 1) h' → S2 (k + 1) h' → IsPair h' s.heap.objs.size x y → h'.objs.size = s.heap.objs.size + 1 →
      (∀ c o, c ≠ z → c ≠ TO → c ≠ i1 → c ≠ i2 → s.heap.get? c = some o → h'.get? c = some o) → Q (.ref s.heap.objs.size) { s with heap := h', toks := tk }) :
    wpAny (model prog w) A (Builtin.«zip.__next__» ⟨[.ref z], []⟩) (fun fin s' => ∃ v, fin = .done (.ret v) ∧ Q v s') E s := by
  have i1z : i1 ≠ z := fun q => D.zf1 (q ▸ Z.m1)
  have i2z : i2 ≠ z := fun q => D.zf2 (q ▸ Z.m2)
  have TOi1 : TO ≠ i1 := fun q => D.Tf1 (q.symm ▸ Z.m1)
  have TOi2 : TO ≠ i2 := fun q => D.Tf2 (q.symm ▸ Z.m2)
  obtain ⟨hp, g, d, t0, os⟩ := s
  show wpAny _ _ (field (.ref z) 2 >>= _) _ _ _
  refine wpAny_bind (wpAny_field hz rfl (x := .bool false) rfl ?_)
  show wpAny _ _ (field (.ref z) 3 >>= _) _ _ _
  refine wpAny_bind (wpAny_field hz rfl (x := .ref TI) rfl ?_)
  refine wpAny_bind (wpAny_seqItems hTI rfl ?_)
  show wpAny _ _ (Builtin.SmallTypes.ownedTupleIsFree (.ref z) >>= _) _ _ _
  refine wpAny_bind ?_
  unfold Builtin.SmallTypes.ownedTupleIsFree
  refine wpAny_bind (wpAny_field hz rfl (x := .none) rfl (wpAny_pure ?_))
  simp only [if_true]
  refine wpAny_bind (wpAny_rule ?_)
  refine wpAny_bind (wpAny_field hz rfl (x := .ref TO) rfl ?_)
  refine wpAny_bind (wpAny_setField_rec hz (by simp) fun h₁ hz₁ hs₁ => ?_)
  replace hz₁ : IsZip h₁ z TI TO .ellipsis := hz₁
  replace hs₁ : Heap.SameBut z hp h₁ := hs₁
  have s1₁ : S1 k h₁ := frame_but Z.D1 h1 hs₁.extBut D.zf1
  have s2₁ : S2 k h₁ := frame_but Z.D2 h2 hs₁.extBut D.zf2
  refine wpAny_bind ?_
  simp only [List.zipIdx_cons, List.zipIdx_nil, List.forIn_cons, List.forIn_nil]
  refine wpAny_bind (wpAny_bind (wpAny_onRaise ?_))
  show wpAny _ _ (Builtin.SmallTypes.nextOf (.ref i1) >>= _) _ _ _
  refine wpAny_bind (Z.D1.item k _ _ _ hx s1₁ fun x h₂ t1 px s1₂ hs₂ => wpAny_pure ?_)
  replace hs₂ : Heap.SameBut i1 h₁ h₂ := hs₂
  have s2₂ : S2 k h₂ := frame_but Z.D2 s2₁ hs₂.extBut Z.i1f2
  have hTO₂ : IsPair h₂ TO a b := hs₂.extBut _ _ TOi1 (hs₁.extBut _ _ D.TOz hTO)
  refine wpAny_bind (wpAny_seqItems hTO₂ rfl ?_)
  refine wpAny_bind (wpAny_updateSeq_pair hTO₂ fun h₃ hTO₃ hs₃ => ?_)
  replace hTO₃ : IsPair h₃ TO x b := hTO₃
  replace hs₃ : Heap.SameBut TO h₂ h₃ := hs₃
  refine wpAny_bind (wpAny_letGo (wpAny_pure ?_))
  have s1₃ : S1 (k + 1) h₃ := frame_but Z.D1 s1₂ hs₃.extBut D.Tf1
  have s2₃ : S2 k h₃ := frame_but Z.D2 s2₂ hs₃.extBut D.Tf2
  refine wpAny_bind (wpAny_bind (wpAny_onRaise ?_))
  show wpAny _ _ (Builtin.SmallTypes.nextOf (.ref i2) >>= _) _ _ _
  refine wpAny_bind (Z.D2.item k _ _ _ hy s2₃ fun y h₄ t2 py s2₄ hs₄ => wpAny_pure ?_)
  replace hs₄ : Heap.SameBut i2 h₃ h₄ := hs₄
  have s1₄ : S1 (k + 1) h₄ := frame_but Z.D1 s1₃ hs₄.extBut Z.i2f1
  have hTO₄ : IsPair h₄ TO x b := hs₄.extBut _ _ TOi2 hTO₃
  refine wpAny_bind (wpAny_seqItems hTO₄ rfl ?_)
  refine wpAny_bind (wpAny_updateSeq_pair hTO₄ fun h₅ hTO₅ hs₅ => ?_)
  replace hTO₅ : IsPair h₅ TO x y := hTO₅
  replace hs₅ : Heap.SameBut TO h₄ h₅ := hs₅
  refine wpAny_bind (wpAny_letGo (wpAny_pure (wpAny_pure ?_)))
  have s1₅ : S1 (k + 1) h₅ := frame_but Z.D1 s1₄ hs₅.extBut D.Tf1
  have s2₅ : S2 (k + 1) h₅ := frame_but Z.D2 s2₄ hs₅.extBut D.Tf2
  refine wpAny_bind (wpAny_seqItems hTO₅ rfl ?_)
  refine wpAny_bind (wpAny_newTuple ?_)
  have hsz : h₅.objs.size = hp.objs.size := by rw [hs₅.1, hs₄.1, hs₃.1, hs₂.1, hs₁.1]
  have hz₅ : IsZip h₅ z TI TO .ellipsis := hs₅.extBut _ _ D.TOz.symm (hs₄.extBut _ _ i2z.symm (hs₃.extBut _ _ D.TOz.symm (hs₂.extBut _ _ i1z.symm hz₁)))
  have hk₅ : ∀ c o, c ≠ z → c ≠ TO → c ≠ i1 → c ≠ i2 → hp.get? c = some o → h₅.get? c = some o := fun c o c1 c2 c3 c4 e =>
    hs₅.extBut _ _ c2 (hs₄.extBut _ _ c4 (hs₃.extBut _ _ c2 (hs₂.extBut _ _ c3 (hs₁.extBut _ _ c1 e))))
  have hzlt : z < h₅.objs.size := Heap.lt_size hz₅
  have hTOlt : TO < h₅.objs.size := Heap.lt_size hTO₅
  show wpAny _ _ (Builtin.SmallTypes.ownedTupleHandOut (.ref z) (.ref h₅.objs.size) >>= _) _ _ _
  refine wpAny_bind ?_
  unfold Builtin.SmallTypes.ownedTupleHandOut
  have hz₆ : IsZip (h₅.push { cls := .type "tuple", data := .seq #[x, y] }) z TI TO .ellipsis := Heap.get?_push_of_some _ hz₅
  refine wpAny_bind (wpAny_setField_rec hz₆ (by simp) fun h₇ hz₇ hs₇ => ?_)
  replace hz₇ : IsZip h₇ z TI TO (rawInt h₅.objs.size) := hz₇
  refine wpAny_setField_rec hz₇ (by simp) fun h₈ hz₈ hs₈ => ?_
  replace hz₈ : IsZip h₈ z TI TO (rawInt h₅.objs.size) := hz₈
  have up : ∀ c o, c ≠ z → h₅.get? c = some o → h₈.get? c = some o := fun c o c1 e => hs₈.extBut _ _ c1 (hs₇.extBut _ _ c1 (Heap.get?_push_of_some _ e))
  have hT₈ : IsPair h₈ h₅.objs.size x y := hs₈.extBut _ _ (Nat.ne_of_gt hzlt) (hs₇.extBut _ _ (Nat.ne_of_gt hzlt) (Heap.get?_push_size _ rfl))
  have hz8 : h₈.objs.size = h₅.objs.size + 1 := by rw [hs₈.1, hs₇.1, Heap.size_push]
  rw [hsz] at hz₈ hT₈ hz8
  refine wpAny_pure ⟨_, rfl, ?_⟩
  show Q (.ref h₅.objs.size) _
  rw [hsz]
  exact hQ x y h₈ t2 px py hz₈ (up _ _ D.TOz hTO₅) (Z.D1.frame _ _ _ s1₅ fun c hc o e => up c o (fun q => D.zf1 (q ▸ hc)) e) (Z.D2.frame _ _ _ s2₅ fun c hc o e => up c o (fun q => D.zf2 (q ▸ hc)) e) hT₈ hz8 fun c o c1 c2 c3 c4 e => up c o c1 (hk₅ c o c1 c2 c3 c4 e)

theorem zipN_end {Q : Fin → Shared → Prop} (Z : ZDraw prog w A i1 i2 n1 n2 P1 P2 S1 S2 f1 f2) (D : ZApart z TI TO i1 i2 f1 f2)
    (hz : IsZip s.heap z TI TO .none) (hTI : IsPair s.heap TI (.ref i1) (.ref i2)) (hTO : IsPair s.heap TO a b) (h1 : S1 k s.heap) (h2 : S2 k s.heap) (hk : k = n1 ∨ (k < n1 ∧ k = n2))
    (hE : ∀ h' t e, (∀ c o, c ≠ z → c ≠ TO → c ≠ i1 → c ≠ i2 → s.heap.get? c = some o → h'.get? c = some o) → (∃ o, h'.get? e = some o ∧ o.cls = .type "StopIteration") → E (.ref e) { s with heap := h', toks := t }) :
    wpAny (model prog w) A (Builtin.«zip.__next__» ⟨[.ref z], []⟩) Q E s := by
  have i1z : i1 ≠ z := fun q => D.zf1 (q ▸ Z.m1)
  have i2z : i2 ≠ z := fun q => D.zf2 (q ▸ Z.m2)
  have TOi1 : TO ≠ i1 := fun q => D.Tf1 (q.symm ▸ Z.m1)
  have TOi2 : TO ≠ i2 := fun q => D.Tf2 (q.symm ▸ Z.m2)
  obtain ⟨hp, g, d, t0, os⟩ := s
  show wpAny _ _ (field (.ref z) 2 >>= _) _ _ _
  refine wpAny_bind (wpAny_field hz rfl (x := .bool false) rfl ?_)
  show wpAny _ _ (field (.ref z) 3 >>= _) _ _ _
  refine wpAny_bind (wpAny_field hz rfl (x := .ref TI) rfl ?_)
  refine wpAny_bind (wpAny_seqItems hTI rfl ?_)
  show wpAny _ _ (Builtin.SmallTypes.ownedTupleIsFree (.ref z) >>= _) _ _ _
  refine wpAny_bind ?_
  unfold Builtin.SmallTypes.ownedTupleIsFree
  refine wpAny_bind (wpAny_field hz rfl (x := .none) rfl (wpAny_pure ?_))
  simp only [if_true]
  refine wpAny_bind (wpAny_rule ?_)
  refine wpAny_bind (wpAny_field hz rfl (x := .ref TO) rfl ?_)
  refine wpAny_bind (wpAny_setField_rec hz (by simp) fun h₁ hz₁ hs₁ => ?_)
  replace hz₁ : IsZip h₁ z TI TO .ellipsis := hz₁
  replace hs₁ : Heap.SameBut z hp h₁ := hs₁
  have s1₁ : S1 k h₁ := frame_but Z.D1 h1 hs₁.extBut D.zf1
  have s2₁ : S2 k h₁ := frame_but Z.D2 h2 hs₁.extBut D.zf2
  refine wpAny_bind ?_
  simp only [List.zipIdx_cons, List.zipIdx_nil, List.forIn_cons, List.forIn_nil]
  refine wpAny_bind (wpAny_bind (wpAny_onRaise ?_))
  show wpAny _ _ (Builtin.SmallTypes.nextOf (.ref i1) >>= _) _ _ _
  rcases hk with hk | ⟨hlt, hk⟩
  · subst hk
    refine wpAny_bind (Z.D1.done _ _ _ s1₁ fun h₂ e hs₂ he => ?_)
    obtain ⟨oe, hoe, hce⟩ := he
    have hz₂ : IsZip h₂ z TI TO .ellipsis := hs₂ _ _ i1z.symm hz₁
    have hez : e ≠ z := fun x => by subst x; rw [hz₂] at hoe; cases hoe; simp at hce
    refine wpAny_setField_rec hz₂ (by simp) fun h₃ _ hs₃ => hE h₃ _ e (fun c o c1 _ c3 _ x => hs₃.extBut _ _ c1 (hs₂ _ _ c3 (hs₁.extBut _ _ c1 x))) ⟨oe, hs₃.extBut _ _ hez hoe, hce⟩
  · subst hk
    refine wpAny_bind (Z.D1.item k _ _ _ hlt s1₁ fun x h₂ t1 px s1₂ hs₂ => wpAny_pure ?_)
    replace hs₂ : Heap.SameBut i1 h₁ h₂ := hs₂
    have s2₂ : S2 k h₂ := frame_but Z.D2 s2₁ hs₂.extBut Z.i1f2
    have hTO₂ : IsPair h₂ TO a b := hs₂.extBut _ _ TOi1 (hs₁.extBut _ _ D.TOz hTO)
    refine wpAny_bind (wpAny_seqItems hTO₂ rfl ?_)
    refine wpAny_bind (wpAny_updateSeq_pair hTO₂ fun h₃ hTO₃ hs₃ => ?_)
    replace hs₃ : Heap.SameBut TO h₂ h₃ := hs₃
    refine wpAny_bind (wpAny_letGo (wpAny_pure ?_))
    have s2₃ : S2 k h₃ := frame_but Z.D2 s2₂ hs₃.extBut D.Tf2
    refine wpAny_bind (wpAny_bind (wpAny_onRaise ?_))
    show wpAny _ _ (Builtin.SmallTypes.nextOf (.ref i2) >>= _) _ _ _
    refine wpAny_bind (Z.D2.done _ _ _ s2₃ fun h₄ e hs₄ he => ?_)
    obtain ⟨oe, hoe, hce⟩ := he
    have hz₄ : IsZip h₄ z TI TO .ellipsis := hs₄ _ _ i2z.symm (hs₃.extBut _ _ D.TOz.symm (hs₂.extBut _ _ i1z.symm hz₁))
    have hez : e ≠ z := fun x => by subst x; rw [hz₄] at hoe; cases hoe; simp at hce
    refine wpAny_setField_rec hz₄ (by simp) fun h₅ _ hs₅ => hE h₅ _ e (fun c o c1 c2 c3 c4 x => hs₅.extBut _ _ c1 (hs₄ _ _ c4 (hs₃.extBut _ _ c2 (hs₂.extBut _ _ c3 (hs₁.extBut _ _ c1 x))))) ⟨oe, hs₅.extBut _ _ hez hoe, hce⟩

noncomputable abbrev zH1 (T1 : String) (h : Heap) (l1 : Addr) : Heap := h.push { cls := .type (ItN T1), data := .fields #[.ref l1, .int 0 0] }
noncomputable abbrev zH2 (T1 T2 : String) (h : Heap) (l1 l2 : Addr) : Heap := (zH1 T1 h l1).push { cls := .type (ItN T2), data := .fields #[.ref l2, .int 0 0] }
noncomputable abbrev zH3 (T1 T2 : String) (h : Heap) (l1 l2 : Addr) : Heap := (zH2 T1 T2 h l1 l2).push { cls := .type "tuple", data := .seq #[.ref h.objs.size, .ref (zH1 T1 h l1).objs.size] }
noncomputable abbrev zH4 (T1 T2 : String) (h : Heap) (l1 l2 : Addr) : Heap := (zH3 T1 T2 h l1 l2).push { cls := .type "tuple", data := .seq #[.none, .none] }
noncomputable abbrev zH5 (T1 T2 : String) (h : Heap) (l1 l2 : Addr) : Heap := (zH4 T1 T2 h l1 l2).push { cls := .type "zip", data := .fields #[.none, .bool false, .bool false, .ref (zH2 T1 T2 h l1 l2).objs.size, .ref (zH3 T1 T2 h l1 l2).objs.size] }

theorem meets_zipN {T1 T2 : String} (hT1 : LT T1) (hT2 : LT T2) (l1 l2 : Addr) (xs ys : List Value) :
    Meets (Builtin.«zip.__new__» ⟨[.type "zip", .ref l1, .ref l2], []⟩) (fun _ R s => SeqIs T1 (s.heap.get? l1) xs ∧ SeqIs T2 (s.heap.get? l2) ys ∧
      R (.ok (.ret (.ref (zH4 T1 T2 s.heap l1 l2).objs.size))) { s with heap := zH5 T1 T2 s.heap l1 l2 }) :=
  .of_wp fun prog w A R s h => by
    obtain ⟨hp, g, d, tk, os⟩ := s; obtain ⟨hl1, hl2, h⟩ := h
    have hsub := sub_zip
    have hL1 : SeqIs T1 ((Shared.heap ⟨hp, g, d, tk, os⟩).get? l1) xs := hl1
    have hL2 : SeqIs T2 ((Shared.heap ⟨hp.push { cls := .type (ItN T1), data := .fields #[.ref l1, .int 0 0] }, g, d, tk, os⟩).get? l2) ys := hl2.mono fun o e => Heap.get?_push_of_some _ e
    wp_walk using pyIter_seq hT1 hL1, pyIter_seq hT2 hL2
    exact ⟨_, rfl, h⟩

theorem call_zip {T1 T2 : String} (hT1 : LT T1) (hT2 : LT T2) {l1 l2 : Addr} {xs ys : List Value} {Q : Value → Shared → Prop} (hl1 : SeqIs T1 (s.heap.get? l1) xs) (hl2 : SeqIs T2 (s.heap.get? l2) ys)
    (h : ∀ h', IsZip h' (s.heap.objs.size + 4) (s.heap.objs.size + 2) (s.heap.objs.size + 3) .none → IsPair h' (s.heap.objs.size + 2) (.ref s.heap.objs.size) (.ref (s.heap.objs.size + 1)) →
      IsPair h' (s.heap.objs.size + 3) .none .none → IsIt T1 h' s.heap.objs.size l1 0 → IsIt T2 h' (s.heap.objs.size + 1) l2 0 → h'.objs.size = s.heap.objs.size + 5 →
      (∀ c o, s.heap.get? c = some o → h'.get? c = some o) → Q (.ref (s.heap.objs.size + 4)) { s with heap := h' }) :
    wpAny (model prog w) A (call (.type "zip") [.ref l1, .ref l2]) Q E s := by
  refine callType_new F.called_zip (by decide) (F.typeCall_zip_2 _ _) (F.newCall_zip_2 _ _) (fun obj => F.args_object_init_3 obj _ _) F.entry_zip_new
    (meets_zipN hT1 hT2 l1 l2 xs ys) ⟨hl1, hl2, ?_⟩
  have z1 : (zH1 T1 s.heap l1).objs.size = s.heap.objs.size + 1 := Heap.size_push ..
  have z2 : (zH2 T1 T2 s.heap l1 l2).objs.size = s.heap.objs.size + 2 := by rw [Heap.size_push, z1]
  have z3 : (zH3 T1 T2 s.heap l1 l2).objs.size = s.heap.objs.size + 3 := by rw [Heap.size_push, z2]
  have z4 : (zH4 T1 T2 s.heap l1 l2).objs.size = s.heap.objs.size + 4 := by rw [Heap.size_push, z3]
  have z5 : (zH5 T1 T2 s.heap l1 l2).objs.size = s.heap.objs.size + 5 := by rw [Heap.size_push, z4]
  have g5 : (zH5 T1 T2 s.heap l1 l2).get? (zH4 T1 T2 s.heap l1 l2).objs.size = some _ := Heap.get?_push_size _ rfl
  have g4 : (zH5 T1 T2 s.heap l1 l2).get? (zH3 T1 T2 s.heap l1 l2).objs.size = some _ := Heap.get?_push_of_some _ (Heap.get?_push_size _ rfl)
  have g3 : (zH5 T1 T2 s.heap l1 l2).get? (zH2 T1 T2 s.heap l1 l2).objs.size = some _ := Heap.get?_push_of_some _ (Heap.get?_push_of_some _ (Heap.get?_push_size _ rfl))
  have g2 : (zH5 T1 T2 s.heap l1 l2).get? (zH1 T1 s.heap l1).objs.size = some _ := Heap.get?_push_of_some _ (Heap.get?_push_of_some _ (Heap.get?_push_of_some _ (Heap.get?_push_size _ rfl)))
  have g1 : (zH5 T1 T2 s.heap l1 l2).get? s.heap.objs.size = some _ := Heap.get?_push_of_some _ (Heap.get?_push_of_some _ (Heap.get?_push_of_some _ (Heap.get?_push_of_some _ (Heap.get?_push_size _ rfl))))
  show _ ∧ _
  rw [z2, z3, z4] at g5
  rw [z1, z2] at g3
  rw [z3] at g4
  rw [z1] at g2
  rw [z4]
  exact ⟨⟨_, g5, rfl⟩, h _ g5 g3 g4 ⟨_, g1, rfl, rfl⟩ ⟨_, g2, rfl, rfl⟩ z5 fun c o x =>
    Heap.get?_push_of_some _ (Heap.get?_push_of_some _ (Heap.get?_push_of_some _ (Heap.get?_push_of_some _ (Heap.get?_push_of_some _ x))))⟩
end
end Mine

end
section
open PySem PySem.W PySem.Calls PyProof.Rows
set_option linter.unusedVariables false
set_option maxRecDepth 100000
namespace Mine
noncomputable def isTup : Expr → Bool
  | .Tuple .. => true
  | _ => false
/-- the values with their places -/
noncomputable def enumV : Nat → List V → List V
  | _, [] => []
  | i, v :: vs => .tup [.int i, v] :: enumV (i + 1) vs
theorem enumV_get {v : V} : ∀ {vs : List V} {j i : Nat}, (enumV j vs)[i]? = some v → ∃ u, vs[i]? = some u ∧ v = .tup [.int ((j + i : Nat) : Int), u]
  | [], j, i, h => by simp [enumV] at h
  | u :: vs, j, 0, h => by
    simp [enumV] at h; exact ⟨u, by simp, h.symm⟩
  | u :: vs, j, i + 1, h => by
    simp only [enumV, List.getElem?_cons_succ] at h ⊢
    obtain ⟨u', e1, e2⟩ := enumV_get h
    exact ⟨u', e1, by rw [e2, show j + 1 + i = j + (i + 1) by omega]⟩
theorem enumV_length : ∀ {vs : List V} {j : Nat}, (enumV j vs).length = vs.length
  | [], _ => rfl
  | _ :: vs, j => by simp [enumV, enumV_length (vs := vs)]
noncomputable def zipV : List V → List V → List V
  | x :: xs, y :: ys => .tup [x, y] :: zipV xs ys
  | _, _ => []
theorem zipV_get {v : V} : ∀ {xs ys : List V} {i : Nat}, (zipV xs ys)[i]? = some v → ∃ x y, xs[i]? = some x ∧ ys[i]? = some y ∧ v = .tup [x, y]
  | [], _, _, h => by simp [zipV] at h
  | _ :: _, [], _, h => by simp [zipV] at h
  | x :: xs, y :: ys, 0, h => by simp [zipV] at h; exact ⟨x, y, by simp, by simp, h.symm⟩
  | x :: xs, y :: ys, i + 1, h => by simp only [zipV, List.getElem?_cons_succ] at h ⊢; exact zipV_get h
theorem zipV_length : ∀ {xs ys : List V}, (zipV xs ys).length = min xs.length ys.length
  | [], _ => by simp [zipV]
  | _ :: _, [] => by simp [zipV]
  | _ :: xs, _ :: ys => by simp only [zipV, List.length_cons, zipV_length (xs := xs) (ys := ys)]; omega

section
variable {prog : Program} {w : World} {K : Frag} {G : Gl prog w K} {r : Nat} {sc : Scope} {l : Locs} {k : Kt} {Q : V → Prop}

/-- a new tuple is frozen -/
theorem pair_rz {C : Addr} {z : Zp} {T : Addr} {x y : Value} {v u : V} (hT : z T = some { cls := .type "tuple", data := .seq #[x, y] }) (hx : Rz C z v x) (hy : Rz C z u y) : Rz C z (.tup [v, u]) (.ref T) :=
  ⟨T, [x, y], rfl, ⟨_, _, hT, rfl, rfl, rfl⟩, ⟨x, [y], rfl, hx, y, [], rfl, hy, rfl⟩⟩

theorem ext_new {z' : Zp} {s s₂ : Shared} {ad : List Addr} {T : Addr} {o : Obj} (sub : Sub z' s.heap) (hT : s₂.heap.get? T = some o) (hn : s.heap.get? T = none) (had : ∀ b ∈ ad, z' b = none)
    (kp : ∀ b o, b ∉ ad → s.heap.get? b = some o → s₂.heap.get? b = some o) (hg : s₂.gens = s.gens) (hd : s₂.drawn = s.drawn) (ho : s₂.os = s.os) : ExtI ad z' s (z'.put T o) s₂ := by
  have hz : z' T = none := by
    cases q : z' T with
    | none => rfl
    | some o' => rw [sub _ _ q] at hn; cases hn
  refine ⟨Zp.put_old hz, fun b q e => ?_, kp, fun b q e n => ?_, hg, hd, ho⟩
  · by_cases hb : b = T
    · subst hb; rw [Zp.put_self] at e; cases e; exact hT
    · have e : z' b = some q := by simpa [Zp.put, hb] using e
      exact kp b q (fun h => by rw [had b h] at e; cases e) (sub _ _ e)
  · by_cases hb : b = T
    · subst hb; exact hn
    · simp [Zp.put, hb, n] at e

theorem DIt.enum {A : Around} (hh : A.handled = none) {tgt : Expr} (ht : isTup tgt = true) {T : String} (hT : LT T) {e it a : Addr} {xs : List Value} {vs : List V} {z : Zp} (ha : SeqIs T (z a) xs) (rl : RzL G.C z vs xs) (hne : z it = none) (hee : z e = none) (hei : e ≠ it) :
    DIt G A tgt (.ref e) [e, it] z (enumV 0 vs) (fun i h => (∃ old, IsEnum h e it i old) ∧ IsIt T h it a i ∧ SeqIs T (h.get? a) xs) := by
  obtain ⟨oa, na, ea, ra⟩ := id ha
  have nai : a ≠ it := fun q => by rw [q, hne] at ea; cases ea
  have nae : a ≠ e := fun q => by rw [q, hee] at ea; cases ea
  have hef : e ∉ [it, a] := by simp; exact ⟨hei, Ne.symm nae⟩
  have D := seq_draws (prog := prog) (w := w) (A := A.in1) hT (by exact hh) it a nai xs
  refine ⟨fun i h st b hb => ?_, fun i h h' st kp sub => ⟨?_, st.2.1.at fun o e => kp it (by simp) o e, ⟨oa, na, sub _ _ ea, ra⟩⟩, fun i v hv z' s hz hs st had => ?_, fun z' s hz hs st had => ?_⟩
  · obtain ⟨⟨old, he⟩, ⟨o, ho, _⟩, _⟩ := st
    simp at hb
    rcases hb with rfl | rfl
    · exact ⟨_, he⟩
    · exact ⟨_, ho⟩
  · obtain ⟨⟨old, he⟩, _⟩ := st
    exact ⟨old, kp e (by simp) _ he⟩
  · obtain ⟨⟨old, he⟩, st⟩ := st
    obtain ⟨u, hu, rfl⟩ := enumV_get hv
    obtain ⟨x, hx, rz⟩ := rl.get i u hu
    have hlt : i < xs.length := by
      rcases Nat.lt_or_ge i xs.length with h | h
      · exact h
      · rw [List.getElem?_eq_none h] at hx; cases hx
    refine wpAny_pyNext_enum_itemD D he st hlt hei hef fun x' h' tk hp heo st' hT' hsz kp => ⟨_, rfl, ?_⟩
    have hp : xs[i]? = some x' := hp
    rw [hx] at hp; cases hp
    have hes : e ≠ s.heap.objs.size := Nat.ne_of_lt (Heap.lt_size he)
    cases tgt <;> first | cases ht | skip
    refine wpAny_letOwnedTupleGo_enum heo fun h₂ he₂ sb => ?_
    replace sb : Heap.SameBut e h' h₂ := sb
    have hT₂ : h₂.get? s.heap.objs.size = some { cls := .type "tuple", data := .seq #[.int i tk, x] } := (sb.2 _ (Ne.symm hes)).trans hT'
    have kp₂ : ∀ b o, b ∉ [e, it] → s.heap.get? b = some o → h₂.get? b = some o := fun b o nb e0 => by
      simp at nb
      exact (sb.2 b nb.1).trans (kp b o nb.1 nb.2 e0)
    have hTz : z' s.heap.objs.size = none := hs.fresh
    refine ⟨z'.put s.heap.objs.size _, ext_new hs hT₂ (get_fresh _) had kp₂ rfl rfl rfl, ?_, ⟨x, he₂⟩, D.frame _ _ _ st' fun b hb o y => (sb.2 b fun q => hef (q ▸ hb)).trans y⟩
    refine pair_rz Zp.put_self ⟨tk, by simp⟩ (rz.mono fun b o e0 => Zp.put_old hTz b o (hz b o e0))
  · obtain ⟨⟨old, he⟩, st⟩ := st
    have hl : (enumV 0 vs).length = xs.length := by rw [enumV_length, rl.length]
    rw [hl] at he st
    refine wpAny_pyNext_enum_endD D he st fun h' eb => ⟨rfl, ?_⟩
    have kp : ∀ b o, b ∉ [e, it] → s.heap.get? b = some o → h'.get? b = some o := fun b o nb e0 => by simp at nb; exact eb b o nb.2 e0
    exact ⟨fun _ _ e => e, fun b o e => kp b o (fun q => by rw [had b q] at e; cases e) (hs b o e), kp, fun b o e n => (by rw [n] at e; cases e), rfl, rfl, rfl⟩

theorem DIt.zip {A : Around} (hh : A.handled = none) {tgt : Expr} (ht : isTup tgt = true) {T1 T2 : String} (hT1 : LT T1) (hT2 : LT T2) {q TI TO i1 i2 a1 a2 : Addr} {xs1 xs2 : List Value} {vs1 vs2 : List V} {z : Zp}
    (h1 : SeqIs T1 (z a1) xs1) (r1 : RzL G.C z vs1 xs1) (h2 : SeqIs T2 (z a2) xs2) (r2 : RzL G.C z vs2 xs2) (hn : ∀ b ∈ [q, TI, TO, i1, i2], z b = none) (hd : [q, TI, TO, i1, i2].Nodup) :
    DIt G A tgt (.ref q) [q, TI, TO, i1, i2] z (zipV vs1 vs2) (fun i h => IsZip h q TI TO .none ∧ IsPair h TI (.ref i1) (.ref i2) ∧ (∃ a b, IsPair h TO a b) ∧ (IsIt T1 h i1 a1 i ∧ SeqIs T1 (h.get? a1) xs1) ∧ (IsIt T2 h i2 a2 i ∧ SeqIs T2 (h.get? a2) xs2)) := by
  obtain ⟨o1, n1, e1, ra1⟩ := id h1
  obtain ⟨o2, n2, e2, ra2⟩ := id h2
  have na1 : ∀ b ∈ [q, TI, TO, i1, i2], a1 ≠ b := fun b hb h => by rw [h, hn b hb] at e1; cases e1
  have na2 : ∀ b ∈ [q, TI, TO, i1, i2], a2 ≠ b := fun b hb h => by rw [h, hn b hb] at e2; cases e2
  simp only [List.nodup_cons, List.mem_cons, List.not_mem_nil, or_false, not_or, List.nodup_nil, and_true, not_false_eq_true] at hd
  obtain ⟨⟨d1, d2, d3, d4⟩, ⟨d5, d6, d7⟩, ⟨d8, d9⟩, d10⟩ := hd
  have Z : ∀ (A : Around), A.handled = none → ZDraw prog w A i1 i2 xs1.length xs2.length _ _ _ _ [i1, a1] [i2, a2] := fun A hh =>
    ⟨seq_draws hT1 hh i1 a1 (na1 i1 (by simp)) xs1, seq_draws hT2 hh i2 a2 (na2 i2 (by simp)) xs2, by simp, by simp, by simp; exact ⟨d10, Ne.symm (na2 i1 (by simp))⟩, by simp; exact ⟨Ne.symm d10, Ne.symm (na1 i2 (by simp))⟩⟩
  have D : ZApart q TI TO i1 i2 [i1, a1] [i2, a2] := ⟨Ne.symm d1, Ne.symm d2, d5, d10, d6, d7, by simp; exact ⟨d3, Ne.symm (na1 q (by simp))⟩, by simp; exact ⟨d4, Ne.symm (na2 q (by simp))⟩, by simp; exact ⟨d8, Ne.symm (na1 TO (by simp))⟩, by simp; exact ⟨d9, Ne.symm (na2 TO (by simp))⟩⟩
  refine ⟨fun i h st b hb => ?_, fun i h h' st kp sub => ?_, fun i v hv z' s hz hs st had => ?_, fun z' s hz hs st had => ?_⟩
  · obtain ⟨hz, hTI, ⟨x, y, hTO⟩, ⟨⟨o, ho, _⟩, _⟩, ⟨⟨o', ho', _⟩, _⟩⟩ := st
    simp at hb
    rcases hb with rfl | rfl | rfl | rfl | rfl
    · exact ⟨_, hz⟩
    · exact ⟨_, hTI⟩
    · exact ⟨_, hTO⟩
    · exact ⟨_, ho⟩
    · exact ⟨_, ho'⟩
  · obtain ⟨hz, hTI, ⟨x, y, hTO⟩, ⟨t1, _⟩, ⟨t2, _⟩⟩ := st
    exact ⟨kp q (by simp) _ hz, kp TI (by simp) _ hTI, ⟨x, y, kp TO (by simp) _ hTO⟩, ⟨t1.at fun o e => kp i1 (by simp) o e, ⟨o1, n1, sub _ _ e1, ra1⟩⟩, ⟨t2.at fun o e => kp i2 (by simp) o e, ⟨o2, n2, sub _ _ e2, ra2⟩⟩⟩
  · obtain ⟨hq, hTI, ⟨x0, y0, hTO⟩, t1, t2⟩ := st
    obtain ⟨u1, u2, hu1, hu2, rfl⟩ := zipV_get hv
    obtain ⟨x, hx, rx⟩ := r1.get i u1 hu1
    obtain ⟨y, hy, ry⟩ := r2.get i u2 hu2
    have hlx : i < xs1.length := by
      rcases Nat.lt_or_ge i xs1.length with h | h
      · exact h
      · rw [List.getElem?_eq_none h] at hx; cases hx
    have hly : i < xs2.length := by
      rcases Nat.lt_or_ge i xs2.length with h | h
      · exact h
      · rw [List.getElem?_eq_none h] at hy; cases hy
    have hTy : s.TypeIs (.ref q) "zip" := ⟨_, hq, rfl⟩
    unfold pyNext
    refine wpAny_bind (wpAny_attempt (wpAny_callSpecial?_slot (name := Str.ofString "__next__") hTy F.slot_zip_next
      (wpAny_call_entry F.slot_zip_next hTy F.entry_zip_next (zipN_item (Z A.in1 (by exact hh)) D hq hTI hTO t1 t2 hlx hly fun x' y' h' tk px py c1 c2 c3 c4 c5 c6 kp => wpAny_pure ⟨_, rfl, ?_⟩) (F.args_zip_next_1 _))))
    have px : xs1[i]? = some x' := px
    have py : xs2[i]? = some y' := py
    rw [hx] at px; cases px
    rw [hy] at py; cases py
    have hqs : q ≠ s.heap.objs.size := Nat.ne_of_lt (Heap.lt_size hq)
    cases tgt <;> first | cases ht | skip
    refine wpAny_letOwnedTupleGo_zip c1 fun h₂ hz₂ sb => ?_
    replace sb : Heap.SameBut q h' h₂ := sb
    have hT₂ : h₂.get? s.heap.objs.size = some { cls := .type "tuple", data := .seq #[x, y] } := (sb.2 _ (Ne.symm hqs)).trans c5
    have kp₂ : ∀ b o, b ∉ [q, TI, TO, i1, i2] → s.heap.get? b = some o → h₂.get? b = some o := fun b o nb e0 => by
      simp at nb
      exact (sb.2 b nb.1).trans (kp b o nb.1 nb.2.2.1 nb.2.2.2.1 nb.2.2.2.2 e0)
    have hTz : z' s.heap.objs.size = none := hs.fresh
    have zz : ∀ b o, z b = some o → z'.put s.heap.objs.size { cls := .type "tuple", data := .seq #[x, y] } b = some o := fun b o e0 => Zp.put_old hTz b o (hz b o e0)
    refine ⟨_, ext_new hs hT₂ (get_fresh _) had kp₂ rfl rfl rfl, pair_rz Zp.put_self (rx.mono zz) (ry.mono zz), hz₂, sb.extBut _ _ D.TIz (kp _ _ D.TIz D.TITO D.TIi1 D.TIi2 hTI), ⟨x, y, sb.extBut _ _ D.TOz c2⟩,
      (Z A hh).D1.frame _ _ _ c3 fun b hb o y => (sb.2 b fun q => D.zf1 (q ▸ hb)).trans y, (Z A hh).D2.frame _ _ _ c4 fun b hb o y => (sb.2 b fun q => D.zf2 (q ▸ hb)).trans y⟩
  · obtain ⟨hq, hTI, ⟨x0, y0, hTO⟩, t1, t2⟩ := st
    have hl : (zipV vs1 vs2).length = min xs1.length xs2.length := by rw [zipV_length, r1.length, r2.length]
    rw [hl] at t1 t2
    have hTy : s.TypeIs (.ref q) "zip" := ⟨_, hq, rfl⟩
    unfold pyNext
    refine wpAny_bind (wpAny_attempt (wpAny_callSpecial?_slot (name := Str.ofString "__next__") hTy F.slot_zip_next
      (wpAny_call_entry F.slot_zip_next hTy F.entry_zip_next (zipN_end (Z A.in1 (by exact hh)) D hq hTI hTO t1 t2 (by omega) fun h' t e kp he => ?_) (F.args_zip_next_1 _))))
    obtain ⟨o, ho, hc⟩ := he
    refine wpAny_bind (wpAny_isInstance (T := "StopIteration") (b := true) ⟨o, ho, hc⟩ isSubtype_stop ?_)
    refine wpAny_pure ⟨rfl, ?_⟩
    have kp : ∀ b o, b ∉ [q, TI, TO, i1, i2] → s.heap.get? b = some o → h'.get? b = some o := fun b o nb e0 => by simp at nb; exact kp b o nb.1 nb.2.2.1 nb.2.2.2.1 nb.2.2.2.2 e0
    exact ⟨fun _ _ e => e, fun b o e => kp b o (fun q => by rw [had b q] at e; cases e) (hs b o e), kp, fun b o e n => (by rw [n] at e; cases e), rfl, rfl, rfl⟩

end
end Mine

end
section
open PySem PySem.W PySem.Calls PyProof.Rows
set_option linter.unusedVariables false
set_option maxRecDepth 100000
namespace Mine
section
variable {prog : Program} {w : World} {K : Frag} {G : Gl prog w K} {r : Nat} {sc : Scope} {l : Locs} {k : Kt} {Q : V → Prop}

/-! targets -/
noncomputable def WAss (G : Gl prog w K) (r : Nat) (sc : Scope) : List Expr → List V → Locs → (Locs → Prop) → Prop
  | [], [], l, P => P l
  | e :: es, v :: vs, l, P => WAs G r sc l e v fun l' => WAss G r sc es vs l' P
  | _, _, _, _ => False
theorem assignEach_plain {env : Env} : ∀ {es : List Expr}, plainEs es = true → assignEach es env = es.map fun t => (false, assign t env)
  | [], _ => rfl
  | e :: es, h => by
    unfold plainEs at h
    rw [List.all_cons, Bool.and_eq_true] at h
    have ih := assignEach_plain (env := env) (es := es) h.2
    cases e <;> first | (show _ :: assignEach es env = _; rw [ih]; rfl) | (exact absurd h.1 (by simp))
theorem WAss.run {F : Frm G r sc} {P : Locs → Prop} : ∀ {es : List Expr} {vs : List V} {l : Locs} {z : Zp} {s : Shared} {xs : List Value}, WAss G r sc es vs l P → Rep F l z s → RzL G.C z vs xs →
    wpAny (model prog w) F.A (assignInOrder (es.map fun t => assign t F.env) xs) (fun _ s' => ∃ z' l', (∀ b o, z b = some o → z' b = some o) ∧ Rep F l' z' s' ∧ P l') (fun _ _ => False) s
  | [], [], l, z, s, xs, h, R, rl => by
    have rl : xs = [] := rl
    subst rl
    exact wpAny_assignInOrder_none ⟨z, l, fun _ _ e => e, R, h⟩
  | e :: es, v :: vs, l, z, s, xs, h, R, rl => by
    obtain ⟨x, r, rfl, h1, h2⟩ := rl
    exact wpAny_assignInOrder_more (noE (h F z s x R h1) fun _ s₁ ⟨z₁, l₁, zz, R₁, q⟩ => noE (WAss.run q R₁ (RzL.mono zz h2)) fun _ s₂ ⟨z₂, l₂, zz₂, R₂, q⟩ => ⟨z₂, l₂, fun b o e => zz₂ b o (zz b o e), R₂, q⟩)
  | [], _ :: _, _, _, _, _, h, _, _ => h.elim
  | _ :: _, [], _, _, _, _, h, _, _ => h.elim

theorem ext_kept {z : Zp} {s : Shared} {h' : Heap} {t : Nat} (hs : Sub z s.heap) (e : Heap.ExtBut s.heap.objs.size s.heap h') : Ext z s z { s with heap := h', toks := t } :=
  Ext.grow hs fun b o q => e b o (Nat.ne_of_lt (Heap.lt_size q)) q

theorem WAs_tup {es : List Expr} {x1} {p : Pos} {vs : List V} {P : Locs → Prop} (h : WAss G r sc es vs l P) (hp : plainEs es = true := by rfl) (hl : es.length = vs.length := by rfl) : WAs G r sc l (.Tuple es x1 p) (.tup vs) P := fun F z s x R rz => by
  obtain ⟨a, xs, rfl, sq, rl⟩ := rz
  have hl' := rl.length
  have he : (assignEach es F.env).map (·.2) = es.map fun t => assign t F.env := by rw [assignEach_plain hp, List.map_map]; rfl
  refine wpAny_assign_Tuple F.hh (isTuple_of (sq.mono fun o e => R.sub _ _ e)) (by rw [assignEach_plain hp, List.length_map, List.size_toArray]; omega) (by
    rw [assignEach_plain hp, List.findIdx?_eq_none_iff]
    intro y hy
    obtain ⟨t, _, rfl⟩ := List.mem_map.mp hy
    rfl) fun h' e => ?_
  rw [he]
  exact h.run (R.ext (ext_kept (t := s.toks) R.sub e)) rl

/-! iterables -/
/-- an iterable's meaning: its items -/
noncomputable def WI (G : Gl prog w K) (r : Nat) (sc : Scope) (l : Locs) (tgt iter : Expr) (Q : List V → Prop) : Prop :=
  ∀ (F : Frm G r sc) z s, Rep F l z s → wpAny (model prog w) F.A (eval iter F.env) (fun x s₁ => wpAny (model prog w) F.A (pyIter x) (fun I s₂ => ∃ ad z₂ vs St, DIt G F.A tgt I ad z₂ vs St ∧ Ext z s z₂ s₂ ∧
    (∀ b ∈ ad, s.heap.get? b = none ∧ z₂ b = none) ∧ St 0 s₂.heap ∧ Q vs) (fun _ _ => False) s₁) (fun _ _ => False) s

theorem WI_seq {tgt iter : Expr} {Q : List V → Prop} (h : WE G r sc l iter fun v => ∃ vs, (v = .lst vs ∨ v = .tup vs) ∧ Q vs) : WI G r sc l tgt iter Q := fun F z s R =>
  noE (h F z s R) fun x s₁ ⟨z₁, v, e₁, rz, vs, hv, q⟩ => by
    have sub₁ := e₁.sub
    have fin : ∀ {T : String} {o : Obj}, o.isFreed = false → Ext z s z₁ { s₁ with heap := s₁.heap.push o } ∧ ∀ b ∈ [s₁.heap.objs.size], s.heap.get? b = none ∧ z₁ b = none := fun {T o} hf =>
      ⟨e₁.trans (Ext.grow (t := s₁.toks) e₁.sub fun b o e => Heap.get?_push_of_some _ e), fun b hb => by
        rw [List.mem_singleton.mp hb]
        refine ⟨?_, sub₁.fresh⟩
        cases q : s.heap.get? s₁.heap.objs.size with
        | none => rfl
        | some o => have := e₁.keep _ _ q; rw [get_fresh] at this; cases this⟩
    rcases hv with rfl | rfl
    · obtain ⟨a, xs, rfl, sq, rl⟩ := rz
      have hl : s₁.heap.IsList a xs.toArray := isList_of (sq.mono fun o e => sub₁ _ _ e)
      refine wpAny_pyIter_list hl ?_
      obtain ⟨f1, f2⟩ := fin (T := "list") (o := { cls := .type "list_iterator", data := .fields #[.ref a, .int 0 0] }) rfl
      exact ⟨_, z₁, vs, _, DIt.list F.hh sq rl sub₁.fresh, f1, f2, ⟨⟨_, Heap.get?_push_size _ rfl, rfl, rfl⟩, hl.push _⟩, q⟩
    · obtain ⟨a, xs, rfl, sq, rl⟩ := rz
      have hl : s₁.heap.IsTuple a xs.toArray := isTuple_of (sq.mono fun o e => sub₁ _ _ e)
      refine wpAny_pyIter_tuple hl ?_
      obtain ⟨f1, f2⟩ := fin (T := "tuple") (o := { cls := .type "tuple_iterator", data := .fields #[.ref a, .int 0 0] }) rfl
      exact ⟨_, z₁, vs, _, DIt.tuple F.hh sq rl sub₁.fresh, f1, f2, ⟨⟨_, Heap.get?_push_size _ rfl, rfl, rfl⟩, hl.push _⟩, q⟩

theorem seq_rz {C : Addr} {z : Zp} {v : V} {x : Value} {vs : List V} (hv : v = .lst vs ∨ v = .tup vs) (rz : Rz C z v x) : ∃ T a xs, LT T ∧ x = .ref a ∧ SeqIs T (z a) xs ∧ RzL C z vs xs := by
  rcases hv with rfl | rfl
  · obtain ⟨a, xs, e, sq, rl⟩ := rz; exact ⟨"list", a, xs, .inl rfl, e, sq, rl⟩
  · obtain ⟨a, xs, e, sq, rl⟩ := rz; exact ⟨"tuple", a, xs, .inr rfl, e, sq, rl⟩

theorem none_before {z z' : Zp} {s s' : Shared} (e : Ext z s z' s') {n : Addr} (h : s'.heap.objs.size ≤ n) : s.heap.get? n = none ∧ z' n = none := by
  have g : s'.heap.get? n = none := by
    cases q : s'.heap.get? n with
    | none => rfl
    | some o => exact absurd (Heap.lt_size q) (Nat.not_lt_of_le h)
  constructor
  · cases q : s.heap.get? n with
    | none => rfl
    | some o => have := e.keep _ _ q; rw [g] at this; cases this
  · cases q : z' n with
    | none => rfl
    | some o => have := e.sub _ _ q; rw [g] at this; cases this

theorem bootEnum : bootBuiltins "enumerate" = some (.type "enumerate") := by decide +kernel
theorem bootZip : bootBuiltins "zip" = some (.type "zip") := by decide +kernel
theorem WI_enum {tgt e : Expr} {p1 p : Pos} {Q : List V → Prop} (hn : nsIn K mainGlobals "enumerate" = some none) (h : WE G r sc l e fun v => ∃ vs, (v = .lst vs ∨ v = .tup vs) ∧ Q (enumV 0 vs)) (ht : isTup tgt = true := by rfl)
    (hx : sc.names.lookup (Str.ofString "enumerate") = some .globalImplicit := by rfl) (hp : plainEs [e] = true := by rfl) : WI G r sc l tgt (.Call (.Name "enumerate" p1) [e] [] p) Q := fun F z s R => by
  have hw : WEs G r sc l [e] (fun us => ∃ v vs, us = [v] ∧ (v = .lst vs ∨ v = .tup vs) ∧ Q (enumV 0 vs)) := h.mono fun v ⟨vs, hv, q⟩ => ⟨v, vs, rfl, hv, q⟩
  refine wpAny_Call_ofName (wpAny_Name (Frm.global R.sB hx (.inr (G.gB _ _ hn bootEnum (by decide))) ?_) (by decide))
  refine WEs.callWith (f := .type "enumerate") (first := []) rfl hp R hw fun xs s₁ z₁ us e₁ rl ⟨v, vs, hu, hv, q⟩ => ?_
  subst hu
  obtain ⟨x, r0, rfl, rz, rfl⟩ := rl
  obtain ⟨T, a, xs, hT, rfl, sq, rl⟩ := seq_rz hv rz
  refine call_enum hT (sq.mono fun o e => e₁.sub _ _ e) fun h' he hit hsz kp => ?_
  refine wpAny_pyIter_enum he ?_
  have n0 := none_before e₁ (n := s₁.heap.objs.size) (Nat.le_refl _)
  have n1 := none_before e₁ (n := s₁.heap.objs.size + 1) (Nat.le_add_right _ _)
  refine ⟨_, z₁, _, _, DIt.enum F.hh ht hT sq rl n0.2 n1.2 (Nat.succ_ne_self _), e₁.trans (Ext.grow (t := s₁.toks) e₁.sub kp), fun b hb => ?_, ⟨⟨_, he⟩, hit, sq.mono fun o e => kp _ _ (e₁.sub _ _ e)⟩, q⟩
  simp at hb
  rcases hb with rfl | rfl
  · exact n1
  · exact n0

theorem WI_zip {tgt a b : Expr} {p1 p : Pos} {Q : List V → Prop} (hn : nsIn K mainGlobals "zip" = some none) (h : WE G r sc l a fun v => WE G r sc l b fun u => ∃ vs us, (v = .lst vs ∨ v = .tup vs) ∧ (u = .lst us ∨ u = .tup us) ∧ Q (zipV vs us)) (ht : isTup tgt = true := by rfl)
    (hx : sc.names.lookup (Str.ofString "zip") = some .globalImplicit := by rfl) (hp : plainEs [a, b] = true := by rfl) : WI G r sc l tgt (.Call (.Name "zip" p1) [a, b] [] p) Q := fun F z s R => by
  have hw : WEs G r sc l [a, b] (fun ws => ∃ v u vs us, ws = [v, u] ∧ (v = .lst vs ∨ v = .tup vs) ∧ (u = .lst us ∨ u = .tup us) ∧ Q (zipV vs us)) := h.mono fun v h => h.mono fun u ⟨vs, us, hv, hu, q⟩ => ⟨v, u, vs, us, rfl, hv, hu, q⟩
  refine wpAny_Call_ofName (wpAny_Name (Frm.global R.sB hx (.inr (G.gB _ _ hn bootZip (by decide))) ?_) (by decide))
  refine WEs.callWith (f := .type "zip") (first := []) rfl hp R hw fun xs s₁ z₁ ws e₁ rl ⟨v, u, vs, us, hw, hv, hu, q⟩ => ?_
  subst hw
  obtain ⟨x, r0, rfl, rx, y, r1, rfl, ry, rfl⟩ := rl
  obtain ⟨T1, a1, xs1, hT1, rfl, sq1, rl1⟩ := seq_rz hv rx
  obtain ⟨T2, a2, xs2, hT2, rfl, sq2, rl2⟩ := seq_rz hu ry
  refine call_zip hT1 hT2 (sq1.mono fun o e => e₁.sub _ _ e) (sq2.mono fun o e => e₁.sub _ _ e) fun h' hz hTI hTO hi1 hi2 hsz kp => ?_
  refine wpAny_pyIter_zip hz ?_
  have n := fun (j : Nat) => none_before e₁ (n := s₁.heap.objs.size + j) (Nat.le_add_right _ _)
  have al : ∀ b ∈ [s₁.heap.objs.size + 4, s₁.heap.objs.size + 2, s₁.heap.objs.size + 3, s₁.heap.objs.size, s₁.heap.objs.size + 1], s.heap.get? b = none ∧ z₁ b = none := fun b hb => by
    simp at hb
    rcases hb with rfl | rfl | rfl | rfl | rfl
    · exact n 4
    · exact n 2
    · exact n 3
    · exact n 0
    · exact n 1
  exact ⟨_, z₁, _, _, DIt.zip F.hh ht hT1 hT2 sq1 rl1 sq2 rl2 (fun b hb => (al b hb).2) (by simp), e₁.trans (Ext.grow (t := s₁.toks) e₁.sub kp), al,
    ⟨hz, hTI, ⟨_, _, hTO⟩, ⟨hi1, sq1.mono fun o e => kp _ _ (e₁.sub _ _ e)⟩, hi2, sq2.mono fun o e => kp _ _ (e₁.sub _ _ e)⟩, q⟩

/-- for over an iterable -/
theorem WX_forI {tgt iter : Expr} {body orelse : List Stmt} {p : Pos} (h : WI G r sc l tgt iter fun vs => WF G r sc tgt body orelse k vs l) (hs : noSet iter = true := by rfl) : WX G r sc l (.For tgt iter body orelse p) k := fun F z s R =>
  wpAny_For (noE (h F z s R) fun x s₁ q => noE q fun I s₂ ⟨ad, z₂, vs, St, D, ex, al, st, q⟩ => cameBack (for_run D (fun _ _ e => e) (R.beside ex al) st q)) (folded_no hs _)
end
end Mine

end
section
open PySem PySem.W PySem.Calls PyProof.Rows
set_option linter.unusedVariables false
set_option maxRecDepth 100000
namespace Mine
section
variable {prog : Program} {w : World} {K : Frag} {G : Gl prog w K} {r : Nat} {sc : Scope} {l : Locs} {k : Kt} {Q : V → Prop}

/-! tuples and lists -/
theorem WE_tuple {es : List Expr} {n : Nat} {p : Pos} (h : WEs G r sc l es fun vs => vs.length ≤ sizeLine ∧ Q (.tup vs)) (hp : plainEs es = true := by rfl) : WE G r sc l (.Tuple es n p) Q := fun F z s R =>
  wpAny_Tuple (by
    rw [backTo_plain hp]
    refine noE (h.run z s R) fun xs s₁ ⟨z₁, vs, e₁, rl, hs, q⟩ => ⟨by rw [rl.length]; exact hs, ?_⟩
    have hz := e₁.sub.fresh
    refine ⟨_, .tup vs, e₁.trans (Ext.push e₁.sub (o := { cls := .type "tuple", data := .seq xs.toArray }) rfl), ⟨_, xs, rfl, ⟨_, 0, Zp.put_self, rfl, rfl, rfl⟩, RzL.mono (Zp.put_old hz) rl⟩, q⟩)
theorem WE_list {es : List Expr} {p : Pos} (h : WEs G r sc l es fun vs => vs.length ≤ sizeLine ∧ Q (.lst vs)) (hp : plainEs es = true := by rfl) : WE G r sc l (.List es p) Q := fun F z s R =>
  wpAny_List (by
    rw [backTo_plain hp]
    refine noE (h.run z s R) fun xs s₁ ⟨z₁, vs, e₁, rl, hs, q⟩ => ⟨by rw [rl.length]; exact hs, ?_⟩
    have hz := e₁.sub.fresh
    refine ⟨_, .lst vs, e₁.trans (Ext.push e₁.sub (o := { cls := .type "list", data := .seq xs.toArray }) rfl), ⟨_, xs, rfl, ⟨_, 0, Zp.put_self, rfl, rfl, rfl⟩, RzL.mono (Zp.put_old hz) rl⟩, q⟩)

/-! in place -/
theorem I_add {a b : Int} (h : Q (.int (a + b))) : Act2 G (inplaceOp .Add) (.int a) (.int b) Q := fun A z s xa xb hh hr zB hs ⟨t, ra⟩ ⟨u, rb⟩ => by
  subst ra rb; exact noE (PyProof.Rows.iadd_int (ret_of h (Ext.toks hs _) ⟨_, rfl⟩)) fun _ _ q => q
theorem I_cat {x y : Str} (hsz : x.length + y.length ≤ sizeLine) (h : Q (.str (x ++ y))) : Act2 G (inplaceOp .Add) (.str x) (.str y) Q := fun A z s xa xb hh hr zB hs ⟨t, ra⟩ ⟨u, rb⟩ => by
  subst ra rb; exact noE (PySem.SB.iadd (fun t' tk => ret_of h (Ext.toks hs tk) ⟨_, rfl⟩) hsz) fun _ _ q => q
theorem WX_aug {x : Str} {p p' : Pos} {op : Operator} {e : Expr} {v : V} (hl : l.lookup x = some (.v v)) (h : WE G r sc l e fun u => Act2 G (inplaceOp op) v u fun y => k.nx (put l x (.v y)))
    (hx : stored sc x = true := by rfl) (hc : (x == ("__classdict__" : Str)) = false := by decide) : WX G r sc l (.AugAssign (.Name x p') op e p) k := fun F z s R =>
  wpAny_AugAssign_Name (by
    obtain ⟨m, am, L⟩ := R.loc
    obtain ⟨val, n, rz⟩ := L.ok x _ hl
    refine Frm.load L.ns n hc (noE (h F z s R) fun u s₁ ⟨z₁, vu, e₁, ru, q⟩ => ?_)
    refine noE (q F.A z₁ s₁ _ _ F.hh F.room0 (R.ext e₁).zBsub e₁.sub (rz.mono e₁.zz) ru) fun y s₂ ⟨z₂, vy, e₂, ry, q⟩ => ?_
    exact ((R.ext e₁).ext e₂).storeV (stored_or hx) ry fun s₃ R₃ => ⟨z₂, _, R₃, q⟩)

/-! while -/
theorem WX_while {t : Expr} {body orelse : List Stmt} {p : Pos} (J : Nat → Locs → Prop) (n : Nat) (h : J n l)
    (turn : ∀ n l, J n l → WT G r sc l t fun c => (c = true → WS G r sc l body { nx := fun l' => ∃ m, m < n ∧ J m l', ct := fun l' => ∃ m, m < n ∧ J m l', bk := k.nx, rt := k.rt }) ∧ (c = false → WS G r sc l orelse k)) :
    WX G r sc l (.While t body orelse p) k := fun F z s R =>
  wpAny_While (cameBack (codeAny_whileLoop (fun n s => ∃ z l, Rep F l z s ∧ J n l) (fun n s ⟨z, l, R, hJ⟩ => by
    refine noE (turn n l hJ F z s R) fun c s₁ ⟨z₁, e₁, q⟩ => ?_
    cases c with
    | true =>
      simp only [if_true]
      refine noE (q.1 rfl F z₁ s₁ (R.ext e₁)) fun f s₂ p => ?_
      cases f with
      | next => obtain ⟨z₂, l₂, R₂, m, hm, hJ⟩ := p; exact ⟨m, hm, z₂, l₂, R₂, hJ⟩
      | cont => obtain ⟨z₂, l₂, R₂, m, hm, hJ⟩ := p; exact ⟨m, hm, z₂, l₂, R₂, hJ⟩
      | brk => exact p
      | ret x => exact p
    | false =>
      simp only [Bool.false_eq_true, if_false]
      exact noE (q.2 rfl F z₁ s₁ (R.ext e₁)) fun f s₂ p => p) n ⟨z, l, R, h⟩))

/-! assignments to tuples -/
theorem WX_tassign {ts : Expr} {e : Expr} {p : Pos} (h : WE G r sc l e fun v => WAs G r sc l ts v k.nx) (hs : ∀ env, swapsWithSole [ts] e p.line env = pure false) (hw : ∀ F : Frm G r sc, swappedStores [ts] e F.env = pure none)
    (hst : ∀ env, (assignEach [ts] env).map (·.2) = [assign ts env] := by intro _; rfl) : WX G r sc l (.Assign [ts] e p) k := fun F z s R =>
  wpAny_Assign_stores (noE (h F z s R) fun x s₁ ⟨z₁, v, e₁, rz, q⟩ => by
    rw [hst]
    exact noE (q F z₁ s₁ x (R.ext e₁) rz) fun _ s₂ ⟨z₂, l₂, _, R₂, q⟩ => ⟨z₂, l₂, R₂, q⟩) (hs _) (hw F)

theorem WX_swap2 {x y : Str} {px py : Pos} {n1 n2 : Nat} {p1 p2 p : Pos} {a b : Expr} (h : WE G r sc l a fun u => WE G r sc l b fun v => k.nx (put (put l y (.v v)) x (.v u)))
    (hs : ∀ env, swapsWithSole [.Tuple [.Name x px, .Name y py] n1 p1] (.Tuple [a, b] n2 p2) p.line env = pure false) (hw : ∀ F : Frm G r sc, swappedStores [.Tuple [.Name x px, .Name y py] n1 p1] (.Tuple [a, b] n2 p2) F.env = pure (some [x, y]))
    (hx : stored sc x = true := by rfl) (hy : stored sc y = true := by rfl) (hp : plainEs [a, b] = true := by rfl) : WX G r sc l (.Assign [.Tuple [.Name x px, .Name y py] n1 p1] (.Tuple [a, b] n2 p2) p) k := fun F z s R => by
  have hab : WEs G r sc l [a, b] fun us => ∃ u v, us = [u, v] ∧ k.nx (put (put l y (.v v)) x (.v u)) := h.mono fun u h => h.mono fun v q => ⟨u, v, rfl, q⟩
  have ht : WE G r sc l (.Tuple [a, b] n2 p2) fun t => ∃ u v, t = .tup [u, v] ∧ k.nx (put (put l y (.v v)) x (.v u)) := WE_tuple (h.mono fun u h => h.mono fun v q => ⟨by show 2 ≤ sizeLine; rw [sizeLine_eq]; omega, u, v, rfl, q⟩) hp
  rw [exec_Assign_arm]
  refine wpAny_bind (wpAny_standAt ?_)
  rw [hs]
  refine wpAny_bind (wpAny_pure ?_)
  rw [if_neg (by decide)]
  refine wpAny_bind (noE (ht F z s R) fun t s₁ ⟨z₁, vt, e₁, rz, u, v, hv, q⟩ => ?_)
  subst hv
  rw [hw]
  refine wpAny_bind (wpAny_pure ?_)
  unfold assignStores
  refine wpAny_bind (wpAny_rule ?_)
  obtain ⟨at', xs, rfl, sq, xu, rr, rfl, ru, xv, rr', rfl, rv, rfl⟩ := rz
  have R₁ := R.ext e₁
  have hu := wpAny_unpackItems_tuple (prog := prog) (w := w) (E := fun _ _ => False) (Q := fun items s' => ∃ h', items = [xu, xv] ∧ Heap.ExtBut s₁.heap.objs.size s₁.heap h' ∧ s' = { s₁ with heap := h' }) F.hh (isTuple_of (sq.mono fun o e => e₁.sub _ _ e)) (fun h' e => ⟨h', rfl, e, rfl⟩)
  refine wpAny_bind (noE hu ?_)
  rintro items s₂ ⟨h', rfl, e, rfl⟩
  have R₂ := R₁.ext (ext_kept (t := s₁.toks) R₁.sub e)
  refine wpAny_bind ?_
  show wpAny _ _ (assignInOrder [bindName F.env y, bindName F.env x] [xv, xu]) _ _ _
  refine wpAny_assignInOrder_more (wpAny_bindName (R₂.storeV (stored_or hy) rv fun s₃ R₃ => ?_))
  refine wpAny_assignInOrder_more (wpAny_bindName (R₃.storeV (stored_or hx) ru fun s₄ R₄ => ?_))
  exact wpAny_assignInOrder_none (wpAny_pure ⟨_, _, R₄, q⟩)

/-! ghosts: reads and stores of an object under construction -/
noncomputable def GetFacts (K : Frag) (C : Addr) (nm : Str) : Bool := plainGet K C nm && hasDictIn K C && (match findIn K (.ref C) nm with | some attr => noGet K attr | none => false)
theorem WE_gattr {e : Expr} {nm y : Str} {p : Pos} {pa d : Addr} {ks : List Str} {vs : List V} {u : V} (hg : GetFacts K G.C nm = true) (hy : l.lookup y = some (.gd d ks vs)) (h : WE G r sc l e (· = .obj pa d)) (hf : fieldOf nm ks vs = some u) (hu : ∀ q, u = .raw q → handedIn q = true) (q : Q u)
    (he : ∀ env, eval (.Attribute e nm p) env = (do let o ← eval e env; standAt p.atName; let r ← holding [o] (getAttr o nm true); letTemporaryGo e o r; pure r) := by intro _; with_unfolding_all rfl) :
    WE G r sc l (.Attribute e nm p) Q := fun F z s R => by
  unfold GetFacts at hg
  cases hat : findIn K (.ref G.C) nm with
  | none => rw [hat] at hg; simp at hg
  | some attr =>
    rw [hat] at hg
    simp only [Bool.and_eq_true] at hg
    obtain ⟨⟨hg, hh⟩, hn⟩ := hg
    refine Attribute_any_ (noE (h F z s R) fun xa s₁ ⟨z₁, v, e₁, rz, hv⟩ => ?_) (he _)
    subst hv
    obtain ⟨rfl, ho⟩ := rz
    have R₁ := R.ext e₁
    obtain ⟨m, am, L⟩ := R₁.loc
    obtain ⟨mi, ⟨es, n, xs, hd, fo, rl⟩, ha⟩ := (L.ok y _ hy).of rfl
    have ha : am y = d := ha
    rw [ha] at hd
    obtain ⟨x, gx, rx⟩ := getL_some fo rl hf
    have I : InstAt s₁.heap pa (instObj G.C d) G.C (some (dictOf es n)) := ⟨R₁.sub _ _ ho, rfl, rfl, hd⟩
    exact get_value R₁.inK I (plainGet_of hg).1 (findObj_own hh hat hn gx) (handed_rz rx hu) ⟨z₁, u, e₁.trans (Ext.toks e₁.sub _), rx, q⟩

noncomputable def fputK (nm : Str) : List Str → List Str
  | [] => [nm]
  | k :: ks => if k == nm then k :: ks else k :: fputK nm ks
noncomputable def fputV {α : Type} (nm : Str) (v : α) : List Str → List α → List α
  | k :: ks, u :: us => if k == nm then v :: us else u :: fputV nm v ks us
  | _, _ => [v]
theorem fput_ok {nm : Str} {hsh : Int} {t : Tok} {val : Value} : ∀ {ks : List Str} {xs : List Value} {es : List DictEntry}, FieldsOk ks xs es → FieldsOk (fputK nm ks) (fputV nm val ks xs) (putL nm hsh (.str nm t) val es)
  | [], [], [], _ => ⟨rfl, ⟨t, rfl⟩, trivial⟩
  | k :: ks, x :: xs, e :: es, ⟨h1, ⟨t', h2⟩, h3⟩ => by
    have hk : e.key.isStr nm = (k == nm) := by rw [h2]; rfl
    unfold fputK fputV putL
    rw [hk]
    cases q : k == nm with
    | true => exact ⟨rfl, ⟨t', h2⟩, h3⟩
    | false => exact ⟨h1, ⟨t', h2⟩, fput_ok h3⟩
theorem fput_rl {C : Addr} {z : Zp} {nm : Str} {v : V} {val : Value} (rz : Rz C z v val) : ∀ {ks : List Str} {vs : List V} {xs : List Value}, ks.length = vs.length → RzL C z vs xs → RzL C z (fputV nm v ks vs) (fputV nm val ks xs)
  | [], [], _, _, rl => by cases rl; exact RzL.one rz
  | k :: ks, u :: us, _, hl, ⟨x, r, e, h1, h2⟩ => by
    subst e
    unfold fputV
    cases q : k == nm with
    | true => exact ⟨val, r, rfl, rz, h2⟩
    | false => exact ⟨x, fputV nm val ks r, rfl, h1, fput_rl rz (by simpa using hl) h2⟩
theorem FieldsOk.lens {ks : List Str} {xs : List Value} {es : List DictEntry} (h : FieldsOk ks xs es) : ks.length = xs.length ∧ es.length = ks.length := by
  induction ks generalizing xs es with
  | nil =>
    cases xs with
    | nil => cases es with
      | nil => exact ⟨rfl, rfl⟩
      | cons e es => exact False.elim h
    | cons x xs => exact False.elim h
  | cons k ks ih =>
    cases xs with
    | nil => exact False.elim h
    | cons x xs => cases es with
      | nil => exact False.elim h
      | cons e es =>
        have t := ih h.2.2
        exact ⟨congrArg Nat.succ t.1, congrArg Nat.succ t.2⟩
theorem putL_len {nm : Str} {hsh : Int} {key val : Value} : ∀ {es : List DictEntry}, (putL nm hsh key val es).length ≤ es.length + 1
  | [] => by simp [putL]
  | e :: es => by
    unfold putL
    split
    · simp
    · simp only [List.length_cons]; have := putL_len (nm := nm) (hsh := hsh) (key := key) (val := val) (es := es); omega

noncomputable def SetFacts (K : Frag) (C : Addr) (nm : Str) : Bool := findIn K (.ref C) "__setattr__" == some (some (.builtin "object.__setattr__")) && plainOver K C && takerIn K C nm == some none && hasDictIn K C

theorem set_ghost {F : Frm G r sc} {z : Zp} {s : Shared} {nm y : Str} {pa d : Addr} {ks : List Str} {vs : List V} {v : V} {val : Value} {P : Unit → Shared → Prop} (R : Rep F l z s) (hg : SetFacts K G.C nm = true) (hy : l.lookup y = some (.gd d ks vs)) (ho : z pa = some (instObj G.C d)) (rz : Rz G.C z v val) (hz : ks.length ≤ 900)
    (h : ∀ s', Rep F (upd l y (.gd d (fputK nm ks) (fputV nm v ks vs))) z s' → P () s') : wpAny (model prog w) F.A (setAttr (.ref pa) nm val) P (fun _ _ => False) s := by
  unfold SetFacts at hg
  simp only [Bool.and_eq_true, beq_iff_eq] at hg
  obtain ⟨⟨⟨hs, hp⟩, ht⟩, hh⟩ := hg
  have X := R.inK
  obtain ⟨m, am, L⟩ := R.loc
  obtain ⟨mi, ⟨es, n, xs, hd, fo, rl⟩, ha⟩ := (L.ok y _ hy).of rfl
  have ha : am y = d := ha
  rw [ha] at hd
  have I : InstAt s.heap pa (instObj G.C d) G.C (some (dictOf es n)) := ⟨R.sub _ _ ho, rfl, rfl, hd⟩
  obtain ⟨l1, l2⟩ := fo.lens
  refine set_plain X I hs (osa_open (s := { s with toks := s.toks + 1 }) X I hp ht fun b => ?_)
  obtain ⟨cd, hc, hd'⟩ := any_some (show (clsIn K G.C).any (·.hasDict) = true from hh)
  have nop : es.any (·.refKey) = false := fo.noRef
  have hput := putName_dict nm (PyData.keyHash w.params nm) (.str nm (s.toks + 1)) val es n
  have D' : (s.heap.update d (Obj.putName nm (PyData.keyHash w.params nm) (.str nm (s.toks + 1)) val)).get? d = some (dictOf (putL nm (PyData.keyHash w.params nm) (.str nm (s.toks + 1)) val es) (putN nm es n)) := by
    rw [← hput]; exact Heap.get?_update_self _ hd (by rw [hput]; rfl)
  refine wpAny_bind (wpAny_pure (wpAny_bind (wpAny_bind (wpAny_loadPart (R.sub _ _ ho) (wpAny_bind (Looks.here (s := { s with toks := s.toks + 1 }) (looks_clsIn X hc) ?_))))))
  rw [hd']
  refine wpAny_pure (a := some d) (wpAny_bind (wpAny_pure (wpAny_bind ?_)))
  unfold nsSet
  refine wpAny_bind (wpAny_bind (wpAny_askSetting (wpAny_pure (wpAny_bind (wpAny_mkText (wpAny_bind (wpAny_loadPart hd ?_)))))))
  have c : (!es.toArray.any (·.key.isStr nm) && es.toArray.any (·.refKey)) = false := by
    rw [← Array.any_toList, ← Array.any_toList, List.toList_toArray, nop, Bool.and_false]
  dsimp only
  rw [aRefKeyMayBeTheName_at, c]
  refine wpAny_updatePart hd ?_
  have hlen := putL_len (nm := nm) (hsh := PyData.keyHash w.params nm) (key := .str nm (s.toks + 1)) (val := val) (es := es)
  refine wpAny_bind (wpAny_lookBehind D' (pastItsLine_dict (by rw [List.size_toArray, sizeLine_eq]; omega)) ?_)
  have sb : Heap.SameBut d s.heap (s.heap.update d (Obj.putName nm (PyData.keyHash w.params nm) (.str nm (s.toks + 1)) val)) := Heap.SameBut.update ..
  refine wpAny_pure (h _ (R.end.turn (t := s.toks + 2) L hy rfl rfl (fun _ t => t) (by rw [ha]; exact sb) ⟨_, _, _, by rw [ha]; exact D', fput_ok fo, fput_rl rz (by rw [l1, rl.length]) rl⟩))

/-- o.nm = e -/
theorem WX_gset {o e : Expr} {nm y : Str} {p p' : Pos} {pa d : Addr} {ks : List Str} {vs : List V} (hg : SetFacts K G.C nm = true) (hy : l.lookup y = some (.gd d ks vs)) (hz : ks.length ≤ 900)
    (h : WE G r sc l e fun v => WE G r sc l o (· = .obj pa d) ∧ k.nx (upd l y (.gd d (fputK nm ks) (fputV nm v ks vs)))) (hc : noComp e = true := by rfl) : WX G r sc l (.Assign [.Attribute o nm p'] e p) k := fun F z s R =>
  plainObj_wpAny_Assign_Attribute (noE (h F z s R) fun val s₁ ⟨z₁, v, e₁, rz, ho, q⟩ => noE (ho F z₁ s₁ (R.ext e₁)) fun xo s₂ ⟨z₂, vo, e₂, ro, hv⟩ => by
    subst hv
    obtain ⟨rfl, hob⟩ := ro
    exact set_ghost ((R.ext e₁).ext e₂) hg hy hob (rz.mono e₂.zz) hz fun s₃ R₃ => ⟨z₂, _, R₃, q⟩) (swaps_no hc _ _ _)

/-! new things of the frame -/
theorem RepO.adopt {F : Frm G r sc} {z : Zp} {s : Shared} {a : Addr} {ad : List Addr} {y : Str} {u : LV} (R : RepO F l z s (a :: ad)) (hn : a ∉ ad) (hu : u.mine = true) (ht : ∀ h m am, am y = a → F.Tag h m am y u) (hc : Cont G.C z s.heap a u) : RepO F (put l y u) z s ad := by
  obtain ⟨m, am, E, L, O⟩ := R
  obtain ⟨o1, o2, o3, o4, o5⟩ := O a (List.mem_cons_self ..)
  obtain ⟨am', e, e'⟩ : ∃ am' : Str → Addr, am' y = a ∧ ∀ x, x ≠ y → am' x = am x := ⟨fun x => if x = y then a else am x, if_pos rfl, fun x n => if_neg n⟩
  refine ⟨m, am', E, L.put L.ns (fun _ _ _ n => n) (fun _ _ v _ _ q => ⟨v, q⟩) (fun _ _ _ _ _ => rfl) e' (.to hu ⟨by rw [e]; exact ⟨⟨o1, o2⟩, o3, o4⟩, by rw [e]; exact hc, ht _ _ _ e⟩) (fun _ x w n hl hw => by rw [e]; exact o5 x w hl hw) (fun x q => by subst q; cases hu), fun b hb => ?_⟩
  obtain ⟨p1, p2, p3, p4, p5⟩ := O b (List.mem_cons_of_mem _ hb)
  refine ⟨p1, p2, p3, p4, fun x w hl hw => ?_⟩
  rcases put_lookup L.nd hl with ⟨rfl, _⟩ | ⟨n, hl, _⟩
  · rw [e]; exact fun q => hn (q ▸ hb)
  · rw [e' x n]; exact p5 x w hl hw

/-- o.nm = [] : a new ghost list -/
theorem WX_gsetNew {o : Expr} {nm y yn : Str} {p p' pl : Pos} {pa d : Addr} {ks : List Str} {vs : List V} (hg : SetFacts K G.C nm = true) (hy : l.lookup y = some (.gd d ks vs)) (hz : ks.length ≤ 900) (hne : yn ≠ y)
    (h : ∀ a, WE G r sc (put l yn (.gl a [])) o (· = .obj pa d) ∧ k.nx (upd (put l yn (.gl a [])) y (.gd d (fputK nm ks) (fputV nm (.raw (.ref a)) ks vs)))) : WX G r sc l (.Assign [.Attribute o nm p'] (.List [] pl) p) k := fun F z s R =>
  plainObj_wpAny_Assign_Attribute (wpAny_List (wpAny_pure ⟨Nat.zero_le _, by
    have ex : Ext z s z { s with heap := s.heap.push { cls := .type "list", data := .seq ([] : List Value).toArray } } := Ext.grow (t := s.toks) R.sub fun b o e => Heap.get?_push_of_some { cls := .type "list", data := .seq ([] : List Value).toArray } e
    have RO : RepO F l z { s with heap := s.heap.push { cls := .type "list", data := .seq ([] : List Value).toArray } } [s.heap.objs.size] := R.beside ex fun b hb => by
      rw [List.mem_singleton.mp hb]; exact ⟨get_fresh _, R.sub.fresh⟩
    have R₁ := (RO.adopt (y := yn) (u := .gl s.heap.objs.size []) (by simp) rfl (fun _ _ _ e => e) ⟨[], ⟨0, Heap.get?_push_size _ rfl⟩, rfl⟩).rep
    obtain ⟨ho, q⟩ := h s.heap.objs.size
    refine noE (ho F z _ R₁) fun xo s₂ ⟨z₂, vo, e₂, ro, hv⟩ => ?_
    subst hv
    obtain ⟨rfl, hob⟩ := ro
    have hy' : (put l yn (.gl s.heap.objs.size [])).lookup y = some (.gd d ks vs) := by
      obtain ⟨m, am, L⟩ := R.loc
      refine mem_lookup (put_nodup L.nd) (List.mem_cons_of_mem _ (List.mem_filter.mpr ⟨lookup_mem hy, ?_⟩))
      have : (y == yn) = false := by simpa using Ne.symm hne
      show (!(y == yn) && !(LV.isApp yn (.gd d ks vs))) = true
      rw [this]; rfl
    exact set_ghost (R₁.ext e₂) hg hy' hob (v := .raw (.ref s.heap.objs.size)) rfl hz fun s₃ R₃ => ⟨z₂, _, R₃, q⟩⟩)) (swaps_no rfl _ _ _)
end
end Mine

end
section
open PySem PySem.W PySem.Calls PyProof.Rows
set_option linter.unusedVariables false
set_option maxRecDepth 100000
namespace Mine
section
variable {prog : Program} {w : World} {K : Frag} {G : Gl prog w K} {r : Nat} {sc : Scope} {l : Locs} {k : Kt} {Q : V → Prop}

/-! subscripts -/
noncomputable def Item (G : Gl prog w K) (a b : V) (Q : V → Prop) : Prop :=
  ∀ A z s xa xb, A.handled = none → Room 0 A → (∀ b o, G.zB b = some o → z b = some o) → Sub z s.heap → Rz G.C z a xa → Rz G.C z b xb → ItemOn (model prog w) A (fun _ _ => False) xa xb (Ret G z s Q) s

theorem subTail {A : Around} {E : Value → Shared → Prop} {s : Shared} {value slice : Expr} {o i : Value} {Q : Value → Shared → Prop} (h : ItemOn (model prog w) A E o i Q s)
    (hs : subscripted slice false o i = operate [o, i] (getItem o i) ∨ subscripted slice false o i = operate [i, o] (getItem o i)) : wpAny (model prog w) A (subscriptTail value slice o i) Q E s := by
  obtain ⟨T, id, hl, hT, hg⟩ := h
  unfold subscriptTail
  refine wpAny_bind ?_
  rw [getitemInPython_of_ne hT.not_modules]
  refine wpAny_bind (wpAny_specialOf hT hl ?_)
  have fin : wpAny (model prog w) A (subscripted slice false o i) (fun r s₃ => wpAny (model prog w) A (letTemporaryGo value o r >>= fun _ => pure r) Q E s₃) E s := by
    rcases hs with hs | hs
    · rw [hs]
      exact wpAny_operating (wpAny_mono hg (fun r s₃ h₃ => wpAny_bind (wpAny_letTemporaryGo (wpAny_pure h₃))) fun _ _ x => x)
    · rw [hs]
      exact wpAny_operating (wpAny_mono hg (fun r s₃ h₃ => wpAny_bind (wpAny_letTemporaryGo (wpAny_pure h₃))) fun _ _ x => x)
  first
    | exact wpAny_pure (wpAny_bind fin)
    | exact wpAny_bind (wpAny_pure (wpAny_bind fin))
    | exact wpAny_bind fin

theorem WE_sub {value slice : Expr} {p : Pos} (h : WE G r sc l value fun o => WE G r sc l slice fun i => Item G o i Q) (hs : ∀ o i, subscripted slice false o i = operate [o, i] (getItem o i) := by intro _ _; with_unfolding_all rfl) :
    WE G r sc l (.Subscript value slice p) Q := fun F z s R =>
  Subscript_ (noE (h F z s R) fun xo s₁ ⟨z₁, vo, e₁, ro, h₁⟩ => noE (h₁ F z₁ s₁ (R.ext e₁)) fun xi s₂ ⟨z₂, vi, e₂, ri, h₂⟩ =>
    noE (subTail (h₂ F.A z₂ s₂ xo xi F.hh F.room0 (R.ext (e₁.trans e₂)).zBsub e₂.sub (ro.mono e₂.zz) ri) (.inl (hs _ _))) fun _ _ q => ret_trans (e₁.trans e₂) q)

theorem S_str {x : Str} {i : Int} (hr : fitsSsize i = true) (hin : (Txt.charAt x i).isSome = true) (h : Q (.str (Txt.item x i))) : Item G (.str x) (.int i) Q := fun A z s xa xb hh hR zB hs ⟨t, ra⟩ ⟨u, rb⟩ => by
  subst ra rb; exact SB.item hr hin (ret_of h (Ext.toks hs _) ⟨_, rfl⟩)
theorem S_lst {vs : List V} {i : Int} {v : V} (h0 : 0 ≤ i) (hi : i < 2 ^ 63) (hv : vs[i.toNat]? = some v) (h : Q v) : Item G (.lst vs) (.int i) Q := fun A z s xa xb hh hR zB hs ra ⟨u, rb⟩ => by
  subst rb
  obtain ⟨a, xs, rfl, sq, rl⟩ := ra
  obtain ⟨x, hx, rz⟩ := rl.get _ _ hv
  have hl := isList_of (sq.mono fun o e => hs _ _ e)
  exact ⟨"list", _, slot_list_getitem.lookup, hl.typeIs, wpAny_getItem_list hl h0 hi (x := x) (by simpa using hx) (ret_of h (Ext.refl hs) rz)⟩
theorem S_last {vs : List V} {v : V} (hsz : vs.length ≤ sizeLine) (hv : vs.getLast? = some v) (h : Q v) : Item G (.lst vs) (.int (-1)) Q := fun A z s xa xb hh hR zB hs ra ⟨u, rb⟩ => by
  subst rb
  obtain ⟨a, xs, rfl, sq, rl⟩ := ra
  have hlen := rl.length
  have hne : vs ≠ [] := fun e => by rw [e] at hv; cases hv
  have hpos : 0 < vs.length := List.length_pos_iff.mpr hne
  have hv' : vs[vs.length - 1]? = some v := by rw [← hv, List.getLast?_eq_getElem?]
  obtain ⟨x, hx, rz⟩ := rl.get _ _ hv'
  have hl := isList_of (sq.mono fun o e => hs _ _ e)
  have e1 : ((-1 : Int) + (xs.toArray.size : Nat)).toNat = vs.length - 1 := by rw [List.size_toArray, hlen]; omega
  refine ⟨"list", _, slot_list_getitem.lookup, hl.typeIs, wpAny_getItem_list_neg hl (by omega) (by rw [List.size_toArray, hlen]; omega) (by decide) (x := x) (by rw [e1]; simpa using hx) (ret_of h (Ext.refl hs) rz)⟩
theorem S_tup {vs : List V} {i : Int} {v : V} (h0 : 0 ≤ i) (hi : i < 2 ^ 63) (hv : vs[i.toNat]? = some v) (h : Q v) : Item G (.tup vs) (.int i) Q := fun A z s xa xb hh hR zB hs ra ⟨u, rb⟩ => by
  subst rb
  obtain ⟨a, xs, rfl, sq, rl⟩ := ra
  obtain ⟨x, hx, rz⟩ := rl.get _ _ hv
  have ht : IsTup s.heap a xs.toArray := isTuple_of (sq.mono fun o e => hs _ _ e)
  have hlt : i.toNat < xs.length := by
    rcases Nat.lt_or_ge i.toNat xs.length with h | h
    · exact h
    · rw [List.getElem?_eq_none h] at hx; cases hx
  refine ⟨"tuple", _, slot_tuple_getitem.lookup, ht.typeIs, getItem_tuple ht (by omega) hi (j := i.toNat) ?_ (x := x) (by simpa using hx) (ret_of h (Ext.refl hs) rz)⟩
  unfold seqIndex?
  simp
  omega

/-! slices -/
noncomputable def WP (G : Gl prog w K) (r : Nat) (sc : Scope) (l : Locs) : Option Expr → (Option Int → Prop) → Prop
  | none, Q => Q none
  | some e, Q => WE G r sc l e fun v => ∃ i, v = .int i ∧ Q (some i)
theorem WP.run {F : Frm G r sc} {e : Option Expr} {Q : Option Int → Prop} (h : WP G r sc l e Q) {z : Zp} {s : Shared} (R : Rep F l z s) :
    wpAny (model prog w) F.A (evalPart e F.env) (fun x s' => ∃ z' lo, Ext z s z' s' ∧ x = partValue lo ∧ Q (lo.map (·.1))) (fun _ _ => False) s := by
  cases e with
  | none => exact evalPart_none_step ⟨z, none, Ext.refl R.sub, rfl, h⟩
  | some e => exact evalPart_some_step (noE (h F z s R) fun x s₁ ⟨z₁, v, e₁, rz, i, hv, q⟩ => by
      subst hv
      obtain ⟨t, rfl⟩ := rz
      exact ⟨z₁, some (i, t), e₁, rfl, q⟩)

noncomputable def Slc (G : Gl prog w K) (a : V) (lo hi : Option Int) (Q : V → Prop) : Prop :=
  ∀ A z s xa a' (plo phi : Option (Int × Tok)), A.handled = none → (∀ b o, G.zB b = some o → z b = some o) → Sub z s.heap → Rz G.C z a xa → plo.map (·.1) = lo → phi.map (·.1) = hi →
    s.heap.get? a' = some { cls := .type "slice", data := .fields #[partValue plo, partValue phi, .none] } →
    ItemOn (model prog w) A (fun _ _ => False) xa (.ref a') (Ret G z s Q) s

theorem WE_slc {value : Expr} {lower upper : Option Expr} {p p' : Pos} (h : WE G r sc l value fun o => WP G r sc l lower fun lo => WP G r sc l upper fun hi => Slc G o lo hi Q) : WE G r sc l (.Subscript value (.Slice lower upper none p') p) Q := fun F z s R =>
  Subscript_ (noE (h F z s R) fun xo s₁ ⟨z₁, vo, e₁, ro, h₁⟩ => wpAny_Slice (noE (h₁.run (R.ext e₁)) fun xl s₂ ⟨z₂, plo, e₂, hl, h₂⟩ => noE (h₂.run ((R.ext e₁).ext e₂)) fun xu s₃ ⟨z₃, phi, e₃, hu, h₃⟩ => by
    rw [evalPart_none]
    have e13 := e₁.trans (e₂.trans e₃)
    have ex : Ext z₃ s₃ z₃ { s₃ with heap := s₃.heap.push { cls := .type "slice", data := .fields #[xl, xu, .none] } } := Ext.grow (t := s₃.toks) e₃.sub fun b o e => Heap.get?_push_of_some _ e
    refine wpAny_pure (noE (subTail (h₃ F.A z₃ _ xo s₃.heap.objs.size plo phi F.hh (R.ext e13).zBsub ex.sub (ro.mono fun b o e => e₃.zz b o (e₂.zz b o e)) rfl rfl (by rw [← hl, ← hu]; exact Heap.get?_push_size _ rfl)) (.inr (by rfl))) fun _ _ q => ret_trans (e13.trans ex) q)))

theorem SL_str {x : Str} {lo hi : Option Int} (hsz : x.length ≤ sizeLine) (h : Q (.str (Txt.slice x lo hi))) : Slc G (.str x) lo hi Q := fun A z s xa a' plo phi hh zB hs ⟨t, ra⟩ h1 h2 ha => by
  subst ra h1 h2
  exact ⟨"str", _, F.slot_str_getitem.lookup, typeIs_str _ _ _, wpAny_getItem_str_slice (l := plo) (u := phi) (st := none) ⟨_, ha, rfl, rfl⟩ rfl
    (post_val_or_str ⟨Nat.le_trans (Txt.slice_le x _ _) hsz, fun t' k => ret_of h (Ext.toks hs k) ⟨_, rfl⟩⟩)⟩

theorem SL_lst {vs us : List V} {lo hi : Option Int} (hsz : vs.length ≤ sizeLine) (hp : ∀ (xs : List Value), xs.length = vs.length → ∃ ys : List Value, slicePick xs.toArray lo hi Option.none = ys.toArray ∧ (∀ C z, RzL C z vs xs → RzL C z us ys)) (h : Q (.lst us)) : Slc G (.lst vs) lo hi Q := fun A z s xa a' plo phi hh zB hs ra h1 h2 ha => by
  obtain ⟨a, xs, rfl, sq, rl⟩ := ra
  obtain ⟨ys, hy, hr⟩ := hp xs rl.length
  have hl := isList_of (sq.mono fun o e => hs _ _ e)
  have hz := hs.fresh
  refine ⟨"list", _, list_getitem_lookup, hl.typeIs, wpAny_getItem_list_slice (lo := lo) (hi := hi) (st := none) hl ⟨_, ha, rfl, rfl⟩ ?_ ?_ .none (by simp) ?_ (by rw [List.size_toArray, rl.length]; exact hsz)⟩
  · subst h1; cases plo with
    | none => exact .none
    | some p => exact .int _ _
  · subst h2; cases phi with
    | none => exact .none
    | some p => exact .int _ _
  · rw [hy]
    exact ⟨_, .lst us, Ext.push hs (o := { cls := .type "list", data := .seq ys.toArray }) rfl, ⟨_, ys, rfl, ⟨_, 0, Zp.put_self, rfl, rfl, rfl⟩, RzL.mono (Zp.put_old hz) (hr _ _ rl)⟩, h⟩
theorem RzL.drop {C : Addr} {z : Zp} : ∀ {n : Nat} {vs : List V} {xs : List Value}, RzL C z vs xs → RzL C z (vs.drop n) (xs.drop n)
  | 0, _, _, h => by simpa using h
  | n + 1, [], _, h => by cases h; exact rfl
  | n + 1, v :: vs, _, ⟨x, r, e, _, t⟩ => by subst e; simpa using RzL.drop (n := n) t
theorem RzL.take {C : Addr} {z : Zp} : ∀ {n : Nat} {vs : List V} {xs : List Value}, RzL C z vs xs → RzL C z (vs.take n) (xs.take n)
  | 0, _, _, h => by simp only [List.take_zero]; exact rfl
  | n + 1, [], _, h => by cases h; exact rfl
  | n + 1, v :: vs, _, ⟨x, r, e, h1, t⟩ => by subst e; simp only [List.take_succ_cons]; exact ⟨x, _, rfl, h1, RzL.take (n := n) t⟩
theorem SL_from {vs : List V} (n : Nat) (hsz : vs.length ≤ sizeLine) (h : Q (.lst (vs.drop n))) : Slc G (.lst vs) (some (n : Int)) none Q :=
  SL_lst hsz (fun xs _ => ⟨xs.drop n, by rw [slicePick_from'], fun C z rl => rl.drop⟩) h
theorem SL_upto {vs : List V} (n : Nat) (hsz : vs.length ≤ sizeLine) (h : Q (.lst (vs.take n))) : Slc G (.lst vs) none (some (n : Int)) Q :=
  SL_lst hsz (fun xs _ => ⟨xs.take n, by rw [slicePick_upto'], fun C z rl => rl.take⟩) h
end
end Mine

end
section
open PySem PySem.W PySem.Calls PyProof.Rows
set_option linter.unusedVariables false
set_option maxRecDepth 100000
namespace Mine
section
variable {prog : Program} {w : World} {K : Frag} {G : Gl prog w K} {r : Nat} {sc : Scope} {l : Locs} {k : Kt} {Q : V → Prop} {P : Bool → Prop}

/-! built-in functions and methods -/
theorem B_len_str {x : Str} (hs : x.length ≤ sizeLine) (h : Q (.int x.length)) : CS G r (.builtin "len") [.str x] Q := fun A z s xs hh hR zB hsub rl => by
  obtain ⟨x1, _, rfl, ⟨t, rfl⟩, rfl⟩ := rl
  exact PySem.P.len_str (by rw [sizeLine_eq] at hs; omega) (ret_of h (Ext.toks hsub _) ⟨_, rfl⟩)
theorem B_len_lst {vs : List V} (hs : vs.length ≤ sizeLine) (h : Q (.int vs.length)) : CS G r (.builtin "len") [.lst vs] Q := fun A z s xs hh hR zB hsub rl => by
  obtain ⟨x1, _, rfl, ⟨a, ys, rfl, sq, rl⟩, rfl⟩ := rl
  have hl := isList_of (sq.mono fun o e => hsub _ _ e)
  have hn := rl.length
  refine Calls.call_len_list hl (by rw [List.size_toArray, hn]; rw [sizeLine_eq] at hs; omega) (ret_of (v := .int ys.toArray.size) ?_ (Ext.toks hsub _) ⟨_, rfl⟩)
  rw [List.size_toArray, hn]; exact h
theorem B_isi_str {x : Str} (h : Q (.bool true)) : CS G r (.builtin "isinstance") [.str x, .raw (.type "str")] Q := fun A z s xs hh hR zB hsub rl => by
  obtain ⟨x1, _, rfl, ⟨t, rfl⟩, x2, _, rfl, hx, rfl⟩ := rl
  have hx : x2 = .type "str" := hx
  subst hx
  exact IsiPair.str_str (ret_of h (Ext.refl hsub) rfl)
theorem B_isi_bool {b : Bool} (h : Q (.bool true)) : CS G r (.builtin "isinstance") [.bool b, .raw (.type "bool")] Q := fun A z s xs hh hR zB hsub rl => by
  obtain ⟨x1, _, rfl, hb, x2, _, rfl, hx, rfl⟩ := rl
  have hx : x2 = .type "bool" := hx
  have hb : x1 = .bool b := hb
  subst hx hb
  exact IsiPair.bool_bool (ret_of h (Ext.refl hsub) rfl)
theorem B_str_int {i : Int} (hi : i.natAbs.log2 < 1920) (h : Q (.str (toString i))) : CS G r (.type "str") [.int i] Q := fun A z s xs hh hR zB hsub rl => by
  obtain ⟨x1, _, rfl, ⟨t, rfl⟩, rfl⟩ := rl
  exact PySem.P.str_of_int hi (ret_of h (Ext.toks hsub _) ⟨_, rfl⟩)

theorem M_lower {x : Str} (hf : Builtin.Str.tooLong (Txt.lower x).length = false) (h : Q (.str (Txt.lower x))) : CS G r (.builtin "str.lower") [.str x] Q := fun A z s xs hh hR zB hsub rl => by
  obtain ⟨x1, _, rfl, ⟨t, rfl⟩, rfl⟩ := rl
  exact call_gives F.slot_str_lower (typeIs_str _ _ _) F.entry_str_lower (F.args_str_lower_1 _) (gives_str_lower x t hf) ⟨fit_le hf, ret_of h (Ext.toks hsub _) ⟨_, rfl⟩⟩
theorem M_upper {x : Str} (hf : Builtin.Str.tooLong (Txt.upper x).length = false) (h : Q (.str (Txt.upper x))) : CS G r (.builtin "str.upper") [.str x] Q := fun A z s xs hh hR zB hsub rl => by
  obtain ⟨x1, _, rfl, ⟨t, rfl⟩, rfl⟩ := rl
  exact call_gives F.slot_str_upper (typeIs_str _ _ _) F.entry_str_upper (F.args_str_upper_1 _) (gives_str_upper x t hf) ⟨fit_le hf, ret_of h (Ext.toks hsub _) ⟨_, rfl⟩⟩

theorem strs_are {C : Addr} {z : Zp} : ∀ {ys : List Str} {xs : List Value}, RzL C z (ys.map V.str) xs → StrsAre xs ys
  | [], _, h => by cases h; exact .nil
  | y :: ys, _, ⟨x, r, e, ⟨t, ht⟩, hr⟩ => by subst e ht; exact .cons _ _ (strs_are hr)
theorem M_join {x : Str} {ys : List Str} (hok : (ys.map (·.length)).sum + ys.length * x.length ≤ 16777216) (h : Q (.str (Txt.join x ys))) : CS G r (.builtin "str.join") [.str x, .lst (ys.map .str)] Q := fun A z s xs hh hR zB hsub rl => by
  obtain ⟨x1, _, rfl, ⟨t, rfl⟩, x2, _, rfl, ⟨a, us, rfl, sq, ru⟩, rfl⟩ := rl
  exact PyProof.Rows.join_list (isList_of (sq.mono fun o e => hsub _ _ e)) (by simpa using strs_are ru) hok fun t' k => ret_of h (Ext.toks hsub _) ⟨_, rfl⟩
theorem strvals_rz {C : Addr} {z : Zp} : ∀ (l : List (Str × Tok)), RzL C z ((l.map (·.1)).map V.str) (strValues l)
  | [] => rfl
  | (y, t) :: l => ⟨.str y t, strValues l, rfl, ⟨t, rfl⟩, strvals_rz l⟩
theorem ext_list {z : Zp} {s : Shared} {h' : Heap} {k : Nat} {D : Addr} {xs : List Value} (hs : Sub z s.heap) (kp : ∀ b o, s.heap.get? b = some o → h'.get? b = some o) (hn : s.heap.get? D = none) {o : Obj} (ho : h'.get? D = some o) : Ext z s (z.put D o) { s with heap := h', toks := k } := by
  have hz : z D = none := by
    cases q : z D with
    | none => rfl
    | some o => rw [hs _ _ q] at hn; cases hn
  refine ⟨Zp.put_old hz, fun b q e => ?_, kp, fun b q e n => ?_, rfl, rfl, rfl⟩
  · by_cases hb : b = D
    · subst hb; rw [Zp.put_self] at e; cases e; exact ho
    · exact kp b q (hs b q (by simpa [Zp.put, hb] using e))
  · by_cases hb : b = D
    · subst hb; exact hn
    · simp [Zp.put, hb, n] at e

/-! comparisons by identity -/
noncomputable def V.plain1 : V → Bool
  | .nil | .bool _ | .str _ | .int _ | .tup _ | .lst _ => true
  | _ => false
theorem C_isN {v : V} (hv : v ≠ .nil) (hp : v.plain1 = true) (h : Q (.bool false)) : Act2 G (compareOp .Is) v .nil Q := fun A z s xa xb hh hr zB hs ra rb => by
  have rb : xb = .none := rb
  subst rb
  have hx : ∃ y, xa = y ∧ plainIs y .none = true ∧ y ≠ .none := by
    cases v <;> first | exact absurd rfl hv | exact absurd hp Bool.false_ne_true | skip
    · have ra : xa = .bool _ := ra; subst ra; exact ⟨_, rfl, rfl, by simp⟩
    · obtain ⟨t, rfl⟩ := ra; exact ⟨_, rfl, rfl, by simp⟩
    · obtain ⟨t, rfl⟩ := ra; exact ⟨_, rfl, rfl, by simp⟩
    · obtain ⟨a, _, rfl, _⟩ := ra; exact ⟨_, rfl, rfl, by simp⟩
    · obtain ⟨a, _, rfl, _⟩ := ra; exact ⟨_, rfl, rfl, by simp⟩
  obtain ⟨y, rfl, h1, h2⟩ := hx
  exact wpAny_is_other h1 h2 (ret_of h (Ext.refl hs) rfl)
theorem C_isNN {v : V} (hv : v ≠ .nil) (hp : v.plain1 = true) (h : Q (.bool true)) : Act2 G (compareOp .IsNot) v .nil Q := fun A z s xa xb hh hr zB hs ra rb => by
  have rb : xb = .none := rb
  subst rb
  have hx : ∃ y, xa = y ∧ plainIs y .none = true ∧ y ≠ .none := by
    cases v <;> first | exact absurd rfl hv | exact absurd hp Bool.false_ne_true | skip
    · have ra : xa = .bool _ := ra; subst ra; exact ⟨_, rfl, rfl, by simp⟩
    · obtain ⟨t, rfl⟩ := ra; exact ⟨_, rfl, rfl, by simp⟩
    · obtain ⟨t, rfl⟩ := ra; exact ⟨_, rfl, rfl, by simp⟩
    · obtain ⟨a, _, rfl, _⟩ := ra; exact ⟨_, rfl, rfl, by simp⟩
    · obtain ⟨a, _, rfl, _⟩ := ra; exact ⟨_, rfl, rfl, by simp⟩
  obtain ⟨y, rfl, h1, h2⟩ := hx
  exact wpAny_isNot_other h1 h2 (ret_of h (Ext.refl hs) rfl)
theorem C_isNil (h : Q (.bool true)) : Act2 G (compareOp .Is) .nil .nil Q := fun A z s xa xb hh hr zB hs ra rb => by
  have ra : xa = .none := ra
  have rb : xb = .none := rb
  subst ra rb
  exact wpAny_is_self rfl (ret_of h (Ext.refl hs) rfl)
theorem C_isNNil (h : Q (.bool false)) : Act2 G (compareOp .IsNot) .nil .nil Q := fun A z s xa xb hh hr zB hs ra rb => by
  have ra : xa = .none := ra
  have rb : xb = .none := rb
  subst ra rb
  exact wpAny_isNot_self rfl (ret_of h (Ext.refl hs) rfl)
/-- is: a str against an object; the object itself -/
theorem C_isRS {a : Addr} {x : Str} (h : Q (.bool true)) : Act2 G (compareOp .IsNot) (.str x) (.raw (.ref a)) Q := fun A z s xa xb hh hr zB hs ⟨t, ra⟩ rb => by
  have rb : xb = .ref a := rb
  subst ra rb
  exact wpAny_isNot_other rfl (by simp) (ret_of h (Ext.refl hs) rfl)
theorem C_isSS {a : Addr} {x : Str} (h : Q (.bool false)) : Act2 G (compareOp .Is) (.str x) (.raw (.ref a)) Q := fun A z s xa xb hh hr zB hs ⟨t, ra⟩ rb => by
  have rb : xb = .ref a := rb
  subst ra rb
  exact wpAny_is_other rfl (by simp) (ret_of h (Ext.refl hs) rfl)
theorem C_isRR {a : Addr} (h : Q (.bool true)) : Act2 G (compareOp .Is) (.raw (.ref a)) (.raw (.ref a)) Q := fun A z s xa xb hh hr zB hs ra rb => by
  have ra : xa = .ref a := ra
  have rb : xb = .ref a := rb
  subst ra rb
  exact wpAny_is_ref_self (ret_of h (Ext.refl hs) rfl)
theorem C_isNRR {a : Addr} (h : Q (.bool false)) : Act2 G (compareOp .IsNot) (.raw (.ref a)) (.raw (.ref a)) Q := fun A z s xa xb hh hr zB hs ra rb => by
  have ra : xa = .ref a := ra
  have rb : xb = .ref a := rb
  subst ra rb
  exact wpAny_isNot_ref_self (ret_of h (Ext.refl hs) rfl)

/-! lists of plain data compared -/
mutual
noncomputable def V.dat : V → PyData
  | .bool b => .bool b
  | .int i => .int i
  | .str x => .str x
  | .tup vs => .tuple (V.dats vs)
  | .lst vs => .list (V.dats vs)
  | _ => .none
noncomputable def V.dats : List V → List PyData
  | [] => []
  | v :: vs => V.dat v :: V.dats vs
end
mutual
noncomputable def V.isDat : V → Bool
  | .raw _ | .ins _ _ | .obj _ _ => false
  | .tup vs | .lst vs => V.areDat vs
  | _ => true
noncomputable def V.areDat : List V → Bool
  | [] => true
  | v :: vs => V.isDat v && V.areDat vs
end
mutual
theorem Rz.reads {C : Addr} {z : Zp} {h : Heap} (hs : Sub z h) : ∀ {v : V} {x : Value}, V.isDat v = true → Rz C z v x → ∃ as, Reads h x (V.dat v) as
  | .nil, _, _, e => by cases e; exact ⟨_, .none⟩
  | .bool b, _, _, e => by cases e; exact ⟨_, .bool b⟩
  | .int _, _, _, ⟨t, e⟩ => by cases e; exact ⟨_, .int _ t⟩
  | .str _, _, _, ⟨t, e⟩ => by cases e; exact ⟨_, .str _ t⟩
  | .tup vs, _, hd, ⟨a, xs, e, ⟨o, n, e1, e2, _, e3⟩, r⟩ => by
    subst e
    obtain ⟨as, ra⟩ := RzL.reads hs (by simpa [V.isDat] using hd) r
    exact ⟨_, .tuple (hs _ _ e1) e2 e3 (by simpa using ra)⟩
  | .lst vs, _, hd, ⟨a, xs, e, ⟨o, n, e1, e2, _, e3⟩, r⟩ => by
    subst e
    obtain ⟨as, ra⟩ := RzL.reads hs (by simpa [V.isDat] using hd) r
    exact ⟨_, .list (hs _ _ e1) e2 e3 (by simpa using ra)⟩
  | .raw _, _, hd, _ => by simp [V.isDat] at hd
  | .ins _ _, _, hd, _ => by simp [V.isDat] at hd
  | .obj _ _, _, hd, _ => by simp [V.isDat] at hd
theorem RzL.reads {C : Addr} {z : Zp} {h : Heap} (hs : Sub z h) : ∀ {vs : List V} {xs : List Value}, V.areDat vs = true → RzL C z vs xs → ∃ as, ReadsAll h xs (V.dats vs) as
  | [], _, _, e => by cases e; exact ⟨_, .nil⟩
  | v :: vs, _, hd, ⟨x, r, e, h1, h2⟩ => by
    subst e
    simp only [V.areDat, Bool.and_eq_true] at hd
    obtain ⟨as, ra⟩ := Rz.reads hs hd.1 h1
    obtain ⟨bs, rb⟩ := RzL.reads hs hd.2 h2
    exact ⟨_, .cons ra rb⟩
end
theorem Room.two {A : Around} {n : Nat} (h : Room 0 A) (hn : n ≤ 50) : A.units + n < cLine := by unfold Room at h; omega
theorem C_eqD {v u : V} (hv : v.isDat = true) (hu : u.isDat = true) (cv : v.dat.canLay0 = true) (cu : u.dat.canLay0 = true) (hd : v.dat.depth ≤ 50) (h : Q (.bool (PyData.eqv v.dat u.dat))) : Act2 G (compareOp .Eq) v u Q := fun A z s xa xb hh hr zB hs ra rb => by
  obtain ⟨as, r1⟩ := ra.reads hs hv
  obtain ⟨bs, r2⟩ := rb.reads hs hu
  exact SeqAt.compareEq_reads r1 r2 cv cu (hr.two (Nat.le_trans (Nat.min_le_left _ _) hd)) (ret_of h (Ext.refl hs) rfl)
theorem C_neD {v u : V} (hv : v.isDat = true) (hu : u.isDat = true) (cv : v.dat.canLay0 = true) (cu : u.dat.canLay0 = true) (hd : v.dat.depth ≤ 50) (h : Q (.bool (!PyData.eqv v.dat u.dat))) : Act2 G (compareOp .NotEq) v u Q := fun A z s xa xb hh hr zB hs ra rb => by
  obtain ⟨as, r1⟩ := ra.reads hs hv
  obtain ⟨bs, r2⟩ := rb.reads hs hu
  exact SeqAt.compareNe_reads r1 r2 cv cu (hr.two (Nat.le_trans (Nat.min_le_left _ _) hd)) (ret_of h (Ext.refl hs) rfl)

/-! in a list -/
theorem C_inStrs {x : Str} {ys : List Str} (h : Q (.bool (ys.any (· == x)))) : Act2 G (compareOp .In) (.str x) (.lst (ys.map .str)) Q := fun A z s xa xb hh hr zB hs ⟨t, ra⟩ rb => by
  subst ra
  obtain ⟨a, xs, rfl, sq, rl⟩ := rb
  exact PyProof.Rows.in_list_strs (isList_of (sq.mono fun o e => hs _ _ e)) (strs_are rl) (ret_of h (Ext.refl hs) rfl)
theorem bools_in {C : Addr} {z : Zp} {b : Bool} : ∀ {bs : List Bool} {xs : List Value}, RzL C z (bs.map V.bool) xs → xs.any (· == .bool b) = bs.any (· == b) ∧ ∀ y ∈ xs, ∃ c, y = .bool c
  | [], _, h => by cases h; exact ⟨rfl, fun _ hy => nomatch hy⟩
  | c :: bs, _, ⟨x, r, e, hx, hr⟩ => by
    have hx : x = .bool c := hx
    subst e hx
    obtain ⟨h1, h2⟩ := bools_in (b := b) hr
    refine ⟨?_, fun y hy => ?_⟩
    · rw [List.any_cons, List.any_cons, h1]
      congr 1
      cases b <;> cases c <;> rfl
    · rcases List.mem_cons.mp hy with rfl | hy
      · exact ⟨_, rfl⟩
      · exact h2 y hy
theorem C_inBools {b : Bool} {bs : List Bool} (h : Q (.bool (bs.any (· == b)))) : Act2 G (compareOp .In) (.bool b) (.lst (bs.map .bool)) Q := fun A z s xa xb hh hr zB hs ra rb => by
  have ra : xa = .bool b := ra
  subst ra
  obtain ⟨a, xs, rfl, sq, rl⟩ := rb
  obtain ⟨h1, h2⟩ := bools_in (b := b) rl
  refine SeqAt.in_listAt (fun y => y == .bool b) (isList_of (sq.mono fun o e => hs _ _ e)) (fun y hy => ?_) (ret_of (v := .bool (xs.toArray.any fun y => y == .bool b)) ?_ (Ext.refl hs) rfl)
  · obtain ⟨c, rfl⟩ := h2 y (by simpa using hy)
    have e : (Value.bool c == Value.bool b) = PyData.eqv (.bool c) (.bool b) := by cases c <;> cases b <;> rfl
    show SeqAt.EqAt A.in1 s (.bool c) (.bool b) (Value.bool c == Value.bool b)
    rw [e]
    exact SeqAt.eqAt_reads (.bool c) (.bool b) _ _ _ _ _ _ (.bool c) (.bool b) rfl rfl (by have := hr; unfold Room at this; show A.in1.units + _ < _; exact Nat.lt_of_le_of_lt (by show A.units + 1 + _ ≤ A.units + 50; simp [PyData.depth]) (hr.two (Nat.le_refl 50)))
  · rw [← Array.any_toList]; exact h1 ▸ h

theorem A_catL {vs us : List V} (hsz : vs.length + us.length ≤ sizeLine) (h : Q (.lst (vs ++ us))) : Act2 G (binaryOp .Add) (.lst vs) (.lst us) Q := fun A z s xa xb hh hr zB hs ra rb => by
  obtain ⟨a, xs, rfl, sq, rl⟩ := ra
  obtain ⟨b, ys, rfl, sq', rl'⟩ := rb
  obtain ⟨⟨cls, dd, data, sl⟩, ho, hc, n, hd⟩ := isList_of (sq.mono fun o e => hs _ _ e)
  obtain ⟨⟨cls2, dd2, data2, sl2⟩, ho2, hc2, n2, hd2⟩ := isList_of (sq'.mono fun o e => hs _ _ e)
  simp only at hc hd hc2 hd2
  subst hc hd hc2 hd2
  have e : xs.toArray ++ ys.toArray = (xs ++ ys).toArray := by simp
  refine concat_meets ⟨_, ho, rfl⟩ ⟨_, ho2, rfl⟩ noFill_list_add seq_list_add PySem.F.slot_list_add PySem.F.entry_list_add (PySem.F.args_list_add_2 _ _) (list_addW a b xs.toArray ys.toArray n n2 dd dd2 sl sl2 (by simpa [rl.length, rl'.length] using hsz)) ⟨ho, ho2, ?_⟩
  rw [e]
  have hz := hs.fresh
  exact ⟨_, .lst (vs ++ us), Ext.push hs (o := { cls := .type "list", data := .seq (xs ++ ys).toArray }) rfl, ⟨_, _, rfl, ⟨_, 0, Zp.put_self, rfl, rfl, rfl⟩, RzL.mono (Zp.put_old hz) (RzL.append rl' rl)⟩, h⟩

theorem gt_bool_int_gives (a : Bool) (b : Int) (u : Tok) : Gives (Builtin.«int.__gt__» ⟨[.bool a, .int b u], []⟩) (.val (Value.bool (decide (b2i a > b)))) :=
  .of_wp fun M A E s Q h => by obtain ⟨hp, g, d, tk, os⟩ := s; cases a <;> (wp_walk; exact ⟨_, rfl, h⟩)
theorem C_gtBI {c : Bool} {b : Int} (h : Q (.bool (decide (b2i c > b)))) : Act2 G (compareOp .Gt) (.bool c) (.int b) Q := fun A z s xa xb hh hr zB hs ra ⟨u, rb⟩ => by
  have ra : xa = .bool c := ra
  subst ra rb
  show wpAny _ _ (richCompare .Gt _ _) _ _ _
  exact SeqAt.rc_left_or rfl (typeIs_int s b u) (by decide) F.sub_int_bool F.slot_bool_gt
    (call_gives F.slot_bool_gt rfl F.entry_int_gt (F.args_int_gt_2 _ _) (gt_bool_int_gives c b u) ⟨nofun, ret_of h (Ext.refl hs) rfl⟩) (.inl rfl)

/-! f-strings -/
noncomputable def FmtA (G : Gl prog w K) (v : V) (Q : Str → Prop) : Prop :=
  ∀ A z s x, A.handled = none → Room 0 A → (∀ b o, G.zB b = some o → z b = some o) → Sub z s.heap → Rz G.C z v x →
    wpAny (model prog w) A (formatField x Str.empty) (fun y s' => ∃ z' t u, y = .str t u ∧ Ext z s z' s' ∧ Q t) (fun _ _ => False) s
theorem Fmt_str {x : Str} {Q : Str → Prop} (hs : x.length ≤ sizeLine) (h : Q x) : FmtA G (.str x) Q := fun A z s y hh hR zB hsub ⟨t, e⟩ => by
  subst e; exact PySem.SB.field_str (fun t' k => ⟨z, _, _, rfl, Ext.toks hsub _, h⟩) hs
theorem Fmt_int {i : Int} {Q : Str → Prop} (hi : i.natAbs.log2 < 1920) (h : Q (toString i)) : FmtA G (.int i) Q := fun A z s y hh hR zB hsub ⟨t, e⟩ => by
  subst e; exact wpAny_formatField_int hi ⟨z, _, _, rfl, Ext.toks hsub _, h⟩
theorem WE_fmt {e : Expr} {p : Pos} (h : WE G r sc l e fun v => FmtA G v fun t => Q (.str t)) : WE G r sc l (.FormattedValue e (-1) none p) Q := fun F z s R =>
  wpAny_FormattedValue_plain (noE (h F z s R) fun x s₁ ⟨z₁, v, e₁, rz, q⟩ => noE (q F.A z₁ s₁ x F.hh F.room0 (R.ext e₁).zBsub e₁.sub rz) fun y s₂ ⟨z₂, t, u, hy, e₂, q⟩ => ⟨z₂, .str t, e₁.trans e₂, ⟨u, hy⟩, q⟩)
noncomputable def WJ (G : Gl prog w K) (r : Nat) (sc : Scope) (l : Locs) : List Expr → Str → (Str → Prop) → Prop
  | [], acc, Q => Q acc
  | e :: es, acc, Q => WE G r sc l e fun v => ∃ y, v = .str y ∧ (acc ++ y).length ≤ sizeLine ∧ WJ G r sc l es (acc ++ y) Q
theorem WJ.run {F : Frm G r sc} : ∀ {es : List Expr} {acc : Str} {Q : Str → Prop} {z : Zp} {s : Shared} {P : Str → Shared → Prop}, WJ G r sc l es acc Q → Rep F l z s → (∀ out s' z', Ext z s z' s' → Q out → P out s') →
    Joins (model prog w) F.A (fun _ _ => False) (evalEach es F.env) acc P s
  | [], acc, Q, z, s, P, h, R, k => Joins_nil (k acc s z (Ext.refl R.sub) h)
  | e :: es, acc, Q, z, s, P, h, R, k => Joins_cons (noE (h F z s R) fun x s₁ ⟨z₁, v, e₁, rz, y, hv, hs, q⟩ => by
      subst hv
      obtain ⟨t, rfl⟩ := rz
      exact ⟨y, t, rfl, hs, q.run (R.ext e₁) fun out s' z' e' hq => k out s' z' (e₁.trans e') hq⟩)
theorem WE_joined {e1 e2 : Expr} {es : List Expr} {p : Pos} (h : WJ G r sc l (e1 :: e2 :: es) Str.empty fun out => out.length ≤ sizeLine ∧ Q (.str out)) : WE G r sc l (.JoinedStr (e1 :: e2 :: es) p) Q := fun F z s R =>
  wpAny_JoinedStr (h.run R fun out s' z' e q => ⟨q.1, z', .str out, e.trans (Ext.toks e.sub _), ⟨_, rfl⟩, q.2⟩)
end
end Mine

end
section
open PySem PySem.W PySem.Calls PyProof.Rows
set_option linter.unusedVariables false
set_option maxRecDepth 100000
namespace Mine
section
variable {prog : Program} {w : World} {K : Frag} {G : Gl prog w K} {r : Nat} {sc : Scope} {l : Locs} {k : Kt} {Q : V → Prop}

/-! names forgotten, by computation -/
noncomputable def Has (l : Locs) : Locs → Prop
  | [] => True
  | p :: q => l.lookup p.1 = some p.2 ∧ Has l q
theorem Has.mem : ∀ {l' : Locs}, Has l l' → ∀ p ∈ l', l.lookup p.1 = some p.2
  | _ :: _, ⟨h, t⟩, p, hp => by
    rcases List.mem_cons.mp hp with rfl | hp
    · exact h
    · exact t.mem p hp
noncomputable def ndB : List Str → Bool
  | [] => true
  | x :: xs => !xs.contains x && ndB xs
theorem ndB_nodup : ∀ {l : List Str}, ndB l = true → l.Nodup
  | [], _ => List.nodup_nil
  | x :: xs, h => by
    unfold ndB at h
    rw [Bool.and_eq_true] at h
    exact List.nodup_cons.mpr ⟨by have := h.1; simp at this; exact this, ndB_nodup h.2⟩
theorem Rep.wk {F : Frm G r sc} {z : Zp} {s : Shared} (R : Rep F l z s) (l' : Locs) (h : Has l l') (hn : ndB (l'.map (·.1)) = true) : Rep F l' z s := R.weak (ndB_nodup hn) fun x u e => h.mem (x, u) (lookup_mem e)
theorem WS.wk {st : List Stmt} (l' : Locs) (h : Has l l') (hw : WS G r sc l' st k) (hn : ndB (l'.map (·.1)) = true := by rfl) : WS G r sc l st k := fun F z s R => hw F z s (R.wk l' h hn)
theorem WX.wk {st : Stmt} (l' : Locs) (h : Has l l') (hw : WX G r sc l' st k) (hn : ndB (l'.map (·.1)) = true := by rfl) : WX G r sc l st k := fun F z s R => hw F z s (R.wk l' h hn)
theorem WF.wk {tgt : Expr} {body orelse : List Stmt} {vs : List V} (l' : Locs) (h : Has l l') (hw : WF G r sc tgt body orelse k vs l') (hn : ndB (l'.map (·.1)) = true := by rfl) : WF G r sc tgt body orelse k vs l := by
  cases vs with
  | nil => exact WS.wk l' h hw hn
  | cons v vs => exact fun F z s x R rz => hw F z s x (R.wk l' h hn) rz
theorem WF.mono {tgt : Expr} {body orelse : List Stmt} {k' : Kt} (hn : ∀ l, k.nx l → k'.nx l) (hb : ∀ l, k.bk l → k'.bk l) (hc : ∀ l, k.ct l → k'.ct l) (hr : ∀ v, k.rt v → k'.rt v) : ∀ {vs : List V} {l : Locs}, WF G r sc tgt body orelse k vs l → WF G r sc tgt body orelse k' vs l
  | [], _, h => WS.mono h hn hb hc hr
  | v :: vs, _, h => fun F z s x R rz => noE (h F z s x R rz) fun _ s' ⟨z', l', zz, R', q⟩ => ⟨z', l', zz, R', WS.mono q (fun _ h => WF.mono hn hb hc hr h) (fun l h => hn l h) (fun _ h => WF.mono hn hb hc hr h) hr⟩
theorem WX.mono {st : Stmt} {k' : Kt} (h : WX G r sc l st k) (hn : ∀ l, k.nx l → k'.nx l) (hb : ∀ l, k.bk l → k'.bk l) (hc : ∀ l, k.ct l → k'.ct l) (hr : ∀ v, k.rt v → k'.rt v) : WX G r sc l st k' := fun F z s R =>
  noE (h F z s R) fun f s' p => by
    cases f with
    | next => obtain ⟨z, l, R, q⟩ := p; exact ⟨z, l, R, hn _ q⟩
    | brk => obtain ⟨z, l, R, q⟩ := p; exact ⟨z, l, R, hb _ q⟩
    | cont => obtain ⟨z, l, R, q⟩ := p; exact ⟨z, l, R, hc _ q⟩
    | ret x => obtain ⟨z, v, R, rz, q⟩ := p; exact ⟨z, v, R, rz, hr _ q⟩
/-- a statement, its ends joined -/
theorem WS_join {st : Stmt} {rest : List Stmt} (J : Locs → Prop) (h : WX G r sc l st { k with nx := J }) (h2 : ∀ l, J l → WS G r sc l rest k) : WS G r sc l (st :: rest) k :=
  WS_cons (WX.mono h h2 (fun _ h => h) (fun _ h => h) (fun _ h => h))
theorem WAs.mono {tgt : Expr} {v : V} {P P' : Locs → Prop} (h : WAs G r sc l tgt v P) (k : ∀ l, P l → P' l) : WAs G r sc l tgt v P' := fun F z s x R rz =>
  noE (h F z s x R rz) fun _ _ ⟨z', l', zz, R', q⟩ => ⟨z', l', zz, R', k _ q⟩
theorem CS.mono {f : Value} {vs : List V} {Q' : V → Prop} (h : CS G r f vs Q) (k : ∀ v, Q v → Q' v) : CS G r f vs Q' := fun A z s xs hh hR zB hs rl =>
  noE (h A z s xs hh hR zB hs rl) fun _ _ ⟨z', v, e, rz, q⟩ => ⟨z', v, e, rz, k v q⟩

theorem WAs.wk {tgt : Expr} {v : V} {P : Locs → Prop} (l' : Locs) (h : Has l l') (hw : WAs G r sc l' tgt v P) (hn : ndB (l'.map (·.1)) = true := by rfl) : WAs G r sc l tgt v P := fun F z s x R rz => hw F z s x (R.wk l' h hn) rz
theorem WT.wk {e : Expr} {P : Bool → Prop} (l' : Locs) (h : Has l l') (hw : WT G r sc l' e P) (hn : ndB (l'.map (·.1)) = true := by rfl) : WT G r sc l e P := fun F z s R => hw F z s (R.wk l' h hn)
theorem WE.wk {e : Expr} (l' : Locs) (h : Has l l') (hw : WE G r sc l' e Q) (hn : ndB (l'.map (·.1)) = true := by rfl) : WE G r sc l e Q := fun F z s R => hw F z s (R.wk l' h hn)
/-- for, by an invariant -/
theorem WF.ind {tgt : Expr} {body orelse : List Stmt} (vs : List V) (J : Nat → Locs → Prop) (h0 : J 0 l) (step : ∀ i v l, vs[i]? = some v → J i l → WAs G r sc l tgt v fun l' => WS G r sc l' body { nx := J (i + 1), ct := J (i + 1), bk := k.nx, rt := k.rt })
    (fin : ∀ l, J vs.length l → WS G r sc l orelse k) : WF G r sc tgt body orelse k vs l := by
  have : ∀ (us ws : List V) (l : Locs), vs = ws ++ us → J ws.length l → WF G r sc tgt body orelse k us l := by
    intro us
    induction us with
    | nil => exact fun ws l hd hJ => fin l (by rw [hd, List.append_nil]; exact hJ)
    | cons v us ih =>
      intro ws l hd hJ
      have hv : vs[ws.length]? = some v := by rw [hd]; simp
      have nxt : ∀ l', J (ws.length + 1) l' → WF G r sc tgt body orelse k us l' := fun l' h => ih (ws ++ [v]) l' (by rw [hd]; simp) (by simpa using h)
      exact WAs.mono (step ws.length v l hv hJ) fun l' h => WS.mono h nxt (fun _ h => h) nxt (fun _ h => h)
  exact this vs [] l rfl h0

/-- both ways of an if-expression are texts -/
theorem WE_ite_s {t a b : Expr} {p : Pos} {x y : Str} (h : WT G r sc l t fun c => WE G r sc l a (· = .str x) ∧ WE G r sc l b (· = .str y) ∧ Q (.str (if c = true then x else y))) : WE G r sc l (.IfExp t a b p) Q :=
  WE_ite_join (va := .str x) (vb := .str y) (WT.mono h fun c ⟨h1, h2, q⟩ => ⟨h1, h2, by cases c <;> exact q⟩)
theorem ite_len {c : Prop} [Decidable c] {x y : Str} {n : Nat} (hx : x.length = n) (hy : y.length = n) : (if c then x else y).length = n := by split <;> assumption
theorem cat_len (x y : Str) : (x ++ y).length = x.length + y.length := strLen_append x y

/-! a deep value of the written part -/
mutual
noncomputable def rzK (K : Frag) : V → Value → Bool
  | .int i, .int j _ => i == j
  | .str x, .str y _ => x == y
  | .bool b, .bool c => b == c
  | .nil, .none => true
  | .tup vs, .ref a => match K.lookup a with
    | some ⟨.type "tuple", none, .seq xs _, _⟩ => rzKs K vs xs.toList
    | _ => false
  | _, _ => false
noncomputable def rzKs (K : Frag) : List V → List Value → Bool
  | [], [] => true
  | v :: vs, x :: xs => rzK K v x && rzKs K vs xs
  | _, _ => false
end
mutual
theorem rzK_ok {C : Addr} {z : Zp} (hz : ∀ a o, K.lookup a = some o → z a = some o) : ∀ {v : V} {x : Value}, rzK K v x = true → Rz C z v x
  | .int i, x, h => by
    cases x <;> first | (simp [rzK] at h; done) | skip
    simp [rzK] at h; subst h; exact ⟨_, rfl⟩
  | .str i, x, h => by
    cases x <;> first | (simp [rzK] at h; done) | skip
    simp [rzK] at h; subst h; exact ⟨_, rfl⟩
  | .bool i, x, h => by
    cases x <;> first | (simp [rzK] at h; done) | skip
    simp [rzK] at h; subst h; exact rfl
  | .nil, x, h => by
    cases x <;> first | (simp [rzK] at h; done) | skip
    exact rfl
  | .tup vs, x, h => by
    cases x <;> first | (simp [rzK] at h; done) | skip
    rename_i a
    unfold rzK at h
    split at h
    · rename_i xs n sl e
      exact ⟨a, xs.toList, rfl, ⟨_, n, hz _ _ e, rfl, rfl, by simp⟩, rzKs_ok hz h⟩
    · cases h
  | .lst vs, x, h => by cases x <;> simp [rzK] at h
  | .raw vs, x, h => by cases x <;> simp [rzK] at h
  | .ins _ _, x, h => by cases x <;> simp [rzK] at h
  | .obj _ _, x, h => by cases x <;> simp [rzK] at h
theorem rzKs_ok {C : Addr} {z : Zp} (hz : ∀ a o, K.lookup a = some o → z a = some o) : ∀ {vs : List V} {xs : List Value}, rzKs K vs xs = true → RzL C z vs xs
  | [], [], _ => rfl
  | [], _ :: _, h => by simp [rzKs] at h
  | _ :: _, [], h => by simp [rzKs] at h
  | v :: vs, x :: xs, h => by
    simp only [rzKs, Bool.and_eq_true] at h
    exact ⟨x, xs, rfl, rzK_ok hz h.1, rzKs_ok hz h.2⟩
end
theorem WE_gk {x : Str} {p : Pos} {val : Value} {v : V} (e : nsIn K mainGlobals x = some (some val)) (hv : rzK K v val = true) (h : Q v) (hx : sc.names.lookup x = some .globalImplicit := by rfl) (hd : (x == ("__debug__" : Str)) = false := by decide) : WE G r sc l (.Name x p) Q :=
  WE_gd e (rzK_ok G.inK hv) h hx hd
end
end Mine

end
section
open PySem PySem.W PySem.Calls PyProof.Rows
set_option linter.unusedVariables false
set_option maxRecDepth 100000
namespace Mine
noncomputable abbrev appOb (a : Addr) : Obj := { cls := .type "builtin_function_or_method", data := .fields #[.builtin "list.append", .ref a] }
theorem slot_mdget : Slot "method_descriptor" "__get__" "method_descriptor.__get__" := Slot.of (T := "method_descriptor") (name := "__get__") (owner := "method_descriptor") (n := "__get__") (by rw [typeLookup_type, builtinLookup_eq_fast]; kernel_rfl) (by decide +kernel) (by decide +kernel) (by decide +kernel)
    (.inl (by decide +kernel)) (by rw [isSubtype_type]; kernel_rfl)
theorem entry_mdget : entryFor table "method_descriptor.__get__" = some Builtin.«method_descriptor.__get__» := entryFor_of_tree (by kernel_rfl)
theorem args_mdget (a b c : Value) : argsOk "method_descriptor.__get__" ⟨[a, b, c], []⟩ := by unfold argsOk; kernel_rfl
theorem meets_ga_append (a : Addr) (xs : Array Value) (k : Nat) (sl : Array (Option Value)) (u : Tok) :
    Meets (Builtin.«object.__getattribute__» ⟨[.ref a, .str "append" u], []⟩) (fun A R s => s.heap.get? a = some { cls := .type "list", dict := none, data := .seq xs k, slots := sl } ∧ R (.ok (.ret (.ref s.heap.objs.size))) { s with heap := s.heap.push (appOb a) }) :=
  Meets.of_wp fun prog w A R s hs => by
    obtain ⟨hp, g, d, tk, os⟩ := s
    obtain ⟨hx, hs⟩ := hs
    have hT : (⟨hp, g, d, tk, os⟩ : Shared).TypeIs (.ref a) "list" := ⟨_, hx, rfl⟩
    have hl : typeLookup (.type "list") (Str.ofString "append") = pure (some (.builtin "list.append")) := slot_list_append.lookup
    unfold Builtin.«object.__getattribute__»
    repeat (any_goals (first | assumption | wp_step))
    have hk : builtinKind "list.append" = some .method := by kernel_rfl
    have hg : typeLookup (.type "method_descriptor") (Str.ofString "__get__") = pure (some (.builtin "method_descriptor.__get__")) := by rw [typeLookup_type, builtinLookup_eq_fast]; kernel_rfl
    simp only [hk]
    refine wpAny_of_eq hg ?_
    have ht : takesIn [] (.builtin "list.append") = some false := by decide +kernel
    refine wpAny_bind ?_
    show wpAny _ _ (Builtin.ObjectAttr.takesStores (.builtin "list.append") >>= _) _ _ _
    refine wpAny_bind ((looks_takesIn (K := []) (fun _ _ e => by cases e) ht).here ?_)
    refine wpAny_pure ?_
    dsimp only
    unfold Builtin.ObjectAttr.ownThenClass Builtin.ObjectAttr.inOwnDict Builtin.ObjectAttr.ownDict
    refine wpAny_bind ?_
    refine wpAny_bind (wpAny_bind ?_)
    refine wpAny_loadPart hx ?_
    dsimp only
    unfold instanceDict
    refine wpAny_bind (wpAny_loadPart hx ?_)
    show wpAny _ _ (pure none) _ _ _
    refine wpAny_pure ?_
    show wpAny _ _ (pure none) _ _ _
    refine wpAny_pure ?_
    show wpAny _ _ (pure () >>= fun _ => _) _ _ _
    refine wpAny_bind (wpAny_pure ?_)
    refine wpAny_bind (wpAny_rule (wpAny_pure ?_))
    dsimp only
    unfold Builtin.ObjectAttr.bindTo
    show wpAny _ _ (holding _ _ >>= fun _ => _) _ _ _
    refine wpAny_bind (wpAny_holding ?_)
    have hty : Shared.TypeIs ⟨hp, g, d, tk, os⟩ (.builtin "list.append") "method_descriptor" := type_list_append
    refine wpAny_call_entry slot_mdget hty entry_mdget ?_ (args_mdget _ _ _)
    unfold Builtin.«method_descriptor.__get__»
    have hc : Manifest.toldItsClass.contains "list.append" = false := by decide +kernel
    refine wpAny_bind (wpAny_pure ?_)
    have e1 : (Value.ref a == Value.none) = false := rfl
    have e2 : (Value.type "list" == Value.none) = false := rfl
    simp only [e1, e2, hc, Bool.false_eq_true, if_false]
    have hi : wpAny (model prog w) A.in1.in1 (isInstance (.ref a) (.type "list")) (fun b s' => b = true ∧ s' = ⟨hp, g, d, tk, os⟩) (fun e s' => R (Except.error e) s') ⟨hp, g, d, tk, os⟩ := wpAny_isInstance hT (by rw [isSubtype_type]; kernel_rfl) ⟨rfl, rfl⟩
    refine wpAny_bind ?_
    · refine wpAny_bind (wpAny_pure ?_)
      have eo : ".".intercalate ("list.append".cutAt '.').dropLast = "list" := by decide +kernel
      dsimp only
      rw [eo]
      refine wpAny_bind (wpAny_mono hi (fun b s' hb => ?_) fun _ _ e => e)
      obtain ⟨rfl, rfl⟩ := hb
      refine wpAny_pure ?_
      unfold newFields
      refine wpAny_bind (wpAny_newObj_type ?_ (by size_fits))
      exact wpAny_pure ⟨_, rfl, wpAny_pure ⟨_, rfl, hs⟩⟩

theorem getAttr_append {prog : Program} {w : World} {A : Around} {E : Value → Shared → Prop} {s : Shared} {a : Addr} {xs : List Value} {Q : Value → Shared → Prop} (hx : s.heap.PlainList a xs.toArray)
    (h : Q (.ref s.heap.objs.size) { s with heap := s.heap.push (appOb a), toks := s.toks + 1 }) : wpAny (model prog w) A (getAttr (.ref a) "append" true) Q E s := by
  obtain ⟨hp, g, d, tk, os⟩ := s
  obtain ⟨k, hx⟩ := hx
  have hT : Shared.TypeIs ⟨hp, g, d, tk + 1, os⟩ (.ref a) "list" := ⟨_, hx, rfl⟩
  unfold getAttr getAttrBy
  refine wpAny_bind (wpAny_mkText ?_)
  refine wpAny_holding ?_
  refine wpAny_bind (wpAny_typeOf hT ?_)
  refine wpAny_bind (wpAny_of_eq list_getattribute ?_)
  show wpAny _ _ (getAttrByItsOwn _ _ _ _ _ _) _ _ _
  unfold getAttrByItsOwn hookBefore callGetattribute boundAndCalled
  wp_walk
  rw [F.slot_list_getattribute.bind]
  refine wpAny_pure ?_
  exact call_meets F.slot_list_getattribute hT am_entry_list_getattribute (F.args_list_getattribute_2 _ _) (meets_ga_append a xs.toArray k #[] _) ⟨hx, wpAny_pure h⟩

noncomputable def apSig : Manifest.Signature := ⟨.oneArg, "list.append", "append", .self, [⟨"object", .posOnly, true⟩]⟩
theorem ap_args (a x : Value) : Bind.checkArgs "list.append" { apSig with full := s!"{Bind.lastOf "list"}.{Bind.lastOf "list.append"}" } ⟨[a, x], []⟩ = pure () := by kernel_rfl
theorem call_appOb {prog : Program} {w : World} {A : Around} {E : Value → Shared → Prop} {s : Shared} {q a : Addr} {o : Obj} {x : Value} {items : Array Value} {Q : Value → Shared → Prop} (ho : s.heap.get? q = some o) (hap : appObj a o)
    (hl : s.heap.PlainList a items) (hQ : ∀ h', h'.PlainList a (items.push x) → Heap.SameBut a s.heap h' → Q .none { s with heap := h' }) (hsz : items.size ≤ sizeLine) : wpAny (model prog w) A (call (.ref q) [x]) Q E s := by
  obtain ⟨hc, vs, hd, hv⟩ := hap
  obtain ⟨oc, od, oda, osl⟩ := o
  dsimp only at hc hd
  subst hc hd
  have hv : vs = #[.builtin "list.append", .ref a] := by rw [← hv]
  subst hv
  refine wpAny_call (codeAny_of_tree ?_)
  show wpAny _ _ (callAny (.ref q) _) _ _ _
  refine nd_load ho (nd_bind (nd_pure ?_))
  show wpAny _ _ (checkBoundCall "list.append" ⟨[.ref a, x], []⟩ >>= fun _ => again (.builtin "list.append" ⟨[.ref a, x], []⟩)) _ _ s
  obtain ⟨n, hx⟩ := id hl
  have hT : s.TypeIs (.ref a) "list" := ⟨_, hx, rfl⟩
  have hs : Manifest.signature? "list.append" = some apSig := by kernel_rfl
  have hk : builtinKind "list.append" = some .method := by kernel_rfl
  have hva : Manifest.varargsMethods.contains "list.append" = false := by decide +kernel
  refine wpAny_bind ?_
  unfold checkBoundCall
  simp only [hs, hk]
  refine wpAny_bind (wpAny_isInstance (T := "list") (b := false) hT (by rw [isSubtype_type]; kernel_rfl) ?_)
  rw [hva]
  simp only [Bool.or_false, Bool.false_eq_true, if_false]
  refine wpAny_bind ?_
  refine wpAny_bind (wpAny_loadPart hx ?_)
  refine wpAny_pure ?_
  simp only [Bool.false_eq_true, if_false]
  refine wpAny_bind (wpAny_typeOf hT ?_)
  show wpAny _ _ (Bind.checkArgs "list.append" _ ⟨[.ref a, x], []⟩) _ _ s
  refine wpAny_of_eq (ap_args _ _) ?_
  refine wpAny_pure (a := Fin.again _) ⟨Code.quiet_builtin _ (by decide +kernel), codeAny_builtin entry_list_append ?_⟩
  show wpAny _ _ (updateSeq a (·.push x) >>= fun _ => ret .none) _ _ s
  refine wpAny_bind ?_
  refine wpAny_updateSeq hx rfl (wpAny_pure (hQ _ ⟨n + 1, ?_⟩ (Heap.SameBut.update ..)))
  rw [Heap.get?_update_self _ hx (by rw [Obj.mapSeq_push_plain]; rfl), Obj.mapSeq_push_plain]

section
variable {prog : Program} {w : World} {K : Frag} {G : Gl prog w K} {r : Nat} {sc : Scope} {l : Locs} {k : Kt} {Q : V → Prop}
/-- y = x.append -/
theorem WX_app {x y : Str} {xs : List V} {p p' pn pa : Pos} (hl : l.lookup x = some (.own xs)) (h : k.nx (put l y (.app x))) (hne : (x == y) = false := by decide) (hx : stored sc y = true := by rfl)
    (he : ∀ env, eval (.Attribute (.Name x pn) "append" pa) env = (do let o ← eval (.Name x pn) env; standAt pa.atName; let r ← holding [o] (getAttr o "append" true); letTemporaryGo (.Name x pn) o r; pure r) := by intro _; with_unfolding_all rfl)
    (hd : (x == ("__debug__" : Str)) = false := by decide) (hc : (x == ("__classdict__" : Str)) = false := by decide) : WX G r sc l (.Assign [.Name y p'] (.Attribute (.Name x pn) "append" pa) p) k := fun F z s R => by
  obtain ⟨m, am, L⟩ := R.loc
  obtain ⟨_, ⟨vals, hp, rl⟩, n⟩ := (L.ok x _ hl).of rfl
  refine wpAny_Assign_Name (Attribute_any_ (wpAny_Name (Frm.load L.ns n hc ?_) hd) (he _)) (swaps_no rfl _ _ _)
  refine getAttr_append hp ?_
  have ex : Ext z s (z.put s.heap.objs.size (appOb (am x))) { s with heap := s.heap.push (appOb (am x)), toks := s.toks + 1 } := (Ext.push R.sub (o := appOb (am x)) rfl).trans (Ext.toks (Ext.push R.sub (o := appOb (am x)) rfl).sub _)
  exact (R.end.ext ex).store (lv := .app x) (am' := am) (L.ext ex) (stored_or hx) (fun _ _ => rfl) (fun e => (by cases e)) (fun q e => by cases e; intro e; subst e; simp at hne) (fun h' m' n' _ => ⟨_, _, n', Zp.put_self, rfl, _, rfl, rfl⟩) fun s₂ R₂ => ⟨_, _, R₂, h⟩

theorem keeps_app {q a : Addr} {o : Obj} (hap : appObj a o) (hp : Heap) (h : hp.get? q = some o) : ∃ k, (k = Keeper.frame ∨ k = Keeper.machine ∨ k = Keeper.boundFrame) ∧ Looks (model prog w) hp (keeperOf (.ref q)) k := by
  obtain ⟨hc, vs, hd, hv⟩ := hap
  refine ⟨.machine, .inr (.inl rfl), fun A Q E s ke hq => ?_⟩
  unfold keeperOf
  refine wpAny_bind (wpAny_load (ke _ _ h) ?_)
  rw [hd, hc]
  exact wpAny_pure hq

/-- y(e), where y is x.append -/
theorem WX_callApp {x y : Str} {xs : List V} {e : Expr} {p pc pn : Pos} (hy : l.lookup y = some (.app x)) (hl : l.lookup x = some (.own xs)) (h : WE G r sc l e fun v => xs.length ≤ sizeLine ∧ k.nx (upd l x (.own (xs ++ [v]))))
    (hpl : plainEs [e] = true := by rfl) (hd : (y == ("__debug__" : Str)) = false := by decide) (hc : (y == ("__classdict__" : Str)) = false := by decide) :
    WX G r sc l (.Expr (.Call (.Name y pn) [e] [] pc) p) k := fun F z s R => by
  obtain ⟨m, am, L⟩ := R.loc
  obtain ⟨q, o, n, zq, hap⟩ := L.ok y _ hy
  refine wpAny_Expr (wpAny_Call_ofName (wpAny_Name (Frm.load L.ns n hc ?_) hd)) (Frm.notI F) (swaps_no rfl _ _ _)
  rw [backTo_plain hpl]
  refine callWith_of (P := fun hp => hp.get? q = some o) rfl (fun hp X => keeps_app hap hp X) ?_
  refine Calls.evalArgs_plain (Calls.spliced_cons (noE (h F z s R) fun val s₁ ⟨z₁, v, e₁, rz, hs, qq⟩ => Calls.spliced_nil ⟨e₁.keep _ _ (R.sub _ _ zq), ?_⟩))
  have L₁ := L.ext e₁
  obtain ⟨_, ⟨vals, hp, rl⟩, _⟩ := (L₁.ok x _ hl).of rfl
  refine call_appOb (e₁.keep _ _ (R.sub _ _ zq)) hap hp (fun h' hp' sb => ?_) (by rw [List.size_toArray, rl.length]; exact hs)
  refine ⟨z₁, _, (R.end.ext e₁).turn (u' := .own (xs ++ [v])) (t := s₁.toks) L₁ hl rfl rfl (fun _ t => t) sb ⟨vals ++ [val], ?_, RzL.append (RzL.one rz) rl⟩, qq⟩
  have : (vals ++ [val]).toArray = vals.toArray.push val := by simp
  rw [this]; exact hp'
end
end Mine

end
section
open PySem PySem.W PySem.Calls PyProof.Rows
set_option linter.unusedVariables false
set_option maxRecDepth 100000
namespace Mine
theorem mro_object : mroOf (.type "object") = pure [.type "object"] := by rw [mroOf_type]; kernel_rfl
theorem lookup_object_new : typeLookup (.type "object") "__new__" = pure (some (.builtin "object.__new__")) := by rw [typeLookup_type, builtinLookup_eq_fast]; kernel_rfl
theorem slot_object_init : Slot "object" "__init__" "object.__init__" := Slot.of (T := "object") (name := "__init__") (owner := "object") (n := "__init__") (by rw [typeLookup_type, builtinLookup_eq_fast]; kernel_rfl) (by decide +kernel) (by decide +kernel) (by decide +kernel)
    (.inl (by decide +kernel)) (by rw [isSubtype_type]; kernel_rfl)
theorem called_object : TypeCalled "object" "object.__new__" "object.__init__" :=
  ⟨by decide +kernel, by decide +kernel, ⟨_, _, mro_object⟩, madeBy_type mro_object lookup_object_new (by decide +kernel), by decide +kernel, by rw [isSubtype_type]; kernel_rfl, slot_object_init⟩
theorem meets_object_new : Meets (Builtin.«object.__new__» ⟨[.type "object"], []⟩) (fun _ R s => R (.ok (.ret (.ref s.heap.objs.size))) { s with heap := s.heap.push { cls := .type "object", data := .plain } }) :=
  .of_wp fun prog w A R s h => by
    obtain ⟨hp, g, d, tk, os⟩ := s
    unfold Builtin.«object.__new__»
    have hb : Bind.madeHere "object.__new__" (.type "object") = pure () := by kernel_rfl
    wp_walk
    exact ⟨_, rfl, h⟩
theorem call_object {prog : Program} {w : World} {A : Around} {E : Value → Shared → Prop} {s : Shared} {Q : Value → Shared → Prop} (h : Q (.ref s.heap.objs.size) { s with heap := s.heap.push { cls := .type "object", data := .plain } }) :
    wpAny (model prog w) A (call (.type "object") []) Q E s := by
  refine callType_meets called_object (by kernel_rfl) (by kernel_rfl) F.objNew.entry F.entry_object_init meets_object_new (Q₁ := fun obj s₁ => s₁.TypeIs obj "object" ∧ Q obj s₁) ⟨⟨_, Heap.get?_push_size _ rfl, rfl⟩, h⟩ fun obj s₁ hq => ⟨hq.1, oi_args obj, fun _ R s => s.TypeIs obj "object" ∧ R (.ok (.ret .none)) s, ?_, hq.1, rfl, hq.2⟩
  exact Meets.of_wp fun prog w A R s hs => wpAny_pure ⟨_, rfl, hs.2⟩

section
variable {prog : Program} {w : World} {K : Frag} {G : Gl prog w K} {r : Nat} {sc : Scope} {l : Locs} {k : Kt} {Q : V → Prop}
theorem B_object (h : ∀ a, Q (.raw (.ref a))) : CS G r (.type "object") [] Q := fun A z s xs hh hR zB hsub rl => by
  have rl : xs = [] := rl
  subst rl
  exact call_object ⟨z, .raw (.ref s.heap.objs.size), Ext.grow (t := s.toks) hsub fun b o e => Heap.get?_push_of_some _ e, rfl, h _⟩
end
end Mine

end
section
open PySem PySem.W PySem.Calls PyProof.Rows
set_option linter.unusedVariables false
set_option maxRecDepth 100000
namespace Mine
section
variable {prog : Program} {w : World} {A : Around} {E : Value → Shared → Prop} {s : Shared}
theorem nat_len' {n : Nat} (h : n ≤ 1000) : n ≤ sizeLine := by rw [sizeLine_eq]; omega
theorem tl_keep {d : Addr} {f : Int → Option Value} {c : Nat} {Q : Builtin.Str.Mapped → Shared → Prop} (hm : s.heap.IntMap d f) (hnd : ∀ o, s.heap.get? d = some o → o.dict = none ∧ o.slots = #[]) (hd : (d == sysModules) = false) (hh : A.handled = none) (hv : f c = none)
    (h : ∀ h' tk, (∀ b o, s.heap.get? b = some o → h'.get? b = some o) → Q .keep { s with heap := h', toks := tk }) : wpAny (model prog w) A (Builtin.Str.tableLookup (.ref d) c) Q E s := by
  unfold Builtin.Str.tableLookup
  refine wpAny_bind (wpAny_attempt (wpAny_bind (wpAny_mkInt ?_)))
  refine wpAny_getItem_missing_of (knd := intKind prog w) (k := (c : Int)) (f := f) (by simp [intKind, Value.isInt]) hd hh (Heap.IntMap.mapOf hm hnd) hv fun h' e ne => ?_
  dsimp only
  obtain ⟨ob, t, ho, hc, _⟩ := ne.there
  refine wpAny_bind (wpAny_isInstance (T := "KeyError") (b := true) ⟨ob, ho, hc⟩ (by rw [isSubtype_type]; kernel_rfl) ?_)
  simp only [if_true]
  exact wpAny_bind (wpAny_rule (wpAny_pure (h _ _ ne.keeps)))
theorem tl_text {d : Addr} {f : Int → Option Value} {c : Nat} {y : Str} {u : Tok} {Q : Builtin.Str.Mapped → Shared → Prop} (hm : s.heap.IntMap d f) (hv : f c = some (.str y u))
    (h : ∀ tk, Q (.text y) { s with toks := tk }) : wpAny (model prog w) A (Builtin.Str.tableLookup (.ref d) c) Q E s := by
  unfold Builtin.Str.tableLookup
  refine wpAny_bind (wpAny_attempt (wpAny_bind (wpAny_mkInt ?_)))
  refine wpAny_getItem_intMap hm hv ?_
  dsimp only
  refine wpAny_bind (wpAny_pure ?_)
  dsimp only
  refine wpAny_bind (wpAny_pure ?_)
  exact wpAny_pure (h _)

theorem tr_keep {d : Addr} {f : Int → Option Value} {c : Nat} {t : Tok} {Q : Value → Shared → Prop} (hm : s.heap.IntMap d f) (hnd : ∀ o, s.heap.get? d = some o → o.dict = none ∧ o.slots = #[]) (hd : (d == sysModules) = false) (hh : A.handled = none) (hc : c < 128) (hv : f c = none)
    (h : ∀ h' tk u, (∀ b o, s.heap.get? b = some o → h'.get? b = some o) → Q (.str ⟨#[c]⟩ u) { s with heap := h', toks := tk }) : wpAny (model prog w) A (call (.builtin "str.translate") [.str ⟨#[c]⟩ t, .ref d]) Q E s := by
  refine wpAny_call_entry F.slot_str_translate (typeIs_str _ _ _) F.entry_str_translate ?_ (F.args_str_translate_2 _ _)
  unfold Builtin.«str.translate»
  have hall : (#[c] : Array Nat).all (fun x => decide (x < 128)) = true := by simp [hc]
  have ht0 : Builtin.Str.tooLong 0 = false := by decide +kernel
  have ht1 : Builtin.Str.tooLong 1 = false := by decide +kernel
  refine wpAny_bind (wpAny_pure ?_)
  show wpAny _ _ (if ((1 : Nat) == 0) = true then _ else _) _ _ _
  rw [if_neg (by decide)]
  dsimp only
  rw [hall]
  refine wpAny_bind ?_
  rw [← Array.forIn_toList]
  simp only [List.forIn_cons, List.forIn_nil, ht0, Bool.false_eq_true, if_false, if_true, List.lookup_nil]
  refine wpAny_bind (wpAny_bind (tl_keep hm hnd hd (by exact hh) hv fun h1 tk kp => ?_))
  dsimp only
  refine wpAny_bind (wpAny_pure ?_)
  dsimp only
  refine wpAny_pure ?_
  dsimp only
  refine wpAny_pure ?_
  dsimp only
  rw [if_neg (by rw [ht1]; decide)]
  refine wpAny_bind (wpAny_mkStr (wpAny_pure ⟨_, rfl, ?_⟩) ?_)
  · exact h h1 _ _ kp
  · show 1 ≤ sizeLine
    exact nat_len' (by decide)
theorem tr_text {d : Addr} {f : Int → Option Value} {c : Nat} {t : Tok} {y : Str} {u : Tok} {Q : Value → Shared → Prop} (hm : s.heap.IntMap d f) (hc : c < 128) (hv : f c = some (.str y u)) (hy : y.length = 2)
    (h : ∀ tk u, Q (.str y u) { s with toks := tk }) : wpAny (model prog w) A (call (.builtin "str.translate") [.str ⟨#[c]⟩ t, .ref d]) Q E s := by
  refine wpAny_call_entry F.slot_str_translate (typeIs_str _ _ _) F.entry_str_translate ?_ (F.args_str_translate_2 _ _)
  unfold Builtin.«str.translate»
  have hall : (#[c] : Array Nat).all (fun x => decide (x < 128)) = true := by simp [hc]
  have ht0 : Builtin.Str.tooLong 0 = false := by decide +kernel
  have ht2 : Builtin.Str.tooLong 2 = false := by decide +kernel
  refine wpAny_bind (wpAny_pure ?_)
  show wpAny _ _ (if ((1 : Nat) == 0) = true then _ else _) _ _ _
  rw [if_neg (by decide)]
  dsimp only
  rw [hall]
  refine wpAny_bind ?_
  rw [← Array.forIn_toList]
  simp only [List.forIn_cons, List.forIn_nil, ht0, Bool.false_eq_true, if_false, if_true, List.lookup_nil]
  refine wpAny_bind (wpAny_bind (tl_text hm hv fun tk => ?_))
  dsimp only
  rw [hy, show ((2 : Nat) == 1 && y.cps.all fun x => decide (x < 128)) = false from rfl]
  simp only [Bool.false_eq_true, if_false]
  refine wpAny_bind (wpAny_pure ?_)
  dsimp only
  refine wpAny_bind (wpAny_rule ?_)
  refine wpAny_bind (tl_text hm hv fun tk => ?_)
  dsimp only
  refine wpAny_pure ?_
  dsimp only
  refine wpAny_pure ?_
  dsimp only
  rw [hy, if_neg (by rw [ht2]; decide)]
  have e : (⟨[y].reverse.foldl (fun acc p => acc ++ p.cps) #[]⟩ : Str) = y := Str.ext' (by simp)
  refine wpAny_bind (wpAny_mkStr (wpAny_pure ⟨_, rfl, ?_⟩) ?_)
  · rw [e]; exact h _ _
  · rw [e, hy]
    exact nat_len' (by decide)
end

section
variable {prog : Program} {w : World} {K : Frag} {G : Gl prog w K} {r : Nat} {sc : Scope} {l : Locs} {k : Kt} {Q : V → Prop}
noncomputable def intKeys (es : Array DictEntry) : Bool := es.toList.all fun e => match e.key with | .int k _ => e.hash == hashInt k | _ => false
theorem intKeys_ok {es : Array DictEntry} (h : intKeys es = true) : ∀ e ∈ es, ∃ k t, e.key = .int k t ∧ e.hash = hashInt k := by
  intro e he
  have := List.all_eq_true.mp h e (by simpa using he)
  cases hk : e.key <;> rw [hk] at this <;> first | (simp at this; done) | skip
  exact ⟨_, _, rfl, by simpa using this⟩
theorem M_tr_keep {d : Addr} {es : Array DictEntry} {ep : Nat} {c : Nat} (ho : K.lookup d = some { cls := .type "dict", data := .dict es ep }) (hk : intKeys es = true) (hd : (d == sysModules) = false) (hc : c < 128) (hv : findBy Value.isInt es (c : Int) = none)
    (h : Q (.str ⟨#[c]⟩)) : CS G r (.builtin "str.translate") [.str ⟨#[c]⟩, .raw (.ref d)] Q := fun A z s xs hh hR zB hsub rl => by
  obtain ⟨x1, _, rfl, ⟨t, rfl⟩, x2, _, rfl, hx, rfl⟩ := rl
  have hx : x2 = .ref d := hx
  subst hx
  have hod : s.heap.get? d = some { cls := .type "dict", data := .dict es ep } := hsub _ _ (zB _ _ (G.inK _ _ ho))
  exact tr_keep (f := fun i => findBy Value.isInt es i) ⟨_, es, ep, hod, rfl, rfl, intKeys_ok hk, fun _ => rfl⟩ (fun o e => by rw [hod] at e; cases e; exact ⟨rfl, rfl⟩) hd hh hc hv fun h' tk u kp => ⟨z, .str ⟨#[c]⟩, Ext.grow hsub kp, ⟨u, rfl⟩, h⟩
theorem M_tr_text {d : Addr} {es : Array DictEntry} {ep : Nat} {c : Nat} {y : Str} {u : Tok} (ho : K.lookup d = some { cls := .type "dict", data := .dict es ep }) (hk : intKeys es = true) (hc : c < 128) (hv : findBy Value.isInt es (c : Int) = some (.str y u)) (hy : y.length = 2)
    (h : Q (.str y)) : CS G r (.builtin "str.translate") [.str ⟨#[c]⟩, .raw (.ref d)] Q := fun A z s xs hh hR zB hsub rl => by
  obtain ⟨x1, _, rfl, ⟨t, rfl⟩, x2, _, rfl, hx, rfl⟩ := rl
  have hx : x2 = .ref d := hx
  subst hx
  have hod : s.heap.get? d = some { cls := .type "dict", data := .dict es ep } := hsub _ _ (zB _ _ (G.inK _ _ ho))
  exact tr_text (f := fun i => findBy Value.isInt es i) ⟨_, es, ep, hod, rfl, rfl, intKeys_ok hk, fun _ => rfl⟩ hc hv hy fun tk u => ⟨z, .str y, Ext.toks hsub _, ⟨u, rfl⟩, h⟩
theorem WE_neg {e : Expr} {p : Pos} (h : WE G r sc l e fun v => ∃ i, v = .int i ∧ Q (.int (-i))) : WE G r sc l (.UnaryOp .USub e p) Q := fun F z s R =>
  wpAny_UnaryOp (noE (h F z s R) fun xa s₁ ⟨z₁, v, e₁, ra, i, hv, q⟩ => by
    subst hv
    obtain ⟨t, rfl⟩ := ra
    exact PySem.P.neg_int ⟨z₁, .int (-i), e₁.trans (Ext.toks e₁.sub _), ⟨_, rfl⟩, q⟩)
end
end Mine

end
section
open PySem PySem.W PySem.Calls PyProof.Rows
set_option linter.unusedVariables false
set_option maxRecDepth 100000
namespace Mine
section
variable {prog : Program} {w : World} {K : Frag} {G : Gl prog w K} {r : Nat} {sc : Scope} {l : Locs} {k : Kt} {Q : V → Prop}
/-- x[i:-j].replace(a, b), the four of them constants (the texts' tokens must be seen) -/
theorem WE_slcRep {x : Str} {pn ps pp pi pj pu pm p pa pb : Pos} {i j : Int} {k1 k2 k3 k4 : Nat} {t a b : Str} (hl : l.lookup x = some (.v (.str t))) (hsz : t.length ≤ 1000) (hb : b.length ≤ 14) (hab : (a == b) = false)
    (h : Q (.str (Txt.replace (Txt.slice t (some i) (some (-j))) a b))) (hline : (pm.endLine == p.line) = true := by rfl)
    (hd : (x == ("__debug__" : Str)) = false := by decide) (hc : (x == ("__classdict__" : Str)) = false := by decide) :
    WE G r sc l (.Call (.Attribute (.Subscript (.Name x pn) (.Slice (some (.Constant (.int i) k1 pi)) (some (.UnaryOp .USub (.Constant (.int j) k2 pj) pu)) none pp) ps) "replace" pm) [.Constant (.str a) k3 pa, .Constant (.str b) k4 pb] [] p) Q := fun F z s R => by
  obtain ⟨m, am, L⟩ := R.loc
  obtain ⟨val, n, ⟨t0, rfl⟩⟩ := L.ok x _ hl
  have hp : plainEs [.Constant (.str a) k3 pa, .Constant (.str b) k4 pb] = true := rfl
  have hsl : (Txt.slice t (some i) (some (-j))).length ≤ 1000 := Nat.le_trans (Txt.slice_le t _ _) hsz
  rw [arm_eval_Call]
  have recv : wpAny (model prog w) F.A (eval (.Subscript (.Name x pn) (.Slice (some (.Constant (.int i) k1 pi)) (some (.UnaryOp .USub (.Constant (.int j) k2 pj) pu)) none pp) ps) F.env)
      (fun v s' => ∃ t', v = .str (Txt.slice t (some i) (some (-j))) t' ∧ Ext z s z s' ∧ s'.toks ≠ 0) (fun _ _ => False) s := by
    refine Subscript_ (wpAny_Name (Frm.load L.ns n hc ?_) hd)
    refine wpAny_Slice (evalPart_some_step (wpAny_Constant_int (evalPart_some_step (wpAny_UnaryOp (wpAny_Constant_int (PySem.P.neg_int ?_))))))
    rw [evalPart_none]
    refine wpAny_pure ?_
    refine subTail ⟨"str", _, PySem.F.slot_str_getitem.lookup, typeIs_str _ _ _, ?_⟩ (.inr (by rfl))
    refine wpAny_getItem_str_slice (l := some (i, s.toks)) (u := some (-j, s.toks + 1 + 1)) (st := none) ⟨_, Heap.get?_push_size _ rfl, rfl, rfl⟩ rfl ?_
    have ex : ∀ tk, Ext z s z { s with heap := s.heap.push { cls := .type "slice", data := .fields #[.int i s.toks, .int (-j) (s.toks + 1 + 1), .none] }, toks := tk } := fun tk => Ext.grow R.sub fun b o e => Heap.get?_push_of_some _ e
    have e0 : (sliceMade t t0 (some (i, s.toks)) (some (-j, s.toks + 1 + 1)) none) = if ((1 : Int) == 1 && (Builtin.Str.strSliceIndices (some i) (some (-j)) 1 t.length).length == t.length) = true then .val (.str t t0) else .str ⟨((Builtin.Str.strSliceIndices (some i) (some (-j)) 1 t.length).filterMap (t.cps[·]?)).toArray⟩ := rfl
    rw [e0]
    unfold Txt.slice at hsl ⊢
    split
    · exact ⟨t0, rfl, ex _, by show s.toks + 1 + 1 + 1 ≠ 0; omega⟩
    · rename_i hne
      rw [if_neg hne] at hsl
      exact ⟨by rw [sizeLine_eq]; omega, _, rfl, ex _, by show s.toks + 1 + 1 + 1 + 1 ≠ 0; omega⟩
  refine wpAny_bind (noE recv ?_)
  rintro v s₁ ⟨t', rfl, e₁, ht⟩
  refine wpAny_bind (wpAny_standAt ?_)
  have hform : methodCallForm (([.Constant (.str a) k3 pa, .Constant (.str b) k4 pb] : List Expr).length + ([] : List Keyword).length) (backTo p (starEach [.Constant (.str a) k3 pa, .Constant (.str b) k4 pb] F.env)) (backToKw p (keywordEach [] F.env)) = true := by
    rw [backTo_plain hp]; rfl
  unfold methodCall
  rw [hform]
  refine wpAny_bind (wpAny_holding ?_)
  refine GM.of (.str _ t') (typeIs_str _ _ _) PySem.F.slot_str_replace PySem.F.type_str_replace GM.noRef ?_
  dsimp only
  refine wpAny_bind (wpAny_of_eq (a := p) (by unfold methodCallPos; simp [hline]) ?_)
  rw [backTo_plain hp]
  refine callWith_of (P := fun _ => True) rfl (fun hp X => ⟨.machine, .inr (.inl rfl), Looks.of_pure rfl⟩) ?_
  refine Calls.evalArgs_plain (Calls.spliced_cons (wpAny_Constant_str (Calls.spliced_cons (wpAny_Constant_str (Calls.spliced_nil ⟨trivial, ?_⟩)))))
  refine SC.replaceW (u := s₁.toks) (v := s₁.toks + 1) ht (Nat.succ_ne_zero _) (Nat.ne_of_lt (Nat.lt_succ_self _)) hab (by omega) hb fun t' k => ⟨z, .str (Txt.replace (Txt.slice t (some i) (some (-j))) a b), e₁.trans (Ext.toks e₁.sub _), ⟨_, rfl⟩, h⟩
end
end Mine

end
section
open PySem PySem.W PySem.Calls PyProof.Rows
set_option linter.unusedVariables false
set_option maxRecDepth 100000
namespace Mine
section
variable {prog : Program} {w : World} {K : Frag} {G : Gl prog w K} {r : Nat} {sc : Scope} {l : Locs} {k : Kt} {Q : V → Prop}

/-- own things that a call has made -/
noncomputable def NewL (C : Addr) (z : Zp) (s : Shared) (z' : Zp) (s' : Shared) (l : Locs) : Prop :=
  Ext z s z' s' ∧ ∃ am : Str → Addr, (∀ x u, l.lookup x = some u → u.mine = true → s.heap.get? (am x) = none ∧ z' (am x) = none ∧ Cont C z' s'.heap (am x) u ∧ (∀ b xs, u = .gl b xs → am x = b) ∧ (∀ b ks vs, u = .gd b ks vs → am x = b)) ∧
    (∀ x y u u', l.lookup x = some u → l.lookup y = some u' → u.mine = true → u'.mine = true → am x = am y → x = y)

/-- an object of a class of the top is made by its __init__ -/
theorem new_inst {C fI : Addr} {name qual : Str} {params : Arguments} {body : List Stmt} {dV kV doc pm cdv ct oc : Value} {an od : Option Addr} {osl : Array (Option Value)} (hC : G.C = C) (hm : makesIn K C = true) (hi : findIn K (.ref C) "__init__" = some (some (.ref fI))) (hf : typeIn K (.ref fI) = some (.type "function"))
    (ho : K.lookup fI = some ⟨oc, od, .func (fnOf name qual params body sc dV kV doc pm an cdv ct), osl⟩) (hcd : codeIn K cdv qual = true)
    (J : Addr → Addr → Locs → Prop) (h : ∀ p d, WS G r sc [("self", .v (.obj p d)), ("#d", .gd d [] [])] body { nx := J p d })
    (hb : ∀ x : Value, bindArgs (fnOf name qual params body sc dV kV doc pm an cdv ct) ⟨[x], []⟩ = pure [(Str.ofString "self", x)]) (hloc : (sc.names.lookup (Str.ofString "self") == some .local) = true := by decide +kernel) (hgh : sc.names.lookup (Str.ofString "#d") = none := by decide +kernel)
    (hcell : (sc.names.all fun x => x.2 != .cell) = true := by decide +kernel) (hco : sc.isCoroutine = false := by rfl) (hgen : sc.isGenerator = false := by rfl) (hk : sc.kind = .function := by rfl)
    {A : Around} {z : Zp} {s : Shared} (hh : A.handled = none) (hR : Room (r + 2) A) (zB : ∀ b o, G.zB b = some o → z b = some o) (hs : Sub z s.heap) :
    wpAny (model prog w) A (call (.ref C) []) (fun x s' => ∃ z' p d l, x = .ref p ∧ z' p = some (instObj C d) ∧ NewL G.C z s z' s' l ∧ J p d l) (fun _ _ => False) s := by
  have X : K.In s.heap := fun b o e => hs _ _ (zB _ _ (G.inK b o e))
  have hnk : ∀ x, sc.names.lookup x ≠ some .cell := fun x e => by
    have := List.all_eq_true.mp hcell _ (lookup_some_mem e)
    simp at this
  obtain ⟨hp, g, dd, t, os⟩ := s
  refine wpAny_call (make_core (makes_of X hm) (looks_findIn X hi) (fun self => bind_fn X self hf) (.inl rfl) ?_)
  have kp0 : ∀ b o, hp.get? b = some o → ((hp.push emptyDict).push (instObj C hp.objs.size)).get? b = some o := fun b o e => Heap.get?_push_of_some _ (Heap.get?_push_of_some _ e)
  have hinst : ((hp.push emptyDict).push (instObj C hp.objs.size)).get? (hp.objs.size + 1) = some (instObj C hp.objs.size) := by
    have := Heap.get?_push_size (hp.push emptyDict) (o := instObj C hp.objs.size) rfl
    rw [Heap.size_push] at this; exact this
  have hdict : ((hp.push emptyDict).push (instObj C hp.objs.size)).get? hp.objs.size = some emptyDict := Heap.get?_push_of_some _ (Heap.get?_push_size _ rfl)
  have hsz : ((hp.push emptyDict).push (instObj C hp.objs.size)).objs.size = hp.objs.size + 2 := by rw [Heap.size_push, Heap.size_push]
  have n0 : hp.get? hp.objs.size = none := get_fresh _
  have n1 : hp.get? (hp.objs.size + 1) = none := by
    cases q : hp.get? (hp.objs.size + 1) with
    | none => rfl
    | some o => exact absurd (Heap.lt_size q) (Nat.not_lt_of_le (Nat.le_add_right _ _))
  have zn0 : z hp.objs.size = none := hs.fresh
  have zn1 : z (hp.objs.size + 1) = none := by
    cases q : z (hp.objs.size + 1) with
    | none => rfl
    | some o => have := hs _ _ q; rw [n1] at this; cases this
  generalize (hp.push emptyDict).push (instObj C hp.objs.size) = h1 at kp0 hinst hdict hsz ⊢
  have hs1 : Sub (z.put (hp.objs.size + 1) (instObj C hp.objs.size)) h1 := fun b o e => by
    by_cases hbb : b = hp.objs.size + 1
    · subst hbb; rw [Zp.put_self] at e; cases e; exact hinst
    · exact kp0 b o (hs b o (by simpa [Zp.put, hbb] using e))
  have zz1 := Zp.put_old (z := z) (o := instObj C hp.objs.size) zn1
  have X1 : K.In h1 := fun b o e => kp0 _ _ (X _ _ e)
  refine codeAny_call_def (fd := fnOf name qual params body sc dV kV doc pm an cdv ct) (body := body) (binds := [(Str.ofString "self", .ref (hp.objs.size + 1))]) ?_ (X1 _ _ ho) rfl (G.nolim _ fun b o e => kp0 _ _ (hs _ _ (zB _ _ e))) (codeRec_of X1 hcd) rfl (.of_eq (hb _))
    (fun x hx e => by
      have := List.all_eq_true.mp hcell _ hx
      simp [e] at this) (fun x hx => ?_) (fun h₀ ns kp => ?_) hco hgen hk
  · have := hR; unfold Room at this; show A.depth + 1 < _; omega
  · rw [List.mem_singleton.mp hx]; exact beq_iff_eq.mp hloc
  · have hR1 : Room (r + 1) (A.under (.builtin "type.__call__" ⟨[.ref C], []⟩)) := by
      have := hR; unfold Room at this ⊢
      show A.depth + 1 + (r + 1) < _ ∧ A.units + 1 + 60 * (r + 1) + 60 < _
      omega
    let F : Frm G r sc := Frm.mk h1.objs.size [] (qual ++ ".<locals>.") (some fI) cdv (some h1.objs.size) ((A.under (.builtin "type.__call__" ⟨[.ref C], []⟩)).deeper (callEnv (fnOf name qual params body sc dV kV doc pm an cdv ct) h1.objs.size fI))
      (fun b => if b = hp.objs.size then none else h1.get? b) (z.put (hp.objs.size + 1) (instObj C hp.objs.size)) g dd os hk (fun b o e => zz1 b o (zB b o e)) hh hR1.deeper
    have hself : (Str.ofString "self") ≠ (Str.ofString "#d") := by decide
    have L0 : F.LocOk [("self", .v (.obj (hp.objs.size + 1) hp.objs.size)), ("#d", .gd hp.objs.size [] [])] (z.put (hp.objs.size + 1) (instObj C hp.objs.size)) h₀ (fun x => [(Str.ofString "self", Value.ref (hp.objs.size + 1))].reverse.lookup x) (fun _ => hp.objs.size) := by
      have hf1 : h1.get? h1.objs.size = none := get_fresh _
      refine ⟨ndB_nodup rfl, ns, ⟨hs1.fresh, ?_⟩, fun x hx => absurd hx (hnk x), fun x y c hx => absurd hx (hnk x), fun x c _ e => (by cases e), fun x lv e => ?_, fun x y u u' hx hy hu hu' _ => ?_⟩
      · show (if h1.objs.size = hp.objs.size then none else h1.get? h1.objs.size) = none
        rw [hf1]; simp
      · rw [List.lookup_cons] at e
        cases q : x == Str.ofString "self" with
        | true =>
          rw [q] at e
          cases e
          rw [eq_of_beq q]
          refine ⟨.ref (hp.objs.size + 1), .inl ⟨beq_iff_eq.mp hloc, by simp⟩, rfl, ?_⟩
          rw [hC]; exact Zp.put_self
        | false =>
          rw [q, List.lookup_cons] at e
          cases q2 : x == Str.ofString "#d" with
          | false => rw [q2] at e; cases e
          | true =>
            rw [q2] at e
            cases e
            refine ⟨⟨⟨?_, ?_⟩, ?_, fun y c hy => absurd hy (hnk y)⟩, ⟨[], 0, [], kp _ _ hdict, trivial, rfl⟩, rfl⟩
            · simp [Zp.put, zn0]
            · exact if_pos rfl
            · show hp.objs.size ≠ h1.objs.size
              rw [hsz]; exact Nat.ne_of_lt (Nat.lt_add_of_pos_right (by decide))
      · have only : ∀ {x : Str} {u : LV}, List.lookup x [((Str.ofString "self" : Str), LV.v (.obj (hp.objs.size + 1) hp.objs.size)), (Str.ofString "#d", LV.gd hp.objs.size [] [])] = some u → u.mine = true → x = Str.ofString "#d" := by
          intro x u e hu
          rw [List.lookup_cons] at e
          cases q : x == Str.ofString "self" with
          | true => rw [q] at e; cases e; cases hu
          | false =>
            rw [q, List.lookup_cons] at e
            cases q2 : x == Str.ofString "#d" with
            | false => rw [q2] at e; cases e
            | true => exact eq_of_beq q2
        rw [only hx hu, only hy hu']
    have R0 : Rep F [("self", .v (.obj (hp.objs.size + 1) hp.objs.size)), ("#d", .gd hp.objs.size [] [])] (z.put (hp.objs.size + 1) (instObj C hp.objs.size)) ⟨h₀, g, dd, t + 1, os⟩ := by
      refine ⟨fun b o e => kp b o (hs1 b o e), fun _ _ e => e, fun b o e => ?_, fun b o e n => ?_, rfl, rfl, rfl, _, _, L0⟩
      · have e : (if b = hp.objs.size then none else h1.get? b) = some o := e
        split at e
        · cases e
        · exact kp b o e
      · have n : z.put (hp.objs.size + 1) (instObj C hp.objs.size) b = none := n
        rw [n] at e; cases e
    refine noE (h _ _ F _ _ R0) fun fl s' p => ?_
    cases fl with
    | next =>
      obtain ⟨z', l', R', q⟩ := p
      refine ⟨rfl, z', hp.objs.size + 1, hp.objs.size, l', rfl, R'.zz _ _ Zp.put_self, ⟨⟨fun b o e => R'.zz _ _ (zz1 b o e), R'.sub, fun b o e => ?_, fun b o e n => ?_, R'.gens, R'.dr, R'.os⟩, ?_⟩, q⟩
      · refine R'.base b o ?_
        show (if b = hp.objs.size then none else h1.get? b) = some o
        rw [if_neg (fun q => by subst q; rw [n0] at e; cases e)]
        exact kp0 b o e
      · by_cases hb1 : b = hp.objs.size + 1
        · subst hb1; exact n1
        · have hz : z.put (hp.objs.size + 1) (instObj C hp.objs.size) b = none := by simp [Zp.put, hb1, n]
          have := R'.new b o e hz
          have this : (if b = hp.objs.size then none else h1.get? b) = none := this
          split at this
          · rename_i hb0; subst hb0; exact n0
          · cases q : hp.get? b with
            | none => rfl
            | some o2 => rw [kp0 b o2 q] at this; cases this
      · obtain ⟨m, am, L⟩ := R'.loc
        refine ⟨am, fun x u hx hu => ?_, L.ds⟩
        obtain ⟨mi, c, tg⟩ := (L.ok x u hx).of hu
        refine ⟨?_, mi.fr.1, c, fun b xs e => by subst e; exact tg, fun b ks vs e => by subst e; exact tg⟩
        have hbz : (if am x = hp.objs.size then none else h1.get? (am x)) = none := mi.fr.2
        split at hbz
        · rename_i hb0; rw [hb0]; exact n0
        · cases q : hp.get? (am x) with
          | none => rfl
          | some o2 => rw [kp0 _ o2 q] at hbz; cases hbz
    | brk => obtain ⟨_, _, _, q⟩ := p; exact q.elim
    | cont => obtain ⟨_, _, _, q⟩ := p; exact q.elim
    | ret x => obtain ⟨z', v, R', rz, q⟩ := p; exact q.elim
end
end Mine

end
section
open PySem PySem.W PySem.Calls PyProof.Rows
set_option linter.unusedVariables false
set_option maxRecDepth 100000
namespace Mine
section
variable {prog : Program} {w : World} {K : Frag} {G : Gl prog w K} {r : Nat} {sc : Scope} {l : Locs} {k : Kt} {Q : V → Prop}
noncomputable def Made2 (ks : List Str) (f : Addr → Addr → List V) (p d : Addr) (l : Locs) : Prop := ∃ a1 a2, Has l [("#d", .gd d ks (f a1 a2)), ("#1", .gl a1 []), ("#2", .gl a2 [])]
/-- x = C(), where the object is made with two lists -/
theorem WX_new {x cn : Str} {p p' pn : Pos} {C : Addr} {ks : List Str} {f : Addr → Addr → List V} (hn : nsIn K mainGlobals cn = some (some (.ref C))) (hk : keepIn K (.ref C) = true)
    (new : ∀ A z s, A.handled = none → Room r A → (∀ b o, G.zB b = some o → z b = some o) → Sub z s.heap →
      wpAny (model prog w) A (call (.ref C) []) (fun x s' => ∃ z' p d l, x = .ref p ∧ z' p = some (instObj C d) ∧ NewL G.C z s z' s' l ∧ Made2 ks f p d l) (fun _ _ => False) s) (hC : G.C = C)
    (h : ∀ p d a1 a2, k.nx (put (put (put (put l "#2" (.gl a2 [])) "#1" (.gl a1 [])) "#d" (.gd d ks (f a1 a2))) x (.v (.obj p d)))) (hx : stored sc x = true := by rfl)
    (hg : sc.names.lookup cn = some .globalImplicit := by rfl) (hd : (cn == ("__debug__" : Str)) = false := by decide) : WX G r sc l (.Assign [.Name x p'] (.Call (.Name cn pn) [] [] p) p) k := fun F z s R => by
  have hw : WEs G r sc l [] (fun us => us = []) := rfl
  refine wpAny_Assign_Name (wpAny_Call_ofName (wpAny_Name (Frm.global R.sB hg (.inl (G.gK _ _ hn)) ?_) hd)) (swaps_no rfl _ _ _)
  refine WEs.callWith (f := .ref C) (first := []) hk rfl R hw fun xs s₁ z₁ us e₁ rl hu => ?_
  subst hu
  have rl : xs = [] := rl
  subst rl
  have R₁ := R.ext e₁
  refine noE (new F.A z₁ s₁ F.hh F.room R₁.zBsub e₁.sub) ?_
  rintro v s₂ ⟨z₂, pa, d, l', rfl, hp, ⟨ex, am, hal, hds⟩, a1, a2, h0, h1, h2, _⟩
  obtain ⟨n0, m0, c0, _, t0⟩ := hal _ _ h0 rfl
  obtain ⟨n1, m1, c1, t1, _⟩ := hal _ _ h1 rfl
  obtain ⟨n2, m2, c2, t2, _⟩ := hal _ _ h2 rfl
  have t0 := t0 _ _ _ rfl
  have t1 := t1 _ _ rfl
  have t2 := t2 _ _ rfl
  have d01 : d ≠ a1 := fun e => absurd (hds _ _ _ _ h0 h1 rfl rfl (by rw [t0, t1, e])) (show Str.ofString "#d" ≠ Str.ofString "#1" by decide)
  have d02 : d ≠ a2 := fun e => absurd (hds _ _ _ _ h0 h2 rfl rfl (by rw [t0, t2, e])) (show Str.ofString "#d" ≠ Str.ofString "#2" by decide)
  have d12 : a1 ≠ a2 := fun e => absurd (hds _ _ _ _ h1 h2 rfl rfl (by rw [t1, t2, e])) (show Str.ofString "#1" ≠ Str.ofString "#2" by decide)
  rw [t0] at n0 m0 c0
  rw [t1] at n1 m1 c1
  rw [t2] at n2 m2 c2
  have RO : RepO F l z₂ s₂ [a2, a1, d] := R₁.beside ex fun b hb => by
    simp at hb
    rcases hb with rfl | rfl | rfl
    · exact ⟨n2, m2⟩
    · exact ⟨n1, m1⟩
    · exact ⟨n0, m0⟩
  have RO := RO.adopt (y := "#2") (u := .gl a2 []) (by simp; exact ⟨Ne.symm d12, Ne.symm d02⟩) rfl (fun _ _ _ e => e) c2
  have RO := RO.adopt (y := "#1") (u := .gl a1 []) (by simp; exact Ne.symm d01) rfl (fun _ _ _ e => e) c1
  have RO := RO.adopt (y := "#d") (u := .gd d ks (f a1 a2)) (by simp) rfl (fun _ _ _ e => e) c0
  exact RO.rep.storeV (v := .obj pa d) (stored_or hx) ⟨rfl, by rw [hC]; exact hp⟩ fun s₃ R₃ => ⟨z₂, _, R₃, h pa d a1 a2⟩
end
end Mine

end
section
open PySem PySem.W PySem.Calls PyProof.Rows
set_option linter.unusedVariables false
set_option maxRecDepth 100000
namespace Mine
section
variable {prog : Program} {w : World} {K : Frag} {G : Gl prog w K} {r : Nat} {sc : Scope} {l : Locs} {k : Kt} {Q : V → Prop}
theorem M_split {x y : Str} (hy : (y.length == 0) = false) (hx : x.length ≤ sizeLine) (hx2 : (Builtin.Str.partsBetween x (Builtin.Str.occurrences x y 0 x.length (x.length + 1)) y.length).length ≤ sizeLine) (h : Q (.lst ((Txt.split x y).map .str))) : CS G r (.builtin "str.split") [.str x, .str y] Q := fun A z s xs hh hR zB hsub rl => by
  obtain ⟨x1, _, rfl, ⟨t, rfl⟩, x2, _, rfl, ⟨u, rfl⟩, rfl⟩ := rl
  have fin : ∀ D (l : List (Str × Tok)) h' k, l.map (·.1) = Txt.split x y → (∀ b o, s.heap.get? b = some o → h'.get? b = some o) → s.heap.get? D = none → h'.IsList D (strValues l).toArray → ∃ z' v, Ext z s z' { s with heap := h', toks := k } ∧ Rz G.C z' v (.ref D) ∧ Q v := by
    intro D l h' k hl kp hn hL
    obtain ⟨o, ho, hc, n, hd⟩ := hL
    refine ⟨_, .lst ((Txt.split x y).map .str), ext_list (xs := []) hsub kp hn ho, ⟨D, strValues l, rfl, ⟨o, n, Zp.put_self, hc, rfl, by rw [hd]⟩, ?_⟩, h⟩
    rw [← hl]; exact strvals_rz l
  have push : ∀ (l : List (Str × Tok)) k, l.map (·.1) = Txt.split x y → ∃ z' v, Ext z s z' { s with heap := s.heap.push { cls := .type "list", data := .seq (strValues l).toArray }, toks := k } ∧ Rz G.C z' v (.ref s.heap.objs.size) ∧ Q v := fun l k hl =>
    fin _ l _ k hl (fun b o e => Heap.get?_push_of_some _ e) (get_fresh _) ⟨_, Heap.get?_push_size _ rfl, rfl, _, rfl⟩
  cases h1 : (decide (x.length < y.length) || decide (Builtin.Str.strKind x < Builtin.Str.strKind y))
  · cases hf : (Builtin.Str.occurrences x y 0 x.length (x.length + 1)).isEmpty
    · refine call_meets F.slot_str_split (typeIs_str _ _ _) F.entry_str_split (F.args_str_split_2 _ _) (meets_str_split_sep x y t u h1 hy hf hx hx2) ?_
      show wants _ _ _ { s with toks := _, heap := s.heap.push { cls := .type "list", data := .seq (strsFrom s.toks (Builtin.Str.partsBetween x (Builtin.Str.occurrences x y 0 x.length (x.length + 1)) y.length)).toArray } }
      rw [strsFrom_eq]
      exact push (numbered s.toks _) _ ((numbered_texts _ _).trans ((if_neg (ne_true_of_eq_false h1)).trans (if_neg (ne_true_of_eq_false hf))).symm)
    · exact call_meets F.slot_str_split (typeIs_str _ _ _) F.entry_str_split (F.args_str_split_2 _ _) (meets_str_split_not_found x y t u h1 hy hf)
        (push [(x, t)] s.toks ((if_neg (ne_true_of_eq_false h1)).trans (if_pos hf)).symm)
  · exact call_meets F.slot_str_split (typeIs_str _ _ _) F.entry_str_split (F.args_str_split_2 _ _) (meets_str_split_cannot_occur x y t u h1)
      (push [(x, t)] s.toks (if_pos h1).symm)

/-- an object's own attribute comes before the class's -/
noncomputable def valFirst (K : Frag) (C : Addr) (nm : Str) : Bool := plainGet K C nm && hasDictIn K C && (match findIn K (.ref C) nm with
  | some none => true
  | some (some a) => (match specialIn K a "__get__" with
    | some none => true
    | some (some _) => takesIn K a == some false
    | none => false)
  | none => false)
theorem findObj_val {C : Addr} {nm : Str} {od : Obj} {v : Value} (h : valFirst K C nm = true) (hl : lookIn nm od = some (some v)) : findObj K C (some od) nm = some (.value v) := by
  unfold valFirst at h
  simp only [Bool.and_eq_true] at h
  obtain ⟨⟨_, hh⟩, h⟩ := h
  obtain ⟨cd, hc, hd⟩ := any_some hh
  have ho : PySem.W.ownOf cd (some od) nm = some (some v) := by unfold PySem.W.ownOf; rw [if_pos hd]; exact hl
  cases ha : findIn K (.ref C) nm with
  | none => rw [ha] at h; cases h
  | some attr =>
    rw [ha] at h
    unfold findObj
    rw [hc, Option.bind_some, ha, Option.bind_some]
    cases attr with
    | none => simp [ho]
    | some a =>
      dsimp only at h ⊢
      cases hg : specialIn K a "__get__" with
      | none => rw [hg] at h; cases h
      | some g =>
        rw [hg] at h
        cases g with
        | none => simp [ho]
        | some g =>
          have ht : takesIn K a = some false := beq_iff_eq.mp h
          simp [ht, ho]
theorem WE_ia {e : Expr} {nm : Str} {p : Pos} (hg : valFirst K G.C nm = true)
    (h : WE G r sc l e fun v => ∃ ks vs u, v = .ins ks vs ∧ fieldOf nm ks vs = some u ∧ (∀ q, u = .raw q → handedIn q = true) ∧ Q u)
    (he : ∀ env, eval (.Attribute e nm p) env = (do let o ← eval e env; standAt p.atName; let r ← holding [o] (getAttr o nm true); letTemporaryGo e o r; pure r) := by intro _; with_unfolding_all rfl) :
    WE G r sc l (.Attribute e nm p) Q := fun F z s R =>
  Attribute_any_ (noE (h F z s R) fun xa s₁ ⟨z₁, v, e₁, rz, ks, vs, u, hv, hf, hu, q⟩ => by
    subst hv
    obtain ⟨a, d, es, n, xs, rfl, o1, o2, fo, rl⟩ := rz
    obtain ⟨x, gx, rx⟩ := getL_some fo rl hf
    have I : InstAt s₁.heap a (instObj G.C d) G.C (some (dictOf es n)) := ⟨e₁.sub _ _ o1, rfl, rfl, e₁.sub _ _ o2⟩
    have hp : plainGet K G.C nm = true := by unfold valFirst at hg; simp only [Bool.and_eq_true] at hg; exact hg.1.1
    exact get_value (R.ext e₁).inK I (plainGet_of hp).1 (findObj_val hg gx) (handed_rz rx hu) ⟨z₁, u, e₁.trans (Ext.toks e₁.sub _), rx, q⟩) (he _)
end
end Mine

end
section
open PySem PySem.W PySem.Calls PyProof.Rows
set_option linter.unusedVariables false
set_option maxRecDepth 100000
namespace Mine
section
variable {prog : Program} {w : World} {K : Frag} {G : Gl prog w K} {r : Nat} {sc : Scope} {l : Locs} {k : Kt} {Q : V → Prop}
/-- an expression whose value holds one new empty list -/
noncomputable def WEn (G : Gl prog w K) (r : Nat) (sc : Scope) (l : Locs) (e : Expr) (Q : Addr → V → Prop) : Prop :=
  ∀ (F : Frm G r sc) z s, Rep F l z s → wpAny (model prog w) F.A (eval e F.env) (fun x s' => ∃ z' a v, Ext z s z' s' ∧ s.heap.get? a = none ∧ z' a = none ∧ s'.heap.PlainList a #[] ∧ Rz G.C z' v x ∧ Q a v) (fun _ _ => False) s
theorem WEn_list {p : Pos} {Q : Addr → V → Prop} (h : ∀ a, Q a (.raw (.ref a))) : WEn G r sc l (.List [] p) Q := fun F z s R =>
  wpAny_List (wpAny_pure ⟨Nat.zero_le _, z, s.heap.objs.size, .raw (.ref s.heap.objs.size), Ext.grow (t := s.toks) R.sub fun b o e => Heap.get?_push_of_some _ e, get_fresh _, R.sub.fresh, ⟨0, Heap.get?_push_size _ rfl⟩, rfl, h _⟩)
theorem WEn_pair {p q : Pos} {n : Nat} {e : Expr} {Q : Addr → V → Prop} (h : WE G r sc l e fun v => ∀ a, Q a (.tup [.raw (.ref a), v])) (hp : plainEs [.List [] q, e] = true := by rfl) : WEn G r sc l (.Tuple [.List [] q, e] n p) Q := fun F z s R => by
  refine wpAny_Tuple ?_
  rw [backTo_plain hp]
  refine Calls.spliced_cons (wpAny_List (wpAny_pure ⟨Nat.zero_le _, ?_⟩))
  have e1 : Ext z s z { s with heap := s.heap.push { cls := .type "list", data := .seq ([] : List Value).toArray } } := Ext.grow (t := s.toks) R.sub fun b o e => Heap.get?_push_of_some _ e
  have hz : z s.heap.objs.size = none := R.sub.fresh
  have hl1 : (s.heap.push { cls := .type "list", data := .seq ([] : List Value).toArray }).get? s.heap.objs.size = some { cls := .type "list", data := .seq ([] : List Value).toArray } := Heap.get?_push_size _ rfl
  refine Calls.spliced_cons (noE (h F z _ (R.ext e1)) fun x s₂ ⟨z₂, v, e₂, rz, q⟩ => Calls.spliced_nil ⟨by show 2 ≤ sizeLine; rw [sizeLine_eq]; omega, ?_⟩)
  have hz2 : z₂ s.heap.objs.size = none := stays_none e₂ hl1 hz
  have hn : s₂.heap.objs.size ≠ s.heap.objs.size := fun q => by
    have := e₂.keep _ _ hl1
    rw [← q, get_fresh] at this; cases this
  have ex := Ext.push e₂.sub (o := { cls := .type "tuple", data := .seq ([.ref s.heap.objs.size, x] : List Value).toArray }) rfl
  refine ⟨_, s.heap.objs.size, _, (e1.trans e₂).trans ex, get_fresh _, ?_, ⟨0, ex.keep _ _ (e₂.keep _ _ hl1)⟩, ?_, q _⟩
  · simp [Zp.put, Ne.symm hn, hz2]
  · exact pair_rz Zp.put_self rfl (rz.mono (Zp.put_old e₂.sub.fresh))

theorem adopt1 {F : Frm G r sc} {z z' : Zp} {s s' : Shared} {a : Addr} {y : Str} (R : Rep F l z s) (ex : Ext z s z' s') (hn : s.heap.get? a = none) (hz : z' a = none) (hp : s'.heap.PlainList a #[]) : Rep F (put l y (.gl a [])) z' s' := by
  have RO : RepO F l z' s' [a] := R.beside ex fun b hb => by rw [List.mem_singleton.mp hb]; exact ⟨hn, hz⟩
  exact (RO.adopt (y := y) (u := .gl a []) (by simp) rfl (fun _ _ _ e => e) ⟨[], hp, rfl⟩).rep
theorem adoptL {F : Frm G r sc} {z z' : Zp} {s s' : Shared} {a : Addr} {y : Str} {m : Str → Option Value} {am : Str → Addr} (E : RepE F z s) (L : F.LocOk l z s.heap m am) (ex : Ext z s z' s') (hn : s.heap.get? a = none) (hz : z' a = none) (hp : s'.heap.PlainList a #[]) :
    RepE F z' s' ∧ ∃ am', (∀ x, x ≠ y → am' x = am x) ∧ F.LocOk (put l y (.gl a [])) z' s'.heap m am' := by
  have L' := L.ext ex
  obtain ⟨am', e, e'⟩ : ∃ am' : Str → Addr, am' y = a ∧ ∀ x, x ≠ y → am' x = am x := ⟨fun x => if x = y then a else am x, if_pos rfl, fun x n => if_neg n⟩
  refine ⟨E.ext ex, am', e', L'.put L'.ns (fun _ _ _ n => n) (fun _ _ v _ _ q => ⟨v, q⟩) (fun _ _ _ _ _ => rfl) e' (.to rfl ⟨?_, ⟨[], by rw [e]; exact hp, rfl⟩, e⟩) (fun _ x w n hl hw q => ?_) (fun x q => by cases q)⟩
  · rw [e]
    refine ⟨⟨hz, ?_⟩, fun q => ?_, fun y c hy hc q => ?_⟩
    · cases q : F.base a with
      | none => rfl
      | some o => have := E.base a o q; rw [hn] at this; cases this
    · obtain ⟨o, _, _, ho, _⟩ := L.ns
      rw [← q, hn] at ho; cases ho
    · obtain ⟨c', v, e', ⟨o, ho, _⟩, _⟩ := L.ce y hy
      rw [hc] at e'; cases e'
      rw [q, hn] at ho; cases ho
  · obtain ⟨o, ho⟩ := ((L.ok x _ hl).of hw).2.1.alive hw
    rw [e] at q; rw [q, hn] at ho; cases ho
theorem put_keep {x y : Str} {u lv : LV} (nd : (l.map (·.1)).Nodup) (h : l.lookup x = some u) (hne : x ≠ y) (ha : u.isApp y = false) : (put l y lv).lookup x = some u := by
  refine mem_lookup (put_nodup nd) (List.mem_cons_of_mem _ (List.mem_filter.mpr ⟨lookup_mem h, ?_⟩))
  have : (x == y) = false := by simpa using hne
  show (!(x == y) && !(LV.isApp y u)) = true
  rw [this, ha]; rfl

/-- x = [e], e with a new list -/
theorem WX_ownN {x : Str} {e : Expr} {p p' q : Pos} (y : Str) (h : WEn G r sc l e fun a v => k.nx (put (put l y (.gl a [])) x (.own [v]))) (hx : stored sc x = true := by rfl) (hp : plainEs [e] = true := by rfl) : WX G r sc l (.Assign [.Name x p'] (.List [e] q) p) k := fun F z s R => by
  refine wpAny_Assign_Name (wpAny_List ?_) (swaps_no rfl _ _ _)
  rw [backTo_plain hp]
  refine Calls.spliced_cons (noE (h F z s R) fun val s₁ ⟨z₁, a, v, e₁, hn, hz, pl, rz, q⟩ => Calls.spliced_nil ⟨by show 1 ≤ sizeLine; rw [sizeLine_eq]; omega, ?_⟩)
  have R₁ := adopt1 (y := y) R e₁ hn hz pl
  have ex : Ext z₁ s₁ z₁ { s₁ with heap := s₁.heap.push { cls := .type "list", data := .seq ([val] : List Value).toArray } } := Ext.grow (t := s₁.toks) e₁.sub fun b o e => Heap.get?_push_of_some _ e
  exact R₁.storeOwn ex (xs := [v]) (vals := [val]) (stored_or hx) e₁.sub.fresh ⟨0, Heap.get?_push_size _ rfl⟩ (RzL.one rz) fun s₂ R₂ => ⟨z₁, _, R₂, q⟩

/-- x.append(e), e with a new list -/
theorem WX_appN {x : Str} {xs : List V} {e : Expr} {p pn pc pa : Pos} (y : Str) (hl : l.lookup x = some (.own xs)) (hne : x ≠ y) (hsz : xs.length ≤ sizeLine) (h : WEn G r sc l e fun a v => k.nx (upd (put l y (.gl a [])) x (.own (xs ++ [v]))))
    (hfew : ∀ env : Env, ((backTo pc (starEach [e] env)).all (fun x => !x.1) && (backToKw pc (keywordEach [] env)).all (fun x => x.1.isSome)
      && decide (([e] : List Expr).length + ([] : List Keyword).length + (if ([] : List Keyword).isEmpty then 0 else 1) < 30)) = true := by intro _; rfl)
    (hline : (pa.endLine == pc.line) = true := by rfl) (htrees : ∀ env : Env, backTo pc (starEach [e] env) = [(false, eval e env)] := by intro _; rfl)
    (hd : (x == ("__debug__" : Str)) = false := by decide) (hc : (x == ("__classdict__" : Str)) = false := by decide) :
    WX G r sc l (.Expr (.Call (.Attribute (.Name x pn) "append" pa) [e] [] pc) p) k := fun F z s R => by
  obtain ⟨m, am, L⟩ := R.loc
  obtain ⟨_, ⟨vals, hp, rl⟩, n⟩ := (L.ok x _ hl).of rfl
  refine wpAny_Expr (wpAny_Call_append rfl (hfew _) hline (htrees _) (wpAny_Name (Frm.load L.ns n hc ?_) hd)) (Frm.notI F) (swaps_no rfl _ _ _)
  refine ⟨am x, vals.toArray, rfl, ⟨_, _, hp.choose_spec, rfl, rfl, rfl⟩, ?_⟩
  refine noE (h F z s R) fun val s₁ ⟨z₁, a, v, e₁, hn, hz, pl, rz, q⟩ => ?_
  obtain ⟨E₁, am', ha, L₁⟩ := adoptL (y := y) R.end L e₁ hn hz pl
  have hl₁ : (put l y (.gl a [])).lookup x = some (.own xs) := put_keep L.nd hl hne rfl
  rw [← ha x hne]
  exact E₁.append L₁ hl₁ rz hsz fun s₂ R₂ => ⟨z₁, _, R₂, q⟩
end
end Mine

end
section
open PySem PySem.W PySem.Calls PyProof.Rows
set_option linter.unusedVariables false
set_option maxRecDepth 100000
namespace Mine
theorem preSum_take (ns : List Int) : ∀ j, j ≤ ns.length → preSum (fun j => ns.getD j 0) j = (ns.take j).sum
  | 0, _ => by simp [preSum]
  | j + 1, h => by
    rw [preSum, preSum_take ns j (by omega), List.take_add_one, List.sum_append]
    congr 1
    rw [List.getD_eq_getElem?_getD]
    cases hv : ns[j]? with
    | none => simp
    | some v => simp
theorem sum_bound : ∀ (ns : List Int), (∀ n ∈ ns, 0 ≤ n ∧ n < 10000000) → 0 ≤ ns.sum ∧ ns.sum ≤ 10000000 * (ns.length : Int)
  | [], _ => by simp
  | n :: ns, h => by
    have h1 := h n (.head _)
    have h2 := sum_bound ns fun x hx => h x (.tail _ hx)
    simp only [List.sum_cons, List.length_cons]
    omega
section
variable {prog : Program} {w : World} {K : Frag} {G : Gl prog w K} {r : Nat} {sc : Scope} {l : Locs} {k : Kt} {Q : V → Prop}
theorem B_sum {ns : List Int} (hb : ∀ n ∈ ns, 0 ≤ n ∧ n < 10000000) (hl : ns.length ≤ 1000) (h : Q (.int ns.sum)) : CS G r (.builtin "sum") [.lst (ns.map .int)] Q := fun A z s xs hh hR zB hsub rl => by
  obtain ⟨x1, _, rfl, ⟨a, us, rfl, sq, ru⟩, rfl⟩ := rl
  have hlen : us.length = ns.length := by rw [ru.length, List.length_map]
  have hL := isList_of (sq.mono fun o e => hsub _ _ e)
  obtain ⟨oa, ha, _⟩ := id hL
  have hlt : a < s.heap.objs.size := Heap.lt_size ha
  refine call_sum_walk (wpAny_pyIter_list hL ?_)
  refine ⟨s.heap.objs.size, _, _, _, _, _, fun j => ns.getD j 0, rfl, Walks.list (by exact hh) s.heap.objs.size a (Nat.ne_of_lt hlt) us.toArray, ⟨⟨_, Heap.get?_push_size _ rfl, rfl, rfl⟩, hL.push _⟩, fun b hb => ?_, fun i v hv => ?_, fun j hj => ?_, fun h' tk t' kp => ?_⟩
  · rw [Heap.size_push]
    simp at hb
    rcases hb with rfl | rfl
    · exact Nat.lt_succ_self _
    · exact Nat.lt_succ_of_lt hlt
  · have hv : us[i]? = some v := by simpa using hv
    have hi : i < ns.length := by
      rcases Nat.lt_or_ge i us.length with h' | h'
      · omega
      · rw [List.getElem?_eq_none h'] at hv; cases hv
    obtain ⟨x, hx, t, rfl⟩ := ru.get i (.int ns[i]) (by simp [hi])
    rw [hv] at hx; cases hx
    exact ⟨t, by simp [hi]⟩
  · rw [List.size_toArray, hlen] at hj
    have hb1 := sum_bound (ns.take (j + 1)) fun n hn => hb n (List.mem_of_mem_take hn)
    have hb2 : (ns.take (j + 1)).length ≤ 1000 := by rw [List.length_take]; omega
    rw [preSum_take ns (j + 1) hj]
    have hj' := hb (ns[j]) (List.getElem_mem hj)
    have e : ns.getD j 0 = ns[j] := by simp [hj]
    unfold InLong
    dsimp only
    rw [e]
    omega
  · have e : preSum (fun j => ns.getD j 0) us.toArray.size = ns.sum := by
      rw [List.size_toArray, hlen, preSum_take ns _ (Nat.le_refl _), List.take_length]
    rw [e]
    refine ⟨z, .int ns.sum, ?_, ⟨_, rfl⟩, h⟩
    have kp' : ∀ b o, s.heap.get? b = some o → h'.get? b = some o := fun b o e => kp b o (by simp; exact Nat.ne_of_lt (Heap.lt_size e)) (Heap.get?_push_of_some _ e)
    exact Ext.grow hsub kp'
/-- str(x) of an object -/
theorem B_str_ins {ks : List Str} {vs : List V} {f : Addr} (hs : findIn K (.ref G.C) "__str__" = some (some (.ref f))) (hf : isFn K (.ref f) = true) (h : CS G r (.ref f) [.ins ks vs] fun v => (∃ y, v = .str y) ∧ Q v) : CS G (r + 1) (.type "str") [.ins ks vs] Q := fun A z s xs hh hR zB hsub rl => by
  obtain ⟨x1, _, rfl, ⟨a, d, es, n, us, rfl, o1, o2, fo, ru⟩, rfl⟩ := rl
  have X : K.In s.heap := fun b o e => hsub _ _ (zB _ _ (G.inK b o e))
  have I : InstAt s.heap a (instObj G.C d) G.C (some (dictOf es n)) := ⟨hsub _ _ o1, rfl, rfl, hsub _ _ o2⟩
  have hR' : Room r A.in1.in1 := by
    have := hR; unfold Room at this ⊢
    show A.depth + r < _ ∧ A.units + 1 + 1 + 60 * r + 60 < _
    omega
  refine kso_call (by have := hR'; unfold Room at this; omega) X I hs hf ?_
  refine noE (h A.in1.in1 z s _ hh hR' zB hsub ⟨_, _, rfl, ⟨a, d, es, n, us, rfl, o1, o2, fo, ru⟩, rfl⟩) ?_
  rintro v s' ⟨z', u, e, rz, ⟨y, rfl⟩, q⟩
  obtain ⟨t, rfl⟩ := id rz
  exact ⟨z', _, e, rz, q⟩
end
end Mine

end
section
open PySem PySem.W PySem.Calls PyProof.Rows
set_option linter.unusedVariables false
set_option maxRecDepth 100000
namespace Mine
theorem slot_map_next : Slot "map" "__next__" "map.__next__" := Slot.of (T := "map") (name := "__next__") (owner := "map") (n := "__next__") (by rw [typeLookup_type, builtinLookup_eq_fast]; kernel_rfl) (by decide +kernel) (by decide +kernel) (by decide +kernel)
    (.inl (by decide +kernel)) (by rw [isSubtype_type]; kernel_rfl)
theorem slot_map_iter : Slot "map" "__iter__" "map.__iter__" := Slot.of (T := "map") (name := "__iter__") (owner := "map") (n := "__iter__") (by rw [typeLookup_type, builtinLookup_eq_fast]; kernel_rfl) (by decide +kernel) (by decide +kernel) (by decide +kernel)
    (.inl (by decide +kernel)) (by rw [isSubtype_type]; kernel_rfl)
theorem slot_map_init : Slot "map" "__init__" "object.__init__" := Slot.of (T := "map") (name := "__init__") (owner := "object") (n := "__init__") (by rw [typeLookup_type, builtinLookup_eq_fast]; kernel_rfl) (by decide +kernel) (by decide +kernel) (by decide +kernel)
    (.inl (by decide +kernel)) (by rw [isSubtype_type]; kernel_rfl)
theorem entry_map_next : entryFor table "map.__next__" = some Builtin.«map.__next__» := entryFor_of_tree (by kernel_rfl)
theorem entry_map_new : entryFor table "map.__new__" = some Builtin.«map.__new__» := entryFor_of_tree (by kernel_rfl)
theorem entry_map_iter : entryFor table "map.__iter__" = some Builtin.«dict_keyiterator.__iter__» :=
  entryFor_alias (id' := "dict_keyiterator.__iter__") (by kernel_rfl) (by first | rfl | decide +kernel | (unfold String.splitOn; simp +decide [String.splitOnAux])) (by decide +kernel) (by kernel_rfl)
theorem args_map_next (a : Value) : argsOk "map.__next__" ⟨[a], []⟩ := by unfold argsOk; kernel_rfl
theorem args_map_iter (a : Value) : argsOk "map.__iter__" ⟨[a], []⟩ := by unfold argsOk; kernel_rfl
theorem mro_map : mroOf (.type "map") = pure [.type "map", .type "object"] := by rw [mroOf_type]; kernel_rfl
theorem lookup_map_new : typeLookup (.type "map") "__new__" = pure (some (.builtin "map.__new__")) := by rw [typeLookup_type, builtinLookup_eq_fast]; kernel_rfl
theorem called_map : TypeCalled "map" "map.__new__" "object.__init__" :=
  ⟨by decide +kernel, by decide +kernel, ⟨_, _, mro_map⟩, madeBy_type mro_map lookup_map_new (by decide +kernel), by decide +kernel, by rw [isSubtype_type]; kernel_rfl, slot_map_init⟩
theorem typeCall_map (a b : Value) : checkTypeCall "map" ⟨[a, b], []⟩ = pure () := by kernel_rfl
theorem newCall_map (a b : Value) : checkBuiltinCall "map.__new__" ⟨[.type "map", a, b], []⟩ = pure () := by kernel_rfl
theorem map_no_len : typeLookup (.type "map") "__len__" = pure none := by rw [typeLookup_type, builtinLookup_eq_fast]; kernel_rfl
theorem map_no_hint : typeLookup (.type "map") "__length_hint__" = pure none := by rw [typeLookup_type, builtinLookup_eq_fast]; kernel_rfl
noncomputable abbrev itO (a : Addr) : Obj := { cls := .type "list_iterator", data := .fields #[.ref a, .int 0 0] }
noncomputable abbrev mapO (T : Addr) (f : Value) : Obj := { cls := .type "map", data := .fields #[.ref T, f] }
noncomputable abbrev mpH1 (h : Heap) (a : Addr) : Heap := h.push (itO a)
noncomputable abbrev mpH2 (h : Heap) (a : Addr) : Heap := (mpH1 h a).push { cls := .type "tuple", data := .seq #[.ref h.objs.size] }
noncomputable abbrev mpH3 (h : Heap) (a : Addr) (f : Value) : Heap := (mpH2 h a).push (mapO (mpH1 h a).objs.size f)
theorem meets_map_new (f : Value) (a : Addr) (xs : Array Value) :
    Meets (Builtin.«map.__new__» ⟨[.type "map", f, .ref a], []⟩) (fun _ R s => s.heap.IsList a xs ∧ R (.ok (.ret (.ref (mpH2 s.heap a).objs.size))) { s with heap := mpH3 s.heap a f }) :=
  .of_wp fun prog w A R s h => by
    obtain ⟨hp, g, d, tk, os⟩ := s; obtain ⟨hl, h⟩ := h
    have hsub : isSubtype (.type "map") (.type "map") = pure true := by rw [isSubtype_type]; kernel_rfl
    have hL : Heap.IsList (Shared.heap ⟨hp, g, d, tk, os⟩) a xs := hl
    wp_walk using wpAny_pyIter_list hL
    exact ⟨_, rfl, h⟩
section
variable {prog : Program} {w : World} {A : Around} {E : Value → Shared → Prop} {s : Shared}
theorem call_map {f : Value} {a : Addr} {xs : Array Value} {Q : Value → Shared → Prop} (hl : s.heap.IsList a xs)
    (h : ∀ h', h'.get? (s.heap.objs.size + 2) = some (mapO (s.heap.objs.size + 1) f) → h'.get? (s.heap.objs.size + 1) = some { cls := .type "tuple", data := .seq #[.ref s.heap.objs.size] } → h'.IsListIter s.heap.objs.size a 0 → (∀ b o, s.heap.get? b = some o → h'.get? b = some o) → Q (.ref (s.heap.objs.size + 2)) { s with heap := h' }) :
    wpAny (model prog w) A (call (.type "map") [f, .ref a]) Q E s := by
  refine callType_new called_map (by decide) (typeCall_map _ _) (newCall_map _ _) (fun obj => F.args_object_init_3 obj _ _) entry_map_new (meets_map_new f a xs) ⟨hl, ?_⟩
  have z1 : (mpH1 s.heap a).objs.size = s.heap.objs.size + 1 := Heap.size_push ..
  have z2 : (mpH2 s.heap a).objs.size = s.heap.objs.size + 2 := by rw [Heap.size_push, z1]
  have g3 : (mpH3 s.heap a f).get? (mpH2 s.heap a).objs.size = some _ := Heap.get?_push_size _ rfl
  have g2 : (mpH3 s.heap a f).get? (mpH1 s.heap a).objs.size = some _ := Heap.get?_push_of_some _ (Heap.get?_push_size _ rfl)
  have g1 : (mpH3 s.heap a f).get? s.heap.objs.size = some _ := Heap.get?_push_of_some _ (Heap.get?_push_of_some _ (Heap.get?_push_size _ rfl))
  show _ ∧ _
  rw [z2, z1] at g3
  rw [z1] at g2
  rw [z2]
  exact ⟨⟨_, g3, rfl⟩, h _ g3 g2 ⟨_, g1, rfl, rfl⟩ fun b o e => Heap.get?_push_of_some _ (Heap.get?_push_of_some _ (Heap.get?_push_of_some _ e))⟩
end
end Mine

end
section
open PySem PySem.W PySem.Calls PyProof.Rows
set_option linter.unusedVariables false
set_option maxRecDepth 100000
namespace Mine
section
variable {prog : Program} {w : World} {A : Around} {E : Value → Shared → Prop} {s : Shared}
theorem map_item {M T it a : Addr} {f x : Value} {i : Nat} {xs : Array Value} {Q : Option Value → Shared → Prop} (hM : s.heap.get? M = some (mapO T f)) (hT : s.heap.get? T = some { cls := .type "tuple", data := .seq #[.ref it] })
    (hit : s.heap.IsListIter it a i) (hl : s.heap.IsList a xs) (hx : xs[i]? = some x) (hMi : M ≠ it)
    (h : ∀ h', h'.IsListIter it a (i + 1) → Heap.SameBut it s.heap h' → wpAny (model prog w) A.in1 (call f [x]) (fun y s' => Q (some y) s') (fun _ _ => False) { s with heap := h' }) :
    wpAny (model prog w) A (pyNext (.ref M)) Q E s := by
  have hTy : s.TypeIs (.ref M) "map" := ⟨_, hM, rfl⟩
  unfold pyNext
  refine wpAny_bind (wpAny_attempt (wpAny_callSpecial?_slot (name := Str.ofString "__next__") hTy slot_map_next (wpAny_call_entry slot_map_next hTy entry_map_next ?_ (args_map_next _))))
  show wpAny _ _ (field (.ref M) 0 >>= _) _ _ s
  refine wpAny_bind (wpAny_field hM rfl (x := .ref T) rfl ?_)
  refine wpAny_bind (wpAny_seqItems hT rfl ?_)
  dsimp only
  rw [← Array.forIn_toList]
  simp only [List.forIn_cons, List.forIn_nil]
  refine wpAny_bind (wpAny_bind (wpAny_bind (wpAny_holding (wpAny_nextOf_list_item hit hl hx fun h' hit' sb => ?_))))
  refine wpAny_pure ?_
  refine wpAny_pure ?_
  have hM' : h'.get? M = some (mapO T f) := (sb.2 M hMi).trans hM
  show wpAny _ _ (field (.ref M) 1 >>= _) _ _ _
  refine wpAny_bind (wpAny_field hM' rfl (x := f) rfl ?_)
  refine wpAny_bind (wpAny_holding (noE (h h' hit' sb) fun y s' q => ?_))
  refine wpAny_bind (wpAny_letGo ?_)
  exact wpAny_pure ⟨_, rfl, wpAny_pure q⟩
theorem map_end {M T it a : Addr} {f : Value} {i : Nat} {xs : Array Value} {Q : Option Value → Shared → Prop} (hh : A.handled = none) (hM : s.heap.get? M = some (mapO T f)) (hT : s.heap.get? T = some { cls := .type "tuple", data := .seq #[.ref it] })
    (hit : s.heap.IsListIter it a i) (hl : s.heap.IsList a xs) (hx : xs[i]? = none)
    (h : ∀ h', Heap.ExtBut it s.heap h' → Q none { s with heap := h' }) : wpAny (model prog w) A (pyNext (.ref M)) Q E s := by
  have hTy : s.TypeIs (.ref M) "map" := ⟨_, hM, rfl⟩
  unfold pyNext
  refine wpAny_bind (wpAny_attempt (wpAny_callSpecial?_slot (name := Str.ofString "__next__") hTy slot_map_next (wpAny_call_entry slot_map_next hTy entry_map_next ?_ (args_map_next _))))
  show wpAny _ _ (field (.ref M) 0 >>= _) _ _ s
  refine wpAny_bind (wpAny_field hM rfl (x := .ref T) rfl ?_)
  refine wpAny_bind (wpAny_seqItems hT rfl ?_)
  dsimp only
  rw [← Array.forIn_toList]
  simp only [List.forIn_cons, List.forIn_nil]
  refine wpAny_bind (wpAny_bind (wpAny_bind (wpAny_holding (wpAny_nextOf_list_end (by exact hh) hit hl hx fun h' e eb he => ?_))))
  obtain ⟨o, ho, hc⟩ := he
  refine wpAny_bind (wpAny_isInstance (T := "StopIteration") (b := true) ⟨o, ho, hc⟩ isSubtype_stop ?_)
  exact wpAny_pure (h h' eb)
end

section
variable {prog : Program} {w : World} {K : Frag} {G : Gl prog w K} {r : Nat} {sc : Scope} {l : Locs} {k : Kt} {Q : V → Prop}
theorem ext_loop {f : Value} {g : V → V} {S M T it a : Addr} {vs : List V} {xs : List Value} (hcall : ∀ v ∈ vs, CS G r f [v] (· = g v)) (hlen : vs.length ≤ 1000) {A : Around} (hh : A.handled = none) (hR : Room r A.in1.in1)
    (nd : S ≠ M ∧ S ≠ T ∧ S ≠ it ∧ M ≠ it ∧ T ≠ it) : ∀ (us pre : List V) (acc : List Value) (z : Zp) (s : Shared) {R : Result → Shared → Prop}, vs = pre ++ us → acc.length ≤ 1000 + pre.length → (∀ b o, G.zB b = some o → z b = some o) → Sub z s.heap → SeqIs "list" (z a) xs → RzL G.C z vs xs →
      z S = none → z M = none → z T = none → z it = none → s.heap.PlainList S acc.toArray → s.heap.get? M = some (mapO T f) → s.heap.get? T = some { cls := .type "tuple", data := .seq #[.ref it] } → s.heap.IsListIter it a pre.length →
      (∀ z' s' ys, ExtI [S, it] z s z' s' → s'.heap.PlainList S (acc ++ ys).toArray → RzL G.C z' (us.map g) ys → z' S = none → R (.ok (.ret .none)) s') →
      codeAny (model prog w) A (.builtin "list.extend.loop" ⟨[.ref S, .ref M, .none], []⟩) R s := by
  obtain ⟨d1, d2, d3, d4, d5⟩ := nd
  intro us
  induction us with
  | nil =>
    intro pre acc z s R hv hacc zB hs sq rl zS zM zT zi hS hM hT hit hR'
    have hL := isList_of (sq.mono fun o e => hs _ _ e)
    refine codeAny_builtin F.entry_extend_loop ?_
    rw [Around.under_plainId F.plain_extend_loop _]
    show wpAny _ A.in1 (pyNext (.ref M) >>= _) _ _ s
    refine wpAny_bind (map_end (by exact hh) hM hT hit hL (by rw [hv] at rl; simp [rl.length]) fun h' eb => ?_)
    have kp : ∀ b o, b ∉ [S, it] → s.heap.get? b = some o → h'.get? b = some o := fun b o nb e => by simp at nb; exact eb b o nb.2 e
    refine wpAny_pure (hR' z { s with heap := h' } [] ⟨fun _ _ e => e, fun b o e => eb b o (fun q => by rw [q, zi] at e; cases e) (hs b o e), kp, fun b o e n => (by rw [n] at e; cases e), rfl, rfl, rfl⟩ ?_ rfl zS)
    rw [List.append_nil]; exact hS.extBut eb d3
  | cons u us ih =>
    intro pre acc z s R hv hacc zB hs sq rl zS zM zT zi hS hM hT hit hR'
    have hL := isList_of (sq.mono fun o e => hs _ _ e)
    have hu : vs[pre.length]? = some u := by rw [hv]; simp
    have hpl : pre.length < vs.length := by rw [hv]; simp
    obtain ⟨x, hx, rx⟩ := rl.get _ _ hu
    refine codeAny_builtin F.entry_extend_loop ?_
    rw [Around.under_plainId F.plain_extend_loop _]
    show wpAny _ A.in1 (pyNext (.ref M) >>= _) _ _ s
    refine wpAny_bind (map_item hM hT hit hL (x := x) (by simpa using hx) d4 fun h₁ hit₁ sb₁ => ?_)
    have hs1 : Sub z h₁ := fun b o e => (sb₁.2 b (fun q => by rw [q, zi] at e; cases e)).trans (hs b o e)
    refine noE (hcall u (List.mem_of_getElem? hu) A.in1.in1 z { s with heap := h₁ } [x] (by exact hh) hR zB hs1 ⟨x, [], rfl, rx, rfl⟩) fun y s₂ ⟨z₂, v, e₂, ry, hv2⟩ => ?_
    subst hv2
    have alive : ∀ {b o}, h₁.get? b = some o → z b = none → z₂ b = none := fun hb hz => stays_none e₂ hb hz
    obtain ⟨n, hSo⟩ := hS
    have hS1 : h₁.get? S = some _ := (sb₁.2 S d3).trans hSo
    have hM1 : h₁.get? M = some _ := (sb₁.2 M d4).trans hM
    have hT1 : h₁.get? T = some _ := (sb₁.2 T d5).trans hT
    obtain ⟨oi, hoi, ci, di⟩ := id hit₁
    have hS2 := e₂.keep _ _ hS1
    show wpAny _ A.in1 (updateSeq S (·.push y) >>= _) _ _ _
    refine wpAny_bind ?_
    refine wpAny_updateSeq hS2 rfl ?_
    have hp3 : (s₂.heap.update S (Obj.mapSeq (·.push y))).PlainList S (acc ++ [y]).toArray := ⟨n + 1, by
      rw [Heap.get?_update_self _ hS2 (by rw [Obj.mapSeq_push_plain]; rfl), Obj.mapSeq_push_plain]; simp⟩
    have sb3 : Heap.SameBut S s₂.heap (s₂.heap.update S (Obj.mapSeq (·.push y))) := Heap.SameBut.update ..
    have zS2 := alive hS1 zS
    have kp3 : ∀ b o, b ≠ S → s₂.heap.get? b = some o → (s₂.heap.update S (Obj.mapSeq (·.push y))).get? b = some o := fun b o nb e => (sb3.2 b nb).trans e
    refine wpAny_pure ⟨plainId_quiet F.plain_extend_loop _, ih (pre ++ [u]) (acc ++ [y]) z₂ { s₂ with heap := s₂.heap.update S (Obj.mapSeq (·.push y)) } (by rw [hv]; simp) (by simp; omega) (fun b o e => e₂.zz _ _ (zB b o e)) (fun b o e => kp3 b o (fun q => by rw [q, zS2] at e; cases e) (e₂.sub b o e)) (sq.mono fun o e => e₂.zz _ _ e) (RzL.mono e₂.zz rl) zS2 (alive hM1 zM) (alive hT1 zT) (alive hoi zi) hp3 (kp3 _ _ (Ne.symm d1) (e₂.keep _ _ hM1)) (kp3 _ _ (Ne.symm d2) (e₂.keep _ _ hT1)) ⟨oi, kp3 _ _ (Ne.symm d3) (e₂.keep _ _ hoi), ci, by simpa using di⟩ fun z' s' ys ex hp' hry zS' => ?_⟩
    refine hR' z' s' (y :: ys) ⟨fun b o e => ex.zz _ _ (e₂.zz _ _ e), ex.sub, fun b o nb e => ?_, fun b o e nz => ?_, ex.gens.trans e₂.gens, ex.dr.trans e₂.dr, ex.os.trans e₂.os⟩ (by simpa using hp') ⟨y, ys, rfl, ry.mono ex.zz, hry⟩ zS'
    · have nb' := nb
      simp at nb'
      exact ex.keep b o nb (kp3 b o nb'.1 (e₂.keep _ _ ((sb₁.2 b nb'.2).trans e)))
    · cases q : s.heap.get? b with
      | none => rfl
      | some o' =>
        exfalso
        have hb1 : ∃ o, h₁.get? b = some o := by
          by_cases hbi : b = it
          · subst hbi; exact ⟨oi, hoi⟩
          · exact ⟨o', (sb₁.2 b hbi).trans q⟩
        obtain ⟨o1, hb1⟩ := hb1
        have hz2 := alive hb1 nz
        have := ex.new b o e hz2
        have hb2 := e₂.keep _ _ hb1
        by_cases hbS : b = S
        · subst hbS; obtain ⟨_, hp3⟩ := hp3; rw [hp3] at this; cases this
        · rw [kp3 b o1 hbS hb2] at this; cases this
end
end Mine

end
section
open PySem PySem.W PySem.Calls PyProof.Rows
set_option linter.unusedVariables false
set_option maxRecDepth 100000
namespace Mine
section
variable {prog : Program} {w : World} {K : Frag} {G : Gl prog w K} {r : Nat} {sc : Scope} {l : Locs} {k : Kt} {Q : V → Prop}
/-- an own list turns while the frozen part grows -/
theorem turnX {F : Frm G r sc} {z z' : Zp} {s s' : Shared} {x : Str} {xs ys : List V} {it : Addr} {m : Str → Option Value} {am : Str → Addr} (E : RepE F z s) (L : F.LocOk l z s.heap m am) (hl : l.lookup x = some (.own xs)) (off : F.Off l z am it) (ex : ExtI [am x, it] z s z' s')
    (hz : z' (am x) = none) (hp : Cont G.C z' s'.heap (am x) (.own ys)) : Rep F (upd l x (.own ys)) z' s' := by
  obtain ⟨⟨f, n1, n2⟩, _, tg⟩ := (L.ok x _ hl).of rfl
  obtain ⟨o1, o2, o3, o4, o5⟩ := off
  have notin : ∀ {b}, b ≠ am x → b ≠ it → b ∉ [am x, it] := fun h1 h2 h => by simp at h; rcases h with h | h; exact h1 h; exact h2 h
  have fr : ∀ {a o}, s.heap.get? a = some o → z a = none → z' a = none := fun {a o} ha hz => by
    cases q : z' a with
    | none => rfl
    | some o' => rw [ex.new a o' q hz] at ha; cases ha
  have nb : ∀ {b o}, F.base b = some o → b ∉ [am x, it] := fun e => notin (fun q => by rw [q, f.2] at e; cases e) (fun q => by rw [q, o2] at e; cases e)
  have nL : F.L ∉ [am x, it] := notin (Ne.symm n1) (fun q => o3 q.symm)
  have nm : ∀ {y vy}, F.Nm m s.heap y vy → F.Nm m s'.heap y vy := fun {y vy} n => by
    rcases n with n | ⟨n, c, e, o, ho, hd⟩
    · exact .inl n
    · refine .inr ⟨n, c, e, o, ex.keep c o ?_ ho, hd⟩
      rcases n with n | n
      · exact notin (n2 y c n e) (o4 y c n e)
      · obtain ⟨q, hq⟩ := L.fe y c n e
        exact nb hq
  have un : ∀ {y u}, (upd l x (.own ys)).lookup y = some u → u.mine = true → ∃ u', l.lookup y = some u' ∧ u'.mine = true := by
    intro y u hy hu
    rw [upd_lookup] at hy
    by_cases hyx : y = x
    · exact ⟨_, hyx ▸ hl, rfl⟩
    · rw [if_neg hyx] at hy; exact ⟨u, hy, hu⟩
  refine RepE.at (m := m) (am := am) ⟨ex.sub, fun b o e => ex.zz b o (E.zz b o e), fun b o e => ex.keep b o (nb e) (E.base b o e), fun b o e n => ?_, ex.gens.trans E.gens, ex.dr.trans E.dr, ex.os.trans E.os⟩
    ⟨by rw [upd_keys]; exact L.nd, ?_, ?_, fun y hy => ?_, L.cd, L.fe, fun y u hy => ?_, fun y y' u u' hy hy' hu hu' e => ?_⟩
  · cases q : z b with
    | some o' => exact E.new b o' q n
    | none =>
      have hn := ex.new b o e q
      cases q2 : F.base b with
      | none => rfl
      | some o2 => rw [E.base b o2 q2] at hn; cases hn
  · obtain ⟨o, es, ep, ho, rest⟩ := L.ns
    exact ⟨o, es, ep, ex.keep _ _ nL ho, rest⟩
  · obtain ⟨o, _, _, ho, _⟩ := L.ns
    exact ⟨fr ho L.fr.1, L.fr.2⟩
  · obtain ⟨c, v, e, ⟨o, ho, hd⟩, f', n⟩ := L.ce y hy
    exact ⟨c, v, e, ⟨o, ex.keep _ _ (notin (n2 y c hy e) (o4 y c hy e)) ho, hd⟩, ⟨fr ho f'.1, f'.2⟩, n⟩
  · rw [upd_lookup] at hy
    by_cases hyx : y = x
    · subst hyx
      rw [if_pos rfl, hl] at hy
      cases hy
      exact ⟨⟨⟨hz, f.2⟩, n1, n2⟩, hp, nm tg⟩
    · rw [if_neg hyx] at hy
      have q := L.ok y u hy
      cases hu : u.mine with
      | true =>
        obtain ⟨⟨f', m1, m2⟩, c, t⟩ := q.of hu
        obtain ⟨o, ho⟩ := c.alive hu
        exact .to hu ⟨⟨⟨fr ho f'.1, f'.2⟩, m1, m2⟩, c.mono ex.zz fun o' => ex.keep _ o' (notin (fun q => hyx (L.ds y x _ _ hy hl hu rfl q)) (o5 y u hy hu)), t.keep (fun _ n => nm n) rfl⟩
      | false =>
        cases u with
        | v v => obtain ⟨val, n, rz⟩ := q; exact ⟨val, nm n, rz.mono ex.zz⟩
        | app y' => obtain ⟨a, o, n, za, ap⟩ := q; exact ⟨a, o, nm n, ex.zz _ _ za, ap⟩
        | _ => cases hu
  · obtain ⟨a, ha, ma⟩ := un hy hu
    obtain ⟨b, hb, mb⟩ := un hy' hu'
    exact L.ds y y' a b ha hb ma mb e

theorem offOf {F : Frm G r sc} {z z' : Zp} {s : Shared} {m : Str → Option Value} {am : Str → Addr} {b : Addr} (E : RepE F z s) (L : F.LocOk l z s.heap m am) (hn : s.heap.get? b = none) (hz : z' b = none) : F.Off l z' am b := by
  refine ⟨hz, ?_, ?_, ?_, ?_⟩
  · cases q : F.base b with
    | none => rfl
    | some o => have := E.base b o q; rw [hn] at this; cases this
  · obtain ⟨o, _, _, ho, _⟩ := L.ns
    intro e; rw [← e, hn] at ho; cases ho
  · intro y c hy e
    obtain ⟨c', v, e', ⟨o, ho, _⟩, _⟩ := L.ce y hy
    rw [e] at e'; cases e'
    intro q; rw [q, hn] at ho; cases ho
  · intro y u hl hu q
    obtain ⟨o, ho⟩ := ((L.ok y _ hl).of hu).2.1.alive hu
    rw [q, hn] at ho; cases ho
theorem bootMapT : bootBuiltins "map" = some (.type "map") := by decide +kernel
theorem bootStrT : bootBuiltins "str" = some (.type "str") := by decide +kernel
/-- x.extend(map(str, e)) -/
theorem WX_extMap {x : Str} {xs vs : List V} {e : Expr} {p pn pc pa p1 p2 p3 : Pos} {g : V → V} (hl : l.lookup x = some (.own xs)) (hx1 : xs.length ≤ 500) (hm : nsIn K mainGlobals "map" = some none) (hst : nsIn K mainGlobals "str" = some none)
    (h : WE G (r + 1) sc l e (· = .lst vs)) (hv1 : vs.length ≤ 500) (hcall : ∀ v ∈ vs, CS G r (.type "str") [v] (· = g v)) (q : k.nx (upd l x (.own (xs ++ vs.map g))))
    (hgm : sc.names.lookup (Str.ofString "map") = some .globalImplicit := by rfl) (hgs : sc.names.lookup (Str.ofString "str") = some .globalImplicit := by rfl) (hp : plainEs [.Name "str" p2, e] = true := by rfl)
    (hline : (pa.endLine == pc.line) = true := by rfl) (hd : (x == ("__debug__" : Str)) = false := by decide) (hc : (x == ("__classdict__" : Str)) = false := by decide) :
    WX G (r + 1) sc l (.Expr (.Call (.Attribute (.Name x pn) "extend" pa) [.Call (.Name "map" p1) [.Name "str" p2, e] [] p3] [] pc) p) k := fun F z s R => by
  obtain ⟨m, am, L⟩ := R.loc
  obtain ⟨mi, ⟨vals, hpl, rl⟩, n⟩ := (L.ok x _ hl).of rfl
  refine wpAny_Expr ?_ (Frm.notI F) (swaps_no rfl _ _ _)
  have hpo : plainEs [.Call (.Name "map" p1) [.Name "str" p2, e] [] p3] = true := rfl
  rw [arm_eval_Call]
  refine wpAny_bind (wpAny_Name (Frm.load L.ns n hc ?_) hd)
  refine wpAny_bind (wpAny_standAt ?_)
  have hform : methodCallForm (([.Call (.Name "map" p1) [.Name "str" p2, e] [] p3] : List Expr).length + ([] : List Keyword).length) (backTo pc (starEach [.Call (.Name "map" p1) [.Name "str" p2, e] [] p3] F.env)) (backToKw pc (keywordEach [] F.env)) = true := by
    rw [backTo_plain hpo]; rfl
  unfold methodCall
  rw [hform]
  refine wpAny_bind (wpAny_holding ?_)
  obtain ⟨n0, hS0⟩ := id hpl
  refine getMethod_list_of PySem.F.slot_list_extend PySem.F.type_list_extend hpl.isList ⟨_, hS0, rfl⟩ ?_
  dsimp only
  refine wpAny_bind (wpAny_of_eq (a := pc) (by unfold methodCallPos; simp [hline]) ?_)
  rw [backTo_plain hpo]
  refine callWith_of (P := fun _ => True) rfl (fun hp X => ⟨.machine, .inr (.inl rfl), Looks.of_pure rfl⟩) ?_
  refine Calls.evalArgs_plain (Calls.spliced_cons ?_)
  refine wpAny_Call_ofName (wpAny_Name (Frm.global R.sB hgm (.inr (G.gB _ _ hm bootMapT (by decide))) ?_) (by decide))
  have hw : WEs G (r + 1) sc l [.Name "str" p2, e] (fun us => us = [.raw (.type "str"), .lst vs]) := WE_b hst bootStrT (WE.mono h fun v hv => by rw [hv]; rfl) (by decide) hgs (by decide)
  refine WEs.callWith (f := .type "map") (first := []) rfl hp R hw fun as s₁ z₁ us e₁ rl₁ hu => ?_
  subst hu
  obtain ⟨x1, _, rfl, hx1', x2, _, rfl, ⟨a, ws, rfl, sq, rw₁⟩, rfl⟩ := rl₁
  have hx1' : x1 = .type "str" := hx1'
  subst hx1'
  have hL := isList_of (sq.mono fun o e => e₁.sub _ _ e)
  refine call_map hL fun h₂ hM hT hit kp => ?_
  have e₂ : Ext z₁ s₁ z₁ { s₁ with heap := h₂ } := Ext.grow (t := s₁.toks) e₁.sub kp
  refine Calls.spliced_nil ⟨trivial, ?_⟩
  have e12 := e₁.trans e₂
  have hS2 := e12.keep _ _ hS0
  have hTS : ({ s₁ with heap := h₂ } : Shared).TypeIs (.ref (am x)) "list" := ⟨_, hS2, rfl⟩
  have hTM : ({ s₁ with heap := h₂ } : Shared).TypeIs (.ref (s₁.heap.objs.size + 2)) "map" := ⟨_, hM, rfl⟩
  have hlt : am x < s₁.heap.objs.size := Heap.lt_size (e₁.keep _ _ hS0)
  have hSM : am x ≠ s₁.heap.objs.size + 2 := Nat.ne_of_lt (Nat.lt_of_lt_of_le hlt (Nat.le_add_right _ _))
  have hST : am x ≠ s₁.heap.objs.size + 1 := Nat.ne_of_lt (Nat.lt_of_lt_of_le hlt (Nat.le_add_right _ _))
  have hSI : am x ≠ s₁.heap.objs.size := Nat.ne_of_lt hlt
  have nn := fun (j : Nat) => none_before e₁ (n := s₁.heap.objs.size + j) (Nat.le_add_right _ _)
  refine wpAny_call (codeAny_call_builtin PySem.F.slot_list_extend.plain PySem.F.entry_list_extend (PySem.F.slot_list_extend.check _ _ _ _ _ _ _ _ hTS (PySem.F.args_list_extend_2 _ _) ?_))
  show wpAny _ _ (Builtin.List.listExtendWith (.ref (am x)) (.ref (s₁.heap.objs.size + 2)) .none) _ _ _
  unfold Builtin.List.listExtendWith
  refine wpAny_bind (wpAny_typeOf hTM ?_)
  have b1 : Builtin.List.listSameRef (.ref (am x)) (.ref (s₁.heap.objs.size + 2)) = false := by simp [Builtin.List.listSameRef, hSM]
  have b2 : (Value.type "map" == Value.type "list") = false := by decide
  have b3 : (Value.type "map" == Value.type "tuple") = false := by decide
  simp only [b1, b2, b3, Bool.or_false, Bool.false_eq_true, if_false]
  refine wpAny_bind (wpAny_pyIter_slot hTM slot_map_iter (wpAny_call_entry slot_map_iter hTM entry_map_iter ?_ (args_map_iter _)))
  show wpAny _ _ (ret (.ref (s₁.heap.objs.size + 2))) _ _ _
  refine wpAny_pure ⟨_, rfl, "map", _, hTM, slot_map_next.lookup, ?_⟩
  refine wpAny_bind (wpAny_holding ?_)
  unfold Builtin.List.listLengthHint
  refine wpAny_bind (wpAny_specialOf hTM map_no_len ?_)
  show wpAny _ _ (specialOf (Value.ref (s₁.heap.objs.size + 2)) (Str.ofString "__length_hint__") >>= _) _ _ _
  refine wpAny_bind (wpAny_specialOf hTM map_no_hint ?_)
  refine wpAny_pure ?_
  show wpAny _ _ (rule "list.extend.makes-room" >>= fun _ => Builtin.List.listTouch (.ref (am x)) >>= fun _ => again (.builtin "list.extend.loop" ⟨[.ref (am x), .ref (s₁.heap.objs.size + 2), .none], []⟩)) _ _ _
  refine wpAny_bind (wpAny_rule ?_)
  refine wpAny_bind ?_
  show wpAny _ _ (updateSeq (am x) (·.push .none) >>= fun _ => updateSeq (am x) (·.pop)) _ _ _
  have hvl : vals.length ≤ 500 := by rw [rl.length]; exact hx1
  have hv2 : vals.toArray.size ≤ sizeLine := by rw [List.size_toArray]; exact nat_len' (by omega)
  have hv3 : (vals.toArray.push Value.none).size ≤ sizeLine := by rw [Array.size_push, List.size_toArray]; exact nat_len' (by omega)
  have hv4 : (vals.toArray.push Value.none).size ≤ sizeLine + 1 := Nat.le_succ_of_le hv3
  have hv5 : ((vals.toArray.push Value.none).pop).size ≤ sizeLine + 1 := by rw [Array.size_pop]; omega
  refine wpAny_bind (wpAny_updateSeq hS2 rfl ?_ hv2 hv4)
  have hS3 := Heap.get?_update_self (Obj.mapSeq (·.push Value.none)) hS2 rfl
  refine wpAny_updateSeq hS3 rfl ?_ hv3 hv5
  have hS4 := Heap.get?_update_self (Obj.mapSeq (·.pop)) hS3 rfl
  have oth : ∀ b, b ≠ am x → ((h₂.update (am x) (Obj.mapSeq (·.push Value.none))).update (am x) (Obj.mapSeq (·.pop))).get? b = h₂.get? b := fun b hb => (Heap.get?_update_ne _ _ _ _ hb).trans (Heap.get?_update_ne _ _ _ _ hb)
  have hp4 : ((h₂.update (am x) (Obj.mapSeq (·.push Value.none))).update (am x) (Obj.mapSeq (·.pop))).PlainList (am x) vals.toArray := ⟨n0 + 1 + 1, by
    refine hS4.trans ?_
    simp [Obj.mapSeq]⟩
  change wpAny _ _ _ _ _ { s₁ with heap := (h₂.update (am x) (Obj.mapSeq (·.push Value.none))).update (am x) (Obj.mapSeq (·.pop)) }
  generalize (h₂.update (am x) (Obj.mapSeq (·.push Value.none))).update (am x) (Obj.mapSeq (·.pop)) = h4 at hp4 oth
  have zS1 : z₁ (am x) = none := stays_none e₁ hS0 mi.fr.1
  have hs4 : Sub z₁ h4 := fun b o e => (oth b (fun q => by rw [q, zS1] at e; cases e)).trans (e12.sub b o e)
  have hRm : Room r F.A.in1.in1 := by
    have := F.room; unfold Room at this ⊢
    show F.A.depth + r < _ ∧ F.A.units + 1 + 1 + 60 * r + 60 < _
    omega
  have R12 := R.end.ext e12
  have L12 := L.ext e12
  refine wpAny_pure ⟨plainId_quiet PySem.F.plain_extend_loop _, ext_loop (G := G) (g := g) hcall (by omega) (A := F.A) F.hh hRm ⟨hSM, hST, hSI, ?_, ?_⟩ vs [] vals z₁ { s₁ with heap := h4 } rfl ?_ (R.ext e₁).zBsub hs4 sq rw₁ zS1 (nn 2).2 (nn 1).2 (nn 0).2 hp4 ((oth _ (Ne.symm hSM)).trans hM) ((oth _ (Ne.symm hST)).trans hT) ?_ ?_⟩
  · exact Nat.ne_of_gt (Nat.lt_add_of_pos_right (by decide))
  · exact Nat.ne_of_gt (Nat.lt_add_of_pos_right (by decide))
  · show vals.length ≤ 1000 + 0; omega
  · obtain ⟨oi, hoi, hci, hdi⟩ := hit
    exact ⟨oi, (oth _ (Ne.symm hSI)).trans hoi, hci, hdi⟩
  · intro z' s' ys ex hp' hry zS'
    have ex' : ExtI [am x, s₁.heap.objs.size] z₁ { s₁ with heap := h₂ } z' s' := ⟨ex.zz, ex.sub, fun b o nb e => ex.keep b o nb ((oth b (fun q => by subst q; simp at nb)).trans e), fun b o e nz => by
      have := ex.new b o e nz
      by_cases hbS : b = am x
      · subst hbS; rw [zS'] at e; cases e
      · exact (oth b hbS).symm.trans this, ex.gens, ex.dr, ex.os⟩
    have off := offOf (z' := z₁) (b := s₁.heap.objs.size) R.end L (nn 0).1 (nn 0).2
    refine ⟨z', _, turnX R12 L12 hl off ex' zS' ⟨vals ++ ys, hp', RzL.append hry (RzL.mono (fun b o e => ex.zz _ _ (e₁.zz _ _ e)) rl)⟩, q⟩
end
end Mine

end
section
open PySem PySem.W PySem.Calls PyProof.Rows
set_option linter.unusedVariables false
set_option maxRecDepth 100000
namespace Mine
section
variable {prog : Program} {w : World} {A : Around} {E : Value → Shared → Prop} {R : Result → Shared → Prop} {s : Shared}
/-- a list comprehension's loop, its iterator of any kind -/
theorem compLoop_any {elt target iter : Expr} {ifs : List Expr} {scope : Scope} {pos : Pos} {it acc : Value} {env : Env} (I : Nat → Shared → Prop)
    (turn : ∀ n s, I n s → wpAny (model prog w) A (pyNext it) (fun r s₁ => match r with
      | none => R (.ok .next) s₁
      | some v => wpAny (model prog w) A (letOwnedTupleGo target it v) (fun _ s₁ => wpAny (model prog w) A (assign target env v) (fun _ s₂ =>
          wpAny (model prog w) A (forIn ifs true fun c r => if r = true then do let ok ← isTrue c env (eval c env); pure (ForInStep.yield ok) else pure (ForInStep.yield r)) (fun ok s₃ =>
            if ok = true then wpAny (model prog w) A (eval elt env) (fun x s₄ =>
              wpAny (model prog w) A (call (.builtin "list.append") [acc, x]) (fun _ s₅ => ∃ m, m < n ∧ I m s₅) (fun _ _ => False) s₄) (fun _ _ => False) s₃
            else ∃ m, m < n ∧ I m s₃) (fun _ _ => False) s₂) (fun _ _ => False) s₁) (fun _ _ => False) s₁) (fun _ _ => False) s)
    (n : Nat) (h : I n s) : codeAny (model prog w) A (.compLoop (.ListComp elt [⟨target, iter, ifs, 0⟩] scope pos) 0 it acc env) R s := by
  refine codeAny_loop rfl I (fun n s hI => ?_) n h
  show wpAny _ A ((compTurn (.ListComp elt [⟨target, iter, ifs, 0⟩] scope pos) 0 it acc env).onRaise (fun x => do noteFrame x env; theTreesLotGoes x)) _ _ s
  refine wpAny_noted ?_
  rw [compTurn_list]
  refine wpAny_bind (wpAny_standAt (wpAny_bind (noE (turn n s hI) fun r s₁ h₁ => ?_)))
  cases r with
  | none => exact wpAny_pure h₁
  | some v =>
    refine wpAny_bind (noE h₁ fun _ s₁ h₁ => ?_)
    refine wpAny_bind (noE h₁ fun _ s₂ h₂ => wpAny_bind (noE h₂ fun ok s₃ h₃ => ?_))
    cases ok with
    | false => exact wpAny_pure ⟨rfl, h₃⟩
    | true =>
      exact wpAny_bind (wpAny_bind (noE h₃ fun x s₄ h₄ => wpAny_bind (noE h₄ fun _ s₅ h₅ => wpAny_pure (wpAny_pure ⟨rfl, h₅⟩))))
end
section
variable {prog : Program} {w : World} {K : Frag} {G : Gl prog w K} {r : Nat} {sc : Scope} {l : Locs} {k : Kt} {Q : V → Prop}
/-- the tests of a comprehension -/
noncomputable def WTs (G : Gl prog w K) (r : Nat) (sc : Scope) (l : Locs) : List Expr → (Bool → Prop) → Prop
  | [], P => P true
  | [e], P => WT G r sc l e P
  | _, _ => False
theorem WTs.run {F : Frm G r sc} {ifs : List Expr} {P : Bool → Prop} (h : WTs G r sc l ifs P) {z : Zp} {s : Shared} (R : Rep F l z s) :
    wpAny (model prog w) F.A (forIn ifs true fun c r => if r = true then do let ok ← isTrue c F.env (eval c F.env); pure (ForInStep.yield ok) else pure (ForInStep.yield r)) (fun b s' => ∃ z', Ext z s z' s' ∧ P b) (fun _ _ => False) s := by
  match ifs, h with
  | [], h => exact wpAny_tests_nil ⟨z, Ext.refl R.sub, h⟩
  | [e], h => exact wpAny_tests_one (h F z s R)
/-- one turn of a comprehension: what the item gives -/
noncomputable def WC1 (G : Gl prog w K) (r : Nat) (sc : Scope) (l0 : Locs) (tgt : Expr) (ifs : List Expr) (elt : Expr) (v : V) (o : Option V) : Prop :=
  ∀ g : Addr → List V → LV, True → WAs G r sc l0 tgt v fun l' => WTs G r sc l' ifs fun c => c = o.isSome ∧ (c = true → WE G r sc l' elt fun u => o = some u)
end
end Mine

end
section
open PySem PySem.W PySem.Calls PyProof.Rows
set_option linter.unusedVariables false
set_option maxRecDepth 100000
namespace Mine
section
variable {prog : Program} {w : World} {K : Frag} {G : Gl prog w K} {r : Nat} {sc : Scope} {l : Locs} {k : Kt} {Q : V → Prop}
/-- the scope of a comprehension within a frame of scope sc -/
noncomputable def relab (scope sc : Scope) : Scope :=
  { scope with names := scope.names.map fun (n, k) => if (k == .free && sc.kind == .function && sc.names.lookup n == some .cell) then (n, .cell) else (n, k) }
theorem relabel_eq (F : Frm G r sc) (scope : Scope) : relabel scope F.env = relab scope sc := rfl

/-- the cells that a comprehension closes over -/
noncomputable def cellsOf (cells : List (Str × Addr)) : List (Str × NameKind) → List (Str × Addr) → List (Str × Addr)
  | [], cs => cs
  | (n, k) :: r, cs => if k == .free then cellsOf cells r ((n, (cells.lookup n).getD 0) :: cs) else cellsOf cells r cs
theorem cellsOf_cons {cells : List (Str × Addr)} {n : Str} {k : NameKind} {r : List (Str × NameKind)} {cs : List (Str × Addr)} :
    cellsOf cells ((n, k) :: r) cs = if (k == .free) = true then cellsOf cells r ((n, (cells.lookup n).getD 0) :: cs) else cellsOf cells r cs := rfl
theorem closure_go {env : Env} : ∀ {names : List (Str × NameKind)} {cs : List (Str × Addr)}, (∀ x ∈ names, x.2 = .free → ∃ c, env.cells.lookup x.1 = some c) →
    (forIn names cs (fun x cs => match x with
      | (name, kind) => if (kind == NameKind.free) = true then (do let c ← cellOf env name; pure (ForInStep.yield ((name, c) :: cs))) else pure (ForInStep.yield cs)) : Sem (List (Str × Addr))) = pure (cellsOf env.cells names cs)
  | [], cs, _ => by rw [List.forIn_nil]; rfl
  | (n, kd) :: r, cs, h => by
    rw [List.forIn_cons]
    dsimp only
    cases hk : kd == NameKind.free with
    | true =>
      obtain ⟨c, hc⟩ := h (n, kd) List.mem_cons_self (by simpa using hk)
      have e : cellOf env n = pure c := by unfold cellOf; rw [show env.cells.lookup n = some c from hc]
      rw [if_pos rfl, e]
      show (forIn r _ _ : Sem _) = _
      rw [closure_go fun x hx => h x (List.mem_cons_of_mem _ hx)]
      rw [cellsOf_cons, hk, if_pos rfl, show env.cells.lookup n = some c from hc]
      rfl
    | false =>
      rw [if_neg (by simp)]
      show (forIn r _ _ : Sem _) = _
      rw [closure_go fun x hx => h x (List.mem_cons_of_mem _ hx)]
      rw [cellsOf_cons, hk, if_neg (by simp)]
theorem closure_eq {env : Env} {scope : Scope} (h : ∀ x ∈ scope.names, x.2 = .free → ∃ c, env.cells.lookup x.1 = some c) : closureFor scope env = pure (cellsOf env.cells scope.names []) := by
  unfold closureFor
  show ((forIn scope.names [] fun x cs => match x with
      | (name, kind) => if (kind == NameKind.free) = true then (do let c ← cellOf env name; pure (ForInStep.yield ((name, c) :: cs))) else pure (ForInStep.yield cs)) >>= fun cs => (pure cs : Sem _)) = _
  rw [closure_go h]
  rfl
end
end Mine

end
section
open PySem PySem.W PySem.Calls PyProof.Rows
set_option linter.unusedVariables false
set_option maxRecDepth 100000
namespace Mine
section
variable {prog : Program} {w : World} {A : Around} {E : Value → Shared → Prop}
/-- names bound by values -/
inductive NB : List Expr → List V → List (Str × V) → Prop where
  | nil : NB [] [] []
  | cons {x : Str} {p : Pos} {es : List Expr} {v : V} {vs : List V} {bs : List (Str × V)} : NB es vs bs → NB (.Name x p :: es) (v :: vs) ((x, v) :: bs)
/-- what a target of names binds -/
inductive TB : Expr → V → List (Str × V) → Prop where
  | name {x : Str} {p : Pos} {v : V} : TB (.Name x p) v [(x, v)]
  | tup {es : List Expr} {x1} {p : Pos} {vs : List V} {bs : List (Str × V)} : NB es vs bs → TB (.Tuple es x1 p) (.tup vs) bs

theorem assign_names {env : Env} {C : Addr} {z : Zp} (hp : (env.scope.kind == .class || (env.scope.kind == .module && env.locals != env.globals)) = false) {P : Unit → Shared → Prop}
    {es : List Expr} {vs : List V} {bs : List (Str × V)} (hb : NB es vs bs) : ∀ {xs : List Value} {s : Shared} {m : Str → Option Value}, RzL C z vs xs → (∀ p ∈ bs, env.kindOf p.1 = some .local) → (bs.map (·.1)).Nodup → s.heap.Ns env.locals m →
    (∀ h' t m', h'.Ns env.locals m' → Heap.SameBut env.locals s.heap h' → (∀ y, y ∉ bs.map (·.1) → m' y = m y) → (∀ p ∈ bs, ∃ val, m' p.1 = some val ∧ Rz C z p.2 val) → P () { s with heap := h', toks := t }) →
    wpAny (model prog w) A (assignInOrder (es.map fun t => assign t env) xs) P E s := by
  induction hb with
  | nil =>
    intro xs s m rl hl nd ns k
    have rl : xs = [] := rl
    subst rl
    exact wpAny_assignInOrder_none (k s.heap s.toks m ns (Heap.SameBut.refl ..) (fun _ _ => rfl) (fun _ h => nomatch h))
  | @cons x p es v vs bs hb ih =>
    intro xs s m rl hl nd ns k
    obtain ⟨y, r, rfl, h1, h2⟩ := rl
    rw [List.map_cons, List.nodup_cons] at nd
    refine wpAny_assignInOrder_more (wpAny_assign_Name (wpAny_storeName_local (hl (x, v) List.mem_cons_self) ns (fun h₁ ns₁ sb₁ => ?_) hp))
    refine ih h2 (fun p hp => hl p (List.mem_cons_of_mem _ hp)) nd.2 ns₁ fun h' t m' ns' sb' old new => ?_
    refine k h' t m' ns' (sb₁.trans sb') (fun y hy => ?_) fun q hq => ?_
    · rw [List.map_cons, List.mem_cons, not_or] at hy
      rw [old y hy.2, if_neg hy.1]
    · rcases List.mem_cons.mp hq with rfl | hq
      · exact ⟨y, by rw [old x nd.1, if_pos rfl], h1⟩
      · exact new q hq
theorem NB.plain {es : List Expr} {vs : List V} {bs : List (Str × V)} (h : NB es vs bs) : plainEs es = true ∧ es.length = vs.length := by
  induction h with
  | nil => exact ⟨rfl, rfl⟩
  | cons _ ih =>
    refine ⟨?_, by rw [List.length_cons, List.length_cons, ih.2]⟩
    have := ih.1
    unfold plainEs at this ⊢
    rw [List.all_cons, this]
    rfl
theorem assign_TB {env : Env} {C : Addr} {z : Zp} (hp : (env.scope.kind == .class || (env.scope.kind == .module && env.locals != env.globals)) = false) {P : Unit → Shared → Prop}
    {tgt : Expr} {v : V} {bs : List (Str × V)} (hb : TB tgt v bs) {x : Value} {s : Shared} {m : Str → Option Value} (hh : A.handled = none) (hz : Sub z s.heap) (rz : Rz C z v x) (hl : ∀ p ∈ bs, env.kindOf p.1 = some .local) (nd : (bs.map (·.1)).Nodup) (ns : s.heap.Ns env.locals m)
    (k : ∀ h' t m', h'.Ns env.locals m' → (∀ b o, b ≠ env.locals → s.heap.get? b = some o → h'.get? b = some o) → (∀ p ∈ bs, ∃ val, m' p.1 = some val ∧ Rz C z p.2 val) → P () { s with heap := h', toks := t }) :
    wpAny (model prog w) A (assign tgt env x) P E s := by
  cases hb with
  | name =>
    refine wpAny_assign_Name (wpAny_storeName_local (hl (_, v) List.mem_cons_self) ns (fun h₁ ns₁ sb₁ => ?_) hp)
    refine k h₁ _ _ ns₁ (fun b o hb e => sb₁.extBut b o hb e) fun p hp => ?_
    rw [List.mem_singleton.mp hp]
    exact ⟨x, by rw [if_pos rfl], rz⟩
  | @tup es x1 p vs bs hn =>
    obtain ⟨a, xs, rfl, sq, rl⟩ := rz
    have hl' := rl.length
    have pl := hn.plain
    have he : (assignEach es env).map (·.2) = es.map fun t => assign t env := by rw [assignEach_plain pl.1, List.map_map]; rfl
    refine wpAny_assign_Tuple hh (isTuple_of (sq.mono fun o e => hz _ _ e)) (by rw [assignEach_plain pl.1, List.length_map, List.size_toArray]; omega) (by
      rw [assignEach_plain pl.1, List.findIdx?_eq_none_iff]
      intro y hy
      obtain ⟨t, _, rfl⟩ := List.mem_map.mp hy
      rfl) fun h' e => ?_
    rw [he]
    have up : ∀ b o, s.heap.get? b = some o → h'.get? b = some o := fun b o q => e b o (Nat.ne_of_lt (Heap.lt_size q)) q
    exact assign_names hp hn rl hl nd (ns.keeps up) fun h₂ t m' ns' sb _ new => k h₂ t m' ns' (fun b o hb q => sb.extBut b o hb (up b o q)) new
end
end Mine

end
section
open PySem PySem.W PySem.Calls PyProof.Rows
set_option linter.unusedVariables false
set_option maxRecDepth 100000
namespace Mine
section
variable {prog : Program} {w : World} {K : Frag} {G : Gl prog w K} {r : Nat} {sc : Scope} {l : Locs} {k : Kt} {Q : V → Prop}
theorem cellsOf_lookup {cells : List (Str × Addr)} {y : Str} : ∀ {names : List (Str × NameKind)} {cs : List (Str × Addr)}, ((y, NameKind.free) ∈ names ∨ cs.lookup y = some ((cells.lookup y).getD 0)) → (cellsOf cells names cs).lookup y = some ((cells.lookup y).getD 0)
  | [], cs, h => h.elim (fun h => nomatch h) fun h => h
  | (n, kd) :: r, cs, h => by
    rw [cellsOf_cons]
    cases hk : kd == NameKind.free with
    | true =>
      rw [if_pos rfl]
      refine cellsOf_lookup ?_
      by_cases hy : y = n
      · subst hy; right; rw [List.lookup_cons]; simp
      · rcases h with h | h
        · rcases List.mem_cons.mp h with h | h
          · cases h; exact absurd rfl hy
          · exact .inl h
        · right
          rw [List.lookup_cons]
          have : (y == n) = false := by simpa using hy
          rw [this]; exact h
    | false =>
      rw [if_neg (by simp)]
      refine cellsOf_lookup ?_
      rcases h with h | h
      · rcases List.mem_cons.mp h with h | h
        · cases h; simp at hk
        · exact .inl h
      · exact .inr h
theorem relab_cell {y : Str} {kd : NameKind} (hkd : kd = .cell ∨ kd = .free) : ∀ {names : List (Str × NameKind)}, (∀ x ∈ names, x.2 ≠ .cell) →
    (names.map fun (n, k) => if (k == NameKind.free && sc.kind == .function && sc.names.lookup n == some .cell) then (n, NameKind.cell) else (n, k)).lookup y = some kd → (y, NameKind.free) ∈ names ∧ (kd = .cell → sc.names.lookup y = some .cell) ∧ (kd = .free → sc.kind = .function → sc.names.lookup y ≠ some .cell)
  | [], _, h => by cases h
  | (n, k') :: r, hc, h => by
    rw [List.map_cons] at h
    dsimp only at h
    have next : (List.map (fun (n, k) => if (k == NameKind.free && sc.kind == .function && sc.names.lookup n == some .cell) then (n, NameKind.cell) else (n, k)) r).lookup y = some kd → (y, NameKind.free) ∈ (n, k') :: r ∧ (kd = .cell → sc.names.lookup y = some .cell) ∧ (kd = .free → sc.kind = .function → sc.names.lookup y ≠ some .cell) := fun h => by
      obtain ⟨a, b⟩ := relab_cell hkd (fun x hx => hc x (List.mem_cons_of_mem _ hx)) h
      exact ⟨List.mem_cons_of_mem _ a, b⟩
    by_cases ht : (k' == NameKind.free && sc.kind == .function && sc.names.lookup n == some .cell) = true
    · rw [if_pos ht, List.lookup_cons] at h
      cases hy : y == n with
      | true =>
        rw [hy] at h
        have e : y = n := by simpa using hy
        subst e
        cases h
        simp at ht
        obtain ⟨⟨rfl, _⟩, h3⟩ := ht
        exact ⟨List.mem_cons_self, fun _ => h3, fun h => by cases h⟩
      | false => rw [hy] at h; exact next h
    · rw [if_neg ht, List.lookup_cons] at h
      cases hy : y == n with
      | true =>
        rw [hy] at h
        have e : y = n := by simpa using hy
        subst e
        cases h
        rcases hkd with rfl | rfl
        · exact absurd rfl (hc _ List.mem_cons_self)
        · exact ⟨List.mem_cons_self, (fun h => by cases h), fun _ hk e => by simp [hk, e] at ht⟩
      | false => rw [hy] at h; exact next h
end
end Mine

end
section
open PySem PySem.W PySem.Calls PyProof.Rows
set_option linter.unusedVariables false
set_option maxRecDepth 100000
namespace Mine
section
variable {prog : Program} {w : World} {K : Frag} {G : Gl prog w K} {r : Nat} {sc : Scope} {l : Locs} {k : Kt} {Q : V → Prop}
/-- a comprehension's scope can stand in a frame of scope sc -/
structure CompOk (sc scope : Scope) : Prop where
  fn : scope.kind = .function
  nc : ∀ x ∈ scope.names, x.2 ≠ .cell
  cap : ∀ x ∈ scope.names, x.2 = .free → sc.names.lookup x.1 = some .cell
  loc : ∀ x ∈ scope.names, x.2 = .local → scope.names.lookup x.1 = some .local
/-- the captured names, their values -/
noncomputable def Capt (scope sc : Scope) (l : Locs) : Locs → Prop
  | [] => True
  | p :: q => (l.lookup p.1 = some p.2 ∧ (∃ v, p.2 = .v v) ∧ (relab scope sc).names.lookup p.1 = some .cell) ∧ Capt scope sc l q
theorem Capt.mem {scope : Scope} : ∀ {c : Locs}, Capt scope sc l c → ∀ p ∈ c, l.lookup p.1 = some p.2 ∧ (∃ v, p.2 = .v v) ∧ (relab scope sc).names.lookup p.1 = some .cell
  | _ :: _, ⟨h, t⟩, p, hp => by
    rcases List.mem_cons.mp hp with rfl | hp
    · exact h
    · exact t.mem p hp
open Classical in
noncomputable def compFrm (F : Frm G r sc) (scope : Scope) (C : Addr) (z : Zp) (h : Heap) (hk : scope.kind = .function) (zB : ∀ b o, G.zB b = some o → z b = some o) : Frm G r (relab scope sc) :=
  Frm.mk C (cellsOf F.cells scope.names []) F.qual none F.code F.frame F.A
    (fun b => if b = C ∨ (∃ x, sc.names.lookup x = some .cell ∧ F.cells.lookup x = some b) then none else h.get? b) z F.g F.dr F.os hk zB F.hh F.room

theorem comp_rep {F : Frm G r sc} {scope : Scope} (ok : CompOk sc scope) {z₀ z : Zp} {s₀ s : Shared} {m : Str → Option Value} {am : Str → Addr} {C : Addr} {m' : Str → Option Value} {bs : List (Str × V)} {cp : Locs}
    (E : RepE F z₀ s₀) (L : F.LocOk l z₀ s₀.heap m am) (zz : ∀ b o, z₀ b = some o → z b = some o) (sub : Sub z s.heap) (keep : ∀ b o, s₀.heap.get? b = some o → s.heap.get? b = some o)
    (new : ∀ b o, z b = some o → z₀ b = none → s₀.heap.get? b = none) (eg : s.gens = s₀.gens) (ed : s.drawn = s₀.drawn) (eo : s.os = s₀.os) (hk : scope.kind = .function) (zB : ∀ b o, G.zB b = some o → z b = some o)
    (hC₀ : s₀.heap.get? C = none) (hC : z C = none) (ns : s.heap.Ns C m') (hcp : Capt scope sc l cp) (hbs : ∀ p ∈ bs, (relab scope sc).names.lookup p.1 = some .local) (hv : ∀ p ∈ bs, ∃ val, m' p.1 = some val ∧ Rz G.C z p.2 val)
    (nd : ((bs.map (fun p => (p.1, LV.v p.2)) ++ cp).map (·.1)).Nodup) : Rep (compFrm F scope C z s.heap hk zB) (bs.map (fun p => (p.1, LV.v p.2)) ++ cp) z s := by
  have cellz : ∀ {x c}, sc.names.lookup x = some .cell → F.cells.lookup x = some c → z c = none ∧ (compFrm F scope C z s.heap hk zB).base c = none ∧ c ≠ C ∧ ∃ v, s.heap.IsCell c v := fun {x c} hx hc => by
    obtain ⟨c', v, e, ⟨o, ho, hd⟩, f, n⟩ := L.ce x hx
    rw [hc] at e; cases e
    refine ⟨?_, ?_, ?_, v, o, keep _ _ ho, hd⟩
    · cases q : z c with
      | none => rfl
      | some o' => rw [new c o' q f.1] at ho; cases ho
    · unfold compFrm; dsimp only; rw [if_pos (.inr ⟨x, hx, hc⟩)]
    · rintro rfl; rw [hC₀] at ho; cases ho
  have look : ∀ {y}, (relab scope sc).names.lookup y = some .cell → sc.names.lookup y = some .cell ∧ ∃ c, F.cells.lookup y = some c ∧ (cellsOf F.cells scope.names []).lookup y = some c := fun {y} hy => by
    obtain ⟨a, b, _⟩ := relab_cell (.inl rfl) ok.nc hy
    obtain ⟨c, v, e, _⟩ := L.ce y (b rfl)
    exact ⟨b rfl, c, e, by rw [cellsOf_lookup (.inl a), e]; rfl⟩
  have lv : ∀ {x u}, (bs.map (fun p => (p.1, LV.v p.2)) ++ cp).lookup x = some u → ∃ v, u = .v v ∧ ∃ val, (compFrm F scope C z s.heap hk zB).Nm m' s.heap x val ∧ Rz G.C z v val := fun {x u} e => by
    rcases List.mem_append.mp (lookup_mem e) with q | q
    · obtain ⟨p, hp, e⟩ := List.mem_map.mp q
      cases e
      obtain ⟨val, h1, h2⟩ := hv p hp
      exact ⟨_, rfl, val, .inl ⟨hbs p hp, h1⟩, h2⟩
    · obtain ⟨h1, ⟨v, h2⟩, h3⟩ := hcp.mem _ q
      have h2 : u = .v v := h2
      subst h2
      obtain ⟨hx, c, e1, e2⟩ := look h3
      obtain ⟨val, n, rz⟩ := L.ok x _ h1
      refine ⟨v, rfl, val, .inr ⟨.inl h3, c, e2, ?_⟩, rz.mono zz⟩
      rcases n with ⟨n, _⟩ | ⟨_, c', e', o, ho, hd⟩
      · rw [hx] at n; cases n
      · rw [e1] at e'; cases e'
        exact ⟨o, keep _ _ ho, hd⟩
  refine ⟨sub, fun _ _ e => e, fun b o e => ?_, fun b o e n => ?_, eg.trans E.gens, ed.trans E.dr, eo.trans E.os, m', am, nd, ns, ⟨hC, ?_⟩, fun y hy => ?_, fun x y c hx hy e e' => ?_, fun x c hx e => ?_, fun x u e => ?_, fun x y u u' e _ hu => ?_⟩
  · unfold compFrm at e; dsimp only at e
    split at e
    · cases e
    · exact e
  · have n : z b = none := n
    rw [n] at e; cases e
  · unfold compFrm; dsimp only; rw [if_pos (.inl rfl)]
  · obtain ⟨hx, c, e1, e2⟩ := look hy
    obtain ⟨a1, a2, a3, v, a4⟩ := cellz hx e1
    exact ⟨c, v, e2, a4, ⟨a1, a2⟩, a3⟩
  · obtain ⟨hx', c1, e1, e2⟩ := look hx
    obtain ⟨hy', c2, e3, e4⟩ := look hy
    have e : (cellsOf F.cells scope.names []).lookup x = some c := e
    have e' : (cellsOf F.cells scope.names []).lookup y = some c := e'
    rw [e] at e2; cases e2
    rw [e'] at e4; cases e4
    exact L.cd x y c hx' hy' e1 e3
  · obtain ⟨a, _, b⟩ := relab_cell (.inr rfl) ok.nc hx
    exact absurd (ok.cap _ a rfl) (b rfl F.hk)
  · obtain ⟨v, rfl, h⟩ := lv e
    exact h
  · obtain ⟨v, rfl, h⟩ := lv e
    cases hu
end
end Mine

end
section
open PySem PySem.W PySem.Calls PyProof.Rows
set_option linter.unusedVariables false
set_option maxRecDepth 100000
namespace Mine
section
variable {prog : Program} {w : World} {K : Frag} {G : Gl prog w K} {r : Nat} {sc : Scope} {l : Locs} {k : Kt} {Q : V → Prop}
/-- an iterable whose iterator gives itself -/
noncomputable def WIc (G : Gl prog w K) (r : Nat) (sc : Scope) (l : Locs) (tgt iter : Expr) (Q : List V → Prop) : Prop :=
  ∀ (F : Frm G r sc) z s, Rep F l z s → wpAny (model prog w) F.A (eval iter F.env) (fun x s₁ => wpAny (model prog w) F.A (pyIter x) (fun I s₂ => ∃ ad z₂ vs St, DIt G F.A tgt I ad z₂ vs St ∧ Ext z s z₂ s₂ ∧
    (∀ b ∈ ad, s.heap.get? b = none ∧ z₂ b = none) ∧ St 0 s₂.heap ∧ (∀ (s' : Shared) (P : Value → Shared → Prop) (E : Value → Shared → Prop), St 0 s'.heap → P I s' → wpAny (model prog w) F.A (pyIter I) P E s') ∧ Q vs) (fun _ _ => False) s₁) (fun _ _ => False) s

theorem WIc_list {tgt iter : Expr} {Q : List V → Prop} (h : WE G r sc l iter fun v => ∃ vs, v = .lst vs ∧ Q vs) : WIc G r sc l tgt iter Q := fun F z s R =>
  noE (h F z s R) fun x s₁ ⟨z₁, v, e₁, rz, vs, hv, q⟩ => by
    have sub₁ := e₁.sub
    subst hv
    obtain ⟨a, xs, rfl, sq, rl⟩ := rz
    have hl : s₁.heap.IsList a xs.toArray := isList_of (sq.mono fun o e => sub₁ _ _ e)
    refine wpAny_pyIter_list hl ?_
    refine ⟨_, z₁, vs, _, DIt.list F.hh sq rl sub₁.fresh, e₁.trans (Ext.grow (t := s₁.toks) e₁.sub fun b o e => Heap.get?_push_of_some _ e), fun b hb => ?_, ⟨⟨_, Heap.get?_push_size _ rfl, rfl, rfl⟩, hl.push _⟩, fun s' P E st hP => wpAny_pyIter_listiter st.1 hP, q⟩
    rw [List.mem_singleton.mp hb]
    exact none_before e₁ (Nat.le_refl _)

/-- a comprehension over these items -/
noncomputable def CompT (G : Gl prog w K) (r : Nat) (sc : Scope) (cp : Locs) (tgt : Expr) (ifs : List Expr) (elt : Expr) (P : List V → Prop) : List V → List V → Prop
  | [], done => P done
  | v :: vs, done => ∃ bs, TB tgt v bs ∧ (∀ p ∈ bs, sc.names.lookup p.1 = some .local) ∧ ((bs.map (fun p => (p.1, LV.v p.2)) ++ cp).map (·.1)).Nodup ∧
      WTs G r sc (bs.map (fun p => (p.1, LV.v p.2)) ++ cp) ifs fun c => (c = false → CompT G r sc cp tgt ifs elt P vs done) ∧
        (c = true → WE G r sc (bs.map (fun p => (p.1, LV.v p.2)) ++ cp) elt fun u => CompT G r sc cp tgt ifs elt P vs (done ++ [u]))
end
end Mine

end
section
open PySem PySem.W PySem.Calls PyProof.Rows
set_option linter.unusedVariables false
set_option maxRecDepth 100000
namespace Mine
section
variable {prog : Program} {w : World} {K : Frag} {G : Gl prog w K} {r : Nat} {sc : Scope} {l : Locs} {k : Kt} {Q : V → Prop}
/-- growth, some fresh things apart -/
theorem Ext.thenI {z₀ z z' : Zp} {s₀ s s' : Shared} {ad : List Addr} (x : Ext z₀ s₀ z s) (y : ExtI ad z s z' s') (h : ∀ b ∈ ad, s₀.heap.get? b = none) : Ext z₀ s₀ z' s' where
  zz b o e := y.zz b o (x.zz b o e)
  sub := y.sub
  keep b o e := y.keep b o (fun hb => by rw [h b hb] at e; cases e) (x.keep b o e)
  new b o e n := by
    cases q : z b with
    | some o' => exact x.new b o' q n
    | none =>
      have := y.new b o e q
      cases q2 : s₀.heap.get? b with
      | none => rfl
      | some o2 => rw [x.keep b o2 q2] at this; cases this
  gens := y.gens.trans x.gens
  dr := y.dr.trans x.dr
  os := y.os.trans x.os
theorem ExtI.none {z z' : Zp} {s s' : Shared} {ad : List Addr} (y : ExtI ad z s z' s') {b : Addr} {o : Obj} (h : s.heap.get? b = some o) (hz : z b = none) : z' b = none := by
  cases q : z' b with
  | none => rfl
  | some o' => rw [y.new b o' q hz] at h; cases h
/-- a heap in which one fresh thing turned -/
theorem Ext.but {z₀ z : Zp} {s₀ s : Shared} {C : Addr} {h' : Heap} {t : Nat} (x : Ext z₀ s₀ z s) (hC : s₀.heap.get? C = none) (hz : z C = none) (k : ∀ b o, b ≠ C → s.heap.get? b = some o → h'.get? b = some o) : Ext z₀ s₀ z { s with heap := h', toks := t } where
  zz := x.zz
  sub b o e := k b o (fun q => by rw [q, hz] at e; cases e) (x.sub b o e)
  keep b o e := k b o (fun q => by rw [q, hC] at e; cases e) (x.keep b o e)
  new := x.new
  gens := x.gens
  dr := x.dr
  os := x.os
end
end Mine

end
section
open PySem PySem.W PySem.Calls PyProof.Rows
set_option linter.unusedVariables false
set_option maxRecDepth 100000
namespace Mine
section
variable {prog : Program} {w : World} {K : Frag} {G : Gl prog w K} {r : Nat} {sc : Scope} {l : Locs} {k : Kt} {Q : V → Prop}
noncomputable abbrev lstO (vals : List Value) : Obj := { cls := .type "list", data := .seq vals.toArray vals.length }
/-- the state within a comprehension's loop -/
structure CInv (G : Gl prog w K) (sc' : Scope) (cp : Locs) (tgt : Expr) (ifs : List Expr) (elt : Expr) (r : Nat) (P : List V → Prop) (St : Nat → Heap → Prop) (vs : List V) (ad : List Addr) (C D : Addr) (z₂ z₀ : Zp) (s₀ : Shared) (i : Nat) (s : Shared) : Prop where
  ex : ∃ z m' done vals, (∀ b o, z₂ b = some o → z b = some o) ∧ Ext z₀ s₀ z s ∧ z C = none ∧ z D = none ∧ (∀ b ∈ ad, z b = none) ∧ s.heap.Ns C m' ∧ s.heap.get? D = some (lstO vals) ∧ RzL G.C z done vals ∧ vals.length ≤ i ∧
    St i s.heap ∧ i ≤ vs.length ∧ CompT G r sc' cp tgt ifs elt P (vs.drop i) done

theorem comp_loop {F : Frm G r sc} {scope : Scope} (ok : CompOk sc scope) {tgt iter elt : Expr} {ifs : List Expr} {pos : Pos} {I : Value} {ad : List Addr} {z₂ z₀ : Zp} {vs : List V} {St : Nat → Heap → Prop} (Dt : DIt G F.A tgt I ad z₂ vs St)
    {s₀ : Shared} {m : Str → Option Value} {am : Str → Addr} (E : RepE F z₀ s₀) (L : F.LocOk l z₀ s₀.heap m am) {cp : Locs} (hcp : Capt scope sc l cp) {P : List V → Prop} {C D : Addr} {R : Result → Shared → Prop}
    (hC : s₀.heap.get? C = none) (hD : s₀.heap.get? D = none) (hCD : C ≠ D) (had : ∀ b ∈ ad, s₀.heap.get? b = none ∧ b ≠ C ∧ b ≠ D) (hsz : vs.length ≤ sizeLine)
    (fin : ∀ s z m' done vals, Ext z₀ s₀ z s → z C = none → z D = none → s.heap.Ns C m' → s.heap.get? D = some (lstO vals) → RzL G.C z done vals → P done → R (.ok .next) s)
    (s : Shared) (h : CInv G (relab scope sc) cp tgt ifs elt r P St vs ad C D z₂ z₀ s₀ 0 s) :
    codeAny (model prog w) F.A (.compLoop (.ListComp elt [⟨tgt, iter, ifs, 0⟩] scope pos) 0 I (.ref D) (compEnvC scope (cellsOf F.cells scope.names []) C F.env)) R s := by
  refine compLoop_any (fun n s => ∃ i, n = vs.length + 1 - i ∧ i ≤ vs.length ∧ CInv G (relab scope sc) cp tgt ifs elt r P St vs ad C D z₂ z₀ s₀ i s) ?_ (vs.length + 1) ⟨0, rfl, Nat.zero_le _, h⟩
  rintro n s ⟨i, hn, hi, ⟨z, m', done, vals, hz₂, ex, zC, zD, zad, ns, hDl, rl, hlen, st, _, ct⟩⟩
  have zB : ∀ {z' : Zp}, (∀ b o, z b = some o → z' b = some o) → ∀ b o, G.zB b = some o → z' b = some o := fun h b o e => h b o (ex.zz b o (E.zz b o (F.zB b o e)))
  obtain ⟨oC, _, _, hoC, _⟩ := id ns
  have adC : C ∉ ad := fun h => (had C h).2.1 rfl
  have adD : D ∉ ad := fun h => (had D h).2.2 rfl
  cases hv : vs[i]? with
  | none =>
    have hi' : i = vs.length := Nat.le_antisymm hi (by simpa using hv)
    subst hi'
    rw [List.drop_length] at ct
    refine noE (Dt.done z s hz₂ ex.sub st zad) fun o s₁ ⟨ho, ei⟩ => ?_
    subst ho
    exact fin s₁ z m' done vals (ex.thenI ei fun b hb => (had b hb).1) zC zD (ns.at' fun o e => ei.keep _ o adC e) (ei.keep _ _ adD hDl) rl ct
  | some v =>
    have hlt : i < vs.length := (List.getElem?_eq_some_iff.mp hv).1
    have hd : vs.drop i = v :: vs.drop (i + 1) := by
      rw [List.drop_eq_getElem_cons hlt]
      congr 1
      rw [List.getElem?_eq_getElem hlt] at hv
      exact Option.some.inj hv
    rw [hd] at ct
    obtain ⟨bs, tb, hbs, nd, wt⟩ := ct
    refine noE (Dt.item i v hv z s hz₂ ex.sub st zad) fun o s₁ ⟨x, ho, hgo⟩ => ?_
    subst ho
    dsimp only
    refine noE hgo fun _ s₂ ⟨z₃, ei, rz, st₂⟩ => ?_
    have ex₂ := ex.thenI ei fun b hb => (had b hb).1
    have ns₂ := ns.at' fun o e => ei.keep _ o adC e
    have hD₂ := ei.keep _ _ adD hDl
    have zC₂ := ei.none hoC zC
    have zD₂ := ei.none hDl zD
    have zad₂ : ∀ b ∈ ad, z₃ b = none := fun b hb => let ⟨o, ho⟩ := Dt.alive _ _ st b hb; ei.none ho (zad b hb)
    have hz₃ : ∀ b o, z₂ b = some o → z₃ b = some o := fun b o e => ei.zz b o (hz₂ b o e)
    have nd' : (bs.map (·.1)).Nodup := by
      rw [List.map_append] at nd
      have := (List.nodup_append.mp nd).1
      rw [List.map_map] at this
      exact this
    refine assign_TB (env := compEnvC scope (cellsOf F.cells scope.names []) C F.env) (C := G.C) (z := z₃) (by simp [compEnvC, relabel, ok.fn]) tb F.hh ex₂.sub rz hbs nd' ns₂ fun h₃ t₃ m₃ ns₃ kp₃ new₃ => ?_
    have ex₃ := ex₂.but (t := t₃) hC zC₂ kp₃
    have st₃ : St (i + 1) h₃ := Dt.keep _ _ _ st₂ (fun b hb o e => kp₃ b o (fun q => adC (by have q : b = C := q; rw [← q]; exact hb)) e) fun b o e => ex₃.sub b o (hz₃ b o e)
    have hD₃ := kp₃ _ _ (Ne.symm hCD) hD₂
    have zB₃ := zB (z' := z₃) ei.zz
    have R₃ := comp_rep (s := { s₂ with heap := h₃, toks := t₃ }) ok E L ex₃.zz ex₃.sub ex₃.keep ex₃.new ex₃.gens ex₃.dr ex₃.os ok.fn zB₃ hC zC₂ ns₃ hcp hbs new₃ nd
    refine noE (WTs.run wt R₃) fun c s₄ ⟨z₄, e₄, wc⟩ => ?_
    have nn : ∀ {b o} {s' : Shared} {z' : Zp}, Ext z₃ { s₂ with heap := h₃, toks := t₃ } z' s' → h₃.get? b = some o → z₃ b = none → z' b = none := fun x h hz => stays_none x h hz
    obtain ⟨oC₃, _, _, hoC₃, _⟩ := id ns₃
    have al₃ := Dt.alive _ _ st₃
    cases c with
    | false =>
      refine ⟨vs.length + 1 - (i + 1), by omega, i + 1, rfl, hlt, z₄, m₃, done, vals, fun b o e => e₄.zz b o (hz₃ b o e), ex₃.trans e₄, nn e₄ hoC₃ zC₂, nn e₄ hD₃ zD₂, fun b hb => let ⟨o, ho⟩ := al₃ b hb; nn e₄ ho (zad₂ b hb),
        ns₃.keeps e₄.keep, e₄.keep _ _ hD₃, RzL.mono (fun b o e => e₄.zz b o (ei.zz b o e)) rl, Nat.le_succ_of_le hlen, Dt.keep _ _ _ st₃ (fun b _ o e => e₄.keep b o e) (fun b o e => e₄.sub b o (e₄.zz b o (hz₃ b o e))), hlt, wc.1 rfl⟩
    | true =>
      refine noE (wc.2 rfl _ _ _ (R₃.ext e₄)) fun y s₅ ⟨z₅, u, e₅, ru, cu⟩ => ?_
      have e' := e₄.trans e₅
      refine append_at (hsz := by rw [List.size_toArray]; omega) (e'.keep _ _ hD₃) fun h₆ sb hD₆ => ?_
      have zD₅ := nn e' hD₃ zD₂
      have kp₆ : ∀ b o, b ≠ D → s₅.heap.get? b = some o → h₆.get? b = some o := fun b o hb e => sb.extBut b o hb e
      have ex₆ := (ex₃.trans e').but (t := s₅.toks) hD zD₅ kp₆
      have zz₆ : ∀ b o, z b = some o → z₅ b = some o := fun b o e => e'.zz b o (ei.zz b o e)
      refine ⟨vs.length + 1 - (i + 1), by omega, i + 1, rfl, hlt, z₅, m₃, done ++ [u], vals ++ [y], fun b o e => zz₆ b o (hz₂ b o e), ex₆, nn e' hoC₃ zC₂, zD₅, fun b hb => let ⟨o, ho⟩ := al₃ b hb; nn e' ho (zad₂ b hb),
        (ns₃.keeps e'.keep).sameBut sb hCD, ?_, RzL.append (RzL.one ru) (RzL.mono zz₆ rl), by rw [List.length_append, List.length_singleton]; omega, ?_, hlt, cu⟩
      · refine hD₆.trans (congrArg some ?_)
        show ({ cls := .type "list", data := .seq (vals.toArray.push y) (vals.length + 1) } : Obj) = lstO (vals ++ [y])
        rw [lstO, List.length_append, List.length_singleton, List.push_toArray]
      · exact Dt.keep _ _ _ st₃ (fun b hb o e => kp₆ b o (fun q => adD (q ▸ hb)) (e'.keep b o e)) (fun b o e => ex₆.sub b o (zz₆ b o (hz₂ b o e)))
end
end Mine

end
section
open PySem PySem.W PySem.Calls PyProof.Rows
set_option linter.unusedVariables false
set_option maxRecDepth 100000
namespace Mine
section
variable {prog : Program} {w : World} {K : Frag} {G : Gl prog w K} {r : Nat} {sc : Scope} {l : Locs} {k : Kt} {Q : V → Prop}
theorem comp_block {F : Frm G r sc} {scope : Scope} (ok : CompOk sc scope) {tgt iter elt : Expr} {ifs : List Expr} {pos : Pos} {cp : Locs} (hcp : Capt scope sc l cp) {P : List V → Prop}
    {z : Zp} {s : Shared} (R : Rep F l z s) {RR : Value → Addr → Result → Shared → Prop} (hi : WIc G r sc l tgt iter fun vs => vs.length ≤ sizeLine ∧ CompT G r (relab scope sc) cp tgt ifs elt P vs [])
    (fin : ∀ C D z' s' m' done vals, s.heap.get? C = none → s.heap.get? D = none → C ≠ D → Ext z s z' s' → z' C = none → z' D = none → s'.heap.Ns C m' → s'.heap.get? D = some (lstO vals) → RzL G.C z' done vals → P done → RR (.ref D) C (.ok .next) s') :
    wpAny (model prog w) F.A (eval iter F.env) (fun xv s₁ => wpAny (model prog w) F.A (pyIter xv) (fun it s₂ =>
      wpAny (model prog w) F.A (newList []) (fun acc s₃ => wpAny (model prog w) F.A (newFunctionEnv scope F.env.globals (cellsOf F.cells scope.names []) [] F.env.qual none .none (some F.env)) (fun cenv s₄ =>
        codeAny (model prog w) F.A (.compStart (.ListComp elt [⟨tgt, iter, ifs, 0⟩] scope pos) 0 it acc { cenv with scope := relabel scope F.env }) (RR acc cenv.locals) s₄) (fun _ _ => False) s₃) (fun _ _ => False) s₂) (fun _ _ => False) s₁) (fun _ _ => False) s := by
  refine noE (hi F z s R) fun x s₁ h₁ => noE h₁ fun it s₂ ⟨ad, z₂, vs, St, Dt, ex, had, st, self, hsz, ct⟩ => ?_
  obtain ⟨m, am, L⟩ := R.loc
  refine wpAny_newObj_type (wpAny_newFunctionEnv ok.nc (by intro y hy; simp at hy) (fun h₁ hns₁ hsb₁ => ?_) ok.fn)
  dsimp only at hns₁ hsb₁ ⊢
  generalize hH2 : s₂.heap.push { cls := .type "list", dict := none, data := .seq ([] : List Value).toArray } = H2 at hns₁ hsb₁ ⊢
  have hC : H2.objs.size = s₂.heap.objs.size + 1 := by rw [← hH2, Heap.size_push]
  obtain ⟨D0, zD⟩ := none_before ex (Nat.le_refl s₂.heap.objs.size)
  obtain ⟨C0, zC⟩ := none_before ex (show s₂.heap.objs.size ≤ H2.objs.size by rw [hC]; exact Nat.le_succ _)
  have hCD : H2.objs.size ≠ s₂.heap.objs.size := by rw [hC]; exact Nat.succ_ne_self _
  have old : ∀ b o, s₂.heap.get? b = some o → h₁.get? b = some o := fun b o e => by
    have lt := Heap.lt_size e
    exact hsb₁.extBut b o (by rw [hC]; exact Nat.ne_of_lt (Nat.lt_succ_of_lt lt)) (Heap.get?_push_of_some _ (hH2 ▸ Heap.get?_push_of_some _ e))
  have ex₃ : Ext z s z₂ { s₂ with heap := h₁, toks := s₂.toks + ([] : List (Str × Value)).length } := ex.trans (Ext.grow ex.sub old)
  have hD : h₁.get? s₂.heap.objs.size = some (lstO []) := hsb₁.extBut _ _ (Ne.symm hCD) (Heap.get?_push_of_some _ (hH2 ▸ Heap.get?_push_size _ rfl))
  have st₁ : St 0 h₁ := Dt.keep _ _ _ st (fun b _ o e => old b o e) ex₃.sub
  have adlt : ∀ b ∈ ad, b < s₂.heap.objs.size := fun b hb => let ⟨o, ho⟩ := Dt.alive _ _ st b hb; Heap.lt_size ho
  have loop : ∀ s₃ : Shared, s₃ = { s₂ with heap := h₁, toks := s₂.toks + ([] : List (Str × Value)).length } → codeAny (model prog w) F.A (.compLoop (.ListComp elt [⟨tgt, iter, ifs, 0⟩] scope pos) 0 it (.ref s₂.heap.objs.size) (compEnvC scope (cellsOf F.cells scope.names []) H2.objs.size F.env)) (RR (.ref s₂.heap.objs.size) H2.objs.size) s₃ := by
    rintro s₃ rfl
    exact comp_loop ok Dt R.end L hcp C0 D0 hCD (fun b hb => ⟨(had b hb).1, by rw [hC]; exact Nat.ne_of_lt (Nat.lt_succ_of_lt (adlt b hb)), Nat.ne_of_lt (adlt b hb)⟩) hsz
      (fun s' z' m' done vals => fin _ _ z' s' m' done vals C0 D0 hCD) _ ⟨z₂, _, [], [], fun _ _ e => e, ex₃, zC, zD, fun b hb => (had b hb).2, hns₁, hD, rfl, Nat.zero_le _, st₁, Nat.zero_le _, ct⟩
  exact codeAny_compStart_list (loop _ rfl) (self _ _ _ st₁ (loop _ rfl))

/-- a list comprehension's value -/
theorem WE_comp {scope : Scope} (ok : CompOk sc scope) {tgt iter elt : Expr} {ifs : List Expr} {pos : Pos} (cp : Locs) (hcp : Capt scope sc l cp)
    (hi : WIc G r sc l tgt iter fun vs => vs.length ≤ sizeLine ∧ CompT G r (relab scope sc) cp tgt ifs elt (fun done => Q (.lst done)) vs [])
    (hs : ∀ (F : Frm G r sc) x, foldedSetIterable iter F.env x = pure x := by intro _ _; rfl) : WE G r sc l (.ListComp elt [⟨tgt, iter, ifs, 0⟩] scope pos) Q := fun F z s R => by
  obtain ⟨m, am, L⟩ := R.loc
  rw [eval_ListComp]
  refine wpAny_comprehension_free (use := none) rfl (hs F) (closure_eq fun x hx hf => ?_) ok.fn ok.loc ?_
  · obtain ⟨c, v, e, _⟩ := L.ce x.1 (ok.cap x hx hf)
    exact ⟨c, e⟩
  · refine comp_block (RR := fun acc C => compPost (model prog w) F.A _ none _ acc C) ok hcp R hi ?_
    intro C D z' s' m' done vals hC hD hCD ex zC zD ns hDl rl q
    refine ⟨m', ns, fun h' sb => ?_⟩
    have kp : ∀ b o, b ≠ C → s'.heap.get? b = some o → h'.get? b = some o := fun b o hb e => sb.extBut b o hb e
    have ex' := ex.but (t := s'.toks) hC zC kp
    refine ⟨z'.put D (lstO vals), .lst done, ⟨fun b o e => Zp.put_old zD b o (ex.zz b o e), fun b o e => ?_, ex'.keep, fun b o e n => ?_, ex.gens, ex.dr, ex.os⟩, ⟨D, vals, rfl, ⟨_, _, Zp.put_self, rfl, rfl, rfl⟩, RzL.mono (Zp.put_old zD) rl⟩, q⟩
    · by_cases hb : b = D
      · subst hb; rw [Zp.put_self] at e; cases e; exact kp _ _ (Ne.symm hCD) hDl
      · exact ex'.sub b o (by simpa [Zp.put, hb] using e)
    · by_cases hb : b = D
      · subst hb; exact hD
      · exact ex.new b o (by simpa [Zp.put, hb] using e) n

/-- a frame on another base -/
@[reducible] noncomputable def Frm.reb (F : Frm G r sc) (B : Zp) : Frm G r sc := { F with base := B }
theorem Frm.LocOk.reb {F : Frm G r sc} {B : Zp} {z : Zp} {h h' : Heap} {m : Str → Option Value} {am : Str → Addr} (L : F.LocOk l z h m am)
    (fr : ∀ a o, h.get? a = some o → F.Fresh z a → B a = none ∧ h'.get? a = some o)
    (fe : ∀ x c, sc.names.lookup x = some .free → F.cells.lookup x = some c → (∃ o, B c = some o) ∧ ∀ o, h.get? c = some o → h'.get? c = some o) : (F.reb B).LocOk l z h' m am := by
  have kc : ∀ {x c}, sc.names.lookup x = some .cell ∨ sc.names.lookup x = some .free → F.cells.lookup x = some c → ∀ o, h.get? c = some o → h'.get? c = some o := fun {x c} hx e => by
    rcases hx with hx | hx
    · obtain ⟨c', v, e', ⟨o, ho, hd⟩, f, n⟩ := L.ce x hx
      rw [e] at e'; cases e'
      intro o' ho'
      exact (fr c o' ho' f).2
    · exact (fe x c hx e).2
  have nm : ∀ {x val}, F.Nm m h x val → (F.reb B).Nm m h' x val := fun {x val} n => by
    rcases n with n | ⟨n, c, e, ⟨o, ho, hd⟩⟩
    · exact .inl n
    · exact .inr ⟨n, c, e, o, kc n e o ho, hd⟩
  have f1 : ∀ {a o}, h.get? a = some o → F.Fresh z a → (F.reb B).Fresh z a := fun ha f => ⟨f.1, (fr _ _ ha f).1⟩
  refine ⟨L.nd, ?_, ?_, fun y hy => ?_, L.cd, fun x c hx e => (fe x c hx e).1, fun y lv hy => ?_, L.ds⟩
  · obtain ⟨o, _, _, ho, _⟩ := id L.ns
    exact L.ns.at' fun o' e => (fr _ o' e L.fr).2
  · obtain ⟨o, _, _, ho, _⟩ := L.ns
    exact f1 ho L.fr
  · obtain ⟨c, v, e, ⟨o, ho, hd⟩, f, n⟩ := L.ce y hy
    exact ⟨c, v, e, ⟨o, (fr c o ho f).2, hd⟩, f1 ho f, n⟩
  · have k := L.ok y lv hy
    cases hu : lv.mine with
    | true =>
      obtain ⟨mi, c, t⟩ := k.of hu
      obtain ⟨o, ho⟩ := c.alive hu
      refine .to hu ⟨⟨f1 ho mi.fr, mi.nl, mi.nc⟩, c.mono (fun _ _ e => e) fun o' e => (fr _ o' e mi.fr).2, ?_⟩
      cases lv with
      | own xs => exact nm t
      | gl a xs => exact t
      | gd a ks vs => exact t
      | v _ => trivial
      | app _ => trivial
    | false =>
      cases lv with
      | v v =>
        obtain ⟨val, n, rz⟩ := k
        exact ⟨val, nm n, rz⟩
      | app y' =>
        obtain ⟨q, o, n, zq, ap⟩ := k
        exact ⟨q, o, nm n, zq, ap⟩
      | _ => cases hu

/-- a comprehension that is assigned to a local name -/
theorem WX_assignComp {x : Str} {p p' : Pos} {scope : Scope} (ok : CompOk sc scope) {tgt iter elt : Expr} {ifs : List Expr} {pos : Pos} (cp : Locs) (hcp : Capt scope sc l cp)
    (hi : WIc G r sc l tgt iter fun vs => vs.length ≤ sizeLine ∧ CompT G r (relab scope sc) cp tgt ifs elt (fun done => k.nx (put l x (.v (.lst done)))) vs [])
    (hsw : ∀ (F : Frm G r sc), swapsWith (.ListComp elt [⟨tgt, iter, ifs, 0⟩] scope pos) (some (.Name x p')) p.line F.env = pure true)
    (hx : stored sc x = true := by rfl)
    (hs : ∀ (F : Frm G r sc) x, foldedSetIterable iter F.env x = pure x := by intro _ _; rfl) : WX G r sc l (.Assign [.Name x p'] (.ListComp elt [⟨tgt, iter, ifs, 0⟩] scope pos) p) k := fun F z s R => by
  obtain ⟨m, am, L⟩ := R.loc
  rw [exec_Assign_Name_used _ _ _ _ (hsw F)]
  refine wpAny_bind (wpAny_standAt (wpAny_bind ?_))
  show wpAny _ F.A (do let _ ← comprehension (.ListComp elt [⟨tgt, iter, ifs, 0⟩] scope pos) scope F.env _ (newList []) false (eval iter F.env) (some (assign (.Name x p') F.env))) _ _ s
  refine wpAny_bind (noE (wpAny_comprehension_free (use := some (assign (.Name x p') F.env)) (Q := fun _ s' => ∃ z' l', Rep F l' z' s' ∧ k.nx l') rfl (hs F) (closure_eq fun x hx hf => ?_) ok.fn ok.loc ?_) fun _ s' hq => wpAny_pure (wpAny_pure hq))
  · obtain ⟨c, v, e, _⟩ := L.ce x.1 (ok.cap x hx hf)
    exact ⟨c, e⟩
  · refine comp_block (RR := fun acc C => compPost (model prog w) F.A _ (some (assign (.Name x p') F.env)) _ acc C) ok hcp R hi ?_
    intro C D z' s' m' done vals hC hD hCD ex zC zD ns hDl rl q
    show wpAny _ F.A (assign (.Name x p') F.env (.ref D)) _ _ _
    have ex' : Ext z s (z'.put D (lstO vals)) s' := ⟨fun b o e => Zp.put_old zD b o (ex.zz b o e), fun b o e => by
        by_cases hb : b = D
        · subst hb; rw [Zp.put_self] at e; cases e; exact hDl
        · exact ex.sub b o (by simpa [Zp.put, hb] using e), ex.keep, fun b o e n => by
        by_cases hb : b = D
        · subst hb; exact hD
        · exact ex.new b o (by simpa [Zp.put, hb] using e) n, ex.gens, ex.dr, ex.os⟩
    have rz : Rz G.C (z'.put D (lstO vals)) (.lst done) (.ref D) := ⟨D, vals, rfl, ⟨_, _, Zp.put_self, rfl, rfl, rfl⟩, RzL.mono (Zp.put_old zD) rl⟩
    have zC' : (z'.put D (lstO vals)) C = none := by simp [Zp.put, hCD, zC]
    generalize z'.put D (lstO vals) = z₂ at ex' rz zC'
    obtain ⟨oC, _, _, hoC, _⟩ := id ns
    have bC : F.base C = none := by
      cases q : F.base C with
      | none => rfl
      | some o => rw [R.base _ _ q] at hC; cases hC
    let B : Zp := fun b => if b = C then some oC else F.base b
    have fe' : ∀ x c, sc.names.lookup x = some .free → F.cells.lookup x = some c → c ≠ C := fun x c hx e h => by
      obtain ⟨o, ho⟩ := L.fe x c hx e
      rw [h, bC] at ho; cases ho
    have L₁ : (F.reb B).LocOk l z₂ s'.heap m am := Frm.LocOk.ext (F := F.reb B) (L.reb (B := B) (h' := s.heap) (fun a o ho f => ⟨by
        have : a ≠ C := fun h => by rw [h, hC] at ho; cases ho
        show (if a = C then _ else _) = _
        rw [if_neg this]; exact f.2, ho⟩) fun x c hx e => ⟨by
        obtain ⟨o, ho⟩ := L.fe x c hx e
        refine ⟨o, ?_⟩
        show (if c = C then _ else _) = _
        rw [if_neg (fe' x c hx e)]; exact ho, fun _ e => e⟩) ex'
    have R₀ := R.ext ex'
    have R₁ : Rep (F.reb B) l z₂ s' := ⟨R₀.sub, R₀.zz, fun b o e => by
        by_cases hb : b = C
        · subst hb
          have e : (if b = b then some oC else F.base b) = some o := e
          rw [if_pos rfl] at e; cases e; exact hoC
        · have e : (if b = C then some oC else F.base b) = some o := e
          rw [if_neg hb] at e; exact R₀.base b o e, fun b o e n => by
        have hb : b ≠ C := fun h => by rw [h, zC'] at e; cases e
        show (if b = C then _ else _) = _
        rw [if_neg hb]; exact R₀.new b o e n, R₀.gens, R₀.dr, R₀.os, m, am, L₁⟩
    refine wpAny_assign_Name (Rep.storeV (F := F.reb B) R₁ (stored_or hx) rz fun s₂ R₂ => ?_)
    have C₂ : s₂.heap.get? C = some oC := R₂.base C oC (if_pos rfl)
    refine ⟨m', ns.at' fun o e => by rw [hoC] at e; cases e; exact C₂, fun h' sb => ?_⟩
    obtain ⟨m₂, am₂, L₂⟩ := R₂.loc
    have kp : ∀ b o, b ≠ C → s₂.heap.get? b = some o → h'.get? b = some o := fun b o hb e => sb.extBut b o hb e
    have fC : ∀ {a}, (F.reb B).Fresh z₂ a → a ≠ C ∧ F.base a = none := fun {a} f => by
      have e : (if a = C then some oC else F.base a) = none := f.2
      by_cases ha : a = C
      · rw [if_pos ha] at e; cases e
      · rw [if_neg ha] at e; exact ⟨ha, e⟩
    refine ⟨z₂, _, ⟨fun b o e => kp b o (fun h => by rw [h, zC'] at e; cases e) (R₂.sub b o e), R₂.zz, fun b o e => ?_, R₀.new, R₂.gens, R₂.dr, R₂.os, m₂, am₂, Frm.LocOk.reb (F := F.reb B) (B := F.base) L₂ (fun a o ho f => ⟨(fC f).2, kp a o (fC f).1 ho⟩) fun x c hx e => ⟨L.fe x c hx e, fun o ho => kp c o (fe' x c hx e) ho⟩⟩, q⟩
    have hb : b ≠ C := fun h => by rw [h, bC] at e; cases e
    exact kp b o hb (R₂.base b o (by show (if b = C then _ else _) = _; rw [if_neg hb]; exact e))
end
end Mine

end
section
open PySem PySem.W PySem.Calls PyProof.Rows
set_option linter.unusedVariables false
set_option maxRecDepth 100000
namespace Mine
section
variable {prog : Program} {w : World} {K : Frag} {G : Gl prog w K} {r : Nat} {sc : Scope} {l : Locs} {k : Kt} {Q : V → Prop}
theorem cellsFrom_has {x : Str} : ∀ {names : List (Str × NameKind)} {n : Nat} {acc : List (Str × Addr)}, ((x, NameKind.cell) ∈ names ∨ (acc.lookup x).isSome = true) → ((cellsFrom n names acc).lookup x).isSome = true
  | [], n, acc, h => h.elim (fun h => nomatch h) fun h => h
  | (y, kd) :: r, n, acc, h => by
    unfold cellsFrom
    split
    · rename_i hk
      refine cellsFrom_has ?_
      by_cases hy : x = y
      · subst hy; right; rw [List.lookup_cons]; simp
      · rcases h with h | h
        · rcases List.mem_cons.mp h with h | h
          · cases h; exact absurd rfl hy
          · exact .inl h
        · right
          rw [List.lookup_cons]
          have : (x == y) = false := by simpa using hy
          rw [this]; exact h
    · rename_i hk
      refine cellsFrom_has ?_
      rcases h with h | h
      · rcases List.mem_cons.mp h with h | h
        · cases h; simp at hk
        · exact .inl h
      · exact .inr h

/-- a def of the top with cells of its own, of one local parameter, is called -/
theorem CS_defC1 {f : Addr} {name qual : Str} {params : Arguments} {body : List Stmt} {dV kV doc pm cdv ct oc : Value} {an od : Option Addr} {osl : Array (Option Value)} {v : V} (nm : Str)
    (ho : K.lookup f = some ⟨oc, od, .func (fnOf name qual params body sc dV kV doc pm an cdv ct), osl⟩) (hcd : codeIn K cdv qual = true)
    (h : WS G r sc [(nm, .v v)] body { nx := fun _ => Q .nil, rt := Q })
    (hb : ∀ x : Value, bindArgs (fnOf name qual params body sc dV kV doc pm an cdv ct) ⟨[x], []⟩ = pure [(nm, x)])
    (hloc : sc.names.lookup nm = some .local := by decide +kernel)
    (hfree : (sc.names.all fun x => x.2 != .free) = true := by decide +kernel) (hco : sc.isCoroutine = false := by rfl) (hgen : sc.isGenerator = false := by rfl) (hk : sc.kind = .function := by rfl) :
    CS G (r + 1) (.ref f) [v] Q := fun A z s xs hh hR zB hs rl => by
  have X : K.In s.heap := fun b o e => hs _ _ (zB _ _ (G.inK b o e))
  obtain ⟨x, r0, rfl, rz, rfl⟩ := rl
  have hnf : ∀ x, sc.names.lookup x ≠ some .free := fun x e => by
    have := List.all_eq_true.mp hfree _ (lookup_some_mem e)
    simp at this
  refine wpAny_call (codeAny_call_cells (fd := fnOf name qual params body sc dV kV doc pm an cdv ct) (body := body) (binds := [(nm, x)]) hR.lt (X _ _ ho) rfl (G.nolim _ fun b o e => hs _ _ (zB _ _ e)) (codeRec_of X hcd) rfl (hb x) rfl
    (fun y hy => .inl (by rw [List.mem_singleton.mp hy]; exact hloc)) (fun s₁ ic => ?_) hco hgen hk)
  let F : Frm G r sc := Frm.mk s.heap.objs.size (cellsFrom (s.heap.objs.size + 1) sc.names []) (qual ++ ".<locals>.") (some f) cdv (some s.heap.objs.size) (A.deeper (callEnvC (fnOf name qual params body sc dV kV doc pm an cdv ct) s.heap.objs.size f))
      (fun b => s.heap.get? b) z s.gens s.drawn s.os hk zB hh hR.deeper
  have above : ∀ {b}, s.heap.objs.size ≤ b → z b = none ∧ s.heap.get? b = none := fun {b} hb => by
    have g : s.heap.get? b = none := by
      cases q : s.heap.get? b with
      | none => rfl
      | some o => exact absurd (Heap.lt_size q) (Nat.not_lt_of_le hb)
    refine ⟨?_, g⟩
    cases q : z b with
    | none => rfl
    | some o => rw [hs b o q] at g; cases g
  obtain ⟨h₁, tk, rfl⟩ := ic.toInCall.same
  have L0 : F.LocOk [(nm, .v v)] z h₁ (bindL (callEnvC (fnOf name qual params body sc dV kV doc pm an cdv ct) s.heap.objs.size f).kindOf [(nm, x)] fun _ => none) (fun _ => 0) := by
    refine ⟨by simp, ic.toInCall.ns, above (Nat.le_refl _), fun y hy => ?_, fun y y' c hy hy' e e' => ?_, fun y c e => absurd e (hnf y), fun y lv e => ?_, fun y y' u u' hy _ hu => ?_⟩
    · obtain ⟨c, hc⟩ := Option.isSome_iff_exists.mp (cellsFrom_has (n := s.heap.objs.size + 1) (acc := []) (.inl (lookup_some_mem hy)))
      have hgt : s.heap.objs.size < c := ic.above y c (mem_of_lookup hc)
      exact ⟨c, _, hc, ic.cell y c hc, above (Nat.le_of_lt hgt), Nat.ne_of_gt hgt⟩
    · exact name_of_addr ic.apart (mem_of_lookup e) (mem_of_lookup e')
    · have e : List.lookup y [(nm, LV.v v)] = some lv := e
      rw [List.lookup_cons] at e
      cases q : y == nm with
      | false => rw [q] at e; cases e
      | true =>
        rw [q] at e; cases e
        have := eq_of_beq q
        subst this
        refine ⟨x, .inl ⟨hloc, ?_⟩, rz⟩
        have hk' : (callEnvC (fnOf name qual params body sc dV kV doc pm an cdv ct) s.heap.objs.size f).kindOf y = some .local := hloc
        simp [bindL, hk']
    · have e : List.lookup y [(nm, LV.v v)] = some u := hy
      rw [List.lookup_cons] at e
      cases q : y == nm with
      | false => rw [q] at e; cases e
      | true => rw [q] at e; cases e; cases hu
  have R0 : Rep F [(nm, .v v)] z { s with heap := h₁, toks := tk } :=
      ⟨fun b o e => ic.toInCall.keep b o (hs b o e), fun _ _ e => e, ic.toInCall.keep, fun b o e n => (by have n' : z b = none := n; rw [n'] at e; cases e), rfl, rfl, rfl, _, _, L0⟩
  have ex : ∀ {z' : Zp} {s' : Shared}, RepE F z' s' → Ext z s z' s' := fun R => ⟨R.zz, R.sub, R.base, R.new, R.gens, R.dr, R.os⟩
  refine noE (h F z _ R0) fun fl s' p => ?_
  cases fl with
  | next => obtain ⟨z', l', R', q⟩ := p; exact ⟨z', .nil, ex R'.end, rfl, q⟩
  | brk => obtain ⟨_, _, _, q⟩ := p; exact q.elim
  | cont => obtain ⟨_, _, _, q⟩ := p; exact q.elim
  | ret x => obtain ⟨z', v, R', rz, q⟩ := p; exact ⟨z', v, ex R', rz, q⟩
end
end Mine

end
section
open PySem PySem.W PySem.Calls PyProof.Rows
set_option linter.unusedVariables false
set_option maxRecDepth 100000
namespace Mine
section
variable {prog : Program} {w : World} {K : Frag} {G : Gl prog w K} {r : Nat} {sc : Scope} {l : Locs} {k : Kt} {Q : V → Prop}
noncomputable def compOkB (sc scope : Scope) : Bool := scope.kind == .function && (scope.names.all fun x => x.2 != .cell) && (scope.names.all fun x => x.2 != .free || sc.names.lookup x.1 == some .cell) && (scope.names.all fun x => x.2 != .local || scope.names.lookup x.1 == some .local)
theorem CompOk.of {scope : Scope} (h : compOkB sc scope = true) : CompOk sc scope := by
  unfold compOkB at h
  rw [Bool.and_eq_true, Bool.and_eq_true, Bool.and_eq_true] at h
  obtain ⟨⟨⟨h1, h2⟩, h3⟩, h4⟩ := h
  refine ⟨by simpa using h1, fun x hx => by simpa using List.all_eq_true.mp h2 x hx, fun x hx e => ?_, fun x hx e => ?_⟩
  · have := List.all_eq_true.mp h3 x hx
    simpa [e] using this
  · have := List.all_eq_true.mp h4 x hx
    simpa [e] using this
theorem WTs.mono {ifs : List Expr} {P P' : Bool → Prop} (h : WTs G r sc l ifs P) (k : ∀ c, P c → P' c) : WTs G r sc l ifs P' := by
  match ifs, h with
  | [], h => exact k _ h
  | [e], h => exact WT.mono h k
/-- a comprehension over images: those that pass, mapped -/
theorem CompT.map {α : Type} {cp : Locs} {tgt elt : Expr} {ifs : List Expr} {P : List V → Prop} (e : α → V) (p : α → Bool) (g : α → V) : ∀ (xs : List α) (done : List V),
    (∀ x ∈ xs, ∃ bs, TB tgt (e x) bs ∧ (∀ q ∈ bs, sc.names.lookup q.1 = some .local) ∧ ((bs.map (fun q => (q.1, LV.v q.2)) ++ cp).map (·.1)).Nodup ∧
      WTs G r sc (bs.map (fun q => (q.1, LV.v q.2)) ++ cp) ifs fun c => c = p x ∧ (c = true → WE G r sc (bs.map (fun q => (q.1, LV.v q.2)) ++ cp) elt (· = g x))) →
    P (done ++ (xs.filter p).map g) → CompT G r sc cp tgt ifs elt P (xs.map e) done
  | [], done, _, h => by simpa [CompT] using h
  | x :: xs, done, step, h => by
    obtain ⟨bs, h1, h2, h3, h4⟩ := step x List.mem_cons_self
    refine ⟨bs, h1, h2, h3, h4.mono fun c ⟨hc, he⟩ => ⟨fun c0 => ?_, fun c0 => ?_⟩⟩
    · refine CompT.map e p g xs done (fun y hy => step y (List.mem_cons_of_mem _ hy)) ?_
      rw [List.filter_cons, ← hc, c0] at h
      simpa using h
    · refine (he c0).mono fun u hu => ?_
      subst hu
      refine CompT.map e p g xs _ (fun y hy => step y (List.mem_cons_of_mem _ hy)) ?_
      rw [List.filter_cons, ← hc, c0] at h
      simpa using h

theorem WEn_tri {p q : Pos} {n : Nat} {e1 e2 : Expr} {Q : Addr → V → Prop} (h : WE G r sc l e1 fun u => WE G r sc l e2 fun v => ∀ a, Q a (.tup [u, v, .raw (.ref a)])) (hp : plainEs [e1, e2, .List [] q] = true := by rfl) : WEn G r sc l (.Tuple [e1, e2, .List [] q] n p) Q := fun F z s R => by
  refine wpAny_Tuple ?_
  rw [backTo_plain hp]
  refine Calls.spliced_cons (noE (h F z s R) fun x1 s₁ ⟨z₁, u, e₁, ru, h⟩ => ?_)
  refine Calls.spliced_cons (noE (h F z₁ s₁ (R.ext e₁)) fun x2 s₂ ⟨z₂, v, e₂, rv, q⟩ => ?_)
  refine Calls.spliced_cons (wpAny_List (wpAny_pure ⟨Nat.zero_le _, ?_⟩))
  refine Calls.spliced_nil ⟨by show 3 ≤ sizeLine; rw [sizeLine_eq]; omega, ?_⟩
  have e3 : Ext z₂ s₂ z₂ { s₂ with heap := s₂.heap.push { cls := .type "list", data := .seq ([] : List Value).toArray } } := Ext.grow (t := s₂.toks) e₂.sub fun b o e => Heap.get?_push_of_some _ e
  obtain ⟨hn0, hz⟩ := none_before (e₁.trans e₂) (Nat.le_refl s₂.heap.objs.size)
  have hl1 : (s₂.heap.push { cls := .type "list", data := .seq ([] : List Value).toArray }).get? s₂.heap.objs.size = some { cls := .type "list", data := .seq ([] : List Value).toArray } := Heap.get?_push_size _ rfl
  have ex := Ext.push e3.sub (o := { cls := .type "tuple", data := .seq ([x1, x2, .ref s₂.heap.objs.size] : List Value).toArray }) rfl
  have hn : s₂.heap.objs.size + 1 ≠ s₂.heap.objs.size := Nat.succ_ne_self _
  have hs : ({ s₂ with heap := s₂.heap.push { cls := .type "list", data := .seq ([] : List Value).toArray } } : Shared).heap.objs.size = s₂.heap.objs.size + 1 := Heap.size_push ..
  rw [hs] at ex
  refine ⟨_, s₂.heap.objs.size, _, ((e₁.trans e₂).trans e3).trans ex, hn0, ?_, ⟨0, ex.keep _ _ hl1⟩, ?_, q _⟩
  · simp [Zp.put, hz]
  · have zz : ∀ b o, z₂ b = some o → z₂.put (s₂.heap.objs.size + 1) { cls := .type "tuple", data := .seq ([x1, x2, .ref s₂.heap.objs.size] : List Value).toArray } b = some o := Zp.put_old (by
      have := (none_before (e₁.trans e₂) (Nat.le_succ s₂.heap.objs.size)).2; exact this)
    rw [hs]
    exact ⟨_, _, rfl, ⟨_, _, Zp.put_self, rfl, rfl, rfl⟩, x1, _, rfl, (ru.mono e₂.zz).mono zz, x2, _, rfl, rv.mono zz, .ref s₂.heap.objs.size, _, rfl, rfl, rfl⟩

/-- a, b, c = x, y, [] : the new list is a ghost -/
theorem WX_tassignN {ts : Expr} {e : Expr} {p : Pos} (y : Str) (h : WEn G r sc l e fun a v => WAs G r sc (put l y (.gl a [])) ts v k.nx) (hs : ∀ env, swapsWithSole [ts] e p.line env = pure false) (hw : ∀ F : Frm G r sc, swappedStores [ts] e F.env = pure none)
    (hst : ∀ env, (assignEach [ts] env).map (·.2) = [assign ts env] := by intro _; rfl) : WX G r sc l (.Assign [ts] e p) k := fun F z s R =>
  wpAny_Assign_stores (noE (h F z s R) fun x s₁ ⟨z₁, a, v, e₁, hn, hz, pl, rz, q⟩ => by
    rw [hst]
    exact noE (q F z₁ s₁ x (adopt1 (y := y) R e₁ hn hz pl) rz) fun _ s₂ ⟨z₂, l₂, _, R₂, q⟩ => ⟨z₂, l₂, R₂, q⟩) (hs _) (hw F)
theorem turn_v {C : Addr} {z : Zp} {a : Addr} {ys : List V} (hz : Rz C z (.lst ys) (.ref a)) : Turns C z (.v (.raw (.ref a))) (.v (.lst ys)) := fun x hx => (show x = .ref a from hx) ▸ hz

/-! lists compared -/
theorem C_neSelf {v : V} (hv : v.isDat = true) (cv : v.dat.canLay0 = true) (hd : v.dat.depth ≤ 50) (h : Q (.bool false)) : Act2 G (compareOp .NotEq) v v Q := by
  refine C_neD hv hv cv cv hd ?_
  rw [SeqAt.eqv_refl _ cv]; exact h
theorem strs_dat : ∀ (xs : List Str), V.areDat (xs.map .str) = true ∧ PyData.canLayAll0 (V.dats (xs.map .str)) = xs.all PyData.strOk ∧ PyData.depthAll (V.dats (xs.map .str)) ≤ 1
  | [] => ⟨rfl, rfl, by decide⟩
  | x :: xs => by
    obtain ⟨h1, h2, h3⟩ := strs_dat xs
    refine ⟨?_, ?_, ?_⟩
    · show (V.isDat (.str x) && V.areDat (xs.map .str)) = true
      rw [h1]; rfl
    · show (PyData.canLay0 (.str x) && PyData.canLayAll0 (V.dats (xs.map .str))) = _
      rw [h2]; rfl
    · show PyData.depthAll (.str x :: V.dats (xs.map .str)) ≤ 1
      simp only [PyData.depthAll, PyData.depth]
      omega
end
end Mine

end
section
open PySem PySem.W PySem.Calls PyProof.Rows
set_option linter.unusedVariables false
set_option maxRecDepth 100000
namespace Mine
theorem ifmt {w : World} (G : Gl PySem.Challenge.rw_in0278_01.prog w (Mine.K0 w.params)) {m : Int} {Q : V → Prop} (h : Q (.int (Builtin.bitAnd m 61440))) : CS G 1 (.ref 118) [.int m] Q := by
  k_fill
  refine CS_def [Str.ofString "mode"] (by k_is) (by k_is) ?_ (fun xs hx => ?_)
  · refine WS_cons (WX_ret (WE_bin (WE_v (by rfl) (WE_int (A_and h)))))
  · obtain ⟨x1, rfl⟩ := xl1 hx
    rfl

noncomputable def modeTab : List (List (Int × Str)) :=
  [[(40960, "l"), (49152, "s"), (32768, "-"), (24576, "b"), (16384, "d"), (8192, "c"), (4096, "p")], [(256, "r")], [(128, "w")], [(2112, "s"), (2048, "S"), (64, "x")],
   [(32, "r")], [(16, "w")], [(1032, "s"), (1024, "S"), (8, "x")], [(4, "r")], [(2, "w")], [(513, "t"), (512, "T"), (1, "x")]]
noncomputable def rowV (t : List (Int × Str)) : V := .tup (t.map fun p => .tup [.int p.1, .str p.2])
noncomputable def hit (first : Bool) (m b : Int) : Bool := if first then Builtin.bitAnd m 61440 == b else Builtin.bitAnd m b == b
noncomputable def pick (first : Bool) (m : Int) : List (Int × Str) → Str
  | [] => if first then "?" else "-"
  | p :: r => if hit first m p.1 then p.2 else pick first m r
noncomputable def picks (m : Int) : Nat → List (List (Int × Str)) → List Str
  | _, [] => []
  | i, t :: ts => pick (i == 0) m t :: picks m (i + 1) ts

theorem drop_eq {α : Type} {xs : List α} {i : Nat} {x : α} (h : xs[i]? = some x) : xs.drop i = x :: xs.drop (i + 1) := by
  have hlt : i < xs.length := by
    rcases Nat.lt_or_ge i xs.length with h' | h'
    · exact h'
    · rw [List.getElem?_eq_none h'] at h; cases h
  rw [List.drop_eq_getElem_cons hlt]
  rw [List.getElem?_eq_getElem hlt] at h
  rw [Option.some.inj h]
theorem int_beq_zero (i : Nat) : (((i : Int)) == 0) = (i == 0) := by
  rw [Bool.eq_iff_iff, beq_iff_eq, beq_iff_eq]; omega
theorem filemode_s {w : World} (G : Gl PySem.Challenge.rw_in0278_01.prog w (Mine.K0 w.params)) {m : Int} {Q : V → Prop} (h : Q (.str (Txt.join "" (picks m 0 modeTab)))) : CS G 3 (.ref 158) [.int m] Q := by
  k_fill
  refine CS_def [Str.ofString "mode"] (by k_is) (by k_is) ?_ (fun xs hx => ?_)
  · refine WS_cons (WX_own ?_)
    refine WS_cons ?_
    refine WX_forI (WI_enum (by k_is) (WE_gk (v := .tup (modeTab.map rowV)) (by k_is) (by kernel_rfl) ⟨_, .inr rfl, ?_⟩))
    refine WF.ind _ (fun i l => ∃ acc, Has l [("mode", .v (.int m)), ("perm", .own (acc.map V.str))] ∧ acc ++ picks m i (modeTab.drop i) = picks m 0 modeTab ∧ acc.length ≤ i) ⟨[], ⟨rfl, rfl, trivial⟩, rfl, Nat.le_refl _⟩ (fun i v l hv ⟨acc, hl, ha, hn⟩ => ?_) (fun l ⟨acc, hl, ha, hn⟩ => ?_)
    · obtain ⟨u, hu, rfl⟩ := enumV_get hv
      rw [List.getElem?_map] at hu
      obtain ⟨t, ht, rfl⟩ := Option.map_eq_some_iff.mp hu
      have hi : i < 10 := by
        rcases Nat.lt_or_ge i 10 with h | h
        · exact h
        · have : modeTab.length ≤ i := h
          rw [List.getElem?_eq_none this] at ht; cases ht
      rw [Nat.zero_add]
      refine WAs.wk _ hl (WAs_tup (WAs_name (WAs_name ?_)))
      refine WS_cons ?_
      refine WX_forI (WI_seq (WE_v (by rfl) ⟨_, .inr rfl, ?_⟩))
      refine WF.ind _ (fun j l => Has l [("mode", .v (.int m)), ("perm", .own (acc.map V.str)), ("index", .v (.int i))] ∧ pick (i == 0) m t = pick (i == 0) m (t.drop j)) ⟨⟨rfl, rfl, rfl, trivial⟩, rfl⟩ (fun j v l hv ⟨hl, hp⟩ => ?_) (fun l ⟨hl, hp⟩ => ?_)
      · rw [List.getElem?_map] at hv
        obtain ⟨⟨b, c⟩, hb, rfl⟩ := Option.map_eq_some_iff.mp hv
        refine WAs.wk _ hl (WAs_tup (WAs_name (WAs_name ?_)))
        have hd : pick (i == 0) m (t.drop j) = if hit (i == 0) m b then c else pick (i == 0) m (t.drop (j + 1)) := by rw [drop_eq hb]; rfl
        have yes : hit (i == 0) m b = true → (acc ++ [c]) ++ picks m (i + 1) (modeTab.drop (i + 1)) = picks m 0 modeTab := fun hh => by
          rw [hd, if_pos hh] at hp
          rw [← ha, drop_eq ht, picks, hp, List.append_assoc]; rfl
        have no : hit (i == 0) m b = false → pick (i == 0) m t = pick (i == 0) m (t.drop (j + 1)) := fun hh => by
          rw [hp, hd, hh]; rfl
        have hsz : (acc.map V.str).length ≤ sizeLine := by rw [List.length_map, sizeLine_eq]; omega
        refine WS_cons (WX_if (WT_cmp (WE_v (by rfl) (WE_int (C_eqI ?_)))))
        refine ⟨fun c0 => ?_, fun c0 => ?_⟩
        · rw [int_beq_zero] at c0
          refine WS_cons (WX_if (WT_cmp (WE_def (by k_is) (by k_is) (WE_v (by rfl) ((ifmt G ?_).room (by omega))))))
          refine WE_v (by rfl) (C_eqI ?_)
          refine ⟨fun c1 => ?_, fun c1 => ?_⟩
          · refine WS_cons (WX_append (by rfl) (WE_v (by rfl) ⟨hsz, ?_⟩))
            refine WS_cons (WX_break (WS_nil ?_))
            exact ⟨acc ++ [c], ⟨rfl, by rw [List.map_append]; rfl, trivial⟩, yes (by unfold hit; rw [c0]; exact c1), by simpa using hn⟩
          · repeat refine WS_nil ?_
            exact ⟨⟨rfl, rfl, rfl, trivial⟩, no (by unfold hit; rw [c0]; exact c1)⟩
        · rw [int_beq_zero] at c0
          refine WS_cons (WX_if (WT_cmp (WE_bin (WE_v (by rfl) (WE_v (by rfl) (A_and (WE_v (by rfl) (C_eqI ?_))))))))
          refine ⟨fun c1 => ?_, fun c1 => ?_⟩
          · refine WS_cons (WX_append (by rfl) (WE_v (by rfl) ⟨hsz, ?_⟩))
            refine WS_cons (WX_break (WS_nil ?_))
            exact ⟨acc ++ [c], ⟨rfl, by rw [List.map_append]; rfl, trivial⟩, yes (by unfold hit; rw [c0]; exact c1), by simpa using hn⟩
          · repeat refine WS_nil ?_
            exact ⟨⟨rfl, rfl, rfl, trivial⟩, no (by unfold hit; rw [c0]; exact c1)⟩
      · rw [List.length_map, List.drop_length] at hp
        have hsz : (acc.map V.str).length ≤ sizeLine := by rw [List.length_map, sizeLine_eq]; omega
        have fin : (acc ++ [pick (i == 0) m []]) ++ picks m (i + 1) (modeTab.drop (i + 1)) = picks m 0 modeTab := by
          rw [← ha, drop_eq ht, picks, hp, List.append_assoc]; rfl
        refine WS.wk _ hl (WS_cons (WX_if (WT_cmp (WE_v (by rfl) (WE_int (C_eqI ?_))))))
        refine ⟨fun c0 => ?_, fun c0 => ?_⟩
        · rw [int_beq_zero] at c0
          refine WS_cons (WX_append (by rfl) (WE_str ⟨hsz, ?_⟩))
          repeat refine WS_nil ?_
          exact ⟨acc ++ [pick (i == 0) m []], ⟨rfl, by rw [List.map_append, c0]; rfl, trivial⟩, fin, by simpa using hn⟩
        · rw [int_beq_zero] at c0
          refine WS_cons (WX_append (by rfl) (WE_str ⟨hsz, ?_⟩))
          repeat refine WS_nil ?_
          exact ⟨acc ++ [pick (i == 0) m []], ⟨rfl, by rw [List.map_append, c0]; rfl, trivial⟩, fin, by simpa using hn⟩
    · have e : acc = picks m 0 modeTab := by rw [← ha, enumV_length, List.length_map, List.drop_length]; simp [picks]
      have hlen : ∀ x ∈ picks m 0 modeTab, x.length = 1 := by
        have hp : ∀ (f : Bool) (t : List (Int × Str)), (∀ p ∈ t, p.2.length = 1) → (pick f m t).length = 1 := by
          intro f t
          induction t with
          | nil => intro _; unfold pick; cases f <;> rfl
          | cons p t ih =>
            intro h
            unfold pick
            split
            · exact h p (.head _)
            · exact ih fun q hq => h q (.tail _ hq)
        have hps : ∀ (ts : List (List (Int × Str))) (i : Nat), (∀ t ∈ ts, ∀ p ∈ t, p.2.length = 1) → ∀ x ∈ picks m i ts, x.length = 1 := by
          intro ts
          induction ts with
          | nil => intro i _ x hx; simp [picks] at hx
          | cons t ts ih =>
            intro i h x hx
            unfold picks at hx
            rcases List.mem_cons.mp hx with rfl | hx
            · exact hp _ t (h t (.head _))
            · exact ih (i + 1) (fun t ht => h t (.tail _ ht)) x hx
        exact hps modeTab 0 (by decide +kernel)
      have hl2 : (picks m 0 modeTab).map (·.length) = (picks m 0 modeTab).map fun _ => 1 := List.map_congr_left hlen
      have hl3 : (picks m 0 modeTab).length = 10 := by simp [picks, modeTab]
      rw [← e] at h hl2 hl3
      clear hlen ha hn e
      refine WS_nil (WS.wk _ hl (WS_freeze (fun _ => true) ?_))
      refine WS_cons (WX_ret ?_)
      refine WE_meth ?_
      refine WE_str ?_
      refine GM_str F.slot_str_join F.type_str_join ?_
      refine And.intro ?_ ?_
      exact rfl
      refine WE_v (by rfl) (M_join ?_ h)
      rw [hl2, List.map_const', hl3]
      decide
  · obtain ⟨x1, rfl⟩ := xl1 hx
    rfl
end Mine

end
section
open PySem PySem.W PySem.Calls PyProof.Rows
set_option linter.unusedVariables false
set_option maxRecDepth 100000
namespace Mine
noncomputable def bt (m : Int) (s : Nat) (k : Int) : Bool := Builtin.bitAnd (m.fdiv (2 ^ s)) k != 0
noncomputable def lastS (m : Int) (s : Nat) : Str := if bt m (9 + s / 3) 1 = true then (if (s != 0) = true then ("s" : Str) else "t") else if bt m s 1 = true then ("x" : Str) else "-"
noncomputable def tri (m : Int) (s : Nat) : Str := (if bt m s 4 = true then ("r" : Str) else "-") ++ (if bt m s 2 = true then ("w" : Str) else "-") ++ lastS m s
theorem lastS_len (m : Int) (s : Nat) : (lastS m s).length = 1 := by unfold lastS; exact ite_len (ite_len rfl rfl) (ite_len rfl rfl)
theorem tri_len (m : Int) (s : Nat) : (tri m s).length = 3 := by unfold tri; rw [cat_len, cat_len, lastS_len, ite_len (n := 1) rfl rfl, ite_len (n := 1) rfl rfl]
theorem triples_s {w : World} (G : Gl PySem.Challenge.rw_in0278_01.prog w (Mine.K0 w.params)) {m : Int} {Q : V → Prop} (h : Q (.lst ([tri m 6, tri m 3, tri m 0].map .str))) : CS G 2 (.ref 165) [.int m] Q := by
  k_fill
  refine CS_def [Str.ofString "mode"] (by k_is) (by k_is) ?_ (fun xs hx => ?_)
  · refine WS_cons (WX_own ?_)
    refine WS_cons ?_
    refine WX_for (WE_tuple (WE_int ?_))
    refine WE_int ?_
    refine WE_int ?_
    refine ⟨by rw [sizeLine_eq]; decide, _, .inr rfl, ?_⟩
    refine WF.ind _ (fun i l => Has l [("mode", .v (.int m)), ("triples", .own (([tri m 6, tri m 3, tri m 0].take i).map V.str))]) ⟨rfl, rfl, trivial⟩ (fun i v l hv hl => ?_) (fun l hl => ?_)
    · obtain ⟨s, rfl, hp, hnx, hi⟩ : ∃ s : Nat, v = .int s ∧ Builtin.divisionGoesByPylong (s : Int) 3 = false ∧ [tri m 6, tri m 3, tri m 0].take (i + 1) = [tri m 6, tri m 3, tri m 0].take i ++ [tri m s] ∧ i < 3 := by
        match i, hv with
        | 0, hv => cases hv; exact ⟨6, rfl, by decide, rfl, by omega⟩
        | 1, hv => cases hv; exact ⟨3, rfl, by decide, rfl, by omega⟩
        | 2, hv => cases hv; exact ⟨0, rfl, by decide, rfl, by omega⟩
        | n + 3, hv => cases hv
      rw [hnx]
      have hacc : ([tri m 6, tri m 3, tri m 0].take i).length ≤ 3 := by rw [List.length_take]; simp; omega
      generalize [tri m 6, tri m 3, tri m 0].take i = acc at hl hacc ⊢
      have e9 : ((9 : Int) + (s : Int).fdiv 3).toNat = 9 + s / 3 := by
        rw [Int.fdiv_eq_ediv_of_nonneg _ (by decide)]; omega
      have hn9 : (0 : Int) ≤ 9 + (s : Int).fdiv 3 := by rw [Int.fdiv_eq_ediv_of_nonneg _ (by decide)]; omega
      refine WAs.wk _ hl (WAs_name ?_)
      refine WS_cons (WX_assign ?_)
      refine WE_ite_s (x := "x") (y := "-") (WT_val ?_)
      refine WE_bin (WE_bin (WE_v (by rfl) (WE_v (by rfl) (A_shr (Int.natCast_nonneg s) ?_))))
      refine WE_int (A_and (T_int ?_))
      refine ⟨WE_str rfl, WE_str rfl, ?_⟩
      change WS G 1 _ (put _ _ (.v (.str (if bt m s 1 = true then _ else _)))) _ _
      refine WS_join (fun l => Has l [("mode", .v (.int m)), ("triples", .own (acc.map V.str)), ("shift", .v (.int s)), ("last", .v (.str (lastS m s)))]) (WX_if (WT_val ?_)) (fun l hl => ?_)
      · refine WE_bin (WE_bin (WE_v (by rfl) (WE_bin (WE_int (WE_bin (WE_v (by rfl) (WE_int (A_fdiv (by decide) hp (A_add (A_shr hn9 ?_))))))))))
        rw [e9]
        refine WE_int (A_and (T_int ?_))
        change (bt m (9 + s / 3) 1 = true → _) ∧ (bt m (9 + s / 3) 1 = false → _)
        refine ⟨fun c0 => ?_, fun c0 => ?_⟩
        · refine WS_cons (WX_assign ?_)
          refine WE_ite_s (x := "s") (y := "t") (WT_val (WE_v (by rfl) (T_int ?_)))
          refine ⟨WE_str rfl, WE_str rfl, ?_⟩
          refine WS_nil ⟨rfl, rfl, rfl, ?_, trivial⟩
          unfold lastS
          rw [if_pos c0]
          have e : ((s : Int) != 0) = (s != 0) := by rw [Bool.eq_iff_iff, bne_iff_ne, bne_iff_ne]; omega
          rw [← e]; rfl
        · refine WS_nil ⟨rfl, rfl, rfl, ?_, trivial⟩
          unfold lastS
          rw [c0]; rfl
      · refine WS.wk _ hl ?_
        refine WS_cons (WX_append (by rfl) ?_)
        refine WE_bin (WE_bin (WE_ite_s (x := "r") (y := "-") (WT_val ?_)))
        refine WE_bin (WE_bin (WE_v (by rfl) (WE_v (by rfl) (A_shr (Int.natCast_nonneg s) ?_))))
        refine WE_int (A_and (T_int ⟨WE_str rfl, WE_str rfl, ?_⟩))
        refine WE_ite_s (x := "w") (y := "-") (WT_val ?_)
        refine WE_bin (WE_bin (WE_v (by rfl) (WE_v (by rfl) (A_shr (Int.natCast_nonneg s) ?_))))
        refine WE_int (A_and (T_int ⟨WE_str rfl, WE_str rfl, ?_⟩))
        have l1 : (if bt m s 4 = true then ("r" : Str) else "-").length = 1 := ite_len rfl rfl
        have l2 : (if bt m s 2 = true then ("w" : Str) else "-").length = 1 := ite_len rfl rfl
        refine A_cat (by show ((if bt m s 4 = true then ("r" : Str) else "-") ++ (if bt m s 2 = true then ("w" : Str) else "-")).length ≤ _; rw [cat_len, l1, l2, sizeLine_eq]; decide) ?_
        refine WE_v (by rfl) ?_
        refine A_cat (by show (tri m s).length ≤ _; rw [tri_len, sizeLine_eq]; decide) ?_
        refine ⟨by rw [List.length_map, sizeLine_eq]; omega, ?_⟩
        refine WS_nil ⟨rfl, ?_, trivial⟩
        rw [List.map_append]; rfl
    · refine WS_nil (WS.wk _ hl (WS_freeze (fun _ => true) ?_))
      refine WS_cons (WX_ret (WE_v (by rfl) h))
  · obtain ⟨x1, rfl⟩ := xl1 hx
    rfl
end Mine

end
section
open PySem PySem.W PySem.Calls PyProof.Rows
set_option linter.unusedVariables false
set_option maxRecDepth 100000
namespace Mine
noncomputable def kinds : Str := "?pc?d?b?-?l?s???"
noncomputable def mayS (m : Int) (s : Nat) : Bool := (bt m s 1 || Txt.item (tri m s) 2 == ("-" : Str))
noncomputable def cell (m : Int) (s : Nat) : Str := if mayS m s = true then tri m s else Txt.slice (tri m s) none (some 2) ++ Txt.upper (Txt.item (tri m s) 2)
noncomputable def rowS (m : Int) : Str := Txt.item kinds (m.fdiv 4096) ++ cell m 6 ++ cell m 3 ++ cell m 0
noncomputable def rowP (m : Int) : Nat → Str
  | 0 => Txt.item kinds (m.fdiv 4096)
  | 1 => Txt.item kinds (m.fdiv 4096) ++ cell m 6
  | 2 => Txt.item kinds (m.fdiv 4096) ++ cell m 6 ++ cell m 3
  | _ => rowS m
theorem item_some {x : Str} {i : Int} (h : (Txt.charAt x i).isSome = true) : (Txt.item x i).length = 1 := by
  unfold Txt.item
  obtain ⟨c, hc⟩ := Option.isSome_iff_exists.mp h
  rw [hc]; rfl
theorem charAt_some {x : Str} {i : Nat} (h : i < x.length) : (Txt.charAt x (i : Int)).isSome = true := by
  unfold Txt.charAt
  have : seqIndex? (i : Int) x.length = some i := by unfold seqIndex?; simp; omega
  rw [this]
  show (x.cps[i]?).isSome = true
  have h' : i < x.cps.size := h
  simp [h']
theorem fits_small {i : Int} (h0 : 0 ≤ i) (h1 : i < 1000) : fitsSsize i = true := by
  unfold fitsSsize; simp; omega
noncomputable def lastB (b9 b1 z : Bool) : Str := if b9 = true then (if z = true then ("s" : Str) else "t") else if b1 = true then ("x" : Str) else "-"
noncomputable def triB (b4 b2 b9 b1 z : Bool) : Str := (if b4 = true then ("r" : Str) else "-") ++ (if b2 = true then ("w" : Str) else "-") ++ lastB b9 b1 z
theorem tri_B (m : Int) (s : Nat) : tri m s = triB (bt m s 4) (bt m s 2) (bt m (9 + s / 3) 1) (bt m s 1) (s != 0) := rfl
theorem triB_item : ∀ b4 b2 b9 b1 z, Txt.item (triB b4 b2 b9 b1 z) 2 = lastB b9 b1 z := by decide +kernel
theorem lastB_up : ∀ b9 b1 z, (Txt.upper (lastB b9 b1 z)).length = 1 := by decide +kernel
theorem triB_slice : ∀ b4 b2 b9 b1 z, (Txt.slice (triB b4 b2 b9 b1 z) none (some 2)).length = 2 := by decide +kernel
theorem tri_up (m : Int) (s : Nat) : (Txt.upper (Txt.item (tri m s) 2)).length = 1 := by rw [tri_B, triB_item]; exact lastB_up _ _ _
theorem tri_sl (m : Int) (s : Nat) : (Txt.slice (tri m s) none (some 2)).length = 2 := by rw [tri_B]; exact triB_slice _ _ _ _ _
theorem cell_len (m : Int) (s : Nat) : (cell m s).length = 3 := by
  unfold cell
  exact ite_len (tri_len m s) (by rw [cat_len, tri_sl, tri_up])
theorem kind_ok {m : Int} (h0 : 0 ≤ m) (h1 : m < 65536) : ∃ i : Nat, m.fdiv 4096 = i ∧ i < 16 := by
  rw [Int.fdiv_eq_ediv_of_nonneg _ (by decide)]
  exact ⟨(m / 4096).toNat, by omega, by omega⟩
theorem item1 (x : Str) (i : Int) : (Txt.item x i).length = 1 := rfl
theorem rowP_len (m : Int) (i : Nat) : (rowP m i).length ≤ 10 := by
  match i with
  | 0 => show (Txt.item _ _).length ≤ 10; rw [item1]; decide
  | 1 => show (_ ++ _ : Str).length ≤ 10; rw [cat_len, cell_len, item1]; decide
  | 2 => show (_ ++ _ : Str).length ≤ 10; rw [cat_len, cat_len, cell_len, cell_len, item1]; decide
  | n + 3 => show (_ ++ _ : Str).length ≤ 10; rw [cat_len, cat_len, cat_len, cell_len, cell_len, cell_len, item1]; decide
theorem nat_len {n : Nat} (h : n ≤ 1000) : n ≤ sizeLine := by rw [sizeLine_eq]; omega
theorem notLong {n : Nat} (h : n ≤ 1000) : Builtin.Str.tooLong n = false := by
  have := nat_len h
  unfold Builtin.Str.tooLong
  exact decide_eq_false (by omega)
theorem row_s {w : World} (G : Gl PySem.Challenge.rw_in0278_01.prog w (Mine.K0 w.params)) {m : Int} (h0 : 0 ≤ m) (h1 : m < 65536) {Q : V → Prop} (h : Q (.str (rowS m))) : CS G 3 (.ref 172) [.int m] Q := by
  k_fill
  refine CS_def [Str.ofString "mode"] (by k_is) (by k_is) ?_ (fun xs hx => ?_)
  · refine WS_cons (WX_assign ?_)
    refine WE_sub (WE_str (WE_bin (WE_v (by rfl) (WE_int (A_shr (by decide) (S_str (x := kinds) ?_ ?_ ?_))))))
    · obtain ⟨i, e, hi⟩ := kind_ok h0 h1
      show fitsSsize (m.fdiv (2 ^ 12)) = true
      rw [show (2 : Int) ^ 12 = 4096 by decide, e]; exact fits_small (by omega) (by omega)
    · obtain ⟨i, e, hi⟩ := kind_ok h0 h1
      show (Txt.charAt kinds (m.fdiv (2 ^ 12))).isSome = true
      rw [show (2 : Int) ^ 12 = 4096 by decide, e]; exact charAt_some hi
    refine WS_cons ?_
    refine WX_forI (WI_zip (by k_is) (WE_tuple (WE_int ?_)) (by rfl))
    refine WE_int (WE_int ⟨by rw [sizeLine_eq]; decide, ?_⟩)
    refine WE_def (by k_is) (by k_is) (WE_v (by rfl) ((triples_s G ?_).room (by omega)))
    refine ⟨_, _, .inr rfl, .inl rfl, ?_⟩
    refine WF.ind _ (fun i l => Has l [("mode", .v (.int m)), ("row", .v (.str (rowP m i)))]) ⟨rfl, rfl, trivial⟩ (fun i v l hv hl => ?_) (fun l hl => ?_)
    · obtain ⟨s, rfl, hrow, hi⟩ : ∃ s : Nat, v = .tup [.int s, .str (tri m s)] ∧ rowP m (i + 1) = rowP m i ++ cell m s ∧ i < 3 := by
        match i, hv with
        | 0, hv => cases hv; exact ⟨6, rfl, rfl, by omega⟩
        | 1, hv => cases hv; exact ⟨3, rfl, rfl, by omega⟩
        | 2, hv => cases hv; exact ⟨0, rfl, rfl, by omega⟩
        | n + 3, hv => cases hv
      have hlen : (rowP m i).length ≤ 10 := rowP_len m i
      have t3 := tri_len m s
      rw [hrow]
      generalize rowP m i = row at hl hlen ⊢
      refine WAs.wk _ hl (WAs_tup (WAs_name (WAs_name ?_)))
      refine WS_cons (WX_assign ?_)
      refine WE_bin (WE_bin (WE_v (by rfl) (WE_v (by rfl) (A_shr (Int.natCast_nonneg s) ?_))))
      refine WE_int (A_and ?_)
      refine WS_cons (WX_aug (by rfl) ?_)
      have hch : (Txt.charAt (tri m s) 2).isSome = true := charAt_some (i := 2) (by rw [t3]; decide)
      refine WE_ite_s (x := tri m s) (y := Txt.slice (tri m s) none (some 2) ++ Txt.upper (Txt.item (tri m s) 2)) (WT.mono (P := fun c => c = mayS m s) (WT_or2 (WT_val (WE_v (by rfl) (T_int ?_)))) fun c hc => ⟨?_, ?_, ?_⟩)
      · change (bt m s 1 = true → _) ∧ (bt m s 1 = false → _)
        refine ⟨fun c0 => by unfold mayS; rw [c0]; rfl, fun c0 => ?_⟩
        refine WT_cmp (WE_sub (WE_v (by rfl) (WE_int (S_str (by decide) hch ?_))))
        refine WE_str (C_eqS ?_)
        unfold mayS; rw [c0]; rfl
      · exact WE_v (by rfl) rfl
      · refine WE_bin (WE_slc (WE_v (by rfl) ?_))
        refine WE_int ⟨_, rfl, ?_⟩
        refine SL_str (nat_len (by omega)) ?_
        refine WE_meth (WE_sub (WE_v (by rfl) (WE_int (S_str (by decide) hch ?_))))
        refine GM_str F.slot_str_upper F.type_str_upper ?_
        refine And.intro ?_ ?_
        · exact rfl
        refine M_upper (notLong (by rw [tri_up]; decide)) ?_
        exact A_cat (nat_len (by rw [cat_len, tri_up, tri_sl]; decide)) rfl
      · subst hc
        refine I_cat (nat_len (by show row.length + (cell m s).length ≤ _; rw [cell_len]; omega)) ?_
        exact WS_nil ⟨rfl, rfl, trivial⟩
    · refine WS_nil (WS.wk _ hl ?_)
      refine WS_cons (WX_ret (WE_v (by rfl) h))
  · obtain ⟨x1, rfl⟩ := xl1 hx
    rfl
end Mine

end
section
open PySem PySem.W PySem.Calls PyProof.Rows
set_option linter.unusedVariables false
set_option maxRecDepth 100000
namespace Mine
noncomputable def xst : Str := "-xst"
noncomputable def sgn (c : Int) : Nat → Str
  | 0 => if (Builtin.bitAnd c 8 != 0) = true then ("r" : Str) else "-"
  | 1 => if (Builtin.bitAnd c 4 != 0) = true then ("w" : Str) else "-"
  | _ => Txt.item xst (Builtin.bitAnd c 3)
noncomputable def sg (c z : Int) (p : Nat) : Str := if bt z p 1 = true then Txt.upper (sgn c p) else sgn c p
noncomputable def agP (c z : Int) : Nat → Str
  | 0 => ""
  | 1 => ("" : Str) ++ sg c z 0
  | 2 => ("" : Str) ++ sg c z 0 ++ sg c z 1
  | _ => ("" : Str) ++ sg c z 0 ++ sg c z 1 ++ sg c z 2
noncomputable def agS (n : Int) : Str := if (n.fmod 16 == 0) = true then "*" else agP (n.fmod 16) ((n.fdiv 16).fmod 8) 3
theorem div16 (x : Int) : Builtin.divisionGoesByPylong x 16 = false := rfl
theorem sgn_fin : ∀ k : Fin 16, (Txt.charAt xst (Builtin.bitAnd (k.val : Int) 3)).isSome = true ∧ fitsSsize (Builtin.bitAnd (k.val : Int) 3) = true ∧ ∀ i : Fin 3, (Txt.upper (sgn (k.val : Int) i.val)).length = 1 ∧ (sgn (k.val : Int) i.val).length = 1 := by decide +kernel
theorem mod16 {n : Int} (h : 0 ≤ n) : ∃ k : Fin 16, n.fmod 16 = (k.val : Int) := by
  have e : n.fmod 16 = n % 16 := Int.fmod_eq_emod_of_nonneg _ (by decide)
  rw [e]
  exact ⟨⟨(n % 16).toNat, by omega⟩, by show _ = ((n % 16).toNat : Int); omega⟩
theorem sg_len {k : Fin 16} {z : Int} {i : Nat} (hi : i < 3) : (sg (k.val : Int) z i).length = 1 := by
  have := (sgn_fin k).2.2 ⟨i, hi⟩
  exact ite_len this.1 this.2
theorem agP_len {k : Fin 16} {z : Int} (i : Nat) : (agP (k.val : Int) z i).length ≤ 10 := by
  match i with
  | 0 => exact Nat.zero_le _
  | 1 => show (_ ++ _ : Str).length ≤ 10; rw [cat_len, sg_len (by decide)]; decide
  | 2 => show (_ ++ _ : Str).length ≤ 10; rw [cat_len, cat_len, sg_len (by decide), sg_len (by decide)]; decide
  | n + 3 => show (_ ++ _ : Str).length ≤ 10; rw [cat_len, cat_len, cat_len, sg_len (by decide), sg_len (by decide), sg_len (by decide)]; decide
theorem agent_s {w : World} (G : Gl PySem.Challenge.rw_in0278_01.prog w (Mine.K0 w.params)) {n : Int} (h0 : 0 ≤ n) (h1 : n < 1000000) {Q : V → Prop} (h : Q (.str (agS n))) : CS G 2 (.ref 179) [.int n] Q := by
  k_fill
  refine CS_def [Str.ofString "number"] (by k_is) (by k_is) ?_ (fun xs hx => ?_)
  · refine WS_cons (WX_swap2 ?_ (fun _ => rfl) (fun _ => rfl))
    refine WE_bin (WE_v (by rfl) (WE_int (A_mod (by decide) ?_)))
    refine WE_bin (WE_bin (WE_v (by rfl) (WE_int (A_fdiv (by decide) (div16 _) ?_))))
    refine WE_int (A_mod (by decide) ?_)
    generalize hz : (n.fdiv 16).fmod 8 = z
    generalize hc : n.fmod 16 = c
    refine WS_cons (WX_if (WT_cmp (WE_v (by rfl) (WE_int (C_eqI ?_)))))
    refine ⟨fun c0 => ?_, fun c0 => ?_⟩
    · refine WS_cons (WX_ret (WE_str ?_))
      have e : agS n = "*" := by unfold agS; rw [hc, c0]; rfl
      rw [← e]; exact h
    refine WS_nil ?_
    have e : agS n = agP c z 3 := by unfold agS; rw [hc, c0, hz]; rfl
    rw [e] at h
    refine WS_cons (WX_assign (WE_str ?_))
    refine WS_cons ?_
    refine WX_forI (WI_enum (by k_is) (WE_tuple ?_))
    refine WE_ite_s (x := "r") (y := "-") (WT_val (WE_bin (WE_v (by rfl) (WE_int (A_and (T_int ?_))))))
    refine ⟨WE_str rfl, WE_str rfl, ?_⟩
    refine WE_ite_s (x := "w") (y := "-") (WT_val (WE_bin (WE_v (by rfl) (WE_int (A_and (T_int ?_))))))
    refine ⟨WE_str rfl, WE_str rfl, ?_⟩
    obtain ⟨kc, hkc⟩ := mod16 h0
    rw [hc] at hkc
    subst hkc
    obtain ⟨hc1, hc2, hc3⟩ := sgn_fin kc
    generalize hcc : (kc.val : Int) = c at *
    refine WE_sub (WE_str (WE_bin (WE_v (by rfl) (WE_int (A_and (S_str (x := xst) hc2 hc1 ?_))))))
    refine ⟨nat_len (by show 3 ≤ 1000; decide), _, .inr rfl, ?_⟩
    refine WF.ind _ (fun i l => Has l [("number", .v (.int n)), ("sizes", .v (.int z)), ("agent", .v (.str (agP c z i)))]) ⟨rfl, rfl, rfl, trivial⟩ (fun i v l hv hl => ?_) (fun l hl => ?_)
    · obtain ⟨rfl, hag, hi⟩ : v = .tup [.int i, .str (sgn c i)] ∧ agP c z (i + 1) = agP c z i ++ sg c z i ∧ i < 3 := by
        match i, hv with
        | 0, hv => cases hv; exact ⟨rfl, rfl, by omega⟩
        | 1, hv => cases hv; exact ⟨rfl, rfl, by omega⟩
        | 2, hv => cases hv; exact ⟨rfl, rfl, by omega⟩
        | n + 3, hv => cases hv
      have hlen : (agP c z i).length ≤ 10 := hcc ▸ agP_len i
      have hup : (Txt.upper (sgn c i)).length = 1 := (hc3 ⟨i, hi⟩).1
      have hsg : (sg c z i).length = 1 := hcc ▸ sg_len hi
      rw [hag]
      generalize agP c z i = ag at hl hlen ⊢
      refine WAs.wk _ hl (WAs_tup (WAs_name (WAs_name ?_)))
      refine WS_cons (WX_aug (by rfl) ?_)
      refine WE_ite_s (x := Txt.upper (sgn c i)) (y := sgn c i) (WT_val ?_)
      refine WE_bin (WE_bin (WE_v (by rfl) (WE_v (by rfl) (A_shr (Int.natCast_nonneg i) ?_))))
      refine WE_int (A_and (T_int ⟨?_, ?_, ?_⟩))
      · refine WE_meth (WE_v (by rfl) ?_)
        refine GM_str F.slot_str_upper F.type_str_upper ?_
        refine And.intro ?_ ?_
        · exact rfl
        exact M_upper (notLong (by rw [hup]; decide)) rfl
      · exact WE_v (by rfl) rfl
      · refine I_cat (nat_len (by show ag.length + (sg c z i).length ≤ _; rw [hsg]; omega)) ?_
        exact WS_nil ⟨rfl, rfl, rfl, trivial⟩
    · refine WS_nil (WS.wk _ hl ?_)
      refine WS_cons (WX_ret (WE_v (by rfl) h))
  · obtain ⟨x1, rfl⟩ := xl1 hx
    rfl
end Mine

end
section
open PySem PySem.W PySem.Calls PyProof.Rows
set_option linter.unusedVariables false
set_option maxRecDepth 100000
namespace Mine
theorem bootIsi : bootBuiltins "isinstance" = some (.builtin "isinstance") := by decide +kernel
theorem bootStr : bootBuiltins "str" = some (.type "str") := by decide +kernel
theorem bootObject : bootBuiltins "object" = some (.type "object") := by decide +kernel
theorem bootLen : bootBuiltins "len" = some (.builtin "len") := by decide +kernel
theorem bootBool : bootBuiltins "bool" = some (.type "bool") := by decide +kernel
theorem bootSum : bootBuiltins "sum" = some (.builtin "sum") := by decide +kernel
theorem bootMap : bootBuiltins "map" = some (.type "map") := by decide +kernel
noncomputable def escS (c : Nat) : Str := if (c == 45) = true then "\\-" else ⟨#[c]⟩
noncomputable def signs : List Nat := [45, 114, 115, 116, 119, 120, 83, 84]
theorem escape_s {w : World} (G : Gl PySem.Challenge.rw_in0278_01.prog w (Mine.K0 w.params)) {c : Nat} (hc : c ∈ signs) {Q : V → Prop} (h : Q (.str (escS c))) : CS G 2 (.ref 97) [.str ⟨#[c]⟩] Q := by
  k_fill
  refine CS_def [Str.ofString "pattern"] (by k_is) (by k_is) ?_ (fun xs hx => ?_)
  · refine WS_cons (WX_if (WT_val ?_))
    refine WE_bi (by k_is) bootIsi rfl (WE_v (by rfl) ?_)
    refine WE_b (by k_is) bootStr (B_isi_str (T_bool ⟨fun _ => ?_, fun e => by cases e⟩))
    refine WS_cons (WX_ret ?_)
    refine WE_meth (WE_v (by rfl) ?_)
    refine GM_str F.slot_str_translate F.type_str_translate ?_
    refine And.intro ?_ ?_
    · exact rfl
    refine WE_g (by k_is) ?_
    by_cases hd : c = 45
    · subst hd
      exact M_tr_text (by k_is) (by decide +kernel) (by decide) (by rfl) (by rfl) h
    · have e : escS c = ⟨#[c]⟩ := by unfold escS; rw [if_neg (by simpa using hd)]
      rw [e] at h
      have hcc : c = 114 ∨ c = 115 ∨ c = 116 ∨ c = 119 ∨ c = 120 ∨ c = 83 ∨ c = 84 := by simpa [signs, hd] using hc
      refine M_tr_keep (by k_is) (by decide +kernel) (by decide) ?_ ?_ h
      · omega
      · rcases hcc with rfl | rfl | rfl | rfl | rfl | rfl | rfl <;> rfl
  · obtain ⟨x1, rfl⟩ := xl1 hx
    rfl
end Mine

end
section
open PySem PySem.W PySem.Calls PyProof.Rows
set_option linter.unusedVariables false
set_option maxRecDepth 100000
namespace Mine
noncomputable def stepP (acc : List (Option Str)) (c : Nat) : List (Option Str) :=
  if c = 42 then (if acc.getLast? = some none then acc else acc ++ [none]) else if c = 63 then acc ++ [some (Str.ofString ".")] else acc ++ [some (escS c)]
noncomputable def partsP (cs : List Nat) : List (Option Str) := cs.foldl stepP []
noncomputable def pv (a : Addr) : Option Str → V
  | none => .raw (.ref a)
  | some x => .str x
theorem partsP_len : ∀ (cs : List Nat) (acc : List (Option Str)), (cs.foldl stepP acc).length ≤ acc.length + cs.length
  | [], acc => by simp
  | c :: cs, acc => by
    rw [List.foldl_cons]
    have := partsP_len cs (stepP acc c)
    have h2 : (stepP acc c).length ≤ acc.length + 1 := by unfold stepP; (repeat' split) <;> simp
    simp only [List.length_cons]; omega
theorem one_beq (c d : Nat) : ((⟨#[c]⟩ : Str) == (⟨#[d]⟩ : Str)) = (c == d) := by
  rw [Bool.eq_iff_iff, beq_iff_eq, beq_iff_eq]
  exact ⟨fun h => by injection h with h; injection h with h; injection h, fun h => by rw [h]⟩
theorem item_at {cs : List Nat} {i : Nat} {c : Nat} (h : cs[i]? = some c) : Txt.item ⟨cs.toArray⟩ (i : Int) = ⟨#[c]⟩ ∧ (Txt.charAt ⟨cs.toArray⟩ (i : Int)).isSome = true := by
  have hlt : i < cs.length := by
    rcases Nat.lt_or_ge i cs.length with h' | h'
    · exact h'
    · rw [List.getElem?_eq_none h'] at h; cases h
  have e : Txt.charAt ⟨cs.toArray⟩ (i : Int) = some c := by
    unfold Txt.charAt
    have : seqIndex? (i : Int) (Str.length ⟨cs.toArray⟩) = some i := by
      show seqIndex? (i : Int) cs.toArray.size = some i
      unfold seqIndex?; simp; omega
    rw [this]
    show cs.toArray[i]? = some c
    simpa using h
  unfold Txt.item
  rw [e]
  exact ⟨rfl, rfl⟩
theorem trans_s {w : World} (G : Gl PySem.Challenge.rw_in0278_01.prog w (Mine.K0 w.params)) {cs : List Nat} (hcs : ∀ c ∈ cs, c = 42 ∨ c = 63 ∨ c ∈ signs) (hlen : cs.length ≤ 500) {a : Addr} {Q : V → Prop} (h : Q (.lst ((partsP cs).map (pv a)))) :
    CS G 3 (.ref 104) [.str ⟨cs.toArray⟩, .raw (.ref a), .str "."] Q := by
  k_fill
  refine CS_def [Str.ofString "pat", Str.ofString "STAR", Str.ofString "QUESTION_MARK"] (by k_is) (by k_is) ?_ (fun xs hx => ?_)
  · refine WS_cons (WX_own ?_)
    refine WS_cons (WX_app (by rfl) ?_)
    refine WS_cons (WX_swap2 ?_ (fun _ => rfl) (fun _ => rfl))
    refine WE_int ?_
    refine WE_bi (by k_is) bootLen rfl (WE_v (by rfl) (B_len_str ?_ ?_))
    · show cs.toArray.size ≤ _; rw [List.size_toArray]; exact nat_len (by omega)
    refine WS_cons ?_
    refine WX_while (fun m l => ∃ i, m = cs.length - i ∧ i ≤ cs.length ∧ Has l [("pat", .v (.str ⟨cs.toArray⟩)), ("STAR", .v (.raw (.ref a))), ("QUESTION_MARK", .v (.str ".")), ("res", .own ((partsP (cs.take i)).map (pv a))), ("add", .app "res"), ("i", .v (.int i)), ("n", .v (.int cs.length))]) cs.length ⟨0, rfl, Nat.zero_le _, rfl, rfl, rfl, rfl, rfl, rfl, rfl, trivial⟩ (fun m l ⟨i, hm, hi, hl⟩ => ?_)
    refine WT.wk _ hl (WT_cmp (WE_v (by rfl) (WE_v (by rfl) (C_ltI ?_))))
    have plen : (partsP (cs.take i)).length ≤ i := by
      have := partsP_len (cs.take i) []
      rw [List.length_take] at this; simp at this; unfold partsP; omega
    refine ⟨?_, ?_⟩ <;> intro hc
    · have hlt : i < cs.length := by simpa using hc
      obtain ⟨c, hci⟩ : ∃ c, cs[i]? = some c := ⟨cs[i], List.getElem?_eq_getElem hlt⟩
      have hcm : c ∈ cs := List.mem_of_getElem? hci
      have htake : partsP (cs.take (i + 1)) = stepP (partsP (cs.take i)) c := by
        unfold partsP
        rw [List.take_add_one, hci, List.foldl_append]; rfl
      have hsz : ((partsP (cs.take i)).map (pv a)).length ≤ sizeLine := by rw [List.length_map]; exact nat_len (by omega)
      obtain ⟨it1, it2⟩ := item_at hci
      generalize partsP (cs.take i) = ps at hl htake hsz plen
      refine WS.wk _ hl ?_
      refine WS_cons (WX_assign ?_)
      refine WE_sub (WE_v (by rfl) (WE_v (by rfl) (S_str (fits_small (by omega) (by omega)) it2 ?_)))
      rw [it1]
      refine WS_cons (WX_assign (WE_bin (WE_v (by rfl) (WE_int (A_add ?_)))))
      have fin : ∀ l', Has l' [("pat", .v (.str ⟨cs.toArray⟩)), ("STAR", .v (.raw (.ref a))), ("QUESTION_MARK", .v (.str ".")), ("res", .own ((stepP ps c).map (pv a))), ("add", .app "res"), ("i", .v (.int (i + 1))), ("n", .v (.int cs.length))] → ∃ m', m' < m ∧ ∃ i, m' = cs.length - i ∧ i ≤ cs.length ∧ Has l' [("pat", .v (.str ⟨cs.toArray⟩)), ("STAR", .v (.raw (.ref a))), ("QUESTION_MARK", .v (.str ".")), ("res", .own ((partsP (cs.take i)).map (pv a))), ("add", .app "res"), ("i", .v (.int i)), ("n", .v (.int cs.length))] := by
        intro l' h'
        refine ⟨cs.length - (i + 1), by omega, i + 1, rfl, hlt, ?_⟩
        rw [htake]; exact h'
      refine WS_cons (WX_if (WT_cmp (WE_v (by rfl) (WE_str (C_eqS ?_)))))
      refine ⟨fun c0 => ?_, fun c0 => ?_⟩
      · have c0 : c = 42 := by rw [show (Str.ofString "*") = ⟨#[42]⟩ from rfl, one_beq] at c0; simpa using c0
        have hst : stepP ps c = if ps.getLast? = some none then ps else ps ++ [none] := by unfold stepP; rw [if_pos c0]
        refine WS_cons (WX_if (WT_peek (WT_or2 (WT_not (WT_val (WE_v (by rfl) (T_lst hsz ?_)))))))
        cases hps : ps with
        | nil =>
          subst hps
          refine ⟨fun _ => ?_, fun e => by cases e⟩
          refine ⟨fun _ => ?_, fun e => by cases e⟩
          refine WS_cons (WX_callApp (by rfl) (by rfl) (WE_v (by rfl) ⟨hsz, ?_⟩))
          repeat refine WS_nil ?_
          exact fin _ ⟨rfl, rfl, rfl, by rw [hst]; rfl, rfl, rfl, rfl, trivial⟩
        | cons p0 ps0 =>
          rw [← hps]
          have hne : ((ps.map (pv a)).isEmpty) = false := by rw [hps]; rfl
          rw [hne]
          refine ⟨fun e => (by cases e), fun _ => ?_⟩
          obtain ⟨q, hq⟩ : ∃ q, ps.getLast? = some q := by rw [hps]; exact ⟨_, List.getLast?_cons⟩
          have hq' : (ps.map (pv a)).getLast? = some (pv a q) := by rw [List.getLast?_map, hq]; rfl
          refine WT_cmp (WE_sub (WE_v (by rfl) (WE_neg (WE_int ⟨_, rfl, S_last hsz hq' ?_⟩))))
          refine WE_v (by rfl) ?_
          cases q with
          | none =>
            refine C_isNRR ⟨fun e => (by cases e), fun _ => ?_⟩
            repeat refine WS_nil ?_
            exact fin _ ⟨rfl, rfl, rfl, by rw [hst, if_pos hq]; rfl, rfl, rfl, rfl, trivial⟩
          | some y =>
            refine C_isRS ⟨fun _ => ?_, fun e => by cases e⟩
            refine WS_cons (WX_callApp (by rfl) (by rfl) (WE_v (by rfl) ⟨hsz, ?_⟩))
            repeat refine WS_nil ?_
            exact fin _ ⟨rfl, rfl, rfl, by rw [hst, if_neg (by rw [hq]; simp), List.map_append]; rfl, rfl, rfl, rfl, trivial⟩
      · have c0 : c ≠ 42 := by rw [show (Str.ofString "*") = ⟨#[42]⟩ from rfl, one_beq] at c0; simpa using c0
        refine WS_cons (WX_if (WT_cmp (WE_v (by rfl) (WE_str (C_eqS ?_)))))
        refine ⟨fun c1 => ?_, fun c1 => ?_⟩
        · have c1 : c = 63 := by rw [show (Str.ofString "?") = ⟨#[63]⟩ from rfl, one_beq] at c1; simpa using c1
          have hst : stepP ps c = ps ++ [some (Str.ofString ".")] := by unfold stepP; rw [if_neg c0, if_pos c1]
          refine WS_cons (WX_callApp (by rfl) (by rfl) (WE_v (by rfl) ⟨hsz, ?_⟩))
          repeat refine WS_nil ?_
          exact fin _ ⟨rfl, rfl, rfl, by rw [hst, List.map_append]; rfl, rfl, rfl, rfl, trivial⟩
        · have c1 : c ≠ 63 := by rw [show (Str.ofString "?") = ⟨#[63]⟩ from rfl, one_beq] at c1; simpa using c1
          have hcs' : c ∈ signs := by rcases hcs c hcm with h | h | h; exact absurd h c0; exact absurd h c1; exact h
          have hst : stepP ps c = ps ++ [some (escS c)] := by unfold stepP; rw [if_neg c0, if_neg c1]
          refine WS_cons (WX_if (WT_cmp (WE_v (by rfl) (WE_str (C_eqS ?_)))))
          refine ⟨fun c2 => ?_, fun c2 => ?_⟩
          · exfalso
            have c2 : c = 91 := by rw [show (Str.ofString "[") = ⟨#[91]⟩ from rfl, one_beq] at c2; simpa using c2
            subst c2
            exact absurd hcs' (by decide)
          · refine WS_cons (WX_callApp (by rfl) (by rfl) (WE_def (by k_is) (by k_is) (WE_v (by rfl) ((escape_s G hcs' ?_).room (by omega)))))
            refine ⟨hsz, ?_⟩
            repeat refine WS_nil ?_
            exact fin _ ⟨rfl, rfl, rfl, by rw [hst, List.map_append]; rfl, rfl, rfl, rfl, trivial⟩
    · have he : i = cs.length := by simp at hc; omega
      subst he
      refine WS_nil (WS.wk _ hl ?_)
      refine WS_cons (WX_assert (WT_cmp (WE_v (by rfl) (WE_v (by rfl) (C_eqI ?_)))))
      refine ⟨by simp, ?_⟩
      rw [List.take_length] at *
      refine WS_freeze (fun _ => true) ?_
      refine WS_cons (WX_ret (WE_v (by rfl) h))
  · obtain ⟨x1, x2, x3, rfl⟩ := xl3 hx
    rfl
end Mine

end
section
open PySem PySem.W PySem.Calls PyProof.Rows
set_option linter.unusedVariables false
set_option maxRecDepth 100000
namespace Mine
noncomputable def midT (mid : List Str) : Str := Str.empty ++ "(?>.*?" ++ Txt.join "" mid ++ ")"
noncomputable def allT (x : Str) : Str := Str.empty ++ "(?s:" ++ x ++ ")\\Z"
theorem joinLen (mid : List Str) (h : ∀ x ∈ mid, x.length ≤ 10) (hl : mid.length ≤ 100) : (mid.map (·.length)).sum ≤ 1000 := by
  have : ∀ (m : List Str), (∀ x ∈ m, x.length ≤ 10) → (m.map (·.length)).sum ≤ 10 * m.length := by
    intro m
    induction m with
    | nil => intro _; simp
    | cons x m ih =>
      intro h
      have h1 := h x (.head _)
      have h2 := ih fun y hy => h y (.tail _ hy)
      simp only [List.map_cons, List.sum_cons, List.length_cons]; omega
  have := this mid h; omega
theorem catb {x y : Str} {n m : Nat} (hx : x.length ≤ n) (hy : y.length ≤ m) : (x ++ y).length ≤ n + m := by rw [cat_len]; omega
theorem big {n m : Nat} (h : n ≤ m) (hm : m ≤ 100000) : n ≤ sizeLine := by rw [sizeLine_eq]; omega
theorem len1 : (Str.empty ++ "(?>.*?" : Str).length ≤ 7 := by decide
theorem len2 : (Str.empty ++ "(?s:" : Str).length ≤ 7 := by decide
theorem joinB_s {w : World} (G : Gl PySem.Challenge.rw_in0278_01.prog w (Mine.K0 w.params)) {mid : List Str} (h1 : ∀ x ∈ mid, x.length ≤ 10) (h2 : mid.length ≤ 100) (h3 : mid ≠ []) {a : Addr} {Q : V → Prop} (hJ : (Txt.join "" mid).length ≤ 1000)
    (hR : (Txt.join "" [midT mid, ".*"]).length ≤ 2000)
    (h : Q (.str (allT (Txt.join "" [midT mid, ".*"])))) :
    CS G 2 (.ref 111) [.lst ((none :: mid.map some ++ [none]).map (pv a)), .raw (.ref a)] Q := by
  k_fill
  refine CS_def [Str.ofString "inp", Str.ofString "STAR"] (by k_is) (by k_is) ?_ (fun xs hx => ?_)
  · have hn : ((none :: mid.map some ++ [none]).map (pv a)).length = mid.length + 2 := by simp
    have at0 : ((none :: mid.map some ++ [none]).map (pv a))[0]? = some (.raw (.ref a)) := rfl
    have atm : ∀ j (hj : j < mid.length), ((none :: mid.map some ++ [none]).map (pv a))[j + 1]? = some (.str mid[j]) := by
      intro j hj
      rw [List.getElem?_map, List.cons_append, List.getElem?_cons_succ, List.getElem?_append_left (by simpa using hj), List.getElem?_map, List.getElem?_eq_getElem hj]; rfl
    have atk : ((none :: mid.map some ++ [none]).map (pv a))[mid.length + 1]? = some (.raw (.ref a)) := by
      rw [List.getElem?_map, List.cons_append, List.getElem?_cons_succ, List.getElem?_append_right (by simp)]; simp [pv]
    have hpos : 0 < mid.length := List.length_pos_iff.mpr h3
    generalize (none :: mid.map some ++ [none]).map (pv a) = inp at hn at0 atm atk ⊢
    have hsz : inp.length ≤ sizeLine := nat_len (by omega)
    have geti : ∀ (i : Nat) (v : V) (Q : V → Prop), inp[i]? = some v → i < 1000 → Q v → Item G (.lst inp) (.int i) Q := fun i v Q hv hi q => S_lst (by omega) (by omega) (by simpa using hv) q
    refine WS_cons (WX_own ?_)
    refine WS_cons (WX_app (by rfl) ?_)
    refine WS_cons (WX_swap2 ?_ (fun _ => rfl) (fun _ => rfl))
    refine WE_int ?_
    refine WE_bi (by k_is) bootLen rfl (WE_v (by rfl) (B_len_lst hsz ?_))
    rw [hn]
    refine WS_cons ?_
    refine WX_while (fun m l => Has l [("inp", .v (.lst inp)), ("STAR", .v (.raw (.ref a))), ("res", .own []), ("add", .app "res"), ("i", .v (.int 0)), ("n", .v (.int (mid.length + 2 : Nat)))]) 0 ⟨rfl, rfl, rfl, rfl, rfl, rfl, trivial⟩ (fun m l hl => ?_)
    refine WT.wk _ hl (WT_and2 (WT_cmp (WE_v (by rfl) (WE_v (by rfl) (C_ltI ?_)))))
    refine ⟨fun e => absurd e (by simp <;> omega), fun _ => ?_⟩
    refine WT_cmp (WE_sub (WE_v (by rfl) (WE_v (by rfl) (geti 0 _ _ at0 (by decide) ?_))))
    refine WE_v (by rfl) (C_isNRR ⟨fun e => (by cases e), fun _ => ?_⟩)
    refine WS_nil (WS.wk _ hl ?_)
    clear hl l m
    refine WS_cons ?_
    refine WX_while (fun m l => (m = 2 ∧ Has l [("inp", .v (.lst inp)), ("STAR", .v (.raw (.ref a))), ("res", .own []), ("add", .app "res"), ("i", .v (.int 0)), ("n", .v (.int (mid.length + 2 : Nat)))]) ∨
      (m = 1 ∧ Has l [("inp", .v (.lst inp)), ("STAR", .v (.raw (.ref a))), ("res", .own [.str (midT mid)]), ("add", .app "res"), ("i", .v (.int (mid.length + 1 : Nat))), ("n", .v (.int (mid.length + 2 : Nat)))])) 2 (.inl ⟨rfl, rfl, rfl, rfl, rfl, rfl, rfl, trivial⟩) (fun m l hl => ?_)
    rcases hl with ⟨rfl, hl⟩ | ⟨rfl, hl⟩
    · refine WT.wk _ hl (WT_cmp (WE_v (by rfl) (WE_v (by rfl) (C_ltI ?_))))
      refine ⟨fun _ => ?_, fun e => absurd e (by simp <;> omega)⟩
      refine WS.wk _ hl ?_
      refine WS_cons (WX_assert (WT_cmp (WE_sub (WE_v (by rfl) (WE_v (by rfl) (geti 0 _ _ at0 (by decide) ?_))))))
      refine WE_v (by rfl) (C_isRR ⟨rfl, ?_⟩)
      refine WS_cons (WX_aug (by rfl) (WE_int (I_add ?_)))
      refine WS_cons (WX_if (WT_cmp (WE_v (by rfl) (WE_v (by rfl) (C_eqI ?_)))))
      refine ⟨fun e => absurd e (by simp <;> omega), fun _ => ?_⟩
      refine WS_nil ?_
      refine WS_cons (WX_assert (WT_cmp (WE_sub (WE_v (by rfl) (WE_v (by rfl) (geti 1 _ _ (atm 0 hpos) (by decide) ?_))))))
      refine WE_v (by rfl) (C_isRS ⟨rfl, ?_⟩)
      refine WS_cons (WX_own ?_)
      refine WS_cons ?_
      refine WX_while (fun m l => ∃ j, m = mid.length - j ∧ j ≤ mid.length ∧ Has l [("inp", .v (.lst inp)), ("STAR", .v (.raw (.ref a))), ("res", .own []), ("add", .app "res"), ("i", .v (.int (j + 1 : Nat))), ("n", .v (.int (mid.length + 2 : Nat))), ("fixed", .own ((mid.take j).map .str))]) mid.length ⟨0, rfl, Nat.zero_le _, rfl, rfl, rfl, rfl, rfl, rfl, rfl, trivial⟩ (fun m l ⟨j, hm, hj, hl⟩ => ?_)
      refine WT.wk _ hl (WT_and2 (WT_cmp (WE_v (by rfl) (WE_v (by rfl) (C_ltI ?_)))))
      refine ⟨fun e => absurd e (by simp <;> omega), fun _ => ?_⟩
      by_cases hjm : j < mid.length
      · refine WT_cmp (WE_sub (WE_v (by rfl) (WE_v (by rfl) (geti (j + 1) _ _ (atm j hjm) (by omega) ?_))))
        refine WE_v (by rfl) (C_isRS ⟨fun _ => ?_, fun e => (by cases e)⟩)
        refine WS.wk _ hl ?_
        refine WS_cons (WX_append (by rfl) (WE_sub (WE_v (by rfl) (WE_v (by rfl) (geti (j + 1) _ _ (atm j hjm) (by omega) ?_)))))
        refine ⟨by rw [List.length_map, List.length_take]; exact nat_len (by omega), ?_⟩
        refine WS_cons (WX_aug (by rfl) (WE_int (I_add ?_)))
        refine WS_nil ⟨mid.length - (j + 1), by omega, j + 1, rfl, hjm, rfl, rfl, rfl, rfl, rfl, rfl, ?_, trivial⟩
        rw [List.take_add_one, List.getElem?_eq_getElem hjm, List.map_append]; rfl
      · have hje : j = mid.length := by omega
        subst hje
        refine WT_cmp (WE_sub (WE_v (by rfl) (WE_v (by rfl) (geti (mid.length + 1) _ _ atk (by omega) ?_))))
        refine WE_v (by rfl) (C_isNRR ⟨fun e => (by cases e), fun _ => ?_⟩)
        rw [List.take_length] at hl
        refine WS_nil (WS.wk _ hl ?_)
        refine WS_cons (WX_assign (WE_peek (WE_meth ?_)))
        refine WE_str ?_
        refine GM_str F.slot_str_join F.type_str_join ?_
        refine And.intro ?_ ?_
        · exact rfl
        refine WE_v (by rfl) (M_join ?_ ⟨rfl, ?_⟩)
        · have := joinLen mid h1 h2
          show _ + mid.length * 0 ≤ _
          omega
        refine WS_cons (WX_if (WT_cmp (WE_v (by rfl) (WE_v (by rfl) (C_eqI ?_)))))
        refine ⟨fun e => absurd e (by simp <;> omega), fun _ => ?_⟩
        refine WS_cons (WX_callApp (by rfl) (by rfl) ?_)
        refine WE_joined (WE_str ⟨_, rfl, nat_len (by decide), ?_⟩)
        refine WE_fmt (WE_v (by rfl) (Fmt_str (nat_len hJ) ⟨_, rfl, ?_, ?_⟩))
        · exact big (catb len1 hJ) (by decide)
        refine WE_str ⟨_, rfl, ?_, ?_, ?_, ?_⟩
        · exact big (catb (catb len1 hJ) (show (Str.ofString ")").length ≤ 1 by decide)) (by decide)
        · exact big (catb (catb len1 hJ) (show (Str.ofString ")").length ≤ 1 by decide)) (by decide)
        · exact nat_len (Nat.zero_le _)
        repeat refine WS_nil ?_
        exact ⟨1, by decide, .inr ⟨rfl, rfl, rfl, rfl, rfl, rfl, rfl, trivial⟩⟩
    · refine WT.wk _ hl (WT_cmp (WE_v (by rfl) (WE_v (by rfl) (C_ltI ?_))))
      refine ⟨fun _ => ?_, fun e => absurd e (by simp <;> omega)⟩
      refine WS.wk _ hl ?_
      refine WS_cons (WX_assert (WT_cmp (WE_sub (WE_v (by rfl) (WE_v (by rfl) (geti (mid.length + 1) _ _ atk (by omega) ?_))))))
      refine WE_v (by rfl) (C_isRR ⟨rfl, ?_⟩)
      refine WS_cons (WX_aug (by rfl) (WE_int (I_add ?_)))
      refine WS_cons (WX_if (WT_cmp (WE_v (by rfl) (WE_v (by rfl) (C_eqI ?_)))))
      refine ⟨fun _ => ?_, fun e => absurd e (by simp <;> omega)⟩
      refine WS_cons (WX_callApp (by rfl) (by rfl) (WE_str ⟨?_, ?_⟩))
      · exact nat_len (show 1 ≤ 1000 by decide)
      refine WS_cons (WX_break ?_)
      refine WS.wk [("res", .own ([midT mid, Str.ofString ".*"].map V.str)), ("i", .v (.int (mid.length + 2 : Nat))), ("n", .v (.int (mid.length + 2 : Nat)))] ⟨rfl, rfl, rfl, trivial⟩ ?_
      refine WS_cons (WX_assert (WT_cmp (WE_v (by rfl) (WE_v (by rfl) (C_eqI ?_)))))
      refine ⟨by simp, ?_⟩
      refine WS_cons (WX_assign (WE_peek (WE_meth ?_)))
      refine WE_str ?_
      refine GM_str F.slot_str_join F.type_str_join ?_
      refine And.intro ?_ ?_
      · exact rfl
      refine WE_v (by rfl) (M_join ?_ ⟨rfl, ?_⟩)
      · show (midT mid).length + ((Str.ofString ".*").length + 0) + 2 * 0 ≤ _
        have : (midT mid).length ≤ 7 + 1000 + 1 := catb (catb len1 hJ) (show (Str.ofString ")").length ≤ 1 by decide)
        have h2 : (Str.ofString ".*").length = 2 := rfl
        omega
      refine WS_cons (WX_ret ?_)
      refine WE_joined (WE_str ⟨_, rfl, nat_len (by decide), ?_⟩)
      refine WE_fmt (WE_v (by rfl) (Fmt_str (big hR (by decide)) ⟨_, rfl, ?_, ?_⟩))
      · exact big (catb len2 hR) (by decide)
      refine WE_str ⟨_, rfl, ?_, ?_, h⟩
      · exact big (catb (catb len2 hR) (show (Str.ofString ")\\Z").length ≤ 3 by decide)) (by decide)
      · exact big (catb (catb len2 hR) (show (Str.ofString ")\\Z").length ≤ 3 by decide)) (by decide)
  · obtain ⟨x1, x2, rfl⟩ := xl2 hx
    rfl
end Mine

end
section
open PySem PySem.W PySem.Calls PyProof.Rows
set_option linter.unusedVariables false
set_option maxRecDepth 100000
namespace Mine
noncomputable def mid3 (a b c : Nat) : List Str := [escS a, escS b, escS c]
noncomputable def transT (a b c : Nat) : Str := allT (Txt.join "" [midT (mid3 a b c), ".*"])
theorem parts3 {a b c : Nat} (ha : a ∈ signs) (hb : b ∈ signs) (hc : c ∈ signs) : partsP [42, a, b, c, 42] = none :: (mid3 a b c).map some ++ [none] := by
  have h : ∀ x ∈ signs, x ≠ 42 ∧ x ≠ 63 := by decide
  have := h a ha; have := h b hb; have := h c hc
  simp [partsP, stepP, mid3, *]
theorem esc_len (c : Nat) : (escS c).length ≤ 2 := by unfold escS; split; decide; exact (by decide : 1 ≤ 2)
theorem sum_le : ∀ (xs : List Str) {n : Nat}, (∀ x ∈ xs, x.length ≤ n) → (xs.map (·.length)).sum ≤ n * xs.length
  | [], n, _ => by simp
  | x :: xs, n, h => by
    have h1 := h x (.head _)
    have h2 := sum_le xs fun y hy => h y (.tail _ hy)
    simp only [List.map_cons, List.sum_cons, List.length_cons, Nat.mul_add]; omega
theorem glued_len (xs : List Str) {n : Nat} (h : ∀ x ∈ xs, x.length ≤ n) : (Txt.join "" xs).length ≤ n * xs.length := by
  have h1 : (Txt.join "" xs).length = (xs.map (·.length)).sum + (xs.length - 1) * 0 := PySem.size_glued "" xs
  have := sum_le xs h
  omega
theorem translate_s {w : World} (G : Gl PySem.Challenge.rw_in0278_01.prog w (Mine.K0 w.params)) {a b c : Nat} (ha : a ∈ signs) (hb : b ∈ signs) (hc : c ∈ signs) {Q : V → Prop} (h : Q (.str (transT a b c))) :
    CS G 4 (.ref 85) [.str ⟨#[42, a, b, c, 42]⟩] Q := by
  k_fill
  refine CS_def [Str.ofString "pat"] (by k_is) (by k_is) ?_ (fun xs hx => ?_)
  · refine WS_cons (WX_assign (WE_bi (by k_is) bootObject rfl (B_object fun st => ?_)))
    refine WS_cons (WX_assign (WE_def (by k_is) (by k_is) (WE_v (by rfl) ?_)))
    refine WE_v (by rfl) (WE_str ?_)
    refine (trans_s (cs := [42, a, b, c, 42]) G (fun x hx => ?_) (show 5 ≤ 500 by decide) ?_).room (by omega)
    · simp at hx; rcases hx with rfl | rfl | rfl | rfl | rfl
      · exact .inl rfl
      · exact .inr (.inr ha)
      · exact .inr (.inr hb)
      · exact .inr (.inr hc)
      · exact .inl rfl
    rw [parts3 ha hb hc]
    refine WS_cons (WX_ret (WE_def (by k_is) (by k_is) (WE_v (by rfl) (WE_v (by rfl) ?_))))
    have hl : ∀ x ∈ mid3 a b c, x.length ≤ 10 := by
      intro x hx
      simp [mid3] at hx
      rcases hx with rfl | rfl | rfl <;> exact Nat.le_trans (esc_len _) (by decide)
    have hJ : (Txt.join "" (mid3 a b c)).length ≤ 30 := glued_len _ hl
    have hM : (midT (mid3 a b c)).length ≤ 100 := Nat.le_trans (catb (catb len1 hJ) (show (Str.ofString ")").length ≤ 1 by decide)) (by decide)
    refine (joinB_s G hl (by show 3 ≤ 100; decide) (by simp [mid3]) (by omega) ?_ h).room (by omega)
    refine Nat.le_trans (glued_len (n := 100) _ fun x hx => ?_) (show 100 * 2 ≤ 2000 by decide)
    simp at hx
    rcases hx with rfl | rfl
    · exact hM
    · decide
  · obtain ⟨x1, rfl⟩ := xl1 hx
    rfl
end Mine

end
section
open PySem PySem.W PySem.Calls PyProof.Rows
set_option linter.unusedVariables false
set_option maxRecDepth 100000
namespace Mine
noncomputable def lsigns : List Nat := [45, 114, 115, 116, 119, 120]
theorem lsigns_sub : ∀ c ∈ lsigns, c ∈ signs := by decide
noncomputable abbrev TransOk (a b c : Nat) : Prop := Txt.slice (transT a b c) none (some 10) = Str.ofString "(?s:(?>.*?" ∧ Txt.slice (transT a b c) (some (-6)) none = Str.ofString ").*)\\Z" ∧
    Txt.replace (Txt.slice (transT a b c) (some 10) (some (-6))) (Str.ofString "\\") (Str.ofString "") = ⟨#[a, b, c]⟩ ∧ (transT a b c).length ≤ 1000
theorem tf45 : ∀ b ∈ lsigns, ∀ c ∈ lsigns, TransOk 45 b c := by decide +kernel
theorem tf114 : ∀ b ∈ lsigns, ∀ c ∈ lsigns, TransOk 114 b c := by decide +kernel
theorem tf115 : ∀ b ∈ lsigns, ∀ c ∈ lsigns, TransOk 115 b c := by decide +kernel
theorem tf116 : ∀ b ∈ lsigns, ∀ c ∈ lsigns, TransOk 116 b c := by decide +kernel
theorem tf119 : ∀ b ∈ lsigns, ∀ c ∈ lsigns, TransOk 119 b c := by decide +kernel
theorem tf120 : ∀ b ∈ lsigns, ∀ c ∈ lsigns, TransOk 120 b c := by decide +kernel
theorem trans_fin : ∀ a ∈ lsigns, ∀ b ∈ lsigns, ∀ c ∈ lsigns, TransOk a b c := by
  intro a ha
  simp only [lsigns, List.mem_cons, List.not_mem_nil, or_false] at ha
  rcases ha with rfl | rfl | rfl | rfl | rfl | rfl
  · exact tf45
  · exact tf114
  · exact tf115
  · exact tf116
  · exact tf119
  · exact tf120
theorem takes_s {w : World} (G : Gl PySem.Challenge.rw_in0278_01.prog w (Mine.K0 w.params)) {ag row : Str} {a b c : Nat} (ha : a ∈ lsigns) (hb : b ∈ lsigns) (hc : c ∈ lsigns) (hag : Txt.lower ag = ⟨#[a, b, c]⟩) (hs : (ag == Str.ofString "*") = false)
    (hrow : (Txt.lower row).length ≤ 1000) {Q : V → Prop} (h : Q (.bool (Txt.contains (Txt.lower row) ⟨#[a, b, c]⟩))) : CS G 5 (.ref 186) [.str ag, .str row] Q := by
  k_fill
  refine CS_def [Str.ofString "agent", Str.ofString "row"] (by k_is) (by k_is) ?_ (fun xs hx => ?_)
  · obtain ⟨f1, f2, f3, f4⟩ := trans_fin a ha b hb c hc
    refine WS_cons (WX_if (WT_cmp (WE_v (by rfl) (WE_str (C_eqS ?_)))))
    rw [hs]
    refine ⟨fun e => (by cases e), fun _ => ?_⟩
    refine WS_nil ?_
    refine WS_cons (WX_assign (WE_def (by k_is) (by k_is) (WE_bin (WE_bin (WE_str (WE_meth (WE_v (by rfl) ?_)))))))
    refine GM_str F.slot_str_lower F.type_str_lower ?_
    refine And.intro ?_ ?_
    · exact rfl
    refine M_lower (notLong (by rw [hag]; show 3 ≤ 1000; decide)) ?_
    rw [hag]
    refine A_cat (nat_len (show 4 ≤ 1000 by decide)) (WE_str (A_cat (nat_len (show 5 ≤ 1000 by decide)) ?_))
    refine (translate_s G (lsigns_sub a ha) (lsigns_sub b hb) (lsigns_sub c hc) ?_).room (by omega)
    generalize transT a b c = text at f1 f2 f3 f4 ⊢
    refine WS_cons (WX_if (WT_or2 (WT_cmp (WE_slc (WE_v (by rfl) ?_)))))
    refine WE_int ⟨_, rfl, SL_str (nat_len f4) ?_⟩
    rw [f1]
    refine WE_str (C_neS ⟨fun e => absurd e (by decide), fun _ => ?_⟩)
    refine WT_cmp (WE_slc (WE_v (by rfl) ?_))
    refine WE_neg (WE_int ⟨_, rfl, _, rfl, SL_str (nat_len f4) ?_⟩)
    rw [f2]
    refine WE_str (C_neS ⟨fun e => absurd e (by decide), fun _ => ?_⟩)
    refine WS_nil ?_
    refine WS_cons (WX_ret (WE_cmp ?_))
    refine WE_slcRep (by rfl) f4 (by decide) (by decide) ?_
    rw [f3]
    refine WE_meth (WE_v (by rfl) ?_)
    refine GM_str F.slot_str_lower F.type_str_lower ?_
    refine And.intro ?_ ?_
    · exact rfl
    refine M_lower (notLong hrow) ?_
    exact C_inS h
  · obtain ⟨x1, x2, rfl⟩ := xl2 hx
    rfl
theorem takes_star {w : World} (G : Gl PySem.Challenge.rw_in0278_01.prog w (Mine.K0 w.params)) {row : Str} {Q : V → Prop} (h : Q (.bool false)) : CS G 5 (.ref 186) [.str "*", .str row] Q := by
  k_fill
  refine CS_def [Str.ofString "agent", Str.ofString "row"] (by k_is) (by k_is) ?_ (fun xs hx => ?_)
  · refine WS_cons (WX_if (WT_cmp (WE_v (by rfl) (WE_str (C_eqS ?_)))))
    refine ⟨fun _ => WS_cons (WX_ret (WE_bool h)), fun e => absurd e (by decide)⟩
  · obtain ⟨x1, x2, rfl⟩ := xl2 hx
    rfl
end Mine

end
section
open PySem PySem.W PySem.Calls PyProof.Rows
set_option linter.unusedVariables false
set_option maxRecDepth 100000
namespace Mine
noncomputable def entK : List Str := ["useragents", "rulelines", "delay", "req_rate"]
noncomputable def entF (a1 a2 : Addr) : List V := [.raw (.ref a1), .raw (.ref a2), .nil, .nil]
theorem entry_s {w : World} (G : Gl PySem.Challenge.rw_in0278_01.prog w (Mine.K0 w.params)) (hC : G.C = 69) {A : Around} {z : Zp} {s : Shared} (hh : A.handled = none) (hR : Room 3 A) (zB : ∀ b o, G.zB b = some o → z b = some o) (hs : Sub z s.heap) :
    wpAny (model PySem.Challenge.rw_in0278_01.prog w) A (call (.ref 69) []) (fun x s' => ∃ z' p d l, x = .ref p ∧ z' p = some (instObj 69 d) ∧ NewL G.C z s z' s' l ∧ Made2 entK entF p d l) (fun _ _ => False) s := by
  k_fill
  refine new_inst (r := 1) (J := Made2 entK entF) (fI := 45) hC (by k_is) (by k_is) (by k_is) (by k_is) (by k_is) (fun p d => ?_) (fun x => rfl) (hh := hh) (hR := hR) (zB := zB) (hs := hs)
  have sf : ∀ nm, SetFacts (Mine.K0 w.params) 69 nm = true → SetFacts (Mine.K0 w.params) G.C nm = true := fun nm h => hC ▸ h
  refine WS_cons (WX_gsetNew (y := "#d") (yn := "#1") (sf _ (by kernel_rfl)) (by rfl) (by decide) (by decide) fun a1 => ⟨WE_v (by rfl) rfl, ?_⟩)
  refine WS_cons (WX_gsetNew (y := "#d") (yn := "#2") (sf _ (by kernel_rfl)) (by rfl) (by decide) (by decide) fun a2 => ⟨WE_v (by rfl) rfl, ?_⟩)
  refine WS_cons (WX_gset (y := "#d") (sf _ (by kernel_rfl)) (by rfl) (by decide) (WE_none ⟨WE_v (by rfl) rfl, ?_⟩))
  refine WS_cons (WX_gset (y := "#d") (sf _ (by kernel_rfl)) (by rfl) (by decide) (WE_none ⟨WE_v (by rfl) rfl, ?_⟩))
  exact WS_nil ⟨a1, a2, rfl, rfl, rfl, trivial⟩
end Mine

end
section
open PySem PySem.W PySem.Calls PyProof.Rows
set_option linter.unusedVariables false
set_option maxRecDepth 100000
namespace Mine
noncomputable def recK : List Str := ["useragents", "rulelines", "delay", "req_rate", "allowance"]
noncomputable def recV (ags : List V) (v : Bool) : V := .ins recK [.lst ags, .lst [], .nil, .nil, .bool v]
noncomputable def bookV (row : Str) (m : Int) (recs : List V) : V := .ins entK [.lst [.str row], .lst recs, .int m, .nil]
theorem turn_gd1 {C : Addr} {z : Zp} {d a : Addr} {ks : List Str} {ys rest : List V} (hz : Rz C z (.lst ys) (.ref a)) : Turns C z (.gd d ks (.raw (.ref a) :: rest)) (.gd d ks (.lst ys :: rest)) :=
  ⟨rfl, rfl, fun xs ⟨x, r, e, hx, rr⟩ => ⟨x, r, e, (show x = .ref a from hx) ▸ hz, rr⟩⟩
theorem turn_gd2 {C : Addr} {z : Zp} {d a : Addr} {ks : List Str} {v : V} {ys rest : List V} (hz : Rz C z (.lst ys) (.ref a)) : Turns C z (.gd d ks (v :: .raw (.ref a) :: rest)) (.gd d ks (v :: .lst ys :: rest)) :=
  ⟨rfl, rfl, fun xs ⟨x, r, e, hx, x', r', e', hx', rr⟩ => ⟨x, r, e, hx, x', r', e', (show x' = .ref a from hx') ▸ hz, rr⟩⟩
theorem record_s {w : World} (G : Gl PySem.Challenge.rw_in0278_01.prog w (Mine.K0 w.params)) (hC : G.C = 69) {ags : List V} {v : Bool} (hl : ags.length ≤ 1000) {Q : V → Prop} (h : Q (recV ags v)) : CS G 4 (.ref 193) [.lst ags, .bool v] Q := by
  k_fill
  have gf : ∀ nm, GetFacts (Mine.K0 w.params) 69 nm = true → GetFacts (Mine.K0 w.params) G.C nm = true := fun nm h => hC ▸ h
  have sf : ∀ nm, SetFacts (Mine.K0 w.params) 69 nm = true → SetFacts (Mine.K0 w.params) G.C nm = true := fun nm h => hC ▸ h
  refine CS_def [Str.ofString "agents", Str.ofString "verdict"] (by k_is) (by k_is) ?_ (fun xs hx => ?_)
  · refine WS_cons (WX_new (ks := entK) (f := entF) (by k_is) (by k_is) (fun A z s hh hR zB hs => entry_s G hC hh hR zB hs) hC fun p d a1 a2 => ?_)
    refine WS_cons ?_
    refine WX_forI (WI_seq (WE_v (by rfl) ⟨_, .inl rfl, ?_⟩))
    refine WF.ind _ (fun i l => Has l [("agents", .v (.lst ags)), ("verdict", .v (.bool v)), ("record", .v (.obj p d)), ("#d", .gd d entK (entF a1 a2)), ("#1", .gl a1 (ags.take i)), ("#2", .gl a2 [])]) ⟨rfl, rfl, rfl, rfl, rfl, rfl, trivial⟩ (fun i u l hu hl' => ?_) (fun l hl' => ?_)
    · refine WAs.wk _ hl' (WAs_name ?_)
      refine WS_cons (WX_appendG "#1" (by rfl) (WE_gattr (y := "#d") (gf _ (by kernel_rfl)) (by rfl) (WE_v (by rfl) rfl) (by rfl) (fun q e => by cases e; rfl) rfl) (WE_v (by rfl) ⟨?_, ?_⟩))
      · rw [List.length_take]; exact nat_len (by omega)
      refine WS_nil ⟨rfl, rfl, rfl, rfl, ?_, rfl, trivial⟩
      rw [List.take_add_one, hu]; rfl
    · rw [List.take_length] at hl'
      refine WS_nil (WS.wk _ hl' ?_)
      refine WS_cons (WX_gset (y := "#d") (sf _ (by kernel_rfl)) (by rfl) (by decide) (WE_v (by rfl) ⟨WE_v (by rfl) rfl, ?_⟩))
      refine WS_fill "#1" "#d" (.gd d recK [.lst ags, .raw (.ref a2), .nil, .nil, .bool v]) (by rfl) (by rfl) (fun z hz => turn_gd1 hz) ?_
      refine WS_fill "#2" "#d" (.gd d recK [.lst ags, .lst [], .nil, .nil, .bool v]) (by rfl) (by rfl) (fun z hz => turn_gd2 hz) ?_
      refine WS_fillObj "#d" "record" (by rfl) (by rfl) ?_
      refine WS_cons (WX_ret (WE_v (by rfl) h))
  · obtain ⟨x1, x2, rfl⟩ := xl2 hx
    rfl
theorem book_s {w : World} (G : Gl PySem.Challenge.rw_in0278_01.prog w (Mine.K0 w.params)) (hC : G.C = 69) {row : Str} {m : Int} {recs : List V} (hl : recs.length ≤ 1000) {Q : V → Prop} (h : Q (bookV row m recs)) : CS G 4 (.ref 200) [.str row, .int m, .lst recs] Q := by
  k_fill
  have gf : ∀ nm, GetFacts (Mine.K0 w.params) 69 nm = true → GetFacts (Mine.K0 w.params) G.C nm = true := fun nm h => hC ▸ h
  have sf : ∀ nm, SetFacts (Mine.K0 w.params) 69 nm = true → SetFacts (Mine.K0 w.params) G.C nm = true := fun nm h => hC ▸ h
  refine CS_def [Str.ofString "row", Str.ofString "mode", Str.ofString "records"] (by k_is) (by k_is) ?_ (fun xs hx => ?_)
  · refine WS_cons (WX_new (ks := entK) (f := entF) (by k_is) (by k_is) (fun A z s hh hR zB hs => entry_s G hC hh hR zB hs) hC fun p d a1 a2 => ?_)
    refine WS_cons (WX_appendG "#1" (by rfl) (WE_gattr (y := "#d") (gf _ (by kernel_rfl)) (by rfl) (WE_v (by rfl) rfl) (by rfl) (fun q e => by cases e; rfl) rfl) (WE_v (by rfl) ⟨nat_len (Nat.zero_le _), ?_⟩))
    refine WS_cons (WX_gset (y := "#d") (sf _ (by kernel_rfl)) (by rfl) (by decide) (WE_v (by rfl) ⟨WE_v (by rfl) rfl, ?_⟩))
    refine WS_cons ?_
    refine WX_forI (WI_seq (WE_v (by rfl) ⟨_, .inl rfl, ?_⟩))
    refine WF.ind _ (fun i l => Has l [("book", .v (.obj p d)), ("#d", .gd d entK [.raw (.ref a1), .raw (.ref a2), .int m, .nil]), ("#1", .gl a1 [.str row]), ("#2", .gl a2 (recs.take i))]) ⟨rfl, rfl, rfl, rfl, trivial⟩ (fun i u l hu hl' => ?_) (fun l hl' => ?_)
    · refine WAs.wk _ hl' (WAs_name ?_)
      refine WS_cons (WX_appendG "#2" (by rfl) (WE_gattr (y := "#d") (gf _ (by kernel_rfl)) (by rfl) (WE_v (by rfl) rfl) (by rfl) (fun q e => by cases e; rfl) rfl) (WE_v (by rfl) ⟨?_, ?_⟩))
      · rw [List.length_take]; exact nat_len (by omega)
      refine WS_nil ⟨rfl, rfl, rfl, ?_, trivial⟩
      rw [List.take_add_one, hu]; rfl
    · rw [List.take_length] at hl'
      refine WS_nil (WS.wk _ hl' ?_)
      refine WS_fill "#1" "#d" (.gd d entK [.lst [.str row], .raw (.ref a2), .int m, .nil]) (by rfl) (by rfl) (fun z hz => turn_gd1 hz) ?_
      refine WS_fill "#2" "#d" (.gd d entK [.lst [.str row], .lst recs, .int m, .nil]) (by rfl) (by rfl) (fun z hz => turn_gd2 hz) ?_
      refine WS_fillObj "#d" "book" (by rfl) (by rfl) ?_
      refine WS_cons (WX_ret (WE_v (by rfl) h))
  · obtain ⟨x1, x2, x3, rfl⟩ := xl3 hx
    rfl
end Mine

end
section
open PySem PySem.W PySem.Calls PyProof.Rows
set_option linter.unusedVariables false
set_option maxRecDepth 100000
namespace Mine
noncomputable def fits1 (nm ag : Str) : Bool := ag != "*" && Txt.contains nm (Txt.lower ag)
theorem appStar_s {w : World} (G : Gl PySem.Challenge.rw_in0278_01.prog w (Mine.K0 w.params)) (hC : G.C = 69) {ags : List Str} {v : Bool} {Q : V → Prop} (h : Q (.bool (ags.any (· == "*")))) : CS G 2 (.ref 59) [recV (ags.map .str) v, .nil] Q := by
  k_fill
  have vf : ∀ nm, valFirst (Mine.K0 w.params) 69 nm = true → valFirst (Mine.K0 w.params) G.C nm = true := fun nm h => hC ▸ h
  refine CS_def [Str.ofString "self", Str.ofString "useragent"] (by k_is) (by k_is) ?_ (fun xs hx => ?_)
  · refine WS_cons (WX_if (WT_cmp (WE_v (by rfl) (WE_none (C_isNil ⟨fun _ => ?_, fun e => (by cases e)⟩)))))
    refine WS_cons (WX_ret (WE_cmp (WE_str (WE_ia (vf _ (by kernel_rfl)) (WE_v (by rfl) ⟨_, _, _, rfl, by rfl, (fun q e => by cases e), ?_⟩)))))
    exact C_inStrs h
  · obtain ⟨x1, x2, rfl⟩ := xl2 hx
    rfl
theorem applies_s {w : World} (G : Gl PySem.Challenge.rw_in0278_01.prog w (Mine.K0 w.params)) (hC : G.C = 69) {ags : List Str} {v : Bool} {name first nm : Str} {rest : List Str} (hsp : Txt.split name "/" = first :: rest) (hnm : Txt.lower first = nm) (hn1 : name.length ≤ 1000) (hn2 : (Builtin.Str.partsBetween name (Builtin.Str.occurrences name (Str.ofString "/") 0 name.length (name.length + 1)) (Str.ofString "/").length).length ≤ sizeLine) (hn3 : nm.length ≤ 1000)
    (hag : ∀ g ∈ ags, (Txt.lower g).length ≤ 1000) {Q : V → Prop} (h : Q (.bool (ags.any (fits1 nm)))) : CS G 2 (.ref 59) [recV (ags.map .str) v, .str name] Q := by
  k_fill
  have vf : ∀ nm, valFirst (Mine.K0 w.params) 69 nm = true → valFirst (Mine.K0 w.params) G.C nm = true := fun nm h => hC ▸ h
  refine CS_def [Str.ofString "self", Str.ofString "useragent"] (by k_is) (by k_is) ?_ (fun xs hx => ?_)
  · refine WS_cons (WX_if (WT_cmp (WE_v (by rfl) (WE_none (C_isN (by simp) rfl ⟨fun e => (by cases e), fun _ => ?_⟩)))))
    refine WS_nil ?_
    refine WS_cons (WX_assign (WE_meth (WE_sub (WE_meth (WE_v (by rfl) ?_)))))
    refine GM_str F.slot_str_split F.type_str_split ?_
    refine And.intro ?_ ?_
    · exact rfl
    refine WE_str (M_split (by decide) (nat_len hn1) hn2 ?_)
    rw [hsp]
    refine WE_int (S_lst (v := .str first) (by decide) (by decide) rfl ?_)
    refine GM_str F.slot_str_lower F.type_str_lower ?_
    refine And.intro ?_ ?_
    · exact rfl
    refine M_lower (notLong (by rw [hnm]; exact hn3)) ?_
    rw [hnm]
    refine WS_cons ?_
    refine WX_forI (WI_seq (WE_ia (vf _ (by kernel_rfl)) (WE_v (by rfl) ⟨_, _, _, rfl, by rfl, (fun q e => by cases e), _, .inl rfl, ?_⟩)))
    refine WF.ind _ (fun i l => Has l [("useragent", .v (.str nm))] ∧ (ags.take i).any (fits1 nm) = false) ⟨⟨rfl, trivial⟩, rfl⟩ (fun i u l hu ⟨hl, hno⟩ => ?_) (fun l ⟨hl, hno⟩ => ?_)
    · rw [List.getElem?_map] at hu
      obtain ⟨g, hg, rfl⟩ := Option.map_eq_some_iff.mp hu
      have hgm : g ∈ ags := List.mem_of_getElem? hg
      have nxt : fits1 nm g = false → (ags.take (i + 1)).any (fits1 nm) = false := fun hh => by
        rw [List.take_add_one, hg, List.any_append, hno]; simpa using hh
      refine WAs.wk _ hl (WAs_name ?_)
      refine WS_cons (WX_if (WT_cmp (WE_v (by rfl) (WE_str (C_neS ?_)))))
      refine ⟨fun c0 => ?_, fun c0 => ?_⟩
      · refine WS_cons (WX_assign (WE_meth (WE_v (by rfl) ?_)))
        refine GM_str F.slot_str_lower F.type_str_lower ?_
        refine And.intro ?_ ?_
        · exact rfl
        refine M_lower (notLong (hag g hgm)) ?_
        refine WS_cons (WX_if (WT_cmp (WE_v (by rfl) (WE_v (by rfl) (C_inS ?_)))))
        refine ⟨fun c1 => ?_, fun c1 => ?_⟩
        · refine WS_cons (WX_ret (WE_bool ?_))
          have : ags.any (fits1 nm) = true := List.any_eq_true.mpr ⟨g, hgm, by unfold fits1; rw [c0, c1]; rfl⟩
          rw [this] at h; exact h
        · repeat refine WS_nil ?_
          exact ⟨⟨rfl, trivial⟩, nxt (by unfold fits1; rw [c1, Bool.and_false])⟩
      · repeat refine WS_nil ?_
        exact ⟨⟨rfl, trivial⟩, nxt (by unfold fits1; rw [c0]; rfl)⟩
    · rw [List.length_map, List.take_length] at hno
      refine WS_nil (WS.wk _ hl ?_)
      rw [hno] at h
      refine WS_cons (WX_ret (WE_bool h))
  · obtain ⟨x1, x2, rfl⟩ := xl2 hx
    rfl
end Mine

end
section
open PySem PySem.W PySem.Calls PyProof.Rows
set_option linter.unusedVariables false
set_option maxRecDepth 100000
namespace Mine
noncomputable def Rec := List Str × Bool
noncomputable def recOf (p : List Str × Bool) : V := recV (p.1.map .str) p.2
noncomputable def fitR (nm : Str) (p : List Str × Bool) : Bool := p.1.any (fits1 nm)
noncomputable def bestV (fs : List (List Str × Bool)) : V := if fs.isEmpty = true then .int (-1) else .bool true
noncomputable def allowB (fs : List (List Str × Bool)) : Bool := if fs.isEmpty = true then true else fs.any (·.2)
theorem allow_s {w : World} (G : Gl PySem.Challenge.rw_in0278_01.prog w (Mine.K0 w.params)) (hC : G.C = 69) {recs : List (List Str × Bool)} {row : Str} {m : Int} {name first nm : Str} {rest : List Str} (hsp : Txt.split name "/" = first :: rest) (hnm : Txt.lower first = nm) (hn1 : name.length ≤ 1000) (hn2 : (Builtin.Str.partsBetween name (Builtin.Str.occurrences name (Str.ofString "/") 0 name.length (name.length + 1)) (Str.ofString "/").length).length ≤ sizeLine) (hn3 : nm.length ≤ 1000)
    (hag : ∀ p ∈ recs, ∀ g ∈ p.1, (Txt.lower g).length ≤ 1000) {Q : V → Prop} (h : Q (.bool (allowB (recs.filter (fitR nm))))) : CS G 3 (.ref 66) [bookV row m (recs.map recOf), .str name] Q := by
  k_fill
  have vf : ∀ nm, valFirst (Mine.K0 w.params) 69 nm = true → valFirst (Mine.K0 w.params) G.C nm = true := fun nm h => hC ▸ h
  have f1 : plainGet (Mine.K0 w.params) G.C "applies_to" = true := by rw [hC]; k_is
  have f2 : findIn (Mine.K0 w.params) (.ref G.C) "applies_to" = some (some (.ref 59)) := by rw [hC]; k_is
  have f3 : isFn (Mine.K0 w.params) (.ref 59) = true := by k_is
  refine CS_def [Str.ofString "self", Str.ofString "filename"] (by k_is) (by k_is) ?_ (fun xs hx => ?_)
  · refine WS_cons (WX_assign (WE_neg (WE_int ⟨_, rfl, ?_⟩)))
    refine WS_cons (WX_assign (WE_bool ?_))
    refine WS_cons ?_
    refine WX_forI (WI_seq (WE_ia (vf _ (by kernel_rfl)) (WE_v (by rfl) ⟨_, _, _, rfl, by rfl, (fun q e => by cases e), _, .inl rfl, ?_⟩)))
    refine WF.ind _ (fun i l => Has l [("filename", .v (.str name)), ("best_match", .v (bestV ((recs.take i).filter (fitR nm)))), ("allowance", .v (.bool (allowB ((recs.take i).filter (fitR nm)))))]) ⟨rfl, rfl, rfl, trivial⟩ (fun i u l hu hl => ?_) (fun l hl => ?_)
    · rw [List.getElem?_map] at hu
      obtain ⟨p, hp, rfl⟩ := Option.map_eq_some_iff.mp hu
      have hpm : p ∈ recs := List.mem_of_getElem? hp
      have htk : (recs.take (i + 1)).filter (fitR nm) = (recs.take i).filter (fitR nm) ++ (if fitR nm p = true then [p] else []) := by
        rw [List.take_add_one, hp, List.filter_append]
        congr 1
        show List.filter (fitR nm) [p] = _
        rw [List.filter_cons]; rfl
      generalize (recs.take i).filter (fitR nm) = fs at hl htk
      rw [htk]
      refine WAs.wk _ hl (WAs_name ?_)
      refine WS_cons (WX_assign (WE_meth (WE_v (by rfl) ?_)))
      refine GM_ins f1 f2 f3 (by decide +kernel) ?_
      refine And.intro ?_ ?_
      · show keepIn (Mine.K0 w.params) (.ref 59) = true; k_is
      refine WE_v (by rfl) ((applies_s (ags := p.1) (v := p.2) G hC hsp hnm hn1 hn2 hn3 (hag p hpm) ?_).room (by omega))
      change WS _ _ _ (put _ _ (.v (.bool (fitR nm p)))) _ _
      refine WS_cons (WX_if (WT_val (WE_v (by rfl) (T_bool ?_))))
      refine ⟨fun c0 => ?_, fun c0 => ?_⟩
      · rw [c0]
        cases hfs : fs with
        | nil =>
          subst hfs
          refine WS_cons (WX_if (WT_cmp (WE_v (by rfl) (WE_v (by rfl) (C_gtBI ⟨fun _ => ?_, fun e => absurd e (by decide)⟩)))))
          refine WS_cons (WX_assign (WE_v (by rfl) ?_))
          refine WS_cons (WX_assign (WE_ia (vf _ (by kernel_rfl)) (WE_v (by rfl) ⟨_, _, _, rfl, by rfl, (fun q e => by cases e), ?_⟩)))
          repeat refine WS_nil ?_
          exact ⟨rfl, rfl, by simp [allowB]; rfl, trivial⟩
        | cons f0 ft =>
          rw [← hfs]
          have hne : fs.isEmpty = false := by rw [hfs]; rfl
          have hb : bestV fs = .bool true := by unfold bestV; rw [hne]; rfl
          have hne2 : (fs ++ [p]).isEmpty = false := by rw [hfs]; rfl
          have hb2 : bestV (fs ++ [p]) = .bool true := by unfold bestV; rw [hne2]; rfl
          have ha2 : allowB (fs ++ [p]) = (allowB fs || p.2) := by unfold allowB; rw [hne, hne2]; simp
          simp only [if_true, hb2, ha2, hb]
          refine WS_cons (WX_if (WT_cmp (WE_v (by rfl) (WE_v (by rfl) (C_gtB ⟨fun e => absurd e (by decide), fun _ => ?_⟩)))))
          refine WS_cons (WX_if (WT_and2 (WT_cmp (WE_v (by rfl) (WE_v (by rfl) (C_eqB ⟨fun e => absurd e (by decide), fun _ => ?_⟩))))))
          refine WT_not (WT_val (WE_v (by rfl) (T_bool ⟨fun c1 => ?_, fun c1 => ?_⟩)))
          · have c1 : allowB fs = false := by simpa using c1
            rw [c1]
            refine WS_cons (WX_assign (WE_ia (vf _ (by kernel_rfl)) (WE_v (by rfl) ⟨_, _, _, rfl, by rfl, (fun q e => by cases e), ?_⟩)))
            repeat refine WS_nil ?_
            exact ⟨rfl, rfl, by rw [Bool.false_or]; rfl, trivial⟩
          · have c1 : allowB fs = true := by simpa using c1
            rw [c1, Bool.true_or]
            repeat refine WS_nil ?_
            exact ⟨rfl, rfl, rfl, trivial⟩
      · rw [c0]
        refine WS_nil (WS_nil ?_)
        have e0 : fs ++ (if (false : Bool) = true then [p] else []) = fs := by simp
        rw [e0]
        exact ⟨rfl, rfl, rfl, trivial⟩
    · rw [List.length_map, List.take_length] at hl
      refine WS_nil (WS.wk _ hl ?_)
      refine WS_cons (WX_ret (WE_v (by rfl) h))
  · obtain ⟨x1, x2, rfl⟩ := xl2 hx
    rfl
end Mine

end
section
open PySem PySem.W PySem.Calls PyProof.Rows
set_option linter.unusedVariables false
set_option maxRecDepth 100000
namespace Mine
inductive LineK where
  | ag (x : Str)
  | allow
noncomputable def lineS : LineK → Str
  | .ag x => Str.ofString "User-agent: " ++ x
  | .allow => Str.ofString "Allow:"
noncomputable def stepK (p : List (List Str) × List Str) : LineK → List (List Str) × List Str
  | .ag x => (p.1, p.2 ++ [x])
  | .allow => (p.1 ++ [p.2], [])
noncomputable def lstV (xs : List Str) : V := .lst (xs.map .str)
noncomputable def okK : LineK → Prop
  | .ag x => (lineS (.ag x) == Str.ofString "Allow:") = false ∧ Txt.slice (lineS (.ag x)) none (some 12) = Str.ofString "User-agent: " ∧ Txt.slice (lineS (.ag x)) (some 12) none = x ∧ (lineS (.ag x)).length ≤ 1000
  | .allow => True
theorem turn_last {C : Addr} {z : Zp} {a : Addr} {ys : List V} (hz : Rz C z (.lst ys) (.ref a)) : ∀ {ds : List V} {vs : List Value}, RzL C z (ds ++ [.raw (.ref a)]) vs → RzL C z (ds ++ [.lst ys]) vs
  | [], _, ⟨x, r, e, hx, rr⟩ => ⟨x, r, e, (show x = .ref a from hx) ▸ hz, rr⟩
  | d :: ds, _, ⟨x, r, e, hx, rr⟩ => ⟨x, r, e, hx, turn_last hz rr⟩
theorem turn_own {C : Addr} {z : Zp} {a : Addr} {ys ds : List V} (hz : Rz C z (.lst ys) (.ref a)) : Turns C z (.own (ds ++ [.raw (.ref a)])) (.own (ds ++ [.lst ys])) := fun vs rl => turn_last hz rl
theorem stepK_len (ks : List LineK) : ∀ (p : List (List Str) × List Str), (ks.foldl stepK p).1.length ≤ p.1.length + ks.length ∧ (ks.foldl stepK p).2.length ≤ p.2.length + ks.length := by
  induction ks with
  | nil => intro p; simp
  | cons k ks ih =>
    intro p
    rw [List.foldl_cons]
    have := ih (stepK p k)
    cases k <;> simp [stepK] at this ⊢ <;> omega
theorem back_s {w : World} (G : Gl PySem.Challenge.rw_in0278_01.prog w (Mine.K0 w.params)) {ks : List LineK} (hk : ∀ k ∈ ks, okK k) (hlen : ks.length ≤ 700) {Q : V → Prop} (h : Q (.lst (((ks.foldl stepK ([], [])).1 ++ [(ks.foldl stepK ([], [])).2]).map lstV))) : CS G 2 (.ref 207) [.lst ((ks.map lineS).map .str)] Q := by
  k_fill
  refine CS_def [Str.ofString "lines"] (by k_is) (by k_is) ?_ (fun xs hx => ?_)
  · refine WS_cons (WX_ownN "#r" (WEn_list fun a => ?_))
    refine WS_cons ?_
    refine WX_forI (WI_seq (WE_v (by rfl) ⟨_, .inl rfl, ?_⟩))
    refine WF.ind _ (fun i l => ∃ a d c, (d, c) = (ks.take i).foldl stepK ([], []) ∧ Has l [("rules", .own (d.map lstV ++ [.raw (.ref a)])), ("#r", .gl a (c.map .str))]) ⟨a, [], [], rfl, rfl, rfl, trivial⟩ (fun i u l hu ⟨a, d, c, hdc, hl⟩ => ?_) (fun l ⟨a, d, c, hdc, hl⟩ => ?_)
    · rw [List.map_map, List.getElem?_map] at hu
      obtain ⟨kd, hkd, rfl⟩ := Option.map_eq_some_iff.mp hu
      have hkm := hk kd (List.mem_of_getElem? hkd)
      have hnx : (ks.take (i + 1)).foldl stepK ([], []) = stepK (d, c) kd := by
        rw [List.take_add_one, hkd, List.foldl_append, ← hdc]; rfl
      have hb := stepK_len (ks.take i) ([], [])
      rw [← hdc] at hb
      simp only [List.length_nil, List.length_take] at hb
      refine WAs.wk _ hl (WAs_name ?_)
      refine WS_cons (WX_if (WT_cmp (WE_v (by rfl) (WE_str (C_eqS ?_)))))
      cases kd with
      | allow =>
        refine ⟨fun _ => ?_, fun e => absurd e (by decide)⟩
        refine WS_cons (WX_fill "#r" "rules" (.own (d.map lstV ++ [.lst (c.map .str)])) (by rfl) (by rfl) (fun z hz => turn_own hz) ?_)
        refine WX_appN "#r" (by rfl) (by decide) (nat_len (by simp; omega)) (WEn_list fun a' => ?_)
        repeat refine WS_nil ?_
        refine ⟨a', d ++ [c], [], hnx.symm, ?_, rfl, trivial⟩
        rw [List.map_append]; rfl
      | ag x =>
        obtain ⟨k1, k2, k3, k4⟩ := hkm
        refine ⟨fun e => absurd e (by rw [show ((V.str ∘ lineS) (LineK.ag x) : V) = .str (lineS (.ag x)) from rfl] at *; rw [k1]; simp), fun _ => ?_⟩
        refine WS_cons (WX_if (WT_cmp (WE_slc (WE_v (by rfl) ?_))))
        refine WE_int ⟨_, rfl, SL_str (nat_len k4) ?_⟩
        rw [k2]
        refine WE_str (C_eqS ⟨fun _ => ?_, fun e => absurd e (by decide)⟩)
        have hlast : (d.map lstV ++ [V.raw (.ref a)]).getLast? = some (.raw (.ref a)) := by simp
        refine WS_cons (WX_appendG "#r" (by rfl) (WE_peek (WE_sub (WE_v (by rfl) (WE_neg (WE_int ⟨_, rfl, S_last (nat_len (by simp; omega)) hlast ⟨rfl, rfl⟩⟩))))) ?_)
        refine WE_slc (WE_v (by rfl) ?_)
        refine WE_int ⟨_, rfl, SL_str (nat_len k4) ?_⟩
        rw [k3]
        refine ⟨nat_len (by rw [List.length_map]; omega), ?_⟩
        repeat refine WS_nil ?_
        refine ⟨a, d, c ++ [x], hnx.symm, rfl, ?_, trivial⟩
        rw [List.map_append]; rfl
    · rw [List.length_map, List.length_map, List.take_length] at hdc
      rw [← hdc] at h
      refine WS_nil (WS.wk _ hl ?_)
      refine WS_fill "#r" "rules" (.own (d.map lstV ++ [.lst (c.map .str)])) (by rfl) (by rfl) (fun z hz => turn_own hz) ?_
      refine WS_freeze (fun _ => true) ?_
      refine WS_cons (WX_ret (WE_v (by rfl) ?_))
      rw [List.map_append] at h
      exact h
  · obtain ⟨x1, rfl⟩ := xl1 hx
    rfl
end Mine

end
section
open PySem PySem.W PySem.Calls PyProof.Rows
set_option linter.unusedVariables false
set_option maxRecDepth 100000
namespace Mine
noncomputable def agL (x : Str) : Str := Str.empty ++ Str.ofString "User-agent: " ++ x
noncomputable def recLines (ags : List Str) : List Str := ags.map agL ++ [Str.ofString "Allow:"]
theorem agL_len {x : Str} (h : x.length ≤ 100) : (agL x).length ≤ 112 := catb (show (Str.empty ++ Str.ofString "User-agent: " : Str).length ≤ 12 by decide) h
theorem strRec_s {w : World} (G : Gl PySem.Challenge.rw_in0278_01.prog w (Mine.K0 w.params)) (hC : G.C = 69) {ags : List Str} {v : Bool} (hne : ags ≠ []) (h1 : ags.length ≤ 300) (h2 : ∀ g ∈ ags, g.length ≤ 100) {Q : V → Prop} (h : Q (.str (Txt.join (Str.ofString "\n") (recLines ags)))) : CS G 1 (.ref 52) [recV (ags.map .str) v] Q := by
  k_fill
  have vf : ∀ nm, valFirst (Mine.K0 w.params) 69 nm = true → valFirst (Mine.K0 w.params) G.C nm = true := fun nm h => hC ▸ h
  refine CS_def [Str.ofString "self"] (by k_is) (by k_is) ?_ (fun xs hx => ?_)
  · refine WS_cons (WX_if (WT_not (WT_val (WE_ia (vf _ (by kernel_rfl)) (WE_v (by rfl) ⟨_, _, _, rfl, by rfl, (fun q e => by cases e), T_lst ?_ ?_⟩)))))
    · rw [List.length_map]; exact nat_len (by omega)
    have he : ((ags.map V.str).isEmpty) = false := by cases ags <;> first | exact absurd rfl hne | rfl
    rw [he]
    refine ⟨fun e => (by cases e), fun _ => ?_⟩
    refine WS_nil (WS_cons (WX_own ?_))
    refine WS_cons ?_
    refine WX_forI (WI_seq (WE_ia (vf _ (by kernel_rfl)) (WE_v (by rfl) ⟨_, _, _, rfl, by rfl, (fun q e => by cases e), _, .inl rfl, ?_⟩)))
    refine WF.ind _ (fun i l => Has l [("self", .v (recV (ags.map .str) v)), ("ret", .own (((ags.take i).map agL).map .str))]) ⟨rfl, rfl, trivial⟩ (fun i u l hu hl => ?_) (fun l hl => ?_)
    · rw [List.getElem?_map] at hu
      obtain ⟨g, hg, rfl⟩ := Option.map_eq_some_iff.mp hu
      have hg1 := h2 g (List.mem_of_getElem? hg)
      refine WAs.wk _ hl (WAs_name ?_)
      refine WS_cons (WX_append (by rfl) ?_)
      refine WE_joined (WE_str ⟨_, rfl, nat_len (by decide), ?_⟩)
      refine WE_fmt (WE_v (by rfl) (Fmt_str (nat_len (by omega)) ⟨_, rfl, ?_, ?_, ?_⟩))
      · exact nat_len (Nat.le_trans (agL_len hg1) (by decide))
      · exact nat_len (Nat.le_trans (agL_len hg1) (by decide))
      refine ⟨nat_len (by rw [List.length_map, List.length_map, List.length_take]; omega), ?_⟩
      refine WS_nil ⟨rfl, ?_, trivial⟩
      rw [List.take_add_one, hg, List.map_append, List.map_append]; rfl
    · rw [List.length_map, List.take_length] at hl
      refine WS_nil (WS.wk _ hl ?_)
      refine WS_cons (WX_if (WT_cmp (WE_ia (vf _ (by kernel_rfl)) (WE_v (by rfl) ⟨_, _, _, rfl, by rfl, (fun q e => by cases e), WE_none (C_isNNil ⟨fun e => (by cases e), fun _ => ?_⟩)⟩))))
      refine WS_nil ?_
      refine WS_cons (WX_if (WT_cmp (WE_ia (vf _ (by kernel_rfl)) (WE_v (by rfl) ⟨_, _, _, rfl, by rfl, (fun q e => by cases e), WE_none (C_isNNil ⟨fun e => (by cases e), fun _ => ?_⟩)⟩))))
      refine WS_nil ?_
      refine WS_cons (WX_if (WT_val (WE_ia (vf _ (by kernel_rfl)) (WE_v (by rfl) ⟨_, _, _, rfl, by rfl, (fun q e => by cases e), T_lst (Nat.zero_le _) ⟨fun e => (by cases e), fun _ => ?_⟩⟩))))
      refine WS_cons (WX_append (by rfl) (WE_str ⟨nat_len (by rw [List.length_map, List.length_map]; omega), ?_⟩))
      refine WS_nil ?_
      refine WS.wk [("ret", .own ((recLines ags).map .str))] ⟨by unfold recLines; rw [List.map_append]; rfl, trivial⟩ ?_
      refine WS_freeze (fun _ => true) ?_
      refine WS_cons (WX_ret ?_)
      refine WE_meth ?_
      refine WE_str ?_
      refine GM_str F.slot_str_join F.type_str_join ?_
      refine And.intro ?_ ?_
      · exact rfl
      refine WE_v (by rfl) (M_join ?_ h)
      have hs := sum_le (recLines ags) (n := 112) fun x hx => by
        unfold recLines at hx
        rcases List.mem_append.mp hx with hx | hx
        · obtain ⟨g, hg, rfl⟩ := List.mem_map.mp hx
          exact agL_len (h2 g hg)
        · simp at hx; subst hx; decide
      have hl2 : (recLines ags).length = ags.length + 1 := by simp [recLines]
      have hn : (Str.ofString "\n").length = 1 := rfl
      rw [hn]; omega
  · obtain ⟨x1, rfl⟩ := xl1 hx
    rfl
end Mine

end
section
open PySem PySem.W PySem.Calls PyProof.Rows
set_option linter.unusedVariables false
set_option maxRecDepth 100000
namespace Mine
noncomputable def recT (p : List Str × Bool) : Str := Txt.join (Str.ofString "\n") (recLines p.1)
noncomputable def delayL (m : Int) : Str := Str.empty ++ Str.ofString "Crawl-delay: " ++ Str.ofString (toString m)
noncomputable def bookLines (row : Str) (m : Int) (recs : List (List Str × Bool)) : List Str := [agL row, delayL m] ++ recs.map recT
noncomputable def unS : V → Str
  | .str x => x
  | _ => Str.empty
noncomputable def gRec : V → V
  | .ins _ (.lst ags :: _) => .str (Txt.join (Str.ofString "\n") (recLines (ags.map unS)))
  | _ => .nil
theorem gRec_of (p : List Str × Bool) : gRec (recOf p) = .str (recT p) := by
  show V.str _ = V.str _
  rw [List.map_map]
  have : (unS ∘ V.str) = id := rfl
  rw [this, List.map_id]; rfl
theorem strBook_s {w : World} (G : Gl PySem.Challenge.rw_in0278_01.prog w (Mine.K0 w.params)) (hC : G.C = 69) {row : Str} {m : Int} {recs : List (List Str × Bool)} (hrow : row.length ≤ 100) (hm : m.natAbs.log2 < 1920) (hm2 : (Str.ofString (toString m)).length ≤ 100)
    (hne : recs ≠ []) (h1 : recs.length ≤ 100) (h2 : ∀ p ∈ recs, p.1 ≠ [] ∧ p.1.length ≤ 100 ∧ ∀ g ∈ p.1, g.length ≤ 100) (hT : ∀ p ∈ recs, (recT p).length ≤ 20000) {Q : V → Prop} (h : Q (.str (Txt.join (Str.ofString "\n") (bookLines row m recs)))) : CS G 4 (.ref 52) [bookV row m (recs.map recOf)] Q := by
  k_fill
  have vf : ∀ nm, valFirst (Mine.K0 w.params) 69 nm = true → valFirst (Mine.K0 w.params) G.C nm = true := fun nm h => hC ▸ h
  have f1 : findIn (Mine.K0 w.params) (.ref G.C) "__str__" = some (some (.ref 52)) := by rw [hC]; k_is
  have f2 : isFn (Mine.K0 w.params) (.ref 52) = true := by k_is
  refine CS_def [Str.ofString "self"] (by k_is) (by k_is) ?_ (fun xs hx => ?_)
  · refine WS_cons (WX_if (WT_not (WT_val (WE_ia (vf _ (by kernel_rfl)) (WE_v (by rfl) ⟨_, _, _, rfl, by rfl, (fun q e => by cases e), T_lst ?_ ⟨fun e => (by cases e), fun _ => ?_⟩⟩)))))
    · exact nat_len (show 1 ≤ 1000 by decide)
    refine WS_nil (WS_cons (WX_own ?_))
    refine WS_cons ?_
    refine WX_forI (WI_seq (WE_ia (vf _ (by kernel_rfl)) (WE_v (by rfl) ⟨_, _, _, rfl, by rfl, (fun q e => by cases e), _, .inl rfl, ?_⟩)))
    refine WF.ind _ (fun i l => Has l [("self", .v (bookV row m (recs.map recOf))), ("ret", .own (([row].take i).map fun x => .str (agL x)))]) ⟨rfl, rfl, trivial⟩ (fun i u l hu hl => ?_) (fun l hl => ?_)
    · obtain ⟨rfl, rfl⟩ : i = 0 ∧ u = .str row := by
        cases i with
        | zero => cases hu; exact ⟨rfl, rfl⟩
        | succ n => simp at hu
      refine WAs.wk _ hl (WAs_name ?_)
      refine WS_cons (WX_append (by rfl) ?_)
      refine WE_joined (WE_str ⟨_, rfl, nat_len (by decide), ?_⟩)
      refine WE_fmt (WE_v (by rfl) (Fmt_str (nat_len (by omega)) ⟨_, rfl, ?_, ?_, ?_⟩))
      · exact nat_len (Nat.le_trans (agL_len hrow) (by decide))
      · exact nat_len (Nat.le_trans (agL_len hrow) (by decide))
      exact ⟨nat_len (Nat.zero_le _), WS_nil ⟨rfl, rfl, trivial⟩⟩
    · refine WS_nil (WS.wk [("self", .v (bookV row m (recs.map recOf))), ("ret", .own [.str (agL row)])] ⟨hl.1, hl.2.1, trivial⟩ ?_)
      have hd : (delayL m).length ≤ 113 := catb (show (Str.empty ++ Str.ofString "Crawl-delay: " : Str).length ≤ 13 by decide) hm2
      refine WS_cons (WX_if (WT_cmp (WE_ia (vf _ (by kernel_rfl)) (WE_v (by rfl) ⟨_, _, _, rfl, by rfl, (fun q e => by cases e), WE_none (C_isNN (by simp) rfl ⟨fun _ => ?_, fun e => (by cases e)⟩)⟩))))
      refine WS_cons (WX_append (by rfl) ?_)
      refine WE_joined (WE_str ⟨_, rfl, nat_len (by decide), ?_⟩)
      refine WE_fmt (WE_ia (vf _ (by kernel_rfl)) (WE_v (by rfl) ⟨_, _, _, rfl, by rfl, (fun q e => by cases e), Fmt_int hm ⟨_, rfl, ?_, ?_, ?_⟩⟩))
      · exact nat_len (Nat.le_trans hd (by decide))
      · exact nat_len (Nat.le_trans hd (by decide))
      refine ⟨nat_len (show 1 ≤ 1000 by decide), ?_⟩
      refine WS_nil ?_
      refine WS_cons (WX_if (WT_cmp (WE_ia (vf _ (by kernel_rfl)) (WE_v (by rfl) ⟨_, _, _, rfl, by rfl, (fun q e => by cases e), WE_none (C_isNNil ⟨fun e => (by cases e), fun _ => ?_⟩)⟩))))
      refine WS_nil ?_
      refine WS_cons (WX_if (WT_val (WE_ia (vf _ (by kernel_rfl)) (WE_v (by rfl) ⟨_, _, _, rfl, by rfl, (fun q e => by cases e), T_lst ?_ ?_⟩))))
      · rw [List.length_map]; exact nat_len (by omega)
      have he : ((recs.map recOf).isEmpty) = false := by cases recs <;> first | exact absurd rfl hne | rfl
      rw [he]
      refine ⟨fun _ => ?_, fun e => (by cases e)⟩
      have hin : ∀ v ∈ recs.map recOf, ∃ p ∈ recs, v = recOf p := fun v hv => by obtain ⟨p, hp, e⟩ := List.mem_map.mp hv; exact ⟨p, hp, e.symm⟩
      refine WS_cons (WX_extMap (vs := recs.map recOf) (g := gRec) (by rfl) ?_ (by k_is) (by k_is) (WE_ia (vf _ (by kernel_rfl)) (WE_v (by rfl) ⟨_, _, _, rfl, by rfl, (fun q e => by cases e), rfl⟩)) (by rw [List.length_map]; omega) ?_ ?_)
      · show 2 ≤ 500; decide
      · intro v hv
        obtain ⟨p, hp, rfl⟩ := hin v hv
        obtain ⟨g1, g2, g3⟩ := h2 p hp
        refine B_str_ins f1 f2 (strRec_s (ags := p.1) (v := p.2) G hC g1 (by omega) g3 ⟨⟨_, rfl⟩, ?_⟩)
        exact (gRec_of p).symm
      have hg : (recs.map recOf).map gRec = (recs.map recT).map .str := by
        rw [List.map_map, List.map_map]
        exact List.map_congr_left fun p _ => gRec_of p
      rw [hg]
      refine WS_nil ?_
      refine WS.wk [("ret", .own ((bookLines row m recs).map .str))] ⟨by unfold bookLines; rw [List.map_append]; rfl, trivial⟩ ?_
      refine WS_freeze (fun _ => true) ?_
      refine WS_cons (WX_ret ?_)
      refine WE_meth ?_
      refine WE_str ?_
      refine GM_str F.slot_str_join F.type_str_join ?_
      refine And.intro ?_ ?_
      · exact rfl
      refine WE_v (by rfl) (M_join ?_ h)
      have hs := sum_le (bookLines row m recs) (n := 20000) fun x hx => by
        unfold bookLines at hx
        rcases List.mem_append.mp hx with hx | hx
        · simp at hx
          rcases hx with rfl | rfl
          · exact Nat.le_trans (agL_len hrow) (by decide)
          · exact Nat.le_trans hd (by decide)
        · obtain ⟨p, hp, rfl⟩ := List.mem_map.mp hx
          exact hT p hp
      have hl2 : (bookLines row m recs).length = recs.length + 2 := by simp [bookLines]
      have hn : (Str.ofString "\n").length = 1 := rfl
      rw [hn]; omega
  · obtain ⟨x1, rfl⟩ := xl1 hx
    rfl
end Mine

end
section
open PySem PySem.W PySem.Calls PyProof.Rows
set_option linter.unusedVariables false
set_option maxRecDepth 100000
namespace Mine
/-! bits -/
theorem and_pow (x i : Nat) : ((x &&& 2 ^ i) != 0) = x.testBit i := by
  cases h : x.testBit i with
  | true =>
    have : (x &&& 2 ^ i).testBit i = true := by rw [Nat.testBit_and, h, Nat.testBit_two_pow_self]; rfl
    have ne : x &&& 2 ^ i ≠ 0 := fun e => by rw [e] at this; simp at this
    simpa using ne
  | false =>
    have : x &&& 2 ^ i = 0 := Nat.eq_of_testBit_eq fun j => by
      rw [Nat.testBit_and, Nat.testBit_two_pow, Nat.zero_testBit]
      by_cases hj : i = j
      · subst hj; rw [h]; rfl
      · simp [hj]
    rw [this]; rfl
theorem mask_all {n M k : Nat} (hM : M < 2 ^ k) : ((n &&& M) == M) = (List.range k).all fun i => !M.testBit i || n.testBit i := by
  rw [Bool.eq_iff_iff, beq_iff_eq, List.all_eq_true]
  constructor
  · intro h i _
    have := congrArg (·.testBit i) h
    simp only [Nat.testBit_and] at this
    cases hm : M.testBit i with
    | false => rfl
    | true => rw [hm] at this; simpa using this
  · intro h
    refine Nat.eq_of_testBit_eq fun i => ?_
    rw [Nat.testBit_and]
    by_cases hi : i < k
    · have := h i (List.mem_range.mpr hi)
      cases hm : M.testBit i with
      | false => simp
      | true => rw [hm] at this; simpa using this
    · rw [Nat.testBit_lt_two_pow (Nat.lt_of_lt_of_le hM (Nat.pow_le_pow_right (by decide) (Nat.le_of_not_lt hi)))]; simp
theorem bitAnd_nat (n k : Nat) : Builtin.bitAnd (n : Int) (k : Int) = ((n &&& k : Nat) : Int) := by
  rw [bitAnd_pp (Int.natCast_nonneg n) (Int.natCast_nonneg k)]; rfl
theorem bt_nat (n s i : Nat) : bt (n : Int) s ((2 ^ i : Nat) : Int) = n.testBit (s + i) := by
  unfold bt
  have e : ((n : Int)).fdiv (2 ^ s) = ((n / 2 ^ s : Nat) : Int) := by
    rw [Int.fdiv_eq_ediv_of_nonneg _ (Int.pow_nonneg (by decide))]
    norm_cast
  rw [e, bitAnd_nat, show n.testBit (s + i) = (n / 2 ^ s).testBit i by rw [Nat.testBit_div_two_pow, Nat.add_comm], ← and_pow]
  generalize n / 2 ^ s &&& 2 ^ i = q
  cases q <;> rfl
theorem hit_nat (n M k : Nat) (hM : M < 2 ^ k) : hit false (n : Int) (M : Int) = (List.range k).all fun i => !M.testBit i || n.testBit i := by
  show (Builtin.bitAnd _ _ == _) = _
  rw [bitAnd_nat, ← mask_all hM, Bool.eq_iff_iff, beq_iff_eq, beq_iff_eq]
  exact Int.ofNat_inj
/-! the row's pieces -/
noncomputable def cellB (b4 b2 b9 b1 z : Bool) : Str := if (b1 || Txt.item (triB b4 b2 b9 b1 z) 2 == ("-" : Str)) = true then triB b4 b2 b9 b1 z else Txt.slice (triB b4 b2 b9 b1 z) none (some 2) ++ Txt.upper (Txt.item (triB b4 b2 b9 b1 z) 2)
theorem cell_B (n s : Nat) : cell (n : Int) s = cellB (n.testBit (s + 2)) (n.testBit (s + 1)) (n.testBit (9 + s / 3)) (n.testBit s) (s != 0) := by
  have e : cell (n : Int) s = cellB (bt n s 4) (bt n s 2) (bt n (9 + s / 3) 1) (bt n s 1) (s != 0) := rfl
  rw [e, show (4 : Int) = ((2 ^ 2 : Nat) : Int) from rfl, show (2 : Int) = ((2 ^ 1 : Nat) : Int) from rfl, show (1 : Int) = ((2 ^ 0 : Nat) : Int) from rfl, bt_nat, bt_nat, bt_nat, bt_nat]
  rfl
theorem tri_B2 (n s : Nat) : tri (n : Int) s = triB (n.testBit (s + 2)) (n.testBit (s + 1)) (n.testBit (9 + s / 3)) (n.testBit s) (s != 0) := by
  rw [tri_B, show (4 : Int) = ((2 ^ 2 : Nat) : Int) from rfl, show (2 : Int) = ((2 ^ 1 : Nat) : Int) from rfl, show (1 : Int) = ((2 ^ 0 : Nat) : Int) from rfl, bt_nat, bt_nat, bt_nat, bt_nat]
  rfl
noncomputable def pk1 (b : Bool) (x : Str) : Str := if b = true then x else "-"
noncomputable def pk3 (hi lo : Bool) (u v : Str) : Str := if (lo && hi) = true then u else if hi = true then v else if lo = true then "x" else "-"
theorem cell_pk : ∀ b4 b2 b9 b1 : Bool, cellB b4 b2 b9 b1 true = pk1 b4 "r" ++ pk1 b2 "w" ++ pk3 b9 b1 "s" "S" ∧ cellB b4 b2 b9 b1 false = pk1 b4 "r" ++ pk1 b2 "w" ++ pk3 b9 b1 "t" "T" := by decide +kernel
theorem hit1 (n M k i : Nat) (hM : M < 2 ^ k) (h : ∀ b : Nat → Bool, ((List.range k).all fun i => !M.testBit i || b i) = b i := by intro b; simp [List.range, List.range.loop, Nat.testBit, Nat.shiftRight]) : hit false (n : Int) (M : Int) = n.testBit i := by
  rw [hit_nat n M k hM]; exact h _
theorem hits (n : Nat) : hit false (n : Int) 256 = n.testBit 8 ∧ hit false (n : Int) 128 = n.testBit 7 ∧ hit false (n : Int) 64 = n.testBit 6 ∧ hit false (n : Int) 32 = n.testBit 5 ∧ hit false (n : Int) 16 = n.testBit 4 ∧ hit false (n : Int) 8 = n.testBit 3 ∧
    hit false (n : Int) 4 = n.testBit 2 ∧ hit false (n : Int) 2 = n.testBit 1 ∧ hit false (n : Int) 1 = n.testBit 0 := by
  refine ⟨hit1 n 256 9 8 (by decide), hit1 n 128 8 7 (by decide), hit1 n 64 7 6 (by decide), hit1 n 32 6 5 (by decide), hit1 n 16 5 4 (by decide), hit1 n 8 4 3 (by decide), hit1 n 4 3 2 (by decide), hit1 n 2 2 1 (by decide), hit1 n 1 1 0 (by decide)⟩
theorem hit2 (n : Nat) : hit false (n : Int) 2112 = (n.testBit 6 && n.testBit 11) ∧ hit false (n : Int) 2048 = n.testBit 11 ∧ hit false (n : Int) 1032 = (n.testBit 3 && n.testBit 10) ∧ hit false (n : Int) 1024 = n.testBit 10 ∧
    hit false (n : Int) 513 = (n.testBit 0 && n.testBit 9) ∧ hit false (n : Int) 512 = n.testBit 9 := by
  refine ⟨?_, hit1 n 2048 12 11 (by decide), ?_, hit1 n 1024 11 10 (by decide), ?_, hit1 n 512 10 9 (by decide)⟩
  · exact (hit_nat n 2112 12 (by decide)).trans (by simp [List.range, List.range.loop, Nat.testBit])
  · exact (hit_nat n 1032 11 (by decide)).trans (by simp [List.range, List.range.loop, Nat.testBit])
  · exact (hit_nat n 513 10 (by decide)).trans (by simp [List.range, List.range.loop, Nat.testBit])
theorem high_bits {n : Nat} (h : n < 65536) : n &&& 61440 = 4096 * (n / 4096) := by
  refine Nat.eq_of_testBit_eq fun i => ?_
  have e : 4096 * (n / 4096) = (n >>> 12) <<< 12 := by rw [Nat.shiftLeft_eq, Nat.shiftRight_eq_div_pow, Nat.mul_comm]
  rw [e, Nat.testBit_and, Nat.testBit_shiftLeft, Nat.testBit_shiftRight]
  by_cases hi : i < 16
  · have : ∀ j : Fin 16, Nat.testBit 61440 j.val = decide (j.val ≥ 12) := by decide +kernel
    rw [this ⟨i, hi⟩]
    by_cases h12 : i ≥ 12
    · rw [show 12 + (i - 12) = i by omega]; simp [h12]
    · simp [h12]
  · have h1 : n.testBit i = false := Nat.testBit_lt_two_pow (Nat.lt_of_lt_of_le h (Nat.pow_le_pow_right (by decide : 0 < 2) (by omega : 16 ≤ i)))
    rw [h1, show 12 + (i - 12) = i by omega, h1]; simp
noncomputable def pickV (v : Int) : List (Int × Str) → Str
  | [] => "?"
  | p :: r => if (v == p.1) = true then p.2 else pickV v r
theorem pick_V (m : Int) : ∀ t, pick true m t = pickV (Builtin.bitAnd m 61440) t
  | [] => rfl
  | p :: r => by
    show (if hit true m p.1 = true then _ else _) = (if _ then _ else _)
    rw [pick_V m r]; rfl
theorem kind_fin : ∀ k : Fin 16, pickV (((4096 * k.val : Nat) : Int)) [(40960, "l"), (49152, "s"), (32768, "-"), (24576, "b"), (16384, "d"), (8192, "c"), (4096, "p")] = Txt.item kinds (k.val : Int) := by decide +kernel
theorem kind_pk {n : Nat} (h : n < 65536) : pick true (n : Int) [(40960, "l"), (49152, "s"), (32768, "-"), (24576, "b"), (16384, "d"), (8192, "c"), (4096, "p")] = Txt.item kinds ((n : Int).fdiv 4096) := by
  rw [pick_V, show (61440 : Int) = ((61440 : Nat) : Int) from rfl, bitAnd_nat, high_bits h, Int.fdiv_eq_ediv_of_nonneg _ (by decide)]
  have := kind_fin ⟨n / 4096, by omega⟩
  rw [this]
  rfl
theorem fm_nat {n : Nat} (h : n < 65536) : Txt.join "" (picks (n : Int) 0 modeTab) = rowS (n : Int) := by
  obtain ⟨a8, a7, a6, a5, a4, a3, a2, a1, a0⟩ := hits n
  obtain ⟨c1, c2, c3, c4, c5, c6⟩ := hit2 n
  have e : picks (n : Int) 0 modeTab = [Txt.item kinds ((n : Int).fdiv 4096), pk1 (n.testBit 8) "r", pk1 (n.testBit 7) "w", pk3 (n.testBit 11) (n.testBit 6) "s" "S", pk1 (n.testBit 5) "r", pk1 (n.testBit 4) "w", pk3 (n.testBit 10) (n.testBit 3) "s" "S",
      pk1 (n.testBit 2) "r", pk1 (n.testBit 1) "w", pk3 (n.testBit 9) (n.testBit 0) "t" "T"] := by
    have p1 : ∀ (b : Int) (i : Nat) (x : Str), hit false (n : Int) b = n.testBit i → pick false (n : Int) [(b, x)] = pk1 (n.testBit i) x := fun b i x e => by
      show (if hit false (n : Int) b = true then x else "-") = _
      rw [e]; rfl
    have p3 : ∀ (b1 b2 b3 : Int) (i j : Nat) (u v : Str), hit false (n : Int) b1 = (n.testBit i && n.testBit j) → hit false (n : Int) b2 = n.testBit j → hit false (n : Int) b3 = n.testBit i → pick false (n : Int) [(b1, u), (b2, v), (b3, "x")] = pk3 (n.testBit j) (n.testBit i) u v := fun b1 b2 b3 i j u v e1 e2 e3 => by
      show (if hit false (n : Int) b1 = true then u else if hit false (n : Int) b2 = true then v else if hit false (n : Int) b3 = true then "x" else "-") = _
      rw [e1, e2, e3]; rfl
    rw [← kind_pk h, ← p1 _ _ "r" a8, ← p1 _ _ "w" a7, ← p1 _ _ "r" a5, ← p1 _ _ "w" a4, ← p1 _ _ "r" a2, ← p1 _ _ "w" a1, ← p3 _ _ _ _ _ "s" "S" c1 c2 a6, ← p3 _ _ _ _ _ "s" "S" c3 c4 a3, ← p3 _ _ _ _ _ "t" "T" c5 c6 a0]
    rfl
  rw [e]
  unfold rowS
  rw [cell_B, cell_B, cell_B]
  show Txt.join "" _ = Txt.item kinds ((n : Int).fdiv 4096) ++ cellB (n.testBit 8) (n.testBit 7) (n.testBit 11) (n.testBit 6) true ++ cellB (n.testBit 5) (n.testBit 4) (n.testBit 10) (n.testBit 3) true ++ cellB (n.testBit 2) (n.testBit 1) (n.testBit 9) (n.testBit 0) false
  rw [(cell_pk _ _ _ _).1, (cell_pk _ _ _ _).1, (cell_pk _ _ _ _).2]
  apply Str.ext'
  show (Builtin.Str.glued _ _).cps = _
  have em : (Str.ofString "").cps = #[] := by decide +kernel
  simp [Builtin.Str.glued, em, Str.cps_append]
end Mine

end
section
open PySem PySem.W PySem.Calls PyProof.Rows
set_option linter.unusedVariables false
set_option maxRecDepth 100000
namespace Mine
noncomputable def noSig (x : Str) : Bool := x.cps.toList.all (· != 931)
theorem placed_list (x : Str) (f : Nat → List Nat) : (placed x fun _ c => f c).toList = x.cps.toList.flatMap f := by
  unfold placed
  obtain ⟨⟨l⟩⟩ := x
  simp [List.flatMap_def]
  refine congrArg List.flatten (List.ext_getElem (by simp) fun i h1 h2 => by simp)
theorem lower_list {x : Str} (h : noSig x = true) : (Txt.lower x).cps.toList = x.cps.toList.flatMap Unicode.lowerOf := by
  rw [← placed_list]
  show (placed x _).toList = _
  congr 1
  unfold placed
  congr 1
  refine Array.ext (by simp) fun i h1 h2 => ?_
  have hi : i < x.cps.size := by simpa using h1
  simp only [Array.getElem_mapIdx]
  congr 1
  unfold Unicode.lowerAt
  rw [Array.getElem?_eq_getElem hi]
  have hm : x.cps[i] ∈ x.cps.toList := by simp
  have := List.all_eq_true.mp h _ hm
  have h931 : (x.cps[i] == 0x3A3) = false := by simpa using this
  simp only [h931, Bool.false_and, Bool.false_eq_true, if_false]
theorem noSig_app {a b : Str} (ha : noSig a = true) (hb : noSig b = true) : noSig (a ++ b) = true := by
  unfold noSig at *
  rw [Str.cps_append, Array.toList_append, List.all_append, ha, hb]; rfl
theorem lower_app {a b : Str} (ha : noSig a = true) (hb : noSig b = true) : Txt.lower (a ++ b) = Txt.lower a ++ Txt.lower b := by
  apply Str.ext'
  apply Array.toList_inj.mp
  rw [lower_list (noSig_app ha hb), Str.cps_append, Str.cps_append, Array.toList_append, Array.toList_append, List.flatMap_append, lower_list ha, lower_list hb]
theorem strOk_app {a b : Str} (ha : PyData.strOk a = true) (hb : PyData.strOk b = true) : PyData.strOk (a ++ b) = true := by
  unfold PyData.strOk at *
  rw [Str.cps_append, Array.all_append, ha, hb]; rfl
theorem strOk_of (s : String) : PyData.strOk (Str.ofString s) = true := by
  rw [Str.ofString_eq_toList]
  unfold PyData.strOk
  rw [Array.all_eq_true_iff_forall_mem]
  intro c hc
  simp only [List.mem_toArray, List.mem_map] at hc
  obtain ⟨ch, _, rfl⟩ := hc
  have h := ch.valid
  simp only [UInt32.isValidChar, Nat.isValidChar] at h
  have : ch.toNat = ch.val.toNat := rfl
  simp; omega
theorem kind_facts : ∀ k : Fin 16, noSig (Txt.item kinds (k.val : Int)) = true ∧ PyData.strOk (Txt.item kinds (k.val : Int)) = true ∧ (Txt.item kinds (k.val : Int)).length = 1 ∧ ((Txt.lower (Txt.item kinds (k.val : Int))).cps.toList.all (· != 114)) = true ∧ (Txt.lower (Txt.item kinds (k.val : Int))).length = 1 := by decide +kernel
theorem cell_facts : ∀ b4 b2 b9 b1 z : Bool, noSig (cellB b4 b2 b9 b1 z) = true ∧ PyData.strOk (cellB b4 b2 b9 b1 z) = true ∧ (cellB b4 b2 b9 b1 z).length = 3 ∧ Txt.lower (cellB b4 b2 b9 b1 z) = triB b4 b2 b9 b1 z := by decide +kernel
noncomputable def ta (b : Bool) : Nat := if b = true then 114 else 45
noncomputable def tb (b : Bool) : Nat := if b = true then 119 else 45
noncomputable def tc (b9 b1 z : Bool) : Nat := if b9 = true then (if z = true then 115 else 116) else if b1 = true then 120 else 45
theorem tri_list : ∀ b4 b2 b9 b1 z : Bool, triB b4 b2 b9 b1 z = ⟨#[ta b4, tb b2, tc b9 b1 z]⟩ := by decide +kernel
theorem row_parts {n : Nat} (h : n < 65536) : ∃ kd : Fin 16, ∃ b : Fin 12 → Bool, rowS (n : Int) = Txt.item kinds (kd.val : Int) ++ cellB (b 8) (b 7) (b 11) (b 6) true ++ cellB (b 5) (b 4) (b 10) (b 3) true ++ cellB (b 2) (b 1) (b 9) (b 0) false ∧
    [tri n 6, tri n 3, tri n 0] = [triB (b 8) (b 7) (b 11) (b 6) true, triB (b 5) (b 4) (b 10) (b 3) true, triB (b 2) (b 1) (b 9) (b 0) false] := by
  refine ⟨⟨n / 4096, by omega⟩, fun i => n.testBit i.val, ?_, ?_⟩
  · unfold rowS
    rw [cell_B, cell_B, cell_B, Int.fdiv_eq_ediv_of_nonneg _ (by decide)]
    rfl
  · rw [tri_B2, tri_B2, tri_B2]; rfl
theorem row_len_nat {n : Nat} (h : n < 65536) : (rowS (n : Int)).length = 10 ∧ (Txt.lower (rowS (n : Int))).length = 10 ∧ PyData.strOk (rowS (n : Int)) = true ∧ noSig (rowS (n : Int)) = true := by
  obtain ⟨kd, b, e, _⟩ := row_parts h
  obtain ⟨k1, k2, k3, _, k5⟩ := kind_facts kd
  obtain ⟨a1, a2, a3, a4⟩ := cell_facts (b 8) (b 7) (b 11) (b 6) true
  obtain ⟨b1, b2, b3, b4⟩ := cell_facts (b 5) (b 4) (b 10) (b 3) true
  obtain ⟨c1, c2, c3, c4⟩ := cell_facts (b 2) (b 1) (b 9) (b 0) false
  rw [e]
  refine ⟨?_, ?_, strOk_app (strOk_app (strOk_app k2 a2) b2) c2, noSig_app (noSig_app (noSig_app k1 a1) b1) c1⟩
  · rw [strLen_append, strLen_append, strLen_append, k3, a3, b3, c3]
  · rw [lower_app (noSig_app (noSig_app k1 a1) b1) c1, lower_app (noSig_app k1 a1) b1, lower_app k1 a1, strLen_append, strLen_append, strLen_append, a4, b4, c4, tri_list, tri_list, tri_list, k5]
    rfl
end Mine

end
section
open PySem PySem.W PySem.Calls PyProof.Rows
set_option linter.unusedVariables false
set_option maxRecDepth 100000
namespace Mine
theorem contains_iff (x y : Str) : Txt.contains x y = true ↔ ∃ i, i + y.length ≤ x.length ∧ (x.cps.toList.drop i).take y.length = y.cps.toList := by
  show (!(Builtin.Str.occurrences x y 0 x.length 1).isEmpty) = true ↔ _
  rw [StrLaws.found_iff]
  constructor
  · rintro ⟨i, h, e⟩
    rw [StrLaws.subAt_eq] at e
    exact ⟨i, h, eq_of_beq e⟩
  · rintro ⟨i, h, e⟩
    refine ⟨i, h, ?_⟩
    rw [StrLaws.subAt_eq, e]; simp
theorem ta_or (b : Bool) : ta b = 114 ∨ ta b = 45 := by cases b <;> simp [ta]
theorem tb_or (b : Bool) : tb b = 119 ∨ tb b = 45 := by cases b <;> simp [tb]
theorem tc_or (b c z : Bool) : tc b c z = 115 ∨ tc b c z = 116 ∨ tc b c z = 120 ∨ tc b c z = 45 := by cases b <;> cases c <;> cases z <;> simp [tc]
theorem L1 {v : Nat} (h : v = 114 ∨ v = 45) (g : v = 119 ∨ v = 45) : v = 45 := by omega
theorem L2 {v : Nat} (h : v = 119 ∨ v = 45) (g : v = 45 ∨ v = 120 ∨ v = 115 ∨ v = 116) : v = 45 := by omega
theorem L3 {v : Nat} (h : v = 115 ∨ v = 116 ∨ v = 120 ∨ v = 45) (g : v = 114 ∨ v = 45) : v = 45 := by omega
theorem L4 {v : Nat} (h : v = 115 ∨ v = 116 ∨ v = 120 ∨ v = 45) (g : v = 119 ∨ v = 45) : v = 45 := by omega
theorem L5 {v : Nat} (h : v = 114 ∨ v = 45) (g : v = 45 ∨ v = 120 ∨ v = 115 ∨ v = 116) : v = 45 := by omega
theorem has10 {k x6 y6 z6 x3 y3 z3 x0 y0 z0 a b c : Nat} (hk : k ≠ 114) (h6 : x6 = 114 ∨ x6 = 45) (h3 : x3 = 114 ∨ x3 = 45) (h0 : x0 = 114 ∨ x0 = 45) (g6 : y6 = 119 ∨ y6 = 45) (g3 : y3 = 119 ∨ y3 = 45) (g0 : y0 = 119 ∨ y0 = 45)
    (f6 : z6 = 115 ∨ z6 = 116 ∨ z6 = 120 ∨ z6 = 45) (f3 : z3 = 115 ∨ z3 = 116 ∨ z3 = 120 ∨ z3 = 45) (f0 : z0 = 115 ∨ z0 = 116 ∨ z0 = 120 ∨ z0 = 45) (ha : a = 114 ∨ a = 45) (hb : b = 119 ∨ b = 45) (hc : c = 45 ∨ c = 120 ∨ c = 115 ∨ c = 116) (hn : ¬ (a = 45 ∧ b = 45 ∧ c = 45)) {x : Str}
    (hx : x.cps.toList = [k, x6, y6, z6, x3, y3, z3, x0, y0, z0]) : Txt.contains x ⟨#[a, b, c]⟩ = ([⟨#[x6, y6, z6]⟩, ⟨#[x3, y3, z3]⟩, ⟨#[x0, y0, z0]⟩] : List Str).any (· == (⟨#[a, b, c]⟩ : Str)) := by
  have hl : x.length = 10 := by
    have := congrArg List.length hx
    simpa [Str.length] using this
  rw [Bool.eq_iff_iff, contains_iff, hx, hl]
  show (∃ i, i + 3 ≤ 10 ∧ List.take 3 (List.drop i _) = [a, b, c]) ↔ _
  have rhs : (([⟨#[x6, y6, z6]⟩, ⟨#[x3, y3, z3]⟩, ⟨#[x0, y0, z0]⟩] : List Str).any (· == (⟨#[a, b, c]⟩ : Str))) = true ↔ (x6 = a ∧ y6 = b ∧ z6 = c) ∨ (x3 = a ∧ y3 = b ∧ z3 = c) ∨ (x0 = a ∧ y0 = b ∧ z0 = c) := by simp
  rw [rhs]
  constructor
  · rintro ⟨i, hi, e⟩
    match i, hi with
    | 0, _ =>
      simp at e
      obtain ⟨e1, e2, e3⟩ := e
      refine absurd ⟨ha.resolve_left (fun q => hk (e1.trans q)), L1 (e2 ▸ h6) hb, L2 (e3 ▸ g6) hc⟩ hn
    | 1, _ => simp at e; exact .inl e
    | 2, _ =>
      simp at e
      obtain ⟨e1, e2, e3⟩ := e
      refine absurd ⟨L1 ha (e1 ▸ g6), L4 (e2 ▸ f6) hb, L5 (e3 ▸ h3) hc⟩ hn
    | 3, _ =>
      simp at e
      obtain ⟨e1, e2, e3⟩ := e
      refine absurd ⟨L3 (e1 ▸ f6) ha, L1 (e2 ▸ h3) hb, L2 (e3 ▸ g3) hc⟩ hn
    | 4, _ => simp at e; exact .inr (.inl e)
    | 5, _ =>
      simp at e
      obtain ⟨e1, e2, e3⟩ := e
      refine absurd ⟨L1 ha (e1 ▸ g3), L4 (e2 ▸ f3) hb, L5 (e3 ▸ h0) hc⟩ hn
    | 6, _ =>
      simp at e
      obtain ⟨e1, e2, e3⟩ := e
      refine absurd ⟨L3 (e1 ▸ f3) ha, L1 (e2 ▸ h0) hb, L2 (e3 ▸ g0) hc⟩ hn
    | 7, _ => simp at e; exact .inr (.inr e)
    | n + 8, h => exact absurd h (by clear h6 h3 h0 g6 g3 g0 f6 f3 f0 ha hb hc hn; omega)
  · rintro (⟨rfl, rfl, rfl⟩ | ⟨rfl, rfl, rfl⟩ | ⟨rfl, rfl, rfl⟩)
    · exact ⟨1, by decide, rfl⟩
    · exact ⟨4, by decide, rfl⟩
    · exact ⟨7, by decide, rfl⟩
theorem row_has_nat {n : Nat} (h : n < 65536) {a b c : Nat} (ha : a = 114 ∨ a = 45) (hb : b = 119 ∨ b = 45) (hc : c = 45 ∨ c = 120 ∨ c = 115 ∨ c = 116) (hn : ¬ (a = 45 ∧ b = 45 ∧ c = 45)) :
    Txt.contains (Txt.lower (rowS (n : Int))) ⟨#[a, b, c]⟩ = [tri n 6, tri n 3, tri n 0].any (· == (⟨#[a, b, c]⟩ : Str)) := by
  obtain ⟨kd, bs, e, et⟩ := row_parts h
  obtain ⟨k1, k2, k3, k4, k5⟩ := kind_facts kd
  obtain ⟨a1, _, _, a4⟩ := cell_facts (bs 8) (bs 7) (bs 11) (bs 6) true
  obtain ⟨b1, _, _, b4⟩ := cell_facts (bs 5) (bs 4) (bs 10) (bs 3) true
  obtain ⟨c1, _, _, c4⟩ := cell_facts (bs 2) (bs 1) (bs 9) (bs 0) false
  rw [et, e, lower_app (noSig_app (noSig_app k1 a1) b1) c1, lower_app (noSig_app k1 a1) b1, lower_app k1 a1, a4, b4, c4, tri_list, tri_list, tri_list]
  obtain ⟨k, hk⟩ : ∃ k, (Txt.lower (Txt.item kinds (kd.val : Int))).cps.toList = [k] := by
    have h1 : (Txt.lower (Txt.item kinds (kd.val : Int))).cps.toList.length = 1 := by simpa [Str.length] using k5
    exact List.length_eq_one_iff.mp h1
  have hk1 : k ≠ 114 := by
    rw [hk] at k4
    simpa using k4
  refine has10 hk1 (ta_or _) (ta_or _) (ta_or _) (tb_or _) (tb_or _) (tb_or _) (tc_or _ _ _) (tc_or _ _ _) (tc_or _ _ _) ha hb hc hn ?_
  rw [Str.cps_append, Str.cps_append, Str.cps_append, Array.toList_append, Array.toList_append, Array.toList_append, hk]
  rfl
end Mine

end
section
open PySem PySem.W PySem.Calls PyProof.Rows
set_option linter.unusedVariables false
set_option maxRecDepth 100000
namespace Mine
structure AgOk (g : Str) : Prop where
  len : g.length ≤ 10
  llen : (Txt.lower g).length ≤ 10
  ok : PyData.strOk g = true
  nl : ∀ c ∈ g.cps.toList, c ≠ 10
  sig : g ≠ "*" → ∃ a b c, (a = 114 ∨ a = 45) ∧ (b = 119 ∨ b = 45) ∧ (c = 45 ∨ c = 120 ∨ c = 115 ∨ c = 116) ∧ Txt.lower g = ⟨#[a, b, c]⟩ ∧ ¬ (a = 45 ∧ b = 45 ∧ c = 45)
noncomputable def agB (g : Str) : Bool := decide (g.length ≤ 10) && decide ((Txt.lower g).length ≤ 10) && PyData.strOk g && (g.cps.toList.all (· != 10)) && (g == "*" || match (Txt.lower g).cps.toList with
  | [a, b, c] => (a == 114 || a == 45) && (b == 119 || b == 45) && (c == 45 || c == 120 || c == 115 || c == 116) && !(a == 45 && b == 45 && c == 45)
  | _ => false)
theorem ag_of {g : Str} (h : agB g = true) : AgOk g := by
  unfold agB at h
  rw [Bool.and_eq_true, Bool.and_eq_true, Bool.and_eq_true, Bool.and_eq_true] at h
  obtain ⟨⟨⟨⟨h1, h2⟩, h3⟩, h5⟩, h4⟩ := h
  refine ⟨of_decide_eq_true h1, of_decide_eq_true h2, h3, fun c hc e => ?_, fun hs => ?_⟩
  · have := List.all_eq_true.mp h5 c hc
    rw [e] at this; simp at this
  rw [Bool.or_eq_true] at h4
  rcases h4 with h4 | h4
  · exact absurd (by simpa using h4) hs
  · split at h4
    · rename_i a b c e
      simp only [Bool.and_eq_true, Bool.or_eq_true, beq_iff_eq, Bool.not_eq_true'] at h4
      obtain ⟨⟨⟨p1, p2⟩, p3⟩, p4⟩ := h4
      refine ⟨a, b, c, p1, p2, ?_, ?_, ?_⟩
      · rcases p3 with ((p | p) | p) | p <;> simp [p]
      · apply Str.ext'
        apply Array.toList_inj.mp
        exact e
      · rintro ⟨rfl, rfl, rfl⟩
        simp at p4
    · cases h4
theorem ag_fin : ∀ k : Fin 16, ∀ z : Fin 8, agB (if ((k.val : Int) == 0) = true then "*" else agP (k.val : Int) (z.val : Int) 3) = true := by decide +kernel
theorem agS_ok {n : Int} (h0 : 0 ≤ n) (h1 : n < 1000000) : AgOk (agS n) := by
  obtain ⟨k, hk⟩ := mod16 h0
  obtain ⟨z, hz⟩ : ∃ z : Fin 8, (n.fdiv 16).fmod 8 = (z.val : Int) := by
    rw [Int.fdiv_eq_ediv_of_nonneg _ (by decide), Int.fmod_eq_emod_of_nonneg _ (by decide)]
    exact ⟨⟨(n / 16 % 8).toNat, by omega⟩, by show _ = ((n / 16 % 8).toNat : Int); omega⟩
  unfold agS
  rw [hk, hz]
  exact ag_of (ag_fin k z)
theorem ls_a {a : Nat} (h : a = 114 ∨ a = 45) : a ∈ lsigns := by rcases h with rfl | rfl <;> decide
theorem ls_b {a : Nat} (h : a = 119 ∨ a = 45) : a ∈ lsigns := by rcases h with rfl | rfl <;> decide
theorem ls_c {a : Nat} (h : a = 45 ∨ a = 120 ∨ a = 115 ∨ a = 116) : a ∈ lsigns := by rcases h with rfl | rfl | rfl | rfl <;> decide
theorem row_nl_fin : (∀ k : Fin 16, (Txt.item kinds (k.val : Int)).cps.toList.all (fun c => c != 10 && c != 47) = true) ∧ ∀ b4 b2 b9 b1 z : Bool, (cellB b4 b2 b9 b1 z).cps.toList.all (fun c => c != 10 && c != 47) = true := by decide +kernel
theorem row_nl {n : Nat} (h : n < 65536) : (rowS (n : Int)).cps.toList.all (fun c => c != 10 && c != 47) = true := by
  obtain ⟨kd, bs, e, et⟩ := row_parts h
  rw [e, Str.cps_append, Str.cps_append, Str.cps_append, Array.toList_append, Array.toList_append, Array.toList_append, List.all_append, List.all_append, List.all_append, row_nl_fin.1 kd, row_nl_fin.2, row_nl_fin.2, row_nl_fin.2]
  rfl
theorem xor_nat {m k : Int} (h0 : 0 ≤ m) (h1 : m < 65536) (k0 : 0 ≤ k) (k1 : k < 65536) : 0 ≤ Builtin.bitXor m k ∧ Builtin.bitXor m k < 65536 := by
  have e : Builtin.bitOr m k = ((m.toNat ||| k.toNat : Nat) : Int) := by
    unfold Builtin.bitOr
    rw [bitAnd_nn (fun q => bitNot_nonneg.mp q h0) (fun q => bitNot_nonneg.mp q k0), bitNot_bitNot, bitNot_bitNot, bitNot_bitNot]
  have x1 : m.toNat ||| k.toNat < 2 ^ 16 := Nat.or_lt_two_pow (by omega) (by omega)
  have x2 : m.toNat &&& k.toNat ≤ m.toNat := Nat.and_le_left
  have x3 : m.toNat ≤ m.toNat ||| k.toNat := Nat.left_le_or
  unfold Builtin.bitXor
  rw [e, bitAnd_pp h0 k0]
  generalize m.toNat ||| k.toNat = u at x1 x3
  generalize m.toNat &&& k.toNat = v at x2
  omega
end Mine

end
section
open PySem PySem.W PySem.Calls PyProof.Rows PySem.StrLaws Builtin.Str
set_option linter.unusedVariables false
set_option maxRecDepth 100000
namespace Mine
theorem split_parts (x y : Str) : Txt.split x y = partsBetween x (occurrences x y 0 x.length (x.length + 1)) y.length := by
  unfold Txt.split
  split
  · rename_i h
    rw [PySem.W.occ_nil_of_no x y _ fun i hi => ?_, PySem.W.parts_nil]
    rcases Bool.or_eq_true_iff.mp h with h | h
    · have := of_decide_eq_true h; omega
    · cases e : subAt x y i
      · rfl
      · have := PySem.W.kind_le x y e; have := of_decide_eq_true h; omega
  · split
    · rename_i h; rw [List.isEmpty_iff.mp h, PySem.W.parts_nil]
    · rfl
noncomputable def idx (c : Nat) : Nat → List Nat → List Nat
  | _, [] => []
  | b, d :: r => if d = c then b :: idx c (b + 1) r else idx c (b + 1) r
noncomputable def splitL (c : Nat) : List Nat → List (List Nat)
  | [] => [[]]
  | d :: r => if d = c then [] :: splitL c r else match splitL c r with
    | h :: t => (d :: h) :: t
    | [] => [[d]]
theorem splitL_ne (c : Nat) : ∀ l, ∃ h t, splitL c l = h :: t
  | [] => ⟨_, _, rfl⟩
  | d :: r => by
    obtain ⟨h, t, e⟩ := splitL_ne c r
    unfold splitL
    split
    · exact ⟨_, _, rfl⟩
    · rw [e]; exact ⟨_, _, rfl⟩
theorem occ_run (x : Str) (c : Nat) : ∀ (k b : Nat) (st : Array Nat × Nat), b + k = x.length + 1 → st.snd ≤ b → st.fst.size ≤ b →
    (forIn (m := Id) (List.range' b k) st (occBody x ⟨#[c]⟩ x.length (x.length + 1))).run.fst.toList = st.fst.toList ++ idx c b (x.cps.toList.drop b)
  | 0, b, st, hb, _, _ => by
    have hn : x.cps.toList.length = x.length := by simp [Str.length]
    have : x.cps.toList.drop b = [] := List.drop_eq_nil_of_le (by omega)
    rw [this]
    simp [idx]
  | k + 1, b, st, hb, h1, h2 => by
    have hn : x.cps.toList.length = x.length := by simp [Str.length]
    rw [List.range'_succ, List.forIn_cons]
    unfold occBody
    by_cases hlt : b < x.length
    · have hd : x.cps.toList.drop b = x.cps.toList[b] :: x.cps.toList.drop (b + 1) := List.drop_eq_getElem_cons (by omega)
      rw [hd]
      have hs : subAt x ⟨#[c]⟩ b = (x.cps.toList[b] == c) := by
        rw [subAt_eq, hd]
        show ([x.cps.toList[b]] == [c]) = _
        simp
      by_cases hc : x.cps.toList[b] = c
      · have hcond : ((st.fst.size < x.length + 1 ∧ st.snd ≤ b) ∧ b + (⟨#[c]⟩ : Str).length ≤ x.length) ∧ subAt x ⟨#[c]⟩ b = true := ⟨⟨⟨by omega, h1⟩, by show b + 1 ≤ x.length; omega⟩, by rw [hs, hc]; simp⟩
        rw [if_pos hcond]
        refine (occ_run x c k (b + 1) (st.fst.push b, b + 1) (by omega) (Nat.le_refl _) (by rw [Array.size_push]; omega)).trans ?_
        rw [Array.toList_push]
        unfold idx
        rw [if_pos hc, List.append_assoc]
        cases hr : x.cps.toList.drop (b + 1) <;> rfl
      · have hcond : ¬ (((st.fst.size < x.length + 1 ∧ st.snd ≤ b) ∧ b + (⟨#[c]⟩ : Str).length ≤ x.length) ∧ subAt x ⟨#[c]⟩ b = true) := fun q => hc (by
          have := q.2
          rw [hs] at this
          simpa using this)
        rw [if_neg hcond]
        refine (occ_run x c k (b + 1) st (by omega) (by omega) (by omega)).trans ?_
        conv => rhs; unfold idx
        rw [if_neg hc]
    · have hcond : ¬ (((st.fst.size < x.length + 1 ∧ st.snd ≤ b) ∧ b + (⟨#[c]⟩ : Str).length ≤ x.length) ∧ subAt x ⟨#[c]⟩ b = true) := fun q => by
        have : b + 1 ≤ x.length := q.1.2
        omega
      rw [if_neg hcond]
      refine (occ_run x c k (b + 1) st (by omega) (by omega) (by omega)).trans ?_
      rw [List.drop_eq_nil_of_le (by omega), List.drop_eq_nil_of_le (by omega)]
      rfl
theorem occ_one (x : Str) (c : Nat) : occurrences x ⟨#[c]⟩ 0 x.length (x.length + 1) = idx c 0 x.cps.toList := by
  rw [occ_eq]
  exact (occ_run x c (x.length + 1) 0 (#[], 0) (by omega) (Nat.le_refl _) (Nat.zero_le _)).trans (by simp)
noncomputable def pre (p : List Nat) : List (List Nat) → List (List Nat)
  | h :: t => (p ++ h) :: t
  | [] => [p]
theorem parts_run (x : Str) (c : Nat) : ∀ (k a b : Nat), b + k = x.length → a ≤ b → partsFrom x 1 a (idx c b (x.cps.toList.drop b)) = (pre ((x.cps.toList.drop a).take (b - a)) (splitL c (x.cps.toList.drop b))).map fun l => (⟨l.toArray⟩ : Str)
  | 0, a, b, hb, hab => by
    have hn : x.cps.toList.length = x.length := by simp [Str.length]
    rw [show x.cps.toList.drop b = [] from List.drop_eq_nil_of_le (by omega)]
    simp only [idx, splitL, pre, partsFrom, List.map_cons, List.map_nil, List.append_nil]
    congr 1
    apply Str.ext'
    apply Array.toList_inj.mp
    rw [strSub_toList, show b = x.length by omega]
  | k + 1, a, b, hb, hab => by
    have hn : x.cps.toList.length = x.length := by simp [Str.length]
    have hd : x.cps.toList.drop b = x.cps.toList[b] :: x.cps.toList.drop (b + 1) := List.drop_eq_getElem_cons (by omega)
    rw [hd]
    obtain ⟨h, t, e⟩ := splitL_ne c (x.cps.toList.drop (b + 1))
    by_cases hc : x.cps.toList[b] = c
    · have ih := parts_run x c k (b + 1) (b + 1) (by omega) (Nat.le_refl _)
      simp only [idx, splitL, if_pos hc, pre, partsFrom, List.map_cons, List.append_nil]
      rw [ih, e]
      simp only [Nat.sub_self, List.take_zero, pre, List.nil_append]
      congr 1
      apply Str.ext'
      apply Array.toList_inj.mp
      rw [strSub_toList]
    · have ih := parts_run x c k a (b + 1) (by omega) (by omega)
      simp only [idx, splitL, if_neg hc]
      rw [ih, e]
      simp only [pre]
      congr 2
      have : (x.cps.toList.drop a).take (b + 1 - a) = (x.cps.toList.drop a).take (b - a) ++ [x.cps.toList[b]] := by
        rw [show b + 1 - a = (b - a) + 1 by omega, List.take_add_one]
        congr 1
        rw [List.getElem?_drop, show a + (b - a) = b by omega, List.getElem?_eq_getElem (by omega)]
        rfl
      rw [this, List.append_assoc]
      rfl
theorem split_list (x : Str) (c : Nat) : Txt.split x ⟨#[c]⟩ = (splitL c x.cps.toList).map fun l => (⟨l.toArray⟩ : Str) := by
  rw [split_parts, occ_one, partsBetween_eq]
  refine (parts_run x c x.length 0 0 (by omega) (Nat.le_refl _)).trans ?_
  obtain ⟨h, t, e⟩ := splitL_ne c x.cps.toList
  rw [List.drop_zero, e]
  simp [pre]
theorem splitL_free {c : Nat} : ∀ {p : List Nat}, (∀ d ∈ p, d ≠ c) → splitL c p = [p] ∧ ∀ r, splitL c (p ++ c :: r) = p :: splitL c r
  | [], _ => ⟨rfl, fun r => by simp [splitL]⟩
  | d :: p, h => by
    obtain ⟨h1, h2⟩ := splitL_free (c := c) (p := p) fun e he => h e (List.mem_cons_of_mem _ he)
    have hd := h d List.mem_cons_self
    refine ⟨by simp [splitL, hd, h1], fun r => ?_⟩
    show splitL c (d :: (p ++ c :: r)) = _
    simp [splitL, hd, h2]
theorem join_toList (c : Nat) (p q : Str) (ps : List Str) : (Str.join ⟨#[c]⟩ (p :: q :: ps)).cps.toList = p.cps.toList ++ c :: (Str.join ⟨#[c]⟩ (q :: ps)).cps.toList := by
  show (p ++ ⟨#[c]⟩ ++ Str.join ⟨#[c]⟩ (q :: ps)).cps.toList = _
  rw [Str.cps_append, Str.cps_append, Array.toList_append, Array.toList_append, List.append_assoc]
  rfl
theorem splitL_join (c : Nat) : ∀ (p : Str) (ps : List Str), (∀ q ∈ p :: ps, ∀ d ∈ q.cps.toList, d ≠ c) → splitL c (Str.join ⟨#[c]⟩ (p :: ps)).cps.toList = (p :: ps).map fun q => q.cps.toList
  | p, [], h => (splitL_free (h p List.mem_cons_self)).1
  | p, q :: ps, h => by
    rw [join_toList, (splitL_free (h p List.mem_cons_self)).2, splitL_join c q ps fun r hr => h r (List.mem_cons_of_mem _ hr)]
    rfl
theorem split_join {c : Nat} {ps : List Str} (hne : ps ≠ []) (h : ∀ q ∈ ps, ∀ d ∈ q.cps.toList, d ≠ c) : Txt.split (Str.join ⟨#[c]⟩ ps) ⟨#[c]⟩ = ps := by
  cases ps with
  | nil => exact absurd rfl hne
  | cons p ps =>
    rw [split_list, splitL_join c p ps h, List.map_map]
    have : ((fun l => (⟨l.toArray⟩ : Str)) ∘ fun q : Str => q.cps.toList) = id := by
      funext q
      show (⟨q.cps.toList.toArray⟩ : Str) = q
      rfl
    rw [this, List.map_id]
end Mine

end
section
open PySem PySem.W PySem.Calls PyProof.Rows PySem.StrLaws
set_option linter.unusedVariables false
set_option maxRecDepth 100000
namespace Mine
theorem chars_of (s : String) : (Str.ofString s).cps.toList = s.toList.map Char.toNat := by rw [Str.ofString_eq_toList]
theorem mode_nl {n : Nat} : ∀ c ∈ (Str.ofString (toString (n : Int))).cps.toList, c ≠ 10 := by
  intro c hc
  rw [chars_of] at hc
  obtain ⟨ch, hch, rfl⟩ := List.mem_map.mp hc
  have e : (toString (n : Int) : String) = String.ofList (Nat.toDigits 10 n) := rfl
  rw [e, String.toList_ofList] at hch
  have d := Nat.isDigit_of_mem_toDigits (by decide) (by decide) hch
  intro q
  have : ch = Char.ofNat 10 := by
    apply Char.ext
    apply UInt32.toNat_inj.mp
    exact q
  rw [this] at d
  exact absurd d (by decide)
theorem mode_txt {m : Int} (h0 : 0 ≤ m) (h1 : m < 65536) : m.natAbs.log2 < 1920 ∧ (Str.ofString (toString m)).length ≤ 100 := by
  refine ⟨?_, Nat.le_trans (toString_length_le (k := 5) h0 (by decide) (by omega)) (by decide)⟩
  by_cases h : m.natAbs = 0
  · rw [h]; decide
  · have : m.natAbs.log2 < 16 := (Nat.log2_lt h).mpr (by omega)
    omega

theorem jt (s x : Str) : ∀ xs : List Str, (Str.join s (x :: xs)).cps.toList = x.cps.toList ++ xs.flatMap fun q => s.cps.toList ++ q.cps.toList
  | [] => by simp [Str.join]
  | y :: ys => by
    show (x ++ s ++ Str.join s (y :: ys)).cps.toList = _
    rw [Str.cps_append, Str.cps_append, Array.toList_append, Array.toList_append, jt s y ys, List.flatMap_cons]
    simp
theorem flat_join (s : Str) : ∀ gs : List (List Str), (∀ g ∈ gs, g ≠ []) → (gs.map (Str.join s)).flatMap (fun q => s.cps.toList ++ q.cps.toList) = gs.flatten.flatMap fun q => s.cps.toList ++ q.cps.toList
  | [], _ => rfl
  | g :: gs, h => by
    rw [List.map_cons, List.flatMap_cons, List.flatten_cons, List.flatMap_append, flat_join s gs fun k hk => h k (List.mem_cons_of_mem _ hk)]
    congr 1
    cases g with
    | nil => exact absurd rfl (h [] List.mem_cons_self)
    | cons x xs => rw [jt, List.flatMap_cons, List.append_assoc]
theorem join_flat (s a : Str) (as : List Str) (gs : List (List Str)) (h : ∀ g ∈ gs, g ≠ []) : Str.join s (a :: as ++ gs.map (Str.join s)) = Str.join s (a :: as ++ gs.flatten) := by
  apply Str.ext'
  apply Array.toList_inj.mp
  show (Str.join s (a :: (as ++ gs.map (Str.join s)))).cps.toList = (Str.join s (a :: (as ++ gs.flatten))).cps.toList
  rw [jt, jt, List.flatMap_append, List.flatMap_append, flat_join s gs h]
end Mine

end
section
open PySem PySem.W PySem.Calls PyProof.Rows PySem.StrLaws
set_option linter.unusedVariables false
set_option maxRecDepth 100000
namespace Mine
noncomputable def numsOf (script : List Int) : List Int := (script.take 24).map (fun d => d.fmod 1000000) ++ [92]
noncomputable def modeOf (ns : List Int) : Int := (33096 + ns.sum).fmod 65536
noncomputable def newR (n : Int) : Bool := (n.fdiv 128).fmod 3 == 0
noncomputable abbrev RSt := List (List Str × Bool) × Option (List Str × Bool)
noncomputable def stepR : RSt → Int → RSt
  | (d, none), n => (d, some ([agS n], n.fmod 2 == 1))
  | (d, some c), n => if newR n = true then (d ++ [c], some ([agS n], n.fmod 2 == 1)) else (d, some (c.1 ++ [agS n], c.2))
noncomputable def closeR (s : RSt) : List (List Str × Bool) := s.1 ++ s.2.toList
noncomputable def rulesOf (ns : List Int) : List (List Str × Bool) := closeR (ns.foldl stepR ([], none))
noncomputable def ruleV (p : List Str × Bool) : V := .tup [lstV p.1, .bool p.2]
theorem numsOf_ok (script : List Int) : ∀ n ∈ numsOf script, 0 ≤ n ∧ n < 1000000 := by
  intro n hn
  unfold numsOf at hn
  rcases List.mem_append.mp hn with h | h
  · obtain ⟨d, _, rfl⟩ := List.mem_map.mp h
    rw [Int.fmod_eq_emod_of_nonneg _ (by decide)]
    omega
  · rw [List.mem_singleton.mp h]; decide
theorem numsOf_len (script : List Int) : (numsOf script).length ≤ 25 := by
  unfold numsOf
  rw [List.length_append, List.length_map, List.length_take]
  simp; omega
theorem numsOf_ne (script : List Int) : numsOf script ≠ [] := by unfold numsOf; simp
theorem div128 (x : Int) : Builtin.divisionGoesByPylong x 128 = false := rfl
theorem modeOf_ok (ns : List Int) : 0 ≤ modeOf ns ∧ modeOf ns < 65536 := by
  unfold modeOf
  rw [Int.fmod_eq_emod_of_nonneg _ (by decide)]
  omega

structure RsOk (rs : List (List Str × Bool)) : Prop where
  ne : rs ≠ []
  len : rs.length ≤ 25
  ags : ∀ p ∈ rs, p.1 ≠ [] ∧ p.1.length ≤ 25 ∧ ∀ g ∈ p.1, AgOk g
theorem foldR_ok (ns : List Int) : ∀ (d : List (List Str × Bool)) (c : List Str × Bool) (k : Nat), (∀ n ∈ ns, 0 ≤ n ∧ n < 1000000) → d.length + 1 ≤ k → c.1.length ≤ k → (∀ p ∈ d ++ [c], p.1 ≠ [] ∧ p.1.length ≤ k ∧ ∀ g ∈ p.1, AgOk g) →
    (closeR (ns.foldl stepR (d, some c))) ≠ [] ∧ (closeR (ns.foldl stepR (d, some c))).length ≤ k + ns.length ∧ ∀ p ∈ closeR (ns.foldl stepR (d, some c)), p.1 ≠ [] ∧ p.1.length ≤ k + ns.length ∧ ∀ g ∈ p.1, AgOk g := by
  induction ns with
  | nil =>
    intro d c k _ h1 h2 h3
    refine ⟨by simp [closeR], by simp [closeR]; omega, fun p hp => ?_⟩
    have := h3 p hp
    exact ⟨this.1, by simpa using this.2.1, this.2.2⟩
  | cons n ns ih =>
    intro d c k hn h1 h2 h3
    have hn0 := hn n List.mem_cons_self
    have ag := agS_ok hn0.1 hn0.2
    rw [List.foldl_cons]
    have e : k + (n :: ns).length = k + 1 + ns.length := by rw [List.length_cons]; omega
    rw [e]
    show closeR (ns.foldl stepR (if newR n = true then _ else _)) ≠ [] ∧ (closeR (ns.foldl stepR (if newR n = true then _ else _))).length ≤ _ ∧ ∀ p ∈ closeR (ns.foldl stepR (if newR n = true then _ else _)), _
    by_cases hr : newR n = true
    · rw [if_pos hr]
      refine ih _ _ (k + 1) (fun m hm => hn m (List.mem_cons_of_mem _ hm)) (by rw [List.length_append, List.length_singleton]; omega) (by show 1 ≤ k + 1; omega) fun p hp => ?_
      rcases List.mem_append.mp hp with hp | hp
      · have := h3 p hp
        exact ⟨this.1, by omega, this.2.2⟩
      · rw [List.mem_singleton.mp hp]
        refine ⟨by simp, by show 1 ≤ k + 1; omega, fun g hg => ?_⟩
        rw [List.mem_singleton.mp hg]; exact ag
    · rw [if_neg hr]
      refine ih _ _ (k + 1) (fun m hm => hn m (List.mem_cons_of_mem _ hm)) (by omega) (by show (c.1 ++ [agS n]).length ≤ k + 1; rw [List.length_append, List.length_singleton]; omega) fun p hp => ?_
      rcases List.mem_append.mp hp with hp | hp
      · have := h3 p (List.mem_append_left _ hp)
        exact ⟨this.1, by omega, this.2.2⟩
      · rw [List.mem_singleton.mp hp]
        have := h3 c (List.mem_append_right _ List.mem_cons_self)
        refine ⟨by simp, by show (c.1 ++ [agS n]).length ≤ k + 1; rw [List.length_append, List.length_singleton]; omega, fun g hg => ?_⟩
        rcases List.mem_append.mp hg with hg | hg
        · exact this.2.2 g hg
        · rw [List.mem_singleton.mp hg]; exact ag
theorem rulesOf_ok {ns : List Int} (h : ∀ n ∈ ns, 0 ≤ n ∧ n < 1000000) (hl : ns.length ≤ 25) (hne : ns ≠ []) : RsOk (rulesOf ns) := by
  cases ns with
  | nil => exact absurd rfl hne
  | cons n ns =>
    have hn0 := h n List.mem_cons_self
    have ag := agS_ok hn0.1 hn0.2
    obtain ⟨a, b, c⟩ := foldR_ok ns [] ([agS n], n.fmod 2 == 1) 1 (fun m hm => h m (List.mem_cons_of_mem _ hm)) (by decide) (by show 1 ≤ 1; omega) fun p hp => by
      rw [List.mem_singleton.mp hp]
      refine ⟨by simp, by show 1 ≤ 1; omega, fun g hg => ?_⟩
      rw [List.mem_singleton.mp hg]; exact ag
    rw [List.length_cons] at hl
    exact ⟨a, by unfold rulesOf; rw [List.foldl_cons]; exact Nat.le_trans b (by omega), fun p hp => by
      have := c p hp
      exact ⟨this.1, by omega, this.2.2⟩⟩

/-! rows -/
theorem nat_of {m : Int} (h0 : 0 ≤ m) (h1 : m < 65536) : ∃ n : Nat, m = (n : Int) ∧ n < 65536 := ⟨m.toNat, by omega, by omega⟩
theorem fm_eq {m : Int} (h0 : 0 ≤ m) (h1 : m < 65536) : Txt.join "" (picks m 0 modeTab) = rowS m := by
  obtain ⟨n, rfl, h⟩ := nat_of h0 h1
  exact fm_nat h
theorem row_len {m : Int} (h0 : 0 ≤ m) (h1 : m < 65536) : (rowS m).length = 10 ∧ (Txt.lower (rowS m)).length = 10 ∧ PyData.strOk (rowS m) = true := by
  obtain ⟨n, rfl, h⟩ := nat_of h0 h1
  obtain ⟨a, b, c, _⟩ := row_len_nat h
  exact ⟨a, b, c⟩
noncomputable def triL (m : Int) : List Str := [tri m 6, tri m 3, tri m 0]
theorem row_has {m : Int} (h0 : 0 ≤ m) (h1 : m < 65536) {a b c : Nat} (ha : a = 114 ∨ a = 45) (hb : b = 119 ∨ b = 45) (hc : c = 45 ∨ c = 120 ∨ c = 115 ∨ c = 116) (hn : ¬ (a = 45 ∧ b = 45 ∧ c = 45)) :
    Txt.contains (Txt.lower (rowS m)) ⟨#[a, b, c]⟩ = (triL m).any (· == (⟨#[a, b, c]⟩ : Str)) := by
  obtain ⟨n, rfl, h⟩ := nat_of h0 h1
  exact row_has_nat h ha hb hc hn
theorem xor_ok {m : Int} (h0 : 0 ≤ m) (h1 : m < 65536) : (0 ≤ Builtin.bitXor m 2267 ∧ Builtin.bitXor m 2267 < 65536) ∧ (0 ≤ Builtin.bitXor m 511 ∧ Builtin.bitXor m 511 < 65536) :=
  ⟨xor_nat h0 h1 (by decide) (by decide), xor_nat h0 h1 (by decide) (by decide)⟩
noncomputable def pF (T : List Str) (g : Str) : Bool := g != "*" && T.any (· == Txt.lower g)
theorem fits_eq {m : Int} (h0 : 0 ≤ m) (h1 : m < 65536) {g : Str} (ok : AgOk g) : fits1 (Txt.lower (rowS m)) g = pF (triL m) g := by
  unfold fits1 pF
  by_cases h : g = "*"
  · subst h; rfl
  · obtain ⟨a, b, c, ha, hb, hc, e, hn⟩ := ok.sig h
    rw [e, row_has h0 h1 ha hb hc hn]
theorem any_filter {α : Type} (f : α → Bool) : ∀ xs : List α, xs.any f = !(xs.filter f).isEmpty
  | [] => rfl
  | x :: xs => by
    rw [List.any_cons, List.filter_cons, any_filter f xs]
    cases f x <;> simp
theorem C_neNil {prog : Program} {w : World} {K : Frag} {G : Gl prog w K} {xs : List Str} {Q : V → Prop} (hok : xs.all PyData.strOk = true) (h : Q (.bool (!xs.isEmpty))) : Act2 G (compareOp .NotEq) (.lst (xs.map .str)) (.lst []) Q := by
  refine C_neD (strs_dat xs).1 rfl ((strs_dat xs).2.1.trans hok) rfl (Nat.le_trans (Nat.succ_le_succ (strs_dat xs).2.2) (by decide)) ?_
  cases xs with
  | nil => exact h
  | cons x xs => exact h
noncomputable def nameS (m : Int) : Str := rowS m ++ Str.ofString "/" ++ rowS (Builtin.bitXor m 511)
theorem slash : Str.ofString "/" = ⟨#[47]⟩ := by decide +kernel
theorem newl : Str.ofString "\n" = ⟨#[10]⟩ := by decide +kernel
theorem row_free {m : Int} (h0 : 0 ≤ m) (h1 : m < 65536) : ∀ c ∈ (rowS m).cps.toList, c ≠ 10 ∧ c ≠ 47 := by
  obtain ⟨n, rfl, h⟩ := nat_of h0 h1
  intro c hc
  have := List.all_eq_true.mp (row_nl h) c hc
  simpa using this
theorem name_split {m : Int} (h0 : 0 ≤ m) (h1 : m < 65536) : (∃ rest, Txt.split (nameS m) "/" = rowS m :: rest) ∧ (Builtin.Str.partsBetween (nameS m) (Builtin.Str.occurrences (nameS m) (Str.ofString "/") 0 (nameS m).length ((nameS m).length + 1)) (Str.ofString "/").length).length ≤ sizeLine := by
  obtain ⟨x0, x1⟩ := (xor_ok h0 h1).2
  have e : Txt.split (nameS m) (Str.ofString "/") = [rowS m, rowS (Builtin.bitXor m 511)] := by
    unfold nameS
    rw [slash]
    refine split_join (ps := [rowS m, rowS (Builtin.bitXor m 511)]) (by simp) fun q hq d hd => ?_
    simp at hq
    rcases hq with rfl | rfl
    · exact (row_free h0 h1 d hd).2
    · exact (row_free x0 x1 d hd).2
  refine ⟨⟨_, e⟩, ?_⟩
  rw [← split_parts, e]
  exact nat_len (show 2 ≤ 1000 by decide)

/-! the book's text -/
noncomputable def bookT (row : Str) (m : Int) (rs : List (List Str × Bool)) : Str := Txt.join (Str.ofString "\n") (bookLines row m rs)
noncomputable def kinds2 (rs : List (List Str × Bool)) : List LineK := rs.flatMap fun p => p.1.map LineK.ag ++ [LineK.allow]
theorem ua_list : (Str.ofString "User-agent: ").cps.toList = [85, 115, 101, 114, 45, 97, 103, 101, 110, 116, 58, 32] := by decide +kernel
theorem okK_ag {x : Str} (h : x.length ≤ 100) : okK (.ag x) := by
  have hl : (lineS (.ag x)).cps.toList = [85, 115, 101, 114, 45, 97, 103, 101, 110, 116, 58, 32] ++ x.cps.toList := by
    show (Str.ofString "User-agent: " ++ x).cps.toList = _
    rw [Str.cps_append, Array.toList_append, ua_list]
  have hn : (lineS (.ag x)).cps.toList.length = 12 + x.length := by
    rw [hl, List.length_append]
    have : x.cps.toList.length = x.length := by simp [Str.length]
    rw [this]; rfl
  refine ⟨?_, ?_, ?_, ?_⟩
  · have al : (Str.ofString "Allow:").cps.toList = [65, 108, 108, 111, 119, 58] := by decide +kernel
    rw [beq_eq_false_iff_ne]
    intro e
    have := congrArg (fun y : Str => y.cps.toList) e
    simp only [hl, al] at this
    simp at this
  · have := sliceText_to (x := lineS (.ag x)) (j := 12) ⟨by decide, by rw [hn]; omega⟩
    refine (show Txt.slice _ _ _ = _ from this).trans ?_
    apply Str.ext'
    apply Array.toList_inj.mp
    rw [hl, ua_list]
    rfl
  · have := sliceText_from (x := lineS (.ag x)) (i := 12) ⟨by decide, by rw [hn]; omega⟩
    refine (show Txt.slice _ _ _ = _ from this).trans ?_
    apply Str.ext'
    apply Array.toList_inj.mp
    rw [hn, hl]
    have hx : x.cps.toList.length = x.length := by simp [Str.length]
    have e12 : (((12 + x.length : Nat) : Int) - 12).toNat = x.length := by omega
    rw [e12]
    show List.take x.length (List.drop 12 ([85, 115, 101, 114, 45, 97, 103, 101, 110, 116, 58, 32] ++ x.cps.toList)) = _
    rw [show List.drop 12 ([85, 115, 101, 114, 45, 97, 103, 101, 110, 116, 58, 32] ++ x.cps.toList) = x.cps.toList from rfl, ← hx, List.take_length]
  · have : (lineS (.ag x)).length = 12 + x.length := by rw [← hn]; simp [Str.length]
    omega
theorem fold_ags (xs : List Str) : ∀ (d : List (List Str)) (c : List Str), (xs.map LineK.ag ++ [LineK.allow]).foldl stepK (d, c) = (d ++ [c ++ xs], []) := by
  induction xs with
  | nil => intro d c; simp [stepK]
  | cons x xs ih =>
    intro d c
    show (xs.map LineK.ag ++ [LineK.allow]).foldl stepK (d, c ++ [x]) = _
    rw [ih]; simp
theorem fold_kinds (rs : List (List Str × Bool)) : ∀ d : List (List Str), (kinds2 rs).foldl stepK (d, []) = (d ++ rs.map (·.1), []) := by
  induction rs with
  | nil => intro d; simp [kinds2]
  | cons p rs ih =>
    intro d
    show ((p.1.map LineK.ag ++ [LineK.allow]) ++ kinds2 rs).foldl stepK (d, []) = _
    rw [List.foldl_append, fold_ags, ih]; simp
theorem kinds2_len (rs : List (List Str × Bool)) (h : ∀ p ∈ rs, p.1.length ≤ 25) : (kinds2 rs).length ≤ rs.length * 26 := by
  induction rs with
  | nil => exact Nat.zero_le _
  | cons p rs ih =>
    have e : (kinds2 (p :: rs)).length = p.1.length + 1 + (kinds2 rs).length := by
      show ((p.1.map LineK.ag ++ [LineK.allow]) ++ kinds2 rs).length = _
      simp; omega
    have := ih fun q hq => h q (List.mem_cons_of_mem _ hq)
    have := h p List.mem_cons_self
    rw [e, List.length_cons]; omega
theorem kinds2_ok {rs : List (List Str × Bool)} (h : RsOk rs) : (∀ k ∈ kinds2 rs, okK k) ∧ (kinds2 rs).length ≤ 700 ∧ (kinds2 rs).foldl stepK ([], []) = (rs.map (·.1), []) := by
  refine ⟨fun k hk => ?_, ?_, ?_⟩
  · obtain ⟨p, hp, hk⟩ := List.mem_flatMap.mp hk
    rcases List.mem_append.mp hk with hk | hk
    · obtain ⟨g, hg, rfl⟩ := List.mem_map.mp hk
      exact okK_ag (Nat.le_trans ((h.ags p hp).2.2 g hg).len (by decide))
    · rw [List.mem_singleton.mp hk]; trivial
  · have := kinds2_len rs fun p hp => (h.ags p hp).2.1
    have := h.len
    omega
  · have := fold_kinds rs []
    simpa using this
theorem join_len {s : Str} (hs : s.length = 1) {B : Nat} : ∀ xs : List Str, (∀ x ∈ xs, x.length ≤ B) → (Str.join s xs).length ≤ xs.length * (B + 1)
  | [], _ => Nat.zero_le _
  | [x], h => by
    have := h x List.mem_cons_self
    show x.length ≤ 1 * (B + 1)
    omega
  | x :: y :: r, h => by
    have ih := join_len hs (y :: r) fun z hz => h z (List.mem_cons_of_mem _ hz)
    have := h x List.mem_cons_self
    show (x ++ s ++ Str.join s (y :: r)).length ≤ _
    rw [strLen_append, strLen_append, hs, List.length_cons, Nat.succ_mul]
    omega
theorem join_eq (s : Str) (xs : List Str) : Txt.join s xs = Str.join s xs := glued_eq_join s xs
theorem lineS_len {k : LineK} (h : ∀ x, k = .ag x → x.length ≤ 100) : (lineS k).length ≤ 113 := by
  cases k with
  | ag x =>
    have := h x rfl
    show (Str.ofString "User-agent: " ++ x).length ≤ 113
    rw [strLen_append, show (Str.ofString "User-agent: ").length = 12 by decide +kernel]; omega
  | allow => decide +kernel
theorem agL_eq (x : Str) : agL x = lineS (.ag x) := by
  show Str.empty ++ Str.ofString "User-agent: " ++ x = _
  rw [Str.empty_append]; rfl
theorem recLines_eq (ags : List Str) : recLines ags = (ags.map LineK.ag ++ [LineK.allow]).map lineS := by
  unfold recLines
  rw [List.map_append, List.map_map]
  congr 1
theorem recT_len {rs : List (List Str × Bool)} (h : RsOk rs) : ∀ p ∈ rs, (recT p).length ≤ 20000 := by
  intro p hp
  obtain ⟨h1, h2, h3⟩ := h.ags p hp
  unfold recT
  rw [join_eq, recLines_eq]
  have := join_len (s := Str.ofString "\n") (B := 113) rfl ((p.1.map LineK.ag ++ [LineK.allow]).map lineS) fun x hx => by
    obtain ⟨k, hk, rfl⟩ := List.mem_map.mp hx
    refine lineS_len fun y e => ?_
    rcases List.mem_append.mp hk with hk | hk
    · obtain ⟨g, hg, rfl⟩ := List.mem_map.mp hk
      have := LineK.ag.inj e
      subst this
      exact Nat.le_trans (h3 _ hg).len (by decide)
    · rw [List.mem_singleton.mp hk] at e; cases e
  refine Nat.le_trans this ?_
  rw [List.length_map, List.length_append, List.length_map, List.length_singleton]
  omega
noncomputable def headL (m : Int) : List Str := [Str.ofString "User-agent: " ++ rowS m, Str.ofString "Crawl-delay: " ++ Str.ofString (toString m)]
theorem book_flat (m : Int) (rs : List (List Str × Bool)) : bookT (rowS m) m rs = Str.join (Str.ofString "\n") (headL m ++ (kinds2 rs).map lineS) := by
  unfold bookT bookLines
  rw [join_eq]
  have e1 : rs.map recT = (rs.map fun p => recLines p.1).map (Str.join (Str.ofString "\n")) := by
    rw [List.map_map]
    exact List.map_congr_left fun p _ => join_eq _ _
  rw [e1]
  refine (join_flat (Str.ofString "\n") (agL (rowS m)) [delayL m] (rs.map fun p => recLines p.1) fun g hg => ?_).trans ?_
  · obtain ⟨p, _, rfl⟩ := List.mem_map.mp hg
    unfold recLines; simp
  · have e2 : (rs.map fun p => recLines p.1).flatten = (kinds2 rs).map lineS := by
      unfold kinds2
      rw [List.map_flatMap, List.flatMap_def]
      congr 1
      exact List.map_congr_left fun p _ => recLines_eq p.1
    rw [e2]
    have e3 : (agL (rowS m) :: [delayL m] : List Str) = headL m := by
      rw [agL_eq]
      unfold delayL headL
      rw [Str.empty_append]; rfl
    rw [e3]
theorem allow_free : (Str.ofString "Allow:").cps.toList.all (· != 10) = true ∧ (Str.ofString "User-agent: ").cps.toList.all (· != 10) = true ∧ (Str.ofString "Crawl-delay: ").cps.toList.all (· != 10) = true := by decide +kernel
theorem free_of {x : Str} (h : x.cps.toList.all (· != 10) = true) : ∀ c ∈ x.cps.toList, c ≠ 10 := fun c hc => by
  have := List.all_eq_true.mp h c hc
  simpa using this
theorem free_app {x y : Str} (hx : ∀ c ∈ x.cps.toList, c ≠ 10) (hy : ∀ c ∈ y.cps.toList, c ≠ 10) : ∀ c ∈ (x ++ y).cps.toList, c ≠ 10 := fun c hc => by
  rw [Str.cps_append, Array.toList_append] at hc
  exact (List.mem_append.mp hc).elim (hx c) (hy c)
theorem book_split {m : Int} (h0 : 0 ≤ m) (h1 : m < 65536) {rs : List (List Str × Bool)} (h : RsOk rs) : (bookT (rowS m) m rs).length ≤ sizeLine ∧ (Builtin.Str.partsBetween (bookT (rowS m) m rs) (Builtin.Str.occurrences (bookT (rowS m) m rs) (Str.ofString "\n") 0 (bookT (rowS m) m rs).length ((bookT (rowS m) m rs).length + 1)) (Str.ofString "\n").length).length ≤ sizeLine ∧
    Txt.split (bookT (rowS m) m rs) (Str.ofString "\n") = [Str.ofString "User-agent: " ++ rowS m, Str.ofString "Crawl-delay: " ++ Str.ofString (toString m)] ++ (kinds2 rs).map lineS := by
  obtain ⟨k1, k2, k3⟩ := kinds2_ok h
  obtain ⟨r1, r2, r3⟩ := row_len h0 h1
  obtain ⟨t1, t2⟩ := mode_txt h0 h1
  have hk : ∀ k ∈ kinds2 rs, ∀ x, k = .ag x → AgOk x := fun k hk x e => by
    obtain ⟨p, hp, hk⟩ := List.mem_flatMap.mp hk
    rcases List.mem_append.mp hk with hk | hk
    · obtain ⟨g, hg, rfl⟩ := List.mem_map.mp hk
      have := LineK.ag.inj e
      subst this
      exact (h.ags p hp).2.2 _ hg
    · rw [List.mem_singleton.mp hk] at e; cases e
  have e : Txt.split (bookT (rowS m) m rs) (Str.ofString "\n") = headL m ++ (kinds2 rs).map lineS := by
    rw [book_flat, newl]
    refine split_join (by simp [headL]) fun q hq => ?_
    rcases List.mem_append.mp hq with hq | hq
    · unfold headL at hq
      simp at hq
      rcases hq with rfl | rfl
      · exact free_app (free_of allow_free.2.1) fun c hc => (row_free h0 h1 c hc).1
      · obtain ⟨n, rfl, hn⟩ := nat_of h0 h1
        exact free_app (free_of allow_free.2.2) mode_nl
    · obtain ⟨k, hkm, rfl⟩ := List.mem_map.mp hq
      cases k with
      | ag x => exact free_app (free_of allow_free.2.1) (hk _ hkm x rfl).nl
      | allow => exact free_of allow_free.1
  have hlen : (headL m ++ (kinds2 rs).map lineS).length ≤ 702 := by
    rw [List.length_append, List.length_map]
    show 2 + _ ≤ 702
    omega
  refine ⟨?_, ?_, e⟩
  · rw [book_flat]
    refine Nat.le_trans (join_len (B := 113) rfl _ fun x hx => ?_) (Nat.le_trans (Nat.mul_le_mul_right _ hlen) (by rw [sizeLine_eq]; decide))
    rcases List.mem_append.mp hx with hx | hx
    · unfold headL at hx
      simp at hx
      rcases hx with rfl | rfl
      · rw [strLen_append, r1]; decide
      · rw [strLen_append]; exact Nat.le_trans (Nat.add_le_add_left t2 _) (by decide)
    · obtain ⟨k, hkm, rfl⟩ := List.mem_map.mp hx
      exact lineS_len fun y e => Nat.le_trans (hk k hkm y e).len (by decide)
  · rw [← split_parts, e]
    exact nat_len (Nat.le_trans hlen (by decide))
theorem lines_ok {m : Int} (h0 : 0 ≤ m) (h1 : m < 65536) : ([Str.ofString "User-agent: " ++ rowS m, Str.ofString "Crawl-delay: " ++ Str.ofString (toString m)] : List Str).all PyData.strOk = true := by
  obtain ⟨r1, r2, r3⟩ := row_len h0 h1
  simp only [List.all_cons, List.all_nil, strOk_app (strOk_of _) r3, strOk_app (strOk_of _) (strOk_of _)]
  rfl
end Mine

end
section
open PySem PySem.W PySem.Calls PyProof.Rows
set_option linter.unusedVariables false
set_option maxRecDepth 100000
namespace Mine
theorem filt_t {α : Type} (xs : List α) : xs.filter (fun _ => true) = xs := List.filter_eq_self.mpr (by simp)
theorem lsts_dat : ∀ (xs : List (List Str)), (∀ x ∈ xs, x.all PyData.strOk = true) → V.areDat (xs.map lstV) = true ∧ PyData.canLayAll0 (V.dats (xs.map lstV)) = true ∧ PyData.depthAll (V.dats (xs.map lstV)) ≤ 2
  | [], _ => ⟨rfl, rfl, by decide⟩
  | x :: xs, h => by
    obtain ⟨h1, h2, h3⟩ := lsts_dat xs fun y hy => h y (List.mem_cons_of_mem _ hy)
    obtain ⟨g1, g2, g3⟩ := strs_dat x
    refine ⟨?_, ?_, ?_⟩
    · show (V.areDat (x.map .str) && V.areDat (xs.map lstV)) = true
      rw [g1, h1]; rfl
    · show (PyData.canLayAll0 (V.dats (x.map .str)) && PyData.canLayAll0 (V.dats (xs.map lstV))) = _
      rw [h2, g2, h x List.mem_cons_self]; rfl
    · show PyData.depthAll (.list (V.dats (x.map .str)) :: V.dats (xs.map lstV)) ≤ 2
      simp only [PyData.depthAll, PyData.depth]
      omega
theorem turn_rulesL {C : Addr} {z : Zp} {a : Addr} {ys : List V} {b : Bool} (hz : Rz C z (.lst ys) (.ref a)) : ∀ {ds : List V} {vs : List Value}, RzL C z (ds ++ [.tup [.raw (.ref a), .bool b]]) vs → RzL C z (ds ++ [.tup [.lst ys, .bool b]]) vs
  | [], _, ⟨x, r, e, ⟨a', xs, e', sq, y, r', e2, hy, rr⟩, rn⟩ => ⟨x, r, e, ⟨a', xs, e', sq, y, r', e2, (show y = .ref a from hy) ▸ hz, rr⟩, rn⟩
  | d :: ds, _, ⟨x, r, e, hx, rr⟩ => ⟨x, r, e, hx, turn_rulesL hz rr⟩
theorem turn_rule {C : Addr} {z : Zp} {a : Addr} {c : List Str × Bool} {ds : List V} (hz : Rz C z (lstV c.1) (.ref a)) : Turns C z (.own (ds ++ [.tup [.raw (.ref a), .bool c.2]])) (.own (ds ++ [ruleV c])) := fun vs rl => turn_rulesL hz rl
set_option maxHeartbeats 4000000 in
theorem law_s {w : World} (G : Gl PySem.Challenge.rw_in0278_01.prog w (Mine.K0 w.params)) (hC : G.C = 69) {script : List Int} (hlen : script.length ≤ 63) {Q : V → Prop} (h : Q (.bool true)) : CS G 6 (.ref 212) [.lst (script.map .int)] Q := by
  k_fill
  have vf : ∀ nm, valFirst (Mine.K0 w.params) 69 nm = true → valFirst (Mine.K0 w.params) G.C nm = true := fun nm h => hC ▸ h
  have f1 : plainGet (Mine.K0 w.params) G.C "applies_to" = true := by rw [hC]; k_is
  have f2 : findIn (Mine.K0 w.params) (.ref G.C) "applies_to" = some (some (.ref 59)) := by rw [hC]; k_is
  have f3 : isFn (Mine.K0 w.params) (.ref 59) = true := by k_is
  have f4 : plainGet (Mine.K0 w.params) G.C "allowance" = true := by rw [hC]; k_is
  have f5 : findIn (Mine.K0 w.params) (.ref G.C) "allowance" = some (some (.ref 66)) := by rw [hC]; k_is
  have f6 : isFn (Mine.K0 w.params) (.ref 66) = true := by k_is
  have f7 : findIn (Mine.K0 w.params) (.ref G.C) "__str__" = some (some (.ref 52)) := by rw [hC]; k_is
  have f8 : isFn (Mine.K0 w.params) (.ref 52) = true := by k_is
  refine CS_defC1 (Str.ofString "script") (by k_is) (by k_is) ?_ (fun x => rfl)
  refine WS_cons (WX_assign ?_)
  have hns := numsOf_ok script
  have hnl := numsOf_len script
  have hnne := numsOf_ne script
  refine WE_bin (WE_comp (CompOk.of (by kernel_rfl)) [] trivial (WIc_list (WE_slc (WE_v (by rfl) ?_))))
  refine WE_int ⟨_, rfl, SL_upto 24 ?_ ?_⟩
  · rw [List.length_map]; exact nat_len (by omega)
  rw [← List.map_take]
  refine ⟨_, rfl, ?_, ?_⟩
  · rw [List.length_map, List.length_take]; exact nat_len (by omega)
  refine CompT.map (.int) (fun _ => true) (fun d => .int (d.fmod 1000000)) _ [] (fun d hd => ⟨_, TB.name, ?_, ?_, rfl, fun _ => ?_⟩) ?_
  · intro q hq
    rw [List.mem_singleton.mp hq]; rfl
  · exact ndB_nodup rfl
  · refine WE_bin (WE_v (by rfl) (WE_bin (WE_int (WE_int (A_pow (by decide) (by decide) ?_)))))
    exact A_mod (by decide) rfl
  refine WE_list ?_
  refine WE_int ?_
  refine ⟨nat_len (show 1 ≤ 1000 by decide), A_catL ?_ ?_⟩
  · rw [filt_t]; simp; exact nat_len (by omega)
  have e1 : [] ++ List.map (fun d => V.int (d.fmod 1000000)) (List.filter (fun _ => true) (List.take 24 script)) ++ [V.int 92] = (numsOf script).map .int := by
    rw [filt_t]; unfold numsOf; simp; rfl
  rw [e1]
  generalize numsOf script = ns at hns hnl hnne
  refine WS_cons (WX_assign (WE_bin (WE_bin (WE_int (WE_bi (by k_is) bootSum rfl (WE_v (by rfl) (B_sum (fun n hn => ?_) ?_ (A_add ?_))))))))
  · have := hns n hn; omega
  · omega
  refine WE_int (A_mod (by decide) ?_)
  change WS _ _ _ (put _ _ (.v (.int (modeOf ns)))) _ _
  generalize hmo : modeOf ns = mode
  refine WS_cons (WX_own ?_)
  refine WS_cons ?_
  refine WX_forI (WI_seq (WE_v (by rfl) ⟨_, .inl rfl, ?_⟩))
  refine WF.ind _ (fun i l => (i = 0 ∧ Has l [("numbers", .v (.lst (ns.map .int))), ("mode", .v (.int mode)), ("rules", .own [])]) ∨ ∃ d c a, (ns.take i).foldl stepR ([], none) = (d, some c) ∧ d.length + 1 ≤ i ∧ c.1.length ≤ i ∧
    Has l [("numbers", .v (.lst (ns.map .int))), ("mode", .v (.int mode)), ("rules", .own (d.map ruleV ++ [.tup [.raw (.ref a), .bool c.2]])), ("#r", .gl a (c.1.map .str))]) (.inl ⟨rfl, rfl, rfl, rfl, trivial⟩) (fun i u l hu hl => ?_) (fun l hl => ?_)
  · rw [List.getElem?_map] at hu
    obtain ⟨n, hn, rfl⟩ := Option.map_eq_some_iff.mp hu
    have hnm := hns n (List.mem_of_getElem? hn)
    have hi : i < ns.length := (List.getElem?_eq_some_iff.mp hn).1
    have hnx : (ns.take (i + 1)).foldl stepR ([], none) = stepR ((ns.take i).foldl stepR ([], none)) n := by
      rw [List.take_add_one, hn, List.foldl_append]; rfl
    rcases hl with ⟨hi0, hl⟩ | ⟨d, c, a, hf, hdc, hdc2, hl⟩
    · subst hi0
      refine WAs.wk _ hl (WAs_name ?_)
      refine WS_cons (WX_if (WT_peek (WT_or2 (WT_not (WT_val (WE_v (by rfl) (T_lst (nat_len (Nat.zero_le _)) ?_)))))))
      refine ⟨fun _ => ⟨fun _ => ?_, fun e => (by cases e)⟩, fun e => (by cases e)⟩
      refine WS_cons (WX_appN "#r" (by rfl) (by decide) (nat_len (Nat.zero_le _)) (WEn_pair ?_))
      refine WE_cmp (WE_bin (WE_v (by rfl) (WE_int (A_mod (by decide) ?_))))
      refine WE_int (C_eqI fun a => ?_)
      refine WS_nil ?_
      refine WS_cons (WX_appendG "#r" (by rfl) (WE_peek (WE_sub (WE_sub (WE_v (by rfl) (WE_neg (WE_int ⟨_, rfl, S_last (v := .tup [.raw (.ref a), .bool (n.fmod 2 == 1)]) ?_ (by rfl) ?_⟩)))))) ?_)
      · exact nat_len (show 1 ≤ 1000 by decide)
      · refine WE_int (S_tup (by decide) (by decide) (by rfl) ⟨rfl, rfl⟩)
      refine WE_def (by k_is) (by k_is) (WE_v (by rfl) ((agent_s G hnm.1 hnm.2 ?_).room (by omega)))
      refine ⟨nat_len (Nat.zero_le _), WS_nil (.inr ⟨[], ([agS n], n.fmod 2 == 1), a, hnx, by simp, by simp, ?_⟩)⟩
      exact ⟨rfl, rfl, rfl, rfl, trivial⟩
    · refine WAs.wk _ hl (WAs_name ?_)
      have hrl : (d.map ruleV ++ [V.tup [.raw (.ref a), .bool c.2]]).length ≤ 30 := by rw [List.length_append, List.length_map, List.length_singleton]; omega
      have hre : (!(d.map ruleV ++ [V.tup [.raw (.ref a), .bool c.2]]).isEmpty) = true := by simp
      have hre2 : ∀ (x : V), (d.map ruleV ++ [V.tup [.raw (.ref a), .bool c.2], x]).length ≤ 30 := fun x => by rw [List.length_append, List.length_map]; simp; omega
      refine WS_cons (WX_if (WT_peek (WT_or2 (WT_not (WT_val (WE_v (by rfl) (T_lst (nat_len (Nat.le_trans hrl (by decide))) ?_)))))))
      rw [hre]
      refine ⟨fun e => (by cases e), fun _ => ?_⟩
      refine WT_cmp (WE_bin (WE_bin (WE_v (by rfl) (WE_int (A_fdiv (by decide) (div128 _) ?_)))))
      refine WE_int (A_mod (by decide) ?_)
      refine WE_int (C_eqI ?_)
      change (newR n = true → _) ∧ (newR n = false → _)
      refine ⟨fun hr => ?_, fun hr => ?_⟩
      · refine WS_cons (WX_fill "#r" "rules" (.own (d.map ruleV ++ [ruleV c])) (by rfl) (by rfl) (fun z hz => turn_rule hz) ?_)
        refine WX_appN "#r" (by rfl) (by decide) (nat_len (by simp; omega)) (WEn_pair ?_)
        refine WE_cmp (WE_bin (WE_v (by rfl) (WE_int (A_mod (by decide) ?_))))
        refine WE_int (C_eqI fun a' => ?_)
        refine WS_nil ?_
        refine WS_cons (WX_appendG "#r" (by rfl) (WE_peek (WE_sub (WE_sub (WE_v (by rfl) (WE_neg (WE_int ⟨_, rfl, S_last (v := .tup [.raw (.ref a'), .bool (n.fmod 2 == 1)]) ?_ ?_ ?_⟩)))))) ?_)
        · exact nat_len (by simp; omega)
        · simp
        · refine WE_int (S_tup (by decide) (by decide) (by rfl) ⟨rfl, rfl⟩)
        refine WE_def (by k_is) (by k_is) (WE_v (by rfl) ((agent_s G hnm.1 hnm.2 ?_).room (by omega)))
        refine ⟨nat_len (Nat.zero_le _), WS_nil (.inr ⟨d ++ [c], ([agS n], n.fmod 2 == 1), a', ?_, ?_, ?_, ?_⟩)⟩
        · rw [hnx, hf]; show (if newR n = true then _ else _) = _; rw [if_pos hr]
        · rw [List.length_append, List.length_singleton]; omega
        · show 1 ≤ i + 1; omega
        · refine ⟨rfl, rfl, ?_, rfl, trivial⟩
          rw [List.map_append]; rfl
      · refine WS_nil ?_
        refine WS_cons (WX_appendG "#r" (by rfl) (WE_peek (WE_sub (WE_sub (WE_v (by rfl) (WE_neg (WE_int ⟨_, rfl, S_last (v := .tup [.raw (.ref a), .bool c.2]) ?_ ?_ ?_⟩)))))) ?_)
        · exact nat_len (Nat.le_trans hrl (by decide))
        · simp
        · refine WE_int (S_tup (by decide) (by decide) (by rfl) ⟨rfl, rfl⟩)
        refine WE_def (by k_is) (by k_is) (WE_v (by rfl) ((agent_s G hnm.1 hnm.2 ?_).room (by omega)))
        refine ⟨?_, WS_nil (.inr ⟨d, (c.1 ++ [agS n], c.2), a, ?_, ?_, ?_, ?_⟩)⟩
        · rw [List.length_map]; exact nat_len (by omega)
        · rw [hnx, hf]; show (if newR n = true then _ else _) = _; rw [if_neg (by rw [hr]; decide)]
        · omega
        · show (c.1 ++ [agS n]).length ≤ i + 1; rw [List.length_append, List.length_singleton]; omega
        · refine ⟨rfl, rfl, rfl, ?_, trivial⟩
          show _ = some (LV.gl a _)
          rw [List.map_append]; rfl
  rcases hl with ⟨hi0, hl⟩ | ⟨d, c, a, hf, hdc, hdc2, hl⟩
  · rw [List.length_map] at hi0
    exact absurd (List.length_eq_zero_iff.mp hi0) hnne
  rw [List.length_map, List.take_length] at hf
  have hrs : rulesOf ns = d ++ [c] := by unfold rulesOf; rw [hf]; rfl
  have ok := rulesOf_ok hns hnl hnne
  obtain ⟨m0, m1⟩ := modeOf_ok ns
  rw [hmo] at m0 m1
  refine WS_nil (WS.wk [("mode", .v (.int mode)), ("rules", .own (d.map ruleV ++ [.tup [.raw (.ref a), .bool c.2]])), ("#r", .gl a (c.1.map .str))] ⟨hl.2.1, hl.2.2.1, hl.2.2.2.1, trivial⟩ ?_)
  refine WS_fill "#r" "rules" (.own (d.map ruleV ++ [ruleV c])) (by rfl) (by rfl) (fun z hz => turn_rule hz) ?_
  refine WS_freeze (fun _ => true) ?_
  have e2 : d.map ruleV ++ [ruleV c] = (rulesOf ns).map ruleV := by rw [hrs, List.map_append]; rfl
  rw [e2]
  generalize rulesOf ns = rs at ok
  refine WS.wk [("mode", .v (.int mode)), ("rules", .v (.lst (rs.map ruleV)))] ⟨rfl, rfl, trivial⟩ ?_
  have ok1 := ok.len
  refine WS_cons (WX_assignComp (CompOk.of (by kernel_rfl)) [] trivial (WIc_list (WE_v (by rfl) ⟨_, rfl, ?_, ?_⟩)) (fun F => by rfl))
  · rw [List.length_map]; exact nat_len (by omega)
  refine CompT.map ruleV (fun _ => true) recOf _ [] (fun p hp => ⟨_, TB.tup (NB.cons (NB.cons NB.nil)), ?_, ?_, rfl, fun _ => ?_⟩) ?_
  · intro q hq
    rcases List.mem_cons.mp hq with rfl | hq
    · rfl
    · rw [List.mem_singleton.mp hq]; rfl
  · exact ndB_nodup rfl
  · refine WE_def (by k_is) (by k_is) (WE_v (by rfl) ?_)
    refine WE_v (by rfl) ?_
    refine (record_s (ags := p.1.map .str) (v := p.2) G hC ?_ (by rfl)).room (by omega)
    rw [List.length_map]
    have := (ok.ags p hp).2.1
    omega
  rw [filt_t, List.nil_append]
  refine WS_cons (WX_assign (WE_def (by k_is) (by k_is) (WE_def (by k_is) (by k_is) (WE_v (by rfl) ?_))))
  refine (filemode_s G ?_).room (by omega)
  rw [fm_eq m0 m1]
  refine WE_v (by rfl) (WE_v (by rfl) ?_)
  refine (book_s (recs := rs.map recOf) G hC ?_ ?_).room (by omega)
  · rw [List.length_map]; omega
  obtain ⟨k1, k2, k3⟩ := kinds2_ok ok
  obtain ⟨b1, b2, b3⟩ := book_split m0 m1 ok
  obtain ⟨t1, t2⟩ := mode_txt m0 m1
  obtain ⟨r1, r2, r3⟩ := row_len m0 m1
  refine WS_cons (WX_assign (WE_meth (WE_bi (by k_is) bootStr rfl (WE_v (by rfl) ?_))))
  refine (B_str_ins f7 f8 (strBook_s G hC (by omega) t1 t2 ok.ne (by omega) (fun p hp => ⟨(ok.ags p hp).1, Nat.le_trans (ok.ags p hp).2.1 (by decide), fun g hg => Nat.le_trans ((ok.ags p hp).2.2 g hg).len (by decide)⟩) (recT_len ok) ⟨⟨_, rfl⟩, ?_⟩)).room (by omega)
  refine GM_str F.slot_str_split F.type_str_split ?_
  refine And.intro ?_ ?_
  · exact rfl
  refine WE_str (M_split (by rfl) b1 b2 ?_)
  change WS _ _ _ (put _ _ (.v (.lst ((Txt.split (bookT (rowS mode) mode rs) (Str.ofString "\n")).map .str)))) _ _
  rw [b3]
  have hfew : ([Str.ofString "User-agent: " ++ rowS mode, Str.ofString "Crawl-delay: " ++ Str.ofString (toString mode)] ++ (kinds2 rs).map lineS).length ≤ 900 := by
    rw [List.length_append, List.length_map]
    show 2 + _ ≤ 900
    omega
  refine WS_cons (WX_if (WT_cmp (WE_slc (WE_v (by rfl) ?_))))
  refine WE_int ⟨_, rfl, SL_upto 2 ?_ ?_⟩
  · rw [List.length_map]; exact nat_len (by omega)
  have e3 : (([Str.ofString "User-agent: " ++ rowS mode, Str.ofString "Crawl-delay: " ++ Str.ofString (toString mode)] ++ (kinds2 rs).map lineS).map V.str).take 2 = [Str.ofString "User-agent: " ++ rowS mode, Str.ofString "Crawl-delay: " ++ Str.ofString (toString mode)].map V.str := rfl
  rw [e3]
  have lok := lines_ok m0 m1
  refine WE_list ?_
  refine WE_bin (WE_str (WE_def (by k_is) (by k_is) (WE_v (by rfl) ?_)))
  refine (row_s G m0 m1 (A_cat ?_ ?_)).room (by omega)
  · rw [strLen_append, r1]; exact nat_len (by decide)
  refine WE_bin (WE_str (WE_bi (by k_is) bootStr rfl (WE_v (by rfl) (B_str_int t1 (A_cat ?_ ?_)))))
  · rw [strLen_append]; exact nat_len (Nat.le_trans (Nat.add_le_add_left t2 _) (by decide))
  refine ⟨nat_len (show 2 ≤ 1000 by decide), ?_⟩
  refine C_neSelf (v := .lst ([Str.ofString "User-agent: " ++ rowS mode, Str.ofString "Crawl-delay: " ++ Str.ofString (toString mode)].map V.str)) ?_ ?_ ?_ ?_
  · exact (strs_dat _).1
  · exact (strs_dat _).2.1.trans lok
  · exact Nat.le_trans (Nat.succ_le_succ (strs_dat _).2.2) (by decide)
  refine ⟨fun e => (by cases e), fun _ => ?_⟩
  refine WS_nil ?_
  refine WS_cons (WX_if (WT_cmp (WE_def (by k_is) (by k_is) (WE_slc (WE_v (by rfl) ?_)))))
  refine WE_int ⟨_, rfl, SL_from 2 ?_ ?_⟩
  · rw [List.length_map]; exact nat_len (by omega)
  have e4 : (([Str.ofString "User-agent: " ++ rowS mode, Str.ofString "Crawl-delay: " ++ Str.ofString (toString mode)] ++ (kinds2 rs).map lineS).map V.str).drop 2 = ((kinds2 rs).map lineS).map V.str := rfl
  rw [e4]
  refine (back_s G k1 k2 ?_).room (by omega)
  rw [k3]
  refine WE_bin (WE_comp (CompOk.of (by kernel_rfl)) [] trivial (WIc_list (WE_v (by rfl) ⟨_, rfl, ?_, ?_⟩)))
  · rw [List.length_map]; exact nat_len (by omega)
  refine CompT.map ruleV (fun _ => true) (fun p => lstV p.1) _ [] (fun p hp => ⟨_, TB.tup (NB.cons (NB.cons NB.nil)), ?_, ?_, rfl, fun _ => ?_⟩) ?_
  · intro q hq
    rcases List.mem_cons.mp hq with rfl | hq
    · rfl
    · rw [List.mem_singleton.mp hq]; rfl
  · exact ndB_nodup rfl
  · exact WE_v (by rfl) rfl
  rw [filt_t, List.nil_append]
  refine WE_list (WE_list ⟨nat_len (Nat.zero_le _), nat_len (show 1 ≤ 1000 by decide), ?_⟩)
  refine A_catL ?_ ?_
  · rw [List.length_map]; exact nat_len (show rs.length + 1 ≤ 1000 by omega)
  have e5 : rs.map (fun p => lstV p.1) ++ [V.lst []] = (rs.map (fun p : List Str × Bool => p.1) ++ [[]]).map lstV := by rw [List.map_append, List.map_map]; rfl
  rw [e5]
  obtain ⟨d1, d2, d3⟩ := lsts_dat (rs.map (fun p : List Str × Bool => p.1) ++ [[]]) fun x hx => by
    rcases List.mem_append.mp hx with hx | hx
    · obtain ⟨p, hp, rfl⟩ := List.mem_map.mp hx
      exact List.all_eq_true.mpr fun g hg => ((ok.ags p hp).2.2 g hg).ok
    · rw [List.mem_singleton.mp hx]; rfl
  refine C_neSelf ?_ ?_ ?_ ?_
  · exact d1
  · exact d2
  · exact Nat.le_trans (Nat.succ_le_succ d3) (by decide)
  refine ⟨fun e => (by cases e), fun _ => ?_⟩
  refine WS_nil ?_
  refine WS_cons ?_
  refine WX_forI (WI_seq (WE_tuple (WE_v (by rfl) (WE_bin (WE_v (by rfl) (WE_int (A_xor ?_)))))))
  refine ⟨nat_len (show 2 ≤ 1000 by decide), _, .inr rfl, ?_⟩
  refine WF.ind _ (fun i l => Has l [("rules", .v (.lst (rs.map ruleV))), ("records", .v (.lst (rs.map recOf))), ("book", .v (bookV (rowS mode) mode (rs.map recOf)))]) ⟨rfl, rfl, rfl, trivial⟩ (fun i u l hu hl => ?_) (fun l hl => ?_)
  · obtain ⟨m, rfl, q0, q1⟩ : ∃ m, u = .int m ∧ 0 ≤ m ∧ m < 65536 := by
      match i, hu with
      | 0, hu => cases hu; exact ⟨_, rfl, m0, m1⟩
      | 1, hu => cases hu; exact ⟨_, rfl, (xor_ok m0 m1).1⟩
      | n + 2, hu => simp at hu
    refine WAs.wk _ hl (WAs_name ?_)
    refine WS_cons (WX_assign (WE_def (by k_is) (by k_is) (WE_v (by rfl) ?_)))
    refine (filemode_s G ?_).room (by omega)
    rw [fm_eq q0 q1]
    refine WS_cons (WX_if (WT_cmp (WE_v (by rfl) (WE_def (by k_is) (by k_is) (WE_v (by rfl) ?_)))))
    refine (row_s G q0 q1 (C_neS ?_)).room (by omega)
    rw [show (rowS m != rowS m) = false from bne_self_eq_false _]
    refine ⟨fun e => (by cases e), fun _ => ?_⟩
    refine WS_nil ?_
    obtain ⟨x0, x1⟩ := (xor_ok q0 q1).2
    obtain ⟨s1, s2, s3⟩ := row_len q0 q1
    obtain ⟨y1, y2, y3⟩ := row_len x0 x1
    refine WS_cons (WX_tassignN "#m" (WEn_tri (WE_bin (WE_bin (WE_v (by rfl) (WE_str (A_cat ?_ ?_)))))) (fun _ => rfl) (fun F => by rfl))
    · rw [strLen_append, s1]; exact nat_len (by decide)
    refine WE_def (by k_is) (by k_is) (WE_bin (WE_v (by rfl) (WE_int (A_xor ?_))))
    refine (filemode_s G ?_).room (by omega)
    rw [fm_eq x0 x1]
    refine A_cat ?_ ?_
    · rw [strLen_append, strLen_append, s1, y1]; exact nat_len (by decide)
    refine WE_def (by k_is) (by k_is) (WE_v (by rfl) ?_)
    refine (triples_s G fun a => ?_).room (by omega)
    refine WAs_tup ?_
    refine WAs_name ?_
    refine WAs_name ?_
    refine WAs_name ?_
    change WS _ _ _ (put (put (put _ "name" (.v (.str (nameS m)))) "triples" (.v (.lst ((triL m).map .str)))) "met" (.v (.raw (.ref a)))) _ _
    obtain ⟨⟨rest, n1⟩, n2⟩ := name_split q0 q1
    have n3 : (nameS m).length ≤ 1000 := by unfold nameS; rw [strLen_append, strLen_append, s1, y1]; decide
    have hff : ∀ p ∈ rs, ∀ g ∈ p.1, fits1 (Txt.lower (rowS m)) g = pF (triL m) g := fun p hp g hg => fits_eq q0 q1 ((ok.ags p hp).2.2 g hg)
    have n4 : (Txt.lower (rowS m)).length ≤ 1000 := by rw [s2]; decide
    generalize nameS m = name at n1 n2 n3
    generalize triL m = T at hff
    generalize rowS m = row at hff n1 n4
    generalize rowS mode = rowM
    generalize hnm : Txt.lower row = nm at hff n4
    refine WS_cons ?_
    refine WX_forI (WI_zip (by k_is) (WE_v (by rfl) (WE_v (by rfl) ⟨_, _, .inl rfl, .inl rfl, ?_⟩)))
    refine WF.ind _ (fun i l => Has l [("rules", .v (.lst (rs.map ruleV))), ("records", .v (.lst (rs.map recOf))), ("book", .v (bookV rowM mode (rs.map recOf))), ("name", .v (.str name)), ("row", .v (.str row)), ("triples", .v (.lst (T.map .str))),
      ("met", .v (.raw (.ref a))), ("#m", .gl a (((rs.take i).filter (fitR nm)).map fun p => .bool p.2))]) ⟨rfl, rfl, rfl, rfl, rfl, rfl, rfl, rfl, trivial⟩ (fun j v l hv hl => ?_) (fun l hl => ?_)
    · obtain ⟨x, y, hx, hy, rfl⟩ := zipV_get hv
      rw [List.getElem?_map] at hx hy
      obtain ⟨p, hp, rfl⟩ := Option.map_eq_some_iff.mp hx
      obtain ⟨p', hp', rfl⟩ := Option.map_eq_some_iff.mp hy
      rw [hp] at hp'
      obtain rfl : p = p' := Option.some.inj hp'
      have hpm : p ∈ rs := List.mem_of_getElem? hp
      obtain ⟨ag1, ag2, ag3⟩ := ok.ags p hpm
      have hf := hff p hpm
      have htk : (rs.take (j + 1)).filter (fitR nm) = (rs.take j).filter (fitR nm) ++ (if fitR nm p = true then [p] else []) := by
        rw [List.take_add_one, hp, List.filter_append]
        congr 1
        show List.filter (fitR nm) [p] = _
        rw [List.filter_cons]; rfl
      refine WAs.wk _ hl (WAs_tup ?_)
      refine WAs_tup ?_
      refine WAs_name ?_
      refine WAs_name ?_
      refine WAs_name ?_
      refine WS_cons (WX_assignComp (CompOk.of (by kernel_rfl)) [("triples", .v (.lst (T.map .str)))] ⟨⟨by rfl, ⟨_, rfl⟩, by kernel_rfl⟩, trivial⟩ (WIc_list (WE_v (by rfl) ⟨_, rfl, ?_, ?_⟩)) (fun F => by rfl))
      · rw [List.length_map]; exact nat_len (by omega)
      refine CompT.map V.str (fits1 nm) V.str _ [] (fun g hg => ⟨_, TB.name, ?_, ?_, ?_⟩) ?_
      · intro q hq
        rw [List.mem_singleton.mp hq]; rfl
      · exact ndB_nodup rfl
      · have hg1 := hf g hg
        unfold pF at hg1
        refine WT_and2 (WT_cmp (WE_v (by rfl) (WE_str (C_neS ?_))))
        refine ⟨fun c0 => ?_, fun c0 => ?_⟩
        · rw [c0] at hg1
          exact ⟨hg1.symm, fun e => by cases e⟩
        · rw [c0] at hg1
          refine WT_cmp (WE_meth (WE_v (by rfl) ?_))
          refine GM_str F.slot_str_lower F.type_str_lower ?_
          refine And.intro ?_ ?_
          · exact rfl
          refine M_lower (notLong (Nat.le_trans (ag3 g hg).llen (by decide))) ?_
          refine WE_v (by rfl) (C_inStrs ?_)
          exact ⟨hg1.symm, fun _ => WE_v (by rfl) rfl⟩
      rw [List.nil_append]
      have hokf : (p.1.filter (fits1 nm)).all PyData.strOk = true := List.all_eq_true.mpr fun g hg => (ag3 g (List.mem_filter.mp hg).1).ok
      refine WS_cons (WX_assign (WE_meth (WE_v (by rfl) ?_)))
      refine GM_ins f1 f2 f3 (by decide +kernel) ?_
      refine And.intro ?_ ?_
      · show keepIn (Mine.K0 w.params) (.ref 59) = true; k_is
      refine WE_v (by rfl) ?_
      refine (applies_s (ags := p.1) (v := p.2) G hC n1 hnm n3 n2 n4 (fun g hg => Nat.le_trans (ag3 g hg).llen (by decide)) ?_).room (by omega)
      refine WS_cons (WX_if (WT_or2 (WT_cmp (WE_v (by rfl) (WE_cmp (WE_v (by rfl) (WE_list ?_)))))))
      refine ⟨nat_len (Nat.zero_le _), ?_⟩
      refine C_neNil hokf (C_neB ?_)
      rw [← any_filter, show (p.1.any (fits1 nm) != p.1.any (fits1 nm)) = false from bne_self_eq_false _]
      refine ⟨fun e => (by cases e), fun _ => ?_⟩
      refine WT_not (WT_val (WE_bi (by k_is) bootIsi rfl (WE_v (by rfl) ?_)))
      refine WE_b (by k_is) bootBool (B_isi_bool (T_bool ⟨fun e => (by cases e), fun _ => ?_⟩))
      refine WS_nil ?_
      refine WS_cons (WX_if (WT_or2 (WT_cmp (WE_meth (WE_v (by rfl) ?_)))))
      refine GM_ins f1 f2 f3 (by decide +kernel) ?_
      refine And.intro ?_ ?_
      · show keepIn (Mine.K0 w.params) (.ref 59) = true; k_is
      refine WE_none ?_
      refine (appStar_s (ags := p.1) (v := p.2) G hC ?_).room (by omega)
      refine WE_cmp (WE_str (WE_v (by rfl) (C_inStrs (C_neB ?_))))
      rw [show (p.1.any (· == Str.ofString "*") != p.1.any (· == Str.ofString "*")) = false from bne_self_eq_false _]
      refine ⟨fun e => (by cases e), fun _ => ?_⟩
      refine WT_cmp (WE_comp (CompOk.of (by kernel_rfl)) [("row", .v (.str row))] ⟨⟨by rfl, ⟨_, rfl⟩, by kernel_rfl⟩, trivial⟩ (WIc_list (WE_v (by rfl) ⟨_, rfl, ?_, ?_⟩)))
      · rw [List.length_map]; exact nat_len (by omega)
      refine CompT.map V.str (fits1 nm) V.str _ [] (fun g hg => ⟨_, TB.name, ?_, ?_, ?_⟩) ?_
      · intro q hq
        rw [List.mem_singleton.mp hq]; rfl
      · exact ndB_nodup rfl
      · refine WT_val (WE_def (by k_is) (by k_is) (WE_v (by rfl) (WE_v (by rfl) ?_)))
        by_cases hst : g = "*"
        · subst hst
          exact takes_star G (T_bool ⟨rfl, fun e => by cases e⟩)
        · obtain ⟨a1, b1', c1, ha, hb, hc, e, hne⟩ := (ag3 g hg).sig hst
          have hfe : fits1 nm g = Txt.contains (Txt.lower row) ⟨#[a1, b1', c1]⟩ := by
            unfold fits1
            rw [e, hnm]
            have : (g != "*") = true := by simpa using hst
            rw [this]; rfl
          refine takes_s G (ls_a ha) (ls_b hb) (ls_c hc) e (by simpa using hst) (by rw [hnm]; exact n4) (T_bool ⟨hfe.symm, fun _ => WE_v (by rfl) rfl⟩)
      rw [List.nil_append]
      refine WE_v (by rfl) (C_neSelf ?_ ?_ ?_ ?_)
      · exact (strs_dat _).1
      · exact (strs_dat _).2.1.trans hokf
      · exact Nat.le_trans (Nat.succ_le_succ (strs_dat _).2.2) (by decide)
      refine ⟨fun e => (by cases e), fun _ => ?_⟩
      refine WS_nil ?_
      have hfl : (p.1.filter (fits1 nm)).length ≤ 30 := Nat.le_trans (List.length_filter_le _ _) (by omega)
      refine WS_cons (WX_if (WT_val (WE_v (by rfl) (T_lst ?_ ?_))))
      · rw [List.length_map]; exact nat_len (by omega)
      rw [show ((p.1.filter (fits1 nm)).map V.str).isEmpty = (p.1.filter (fits1 nm)).isEmpty by cases p.1.filter (fits1 nm) <;> rfl, ← any_filter]
      refine ⟨fun c0 => ?_, fun c0 => ?_⟩
      · refine WS_cons (WX_appendG "#m" (by rfl) (WE_v (by rfl) rfl) (WE_v (by rfl) ⟨?_, ?_⟩))
        · rw [List.length_map]; exact nat_len (Nat.le_trans (List.length_filter_le _ _) (by rw [List.length_take]; omega))
        repeat refine WS_nil ?_
        refine ⟨rfl, rfl, rfl, rfl, rfl, rfl, rfl, ?_, trivial⟩
        rw [htk, if_pos (show fitR nm p = true from c0), List.map_append]; rfl
      · repeat refine WS_nil ?_
        refine ⟨rfl, rfl, rfl, rfl, rfl, rfl, rfl, ?_, trivial⟩
        rw [htk, if_neg (by rw [show fitR nm p = p.1.any (fits1 nm) from rfl, c0]; decide), List.append_nil]; rfl
    · rw [zipV_length, List.length_map, List.length_map, Nat.min_self, List.take_length] at hl
      refine WS_nil (WS.wk _ hl ?_)
      have hmet : (rs.filter (fitR nm)).map (fun p => V.bool p.2) = ((rs.filter (fitR nm)).map (fun p : List Str × Bool => p.2)).map .bool := by rw [List.map_map]; rfl
      rw [hmet]
      refine WS_fill "#m" "met" (.v (.lst (((rs.filter (fitR nm)).map (fun p : List Str × Bool => p.2)).map .bool))) (by rfl) (by rfl) (fun z hz => turn_v hz) ?_
      refine WS_cons (WX_assign (WE_meth (WE_v (by rfl) ?_)))
      refine GM_ins f4 f5 f6 (by decide +kernel) ?_
      refine And.intro ?_ ?_
      · show keepIn (Mine.K0 w.params) (.ref 66) = true; k_is
      refine WE_v (by rfl) ?_
      refine (allow_s G hC n1 hnm n3 n2 n4 (fun p hp g hg => Nat.le_trans ((ok.ags p hp).2.2 g hg).llen (by decide)) ?_).room (by omega)
      have hrf : (rs.filter (fitR nm)).length ≤ 30 := Nat.le_trans (List.length_filter_le _ _) (by omega)
      generalize rs.filter (fitR nm) = fs at hrf
      refine WS_cons (WX_if (WT_or2 (WT_cmp (WE_v (by rfl) (WE_or2 (WE_not (WE_v (by rfl) (T_lst ?_ ?_))))))))
      · rw [List.length_map, List.length_map]; exact nat_len (by omega)
      have ab : ∀ b : Bool, b = allowB fs → (allowB fs != b) = false := fun b e => by rw [e]; exact bne_self_eq_false _
      have fin : ∀ (b : Bool), b = allowB fs → (allowB fs != b) = false := ab
      cases hfs : fs with
      | nil =>
        subst hfs
        refine T_bool ⟨fun _ => C_neB ?_, fun e => (by cases e)⟩
        change IsB _ (V.bool false)
        refine ⟨fun e => (by cases e), fun _ => ?_⟩
        refine WT_not (WT_val (WE_bi (by k_is) bootIsi rfl (WE_v (by rfl) ?_)))
        refine WE_b (by k_is) bootBool (B_isi_bool (T_bool ⟨fun e => (by cases e), fun _ => ?_⟩))
        repeat refine WS_nil ?_
        exact ⟨rfl, rfl, rfl, trivial⟩
      | cons f0 ft =>
        rw [← hfs]
        have hemp : fs.isEmpty = false := by rw [hfs]; rfl
        have he2 : ((fs.map (fun p : List Str × Bool => p.2)).map V.bool).isEmpty = false := by rw [hfs]; rfl
        rw [he2]
        refine T_bool ⟨fun e => (by cases e), fun _ => ?_⟩
        refine WE_cmp (WE_bool (WE_v (by rfl) (C_inBools (C_neB ?_))))
        rw [fin _ (by unfold allowB; rw [hemp, List.any_map]; simp [Function.comp_def])]
        refine ⟨fun e => (by cases e), fun _ => ?_⟩
        refine WT_not (WT_val (WE_bi (by k_is) bootIsi rfl (WE_v (by rfl) ?_)))
        refine WE_b (by k_is) bootBool (B_isi_bool (T_bool ⟨fun e => (by cases e), fun _ => ?_⟩))
        repeat refine WS_nil ?_
        exact ⟨rfl, rfl, rfl, trivial⟩
  · refine WS_nil ?_
    exact WS_cons (WX_ret (WE_bool h))
end Mine

end
section
open PySem PySem.W PySem.Calls PyProof.Rows
set_option linter.unusedVariables false
set_option maxRecDepth 100000
namespace Mine
theorem ints_rz {C : Addr} {z : Zp} : ∀ {xs : List Value} {is : List Int}, IntsAre xs is → RzL C z (is.map .int) xs := by
  intro xs is h
  induction h with
  | nil => exact rfl
  | cons n t _ ih => exact ⟨_, _, rfl, ⟨t, rfl⟩, ih⟩
theorem finish {w : World} {s₁ : Shared} {mg mb : Str → Option Value} (X : (Mine.K0 w.params).In s₁.heap) (g : s₁.heap.Ns mainGlobals mg) (b : s₁.heap.Ns builtinsNs mb) (nl : s₁.heap.NoLimit) (bi : ∀ x : Str, x ≠ "__name__" → mb x = bootBuiltins x)
    {a : Addr} {xs : List Value} {is : List Int} (hL : s₁.heap.IsList a xs.toArray) (hi : IntsAre xs is) (hlen : is.length ≤ 63) :
    wpAny (model PySem.Challenge.rw_in0278_01.prog w) callerA (call (.ref 212) [.ref a]) (fun x s' => x = .bool true ∧ (∀ b o, s₁.heap.get? b = some o → s'.heap.get? b = some o) ∧ s'.os = s₁.os ∧ s'.gens = s₁.gens) (fun _ _ => False) s₁ := by
  let G : Gl PySem.Challenge.rw_in0278_01.prog w (Mine.K0 w.params) :=
    { zB := fun b => s₁.heap.get? b, C := 69, mg := mg, mb := mb, inK := fun a o e => X a o e, nolim := fun h k => nl.keeps k, gNs := fun h k => g.keeps k, bNs := fun h k => b.keeps k,
      gK := fun x v e => mg_of X g e, gB := fun x v e hv hn => ⟨mg_none_of X g e, (bi x hn).trans hv⟩ }
  obtain ⟨o, ho, hc, n, hd⟩ := hL
  have rz : Rz G.C (fun b => s₁.heap.get? b) (.lst (is.map .int)) (.ref a) := ⟨a, xs, rfl, ⟨o, n, ho, hc, rfl, hd⟩, ints_rz hi⟩
  have := law_s G rfl hlen (Q := fun v => v = .bool true) rfl callerA (fun b => s₁.heap.get? b) s₁ [.ref a] rfl (by unfold Room; decide) (fun _ _ e => e) (fun _ _ e => e) ⟨_, _, rfl, rz, rfl⟩
  refine noE this fun x s' ⟨z', v, ex, rx, hv⟩ => ?_
  subst hv
  exact ⟨rx, ex.keep, ex.os, ex.gens⟩
end Mine

end
section
open PySem PySem.W PySem.Calls PyProof.Rows
open PySem.W.X
set_option maxRecDepth 100000
namespace Mine
theorem lk1 : (sreFenced pG.main && ((moduleNames pG.main.body).isEmpty || lookedIntoSs (moduleNames pG.main.body) pG.main.body)) = true := by kernel_rfl
theorem lk2 : namesResolve pG = true := by kernel_rfl
theorem lk3 : pG.boundNames.all (fun n => !worldNames.contains n) = true := by kernel_rfl
theorem lk4 : noRoadLSs { strict := !(importedModules pG.main.body).all cThrough.contains, foot := none, bare := (["vars", "dir", "locals"] : List Str).filter (readsOut pG pG.main.body) } pG.main.body = true := by kernel_rfl
theorem lk5 : (namesMeet pG pG.main.body fun _ n => attrL n) = true := by kernel_rfl
theorem looks_open : looksOpen pG = true := look_both (look_both (look_both (look_both lk1 lk2) lk3) lk4) lk5
theorem said_b : PySem.Challenge.rw_in0278_01.row.partSaid = true := by
  unfold OpenRow.partSaid
  rw [looks_open]
  kernel_rfl
theorem said_a : PySem.Challenge.rw_in0278_01.row.wellSaid = true := by
  unfold OpenRow.wellSaid
  rw [said_b]
  kernel_rfl
theorem said1 : PySem.Challenge.rw_in0278_01.wellSaid = true := by
  unfold OpenLaw.wellSaid
  rw [said_a]
  kernel_rfl
theorem bare1 : (chainsOk q1 && opensWell PySem.Challenge.rw_in0278_01.row.prog && (frees PySem.Challenge.rw_in0278_01.row.toRowW && PySem.Challenge.rw_in0278_01.row.within.isEmpty)) = true := by kernel_rfl
end Mine
set_option maxHeartbeats 8000000 in
theorem PySem.Challenge.cw_in0278_01_holds : PySem.Challenge.rw_in0278_01.Holds := by
  w_on
  refine holds_law (l := PySem.Challenge.rw_in0278_01) Mine.said1 fun said => ?_
  refine holds_open (q := Mine.q1) (loose := Mine.loose1) (Xt := Mine.X1) (XP := XL Mine.q1 []) (Yf := Hook.obs Mine.H0) (Ya := Hook.val Mine.H0) (YP := Hook.says Mine.H0) (N := Mine.N1) Mine.left1 (Hook.of Mine.H0) (Hook.keeps Mine.H0) (fun s e => xl_of s (Bool.and_eq_true_iff.mp e).1) XL.keeps (by rfl) (by rfl) (by rfl)
    (fun s e => recFacts_of (Bool.and_eq_true_iff.mp e).2) (by rfl) said Mine.bare1 ⟨rfl, rfl, rfl, rfl, rfl, by decide +kernel⟩ ?hw ?hc
  case hw => w_witness2
  k_fill
  intro w s₀ s₁ mg mb G Y fa o pm cd doc dV kV ho hd hcd hD hmg hg args vals as hpre hlay hrd hwl hlo
  have gg := hg
  have KX : (Mine.K0 w.params).In s₁.heap := kIn_of Y
  refine Ground.open G ?_
  intro T B D TE TW
  wrow_args hpre hlay hrd hwl hlo
  x_fa T KX hmg
  all_lens
  rename_i is h0 h1 h2 h3 h4 as1 as2 a xs as3 hL ra w1 r0 hr hcond hcond2 hi hb
  refine Mine.noE (Mine.finish KX T.g T.b T.nolimit T.builtins hL hi (by omega)) fun x s' e => ?_
  obtain ⟨rfl, kp, eo, eg⟩ := e
  refine ⟨.inl ⟨_, _, [], rfl, fun _ => rfl, ReadsW.bool true, ?_, fun _ => ⟨List.nodup_nil, fun _ hm => (nomatch hm)⟩⟩, .of_keep kp, eo, .of_eq (eg.trans gg)⟩
  first | rfl | wrow_post

end
