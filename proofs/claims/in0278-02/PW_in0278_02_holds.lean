import PyProof.Rows.All
import Wide.All
import OpenK.AllK
import Wide.FinOn
import PySem.Challenge.RW_in0278_02
set_option Elab.async false
section
open PySem PySem.W PySem.Calls PyProof.Rows
set_option maxRecDepth 100000
namespace Mine
/-! The written part of the top: the objects that the law comes to. The functions' texts are looked up in the row. -/
noncomputable def dP : Stmt → Arguments
  | .FunctionDef _ a _ _ _ _ _ _ _ _ => a
  | _ => { posonlyargs := [], args := [], vararg := none, kwonlyargs := [], kw_defaults := [], kwarg := none, defaults := [] }
noncomputable def dB : Stmt → List Stmt
  | .FunctionDef _ _ b _ _ _ _ _ _ _ => b
  | _ => []
noncomputable def dS : Stmt → Scope
  | .FunctionDef _ _ _ _ _ _ s _ _ _ => s
  | _ => { kind := .function, names := [], isGenerator := false, isCoroutine := false, more := [] }
noncomputable def cB : Stmt → List Stmt
  | .ClassDef (body := b) .. => b
  | _ => []
noncomputable def dT (i : Nat) : Stmt := (PySem.Challenge.pw_in0278_02.main.body[i]?).getD default
noncomputable def mT (i j : Nat) : Stmt := ((cB (dT i))[j]?).getD default
noncomputable def K0 (P : Params) : Frag :=
  (nat_lit 2, ⟨.none, none, (.dict #[⟨PyData.keyHash P (Str.ofString "\x69mport.loaded._sre"), .str (Str.ofString "\x69mport.loaded._sre") 183, (.bool true)⟩, ⟨PyData.keyHash P (Str.ofString "class._frozen_importlib.BuiltinImporter"), .str (Str.ofString "class._frozen_importlib.BuiltinImporter") 185, (.ref 14)⟩, ⟨PyData.keyHash P (Str.ofString "watched.\x69mport"), .str (Str.ofString "watched.\x69mport") 206, (.ref 18)⟩, ⟨PyData.keyHash P (Str.ofString "class._frozen_importlib.ModuleSpec"), .str (Str.ofString "class._frozen_importlib.ModuleSpec") 216, (.ref 22)⟩, ⟨PyData.keyHash P (Str.ofString "sys.modules.booked-epoch"), .str (Str.ofString "sys.modules.booked-epoch") 245, (.int (3) 0)⟩, ⟨PyData.keyHash P (Str.ofString "\x69mport.later-laid._sre"), .str (Str.ofString "\x69mport.later-laid._sre") 270, (.bool true)⟩, ⟨PyData.keyHash P (Str.ofString "watched.library"), .str (Str.ofString "watched.library") 272, (.ref 27)⟩, ⟨PyData.keyHash P (Str.ofString "watched.library-objects"), .str (Str.ofString "watched.library-objects") 0, (.str (Str.ofString "\x0c") 0)⟩, ⟨PyData.keyHash P (Str.ofString "watched.library-deep._sre"), .str (Str.ofString "watched.library-deep._sre") 273, (.str (Str.ofString "\x04\x00\x00\x0b\x04\x00\x00\x0b\x04\x00\x00\x03\x04\x00\x00\x0b\x08\x04dict\x02") 0)⟩] 9), #[]⟩) ::
  (nat_lit 3, ⟨(.type "dict"), none, (.dict #[⟨PyData.keyHash P (Str.ofString "__name__"), .str (Str.ofString "__name__") 165, (.str (Str.ofString "law_in0278_02") 669)⟩, ⟨PyData.keyHash P (Str.ofString "__doc__"), .str (Str.ofString "__doc__") 166, .none⟩, ⟨PyData.keyHash P (Str.ofString "__package__"), .str (Str.ofString "__package__") 167, .none⟩, ⟨PyData.keyHash P (Str.ofString "__loader__"), .str (Str.ofString "__loader__") 168, (.builtin "__main__.__loader__#opaque")⟩, ⟨PyData.keyHash P (Str.ofString "__spec__"), .str (Str.ofString "__spec__") 169, .none⟩, ⟨PyData.keyHash P (Str.ofString "__annotations__"), .str (Str.ofString "__annotations__") 170, (.ref 6)⟩, ⟨PyData.keyHash P (Str.ofString "__builtins__"), .str (Str.ofString "__builtins__") 171, (.ref 4)⟩, ⟨PyData.keyHash P (Str.ofString "__file__"), .str (Str.ofString "__file__") 173, (.str (Str.ofString "/claim/cut.py") 172)⟩, ⟨PyData.keyHash P (Str.ofString "__cached__"), .str (Str.ofString "__cached__") 174, .none⟩, ⟨PyData.keyHash P (Str.ofString "_sre"), .str (Str.ofString "_sre") 275, (.ref 12)⟩, ⟨PyData.keyHash P (Str.ofString "Entry"), .str (Str.ofString "Entry") 345, (.ref 69)⟩, ⟨PyData.keyHash P (Str.ofString "_twin_re_1"), .str (Str.ofString "_twin_re_1") 385, (.ref 78)⟩, ⟨PyData.keyHash P (Str.ofString "translate"), .str (Str.ofString "translate") 394, (.ref 85)⟩, ⟨PyData.keyHash P (Str.ofString "_special_chars_map"), .str (Str.ofString "_special_chars_map") 542, (.ref 87)⟩, ⟨PyData.keyHash P (Str.ofString "escape"), .str (Str.ofString "escape") 549, (.ref 97)⟩, ⟨PyData.keyHash P (Str.ofString "_translate"), .str (Str.ofString "_translate") 570, (.ref 104)⟩, ⟨PyData.keyHash P (Str.ofString "_join_translated_parts"), .str (Str.ofString "_join_translated_parts") 583, (.ref 111)⟩, ⟨PyData.keyHash P (Str.ofString "S_IFMT"), .str (Str.ofString "S_IFMT") 592, (.ref 118)⟩, ⟨PyData.keyHash P (Str.ofString "S_IFDIR"), .str (Str.ofString "S_IFDIR") 594, (.int (16384) 593)⟩, ⟨PyData.keyHash P (Str.ofString "S_IFCHR"), .str (Str.ofString "S_IFCHR") 596, (.int (8192) 595)⟩, ⟨PyData.keyHash P (Str.ofString "S_IFBLK"), .str (Str.ofString "S_IFBLK") 598, (.int (24576) 597)⟩, ⟨PyData.keyHash P (Str.ofString "S_IFREG"), .str (Str.ofString "S_IFREG") 600, (.int (32768) 599)⟩, ⟨PyData.keyHash P (Str.ofString "S_IFIFO"), .str (Str.ofString "S_IFIFO") 602, (.int (4096) 601)⟩, ⟨PyData.keyHash P (Str.ofString "S_IFLNK"), .str (Str.ofString "S_IFLNK") 604, (.int (40960) 603)⟩, ⟨PyData.keyHash P (Str.ofString "S_IFSOCK"), .str (Str.ofString "S_IFSOCK") 606, (.int (49152) 605)⟩, ⟨PyData.keyHash P (Str.ofString "S_ISUID"), .str (Str.ofString "S_ISUID") 608, (.int (2048) 607)⟩, ⟨PyData.keyHash P (Str.ofString "S_ISGID"), .str (Str.ofString "S_ISGID") 610, (.int (1024) 609)⟩, ⟨PyData.keyHash P (Str.ofString "S_ISVTX"), .str (Str.ofString "S_ISVTX") 612, (.int (512) 611)⟩, ⟨PyData.keyHash P (Str.ofString "S_IRUSR"), .str (Str.ofString "S_IRUSR") 614, (.int (256) 613)⟩, ⟨PyData.keyHash P (Str.ofString "S_IWUSR"), .str (Str.ofString "S_IWUSR") 616, (.int (128) 615)⟩, ⟨PyData.keyHash P (Str.ofString "S_IXUSR"), .str (Str.ofString "S_IXUSR") 618, (.int (64) 617)⟩, ⟨PyData.keyHash P (Str.ofString "S_IRGRP"), .str (Str.ofString "S_IRGRP") 620, (.int (32) 619)⟩, ⟨PyData.keyHash P (Str.ofString "S_IWGRP"), .str (Str.ofString "S_IWGRP") 622, (.int (16) 621)⟩, ⟨PyData.keyHash P (Str.ofString "S_IXGRP"), .str (Str.ofString "S_IXGRP") 624, (.int (8) 623)⟩, ⟨PyData.keyHash P (Str.ofString "S_IROTH"), .str (Str.ofString "S_IROTH") 626, (.int (4) 625)⟩, ⟨PyData.keyHash P (Str.ofString "S_IWOTH"), .str (Str.ofString "S_IWOTH") 628, (.int (2) 627)⟩, ⟨PyData.keyHash P (Str.ofString "S_IXOTH"), .str (Str.ofString "S_IXOTH") 630, (.int (1) 629)⟩, ⟨PyData.keyHash P (Str.ofString "_filemode_table"), .str (Str.ofString "_filemode_table") 656, (.ref 151)⟩, ⟨PyData.keyHash P (Str.ofString "filemode"), .str (Str.ofString "filemode") 668, (.ref 158)⟩, ⟨PyData.keyHash P (Str.ofString "_law_asks"), .str (Str.ofString "_law_asks") 680, (.ref 165)⟩, ⟨PyData.keyHash P (Str.ofString "_law_reach"), .str (Str.ofString "_law_reach") 690, (.ref 172)⟩, ⟨PyData.keyHash P (Str.ofString "_law_rule"), .str (Str.ofString "_law_rule") 700, (.ref 179)⟩, ⟨PyData.keyHash P (Str.ofString "_law_mode"), .str (Str.ofString "_law_mode") 712, (.ref 186)⟩, ⟨PyData.keyHash P (Str.ofString "_law_rules"), .str (Str.ofString "_law_rules") 729, (.ref 193)⟩, ⟨PyData.keyHash P (Str.ofString "_law_narrowest"), .str (Str.ofString "_law_narrowest") 742, (.ref 200)⟩, ⟨PyData.keyHash P (Str.ofString "_law_answers"), .str (Str.ofString "_law_answers") 748, (.ref 205)⟩, ⟨PyData.keyHash P (Str.ofString "law"), .str (Str.ofString "law") 754, (.ref 210)⟩] 47), #[]⟩) ::
  (nat_lit 39, ⟨(.type "tuple"), none, (.seq #[] 0), #[]⟩) ::
  (nat_lit 41, ⟨(.type "tuple"), none, (.seq #[(.str (Str.ofString "self") 299)] 0), #[]⟩) ::
  (nat_lit 42, ⟨(.type "tuple"), none, (.seq #[] 0), #[]⟩) ::
  (nat_lit 44, ⟨(.type "code"), none, (.fields #[(.str (Str.ofString "__init__") 296), (.str (Str.ofString "Entry.__init__") 297), (.str (Str.ofString "/claim/cut.py") 298), (.int (5) 0), (.int (1) 0), (.int (0) 0), (.int (0) 0), (.int (3) 0), (.ref 39), (.bool true), (.int (276) 0), (.ref 40), .none, (.ref 41), (.ref 42), (.ref 43), (.int (300) 0), (.int (5) 0), (.str (Str.ofString "/claim/cut.py") 301)]), #[]⟩) ::
  (nat_lit 45, ⟨(.type "function"), none, (.func { name := (Str.ofString "__init__"), qualname := (Str.ofString "Entry.__init__"), params := dP (mT 2 0), body := .stmts (dB (mT 2 0)), scope := dS (mT 2 0), globals := 3, closure := [], defaults := .none, kwdefaults := .none, doc := .none, pyModule := (.str (Str.ofString "cpy313.urllib.robotparser") 282), annotations := none, code := (.ref 44), closureTuple := .none, builtins := 0 }), #[]⟩) ::
  (nat_lit 46, ⟨(.type "tuple"), none, (.seq #[] 0), #[]⟩) ::
  (nat_lit 48, ⟨(.type "tuple"), none, (.seq #[(.str (Str.ofString "self") 306), (.str (Str.ofString "ret") 307), (.str (Str.ofString "agent") 308), (.str (Str.ofString "rate") 309)] 0), #[]⟩) ::
  (nat_lit 49, ⟨(.type "tuple"), none, (.seq #[] 0), #[]⟩) ::
  (nat_lit 51, ⟨(.type "code"), none, (.fields #[(.str (Str.ofString "__str__") 303), (.str (Str.ofString "Entry.__str__") 304), (.str (Str.ofString "/claim/cut.py") 305), (.int (11) 0), (.int (1) 0), (.int (0) 0), (.int (0) 0), (.int (3) 0), (.ref 46), (.bool true), (.int (276) 0), (.ref 47), .none, (.ref 48), (.ref 49), (.ref 50), (.int (310) 0), (.int (11) 0), (.str (Str.ofString "/claim/cut.py") 311)]), #[]⟩) ::
  (nat_lit 52, ⟨(.type "function"), none, (.func { name := (Str.ofString "__str__"), qualname := (Str.ofString "Entry.__str__"), params := dP (mT 2 1), body := .stmts (dB (mT 2 1)), scope := dS (mT 2 1), globals := 3, closure := [], defaults := .none, kwdefaults := .none, doc := .none, pyModule := (.str (Str.ofString "cpy313.urllib.robotparser") 282), annotations := none, code := (.ref 51), closureTuple := .none, builtins := 0 }), #[]⟩) ::
  (nat_lit 53, ⟨(.type "tuple"), none, (.seq #[] 0), #[]⟩) ::
  (nat_lit 55, ⟨(.type "tuple"), none, (.seq #[(.str (Str.ofString "self") 316), (.str (Str.ofString "useragent") 317), (.str (Str.ofString "agent") 318)] 0), #[]⟩) ::
  (nat_lit 56, ⟨(.type "tuple"), none, (.seq #[] 0), #[]⟩) ::
  (nat_lit 58, ⟨(.type "code"), none, (.fields #[(.str (Str.ofString "applies_to") 313), (.str (Str.ofString "Entry.applies_to") 314), (.str (Str.ofString "/claim/cut.py") 315), (.int (28) 0), (.int (2) 0), (.int (0) 0), (.int (0) 0), (.int (3) 0), (.ref 53), (.bool true), (.int (276) 0), (.ref 54), .none, (.ref 55), (.ref 56), (.ref 57), (.int (319) 0), (.int (28) 0), (.str (Str.ofString "/claim/cut.py") 320)]), #[]⟩) ::
  (nat_lit 59, ⟨(.type "function"), none, (.func { name := (Str.ofString "applies_to"), qualname := (Str.ofString "Entry.applies_to"), params := dP (mT 2 2), body := .stmts (dB (mT 2 2)), scope := dS (mT 2 2), globals := 3, closure := [], defaults := .none, kwdefaults := .none, doc := .none, pyModule := (.str (Str.ofString "cpy313.urllib.robotparser") 282), annotations := none, code := (.ref 58), closureTuple := .none, builtins := 0 }), #[]⟩) ::
  (nat_lit 60, ⟨(.type "tuple"), none, (.seq #[] 0), #[]⟩) ::
  (nat_lit 62, ⟨(.type "tuple"), none, (.seq #[(.str (Str.ofString "self") 325), (.str (Str.ofString "filename") 326), (.str (Str.ofString "best_match") 327), (.str (Str.ofString "allowance") 328), (.str (Str.ofString "line") 329), (.str (Str.ofString "m") 330)] 0), #[]⟩) ::
  (nat_lit 63, ⟨(.type "tuple"), none, (.seq #[] 0), #[]⟩) ::
  (nat_lit 65, ⟨(.type "code"), none, (.fields #[(.str (Str.ofString "allowance") 322), (.str (Str.ofString "Entry.allowance") 323), (.str (Str.ofString "/claim/cut.py") 324), (.int (39) 0), (.int (2) 0), (.int (0) 0), (.int (0) 0), (.int (3) 0), (.ref 60), (.bool true), (.int (276) 0), (.ref 61), .none, (.ref 62), (.ref 63), (.ref 64), (.int (331) 0), (.int (39) 0), (.str (Str.ofString "/claim/cut.py") 332)]), #[]⟩) ::
  (nat_lit 66, ⟨(.type "function"), none, (.func { name := (Str.ofString "allowance"), qualname := (Str.ofString "Entry.allowance"), params := dP (mT 2 3), body := .stmts (dB (mT 2 3)), scope := dS (mT 2 3), globals := 3, closure := [], defaults := .none, kwdefaults := .none, doc := .none, pyModule := (.str (Str.ofString "cpy313.urllib.robotparser") 282), annotations := none, code := (.ref 65), closureTuple := .none, builtins := 0 }), #[]⟩) ::
  (nat_lit 67, ⟨(.type "tuple"), none, (.seq #[(.str (Str.ofString "delay") 334), (.str (Str.ofString "req_rate") 335), (.str (Str.ofString "rulelines") 336), (.str (Str.ofString "useragents") 337)] 0), #[]⟩) ::
  (nat_lit 68, ⟨(.type "dict"), none, (.dict #[⟨PyData.keyHash P (Str.ofString "__module__"), .str (Str.ofString "__module__") 291, (.str (Str.ofString "cpy313.urllib.robotparser") 282)⟩, ⟨PyData.keyHash P (Str.ofString "__firstlineno__"), .str (Str.ofString "__firstlineno__") 295, (.int (3) 294)⟩, ⟨PyData.keyHash P (Str.ofString "__init__"), .str (Str.ofString "__init__") 302, (.ref 45)⟩, ⟨PyData.keyHash P (Str.ofString "__str__"), .str (Str.ofString "__str__") 312, (.ref 52)⟩, ⟨PyData.keyHash P (Str.ofString "applies_to"), .str (Str.ofString "applies_to") 321, (.ref 59)⟩, ⟨PyData.keyHash P (Str.ofString "allowance"), .str (Str.ofString "allowance") 333, (.ref 66)⟩, ⟨PyData.keyHash P (Str.ofString "__static_attributes__"), .str (Str.ofString "__static_attributes__") 338, (.ref 67)⟩, ⟨PyData.keyHash P (Str.ofString "__dict__"), .str (Str.ofString "__dict__") 340, (.ref 70)⟩, ⟨PyData.keyHash P (Str.ofString "__weakref__"), .str (Str.ofString "__weakref__") 342, (.ref 71)⟩, ⟨PyData.keyHash P (Str.ofString "__doc__"), .str (Str.ofString "__doc__") 343, .none⟩] 4), #[]⟩) ::
  (nat_lit 69, ⟨(.type "type"), none, (.cls { name := (Str.ofString "Entry"), bases := [(.type "object")], mro := [(.ref 69), (.type "object")], ns := 68, qualname := (Str.ofString "Entry"), hasDict := true, slotNames := [], subclasses := [], abstract := false, collection := none, hasDel := false }), #[none, none, (some (.str (Str.ofString "Entry") 284)), (some (.str (Str.ofString "Entry") 292)), (some (.builtin "object.__new__")), (some (.bool true))]⟩) ::
  (nat_lit 70, ⟨(.type "getset_descriptor"), none, (.fields #[(.str (Str.ofString "__dict__") 339), (.ref 69), (.builtin "function.__dict__"), (.builtin "function.__dict__#set")]), #[]⟩) ::
  (nat_lit 71, ⟨(.type "getset_descriptor"), none, (.fields #[(.str (Str.ofString "__weakref__") 341), (.ref 69), (.builtin "ExceptionGroup.__weakref__"), .none]), #[]⟩) ::
  (nat_lit 77, ⟨(.type "tuple"), none, (.seq #[(.int (14) 0), (.int (14) 0), (.int (4) 0), (.int (1) 0), (.int (1) 0), (.int (9) 0), (.int (0) 0), (.int (64) 0), (.int (0) 0), (.int (1342177280) 0), (.int (0) 0), (.int (0) 0), (.int (0) 0), (.int (0) 0), (.int (0) 0), (.int (17) 0), (.int (0) 0), (.int (13) 0), (.int (11) 0), (.int (9) 0), (.int (0) 0), (.int (64) 0), (.int (0) 0), (.int (1342177280) 0), (.int (0) 0), (.int (0) 0), (.int (0) 0), (.int (0) 0), (.int (0) 0), (.int (17) 0), (.int (1) 0), (.int (1) 0)] 0), #[]⟩) ::
  (nat_lit 78, ⟨(.type "re.Pattern"), none, (.fields #[(.str (Str.ofString "([&~|])") 349), (.int (32) 384), (.int (1) 0), .none, .none, (.ref 77), (.int (0) 0)]), #[]⟩) ::
  (nat_lit 79, ⟨(.type "tuple"), none, (.seq #[] 0), #[]⟩) ::
  (nat_lit 81, ⟨(.type "tuple"), none, (.seq #[(.str (Str.ofString "pat") 389), (.str (Str.ofString "STAR") 390), (.str (Str.ofString "parts") 391)] 0), #[]⟩) ::
  (nat_lit 82, ⟨(.type "tuple"), none, (.seq #[] 0), #[]⟩) ::
  (nat_lit 84, ⟨(.type "code"), none, (.fields #[(.str (Str.ofString "translate") 386), (.str (Str.ofString "translate") 387), (.str (Str.ofString "/claim/cut.py") 388), (.int (53) 0), (.int (1) 0), (.int (0) 0), (.int (0) 0), (.int (3) 0), (.ref 79), (.bool true), (.int (276) 0), (.ref 80), .none, (.ref 81), (.ref 82), (.ref 83), (.int (392) 0), (.int (53) 0), (.str (Str.ofString "/claim/cut.py") 393)]), #[]⟩) ::
  (nat_lit 85, ⟨(.type "function"), none, (.func { name := (Str.ofString "translate"), qualname := (Str.ofString "translate"), params := dP (dT 5), body := .stmts (dB (dT 5)), scope := dS (dT 5), globals := 3, closure := [], defaults := .none, kwdefaults := .none, doc := .none, pyModule := (.str (Str.ofString "cpy313.fnmatch") 346), annotations := none, code := (.ref 84), closureTuple := .none, builtins := 0 }), #[]⟩) ::
  (nat_lit 87, ⟨(.type "dict"), none, (.dict #[⟨40, (.int (40) 398), (.str (Str.ofString "\\(") 402)⟩, ⟨41, (.int (41) 404), (.str (Str.ofString "\\)") 408)⟩, ⟨91, (.int (91) 410), (.str (Str.ofString "\\[") 414)⟩, ⟨93, (.int (93) 416), (.str (Str.ofString "\\]") 420)⟩, ⟨123, (.int (123) 422), (.str (Str.ofString "\\{") 426)⟩, ⟨125, (.int (125) 428), (.str (Str.ofString "\\}") 432)⟩, ⟨63, (.int (63) 434), (.str (Str.ofString "\\?") 438)⟩, ⟨42, (.int (42) 440), (.str (Str.ofString "\\*") 444)⟩, ⟨43, (.int (43) 446), (.str (Str.ofString "\\+") 450)⟩, ⟨45, (.int (45) 452), (.str (Str.ofString "\\-") 456)⟩, ⟨124, (.int (124) 458), (.str (Str.ofString "\\|") 462)⟩, ⟨94, (.int (94) 464), (.str (Str.ofString "\\^") 468)⟩, ⟨36, (.int (36) 470), (.str (Str.ofString "\\$") 474)⟩, ⟨92, (.int (92) 476), (.str (Str.ofString "\\\\") 480)⟩, ⟨46, (.int (46) 482), (.str (Str.ofString "\\.") 486)⟩, ⟨38, (.int (38) 488), (.str (Str.ofString "\\&") 492)⟩, ⟨126, (.int (126) 494), (.str (Str.ofString "\\~") 498)⟩, ⟨35, (.int (35) 500), (.str (Str.ofString "\\#") 504)⟩, ⟨32, (.int (32) 506), (.str (Str.ofString "\\ ") 510)⟩, ⟨9, (.int (9) 512), (.str (Str.ofString "\\\t") 516)⟩, ⟨10, (.int (10) 518), (.str (Str.ofString "\\\n") 522)⟩, ⟨13, (.int (13) 524), (.str (Str.ofString "\\\x0d") 528)⟩, ⟨11, (.int (11) 530), (.str (Str.ofString "\\\x0b") 534)⟩, ⟨12, (.int (12) 536), (.str (Str.ofString "\\\x0c") 540)⟩] 24), #[]⟩) ::
  (nat_lit 91, ⟨(.type "tuple"), none, (.seq #[] 0), #[]⟩) ::
  (nat_lit 93, ⟨(.type "tuple"), none, (.seq #[(.str (Str.ofString "pattern") 546)] 0), #[]⟩) ::
  (nat_lit 94, ⟨(.type "tuple"), none, (.seq #[] 0), #[]⟩) ::
  (nat_lit 96, ⟨(.type "code"), none, (.fields #[(.str (Str.ofString "escape") 543), (.str (Str.ofString "escape") 544), (.str (Str.ofString "/claim/cut.py") 545), (.int (59) 0), (.int (1) 0), (.int (0) 0), (.int (0) 0), (.int (3) 0), (.ref 91), (.bool true), (.int (276) 0), (.ref 92), .none, (.ref 93), (.ref 94), (.ref 95), (.int (547) 0), (.int (59) 0), (.str (Str.ofString "/claim/cut.py") 548)]), #[]⟩) ::
  (nat_lit 97, ⟨(.type "function"), none, (.func { name := (Str.ofString "escape"), qualname := (Str.ofString "escape"), params := dP (dT 8), body := .stmts (dB (dT 8)), scope := dS (dT 8), globals := 3, closure := [], defaults := .none, kwdefaults := .none, doc := .none, pyModule := (.str (Str.ofString "re") 395), annotations := none, code := (.ref 96), closureTuple := .none, builtins := 0 }), #[]⟩) ::
  (nat_lit 98, ⟨(.type "tuple"), none, (.seq #[] 0), #[]⟩) ::
  (nat_lit 100, ⟨(.type "tuple"), none, (.seq #[(.str (Str.ofString "pat") 555), (.str (Str.ofString "STAR") 556), (.str (Str.ofString "QUESTION_MARK") 557), (.str (Str.ofString "res") 558), (.str (Str.ofString "add") 559), (.str (Str.ofString "i") 560), (.str (Str.ofString "n") 561), (.str (Str.ofString "c") 562), (.str (Str.ofString "j") 563), (.str (Str.ofString "stuff") 564), (.str (Str.ofString "chunks") 565), (.str (Str.ofString "k") 566), (.str (Str.ofString "chunk") 567)] 0), #[]⟩) ::
  (nat_lit 101, ⟨(.type "tuple"), none, (.seq #[] 0), #[]⟩) ::
  (nat_lit 103, ⟨(.type "code"), none, (.fields #[(.str (Str.ofString "_translate") 552), (.str (Str.ofString "_translate") 553), (.str (Str.ofString "/claim/cut.py") 554), (.int (66) 0), (.int (3) 0), (.int (0) 0), (.int (0) 0), (.int (3) 0), (.ref 98), (.bool true), (.int (276) 0), (.ref 99), .none, (.ref 100), (.ref 101), (.ref 102), (.int (568) 0), (.int (66) 0), (.str (Str.ofString "/claim/cut.py") 569)]), #[]⟩) ::
  (nat_lit 104, ⟨(.type "function"), none, (.func { name := (Str.ofString "_translate"), qualname := (Str.ofString "_translate"), params := dP (dT 10), body := .stmts (dB (dT 10)), scope := dS (dT 10), globals := 3, closure := [], defaults := .none, kwdefaults := .none, doc := .none, pyModule := (.str (Str.ofString "cpy313.fnmatch") 550), annotations := none, code := (.ref 103), closureTuple := .none, builtins := 0 }), #[]⟩) ::
  (nat_lit 105, ⟨(.type "tuple"), none, (.seq #[] 0), #[]⟩) ::
  (nat_lit 107, ⟨(.type "tuple"), none, (.seq #[(.str (Str.ofString "inp") 574), (.str (Str.ofString "STAR") 575), (.str (Str.ofString "res") 576), (.str (Str.ofString "add") 577), (.str (Str.ofString "i") 578), (.str (Str.ofString "n") 579), (.str (Str.ofString "fixed") 580)] 0), #[]⟩) ::
  (nat_lit 108, ⟨(.type "tuple"), none, (.seq #[] 0), #[]⟩) ::
  (nat_lit 110, ⟨(.type "code"), none, (.fields #[(.str (Str.ofString "_join_translated_parts") 571), (.str (Str.ofString "_join_translated_parts") 572), (.str (Str.ofString "/claim/cut.py") 573), (.int (128) 0), (.int (2) 0), (.int (0) 0), (.int (0) 0), (.int (3) 0), (.ref 105), (.bool true), (.int (276) 0), (.ref 106), .none, (.ref 107), (.ref 108), (.ref 109), (.int (581) 0), (.int (128) 0), (.str (Str.ofString "/claim/cut.py") 582)]), #[]⟩) ::
  (nat_lit 111, ⟨(.type "function"), none, (.func { name := (Str.ofString "_join_translated_parts"), qualname := (Str.ofString "_join_translated_parts"), params := dP (dT 11), body := .stmts (dB (dT 11)), scope := dS (dT 11), globals := 3, closure := [], defaults := .none, kwdefaults := .none, doc := .none, pyModule := (.str (Str.ofString "cpy313.fnmatch") 550), annotations := none, code := (.ref 110), closureTuple := .none, builtins := 0 }), #[]⟩) ::
  (nat_lit 112, ⟨(.type "tuple"), none, (.seq #[] 0), #[]⟩) ::
  (nat_lit 114, ⟨(.type "tuple"), none, (.seq #[(.str (Str.ofString "mode") 589)] 0), #[]⟩) ::
  (nat_lit 115, ⟨(.type "tuple"), none, (.seq #[] 0), #[]⟩) ::
  (nat_lit 117, ⟨(.type "code"), none, (.fields #[(.str (Str.ofString "S_IFMT") 586), (.str (Str.ofString "S_IFMT") 587), (.str (Str.ofString "/claim/cut.py") 588), (.int (156) 0), (.int (1) 0), (.int (0) 0), (.int (0) 0), (.int (3) 0), (.ref 112), (.bool true), (.int (276) 0), (.ref 113), .none, (.ref 114), (.ref 115), (.ref 116), (.int (590) 0), (.int (156) 0), (.str (Str.ofString "/claim/cut.py") 591)]), #[]⟩) ::
  (nat_lit 118, ⟨(.type "function"), none, (.func { name := (Str.ofString "S_IFMT"), qualname := (Str.ofString "S_IFMT"), params := dP (dT 13), body := .stmts (dB (dT 13)), scope := dS (dT 13), globals := 3, closure := [], defaults := .none, kwdefaults := .none, doc := .none, pyModule := (.str (Str.ofString "cpy313.stat") 584), annotations := none, code := (.ref 117), closureTuple := .none, builtins := 0 }), #[]⟩) ::
  (nat_lit 119, ⟨(.type "tuple"), none, (.seq #[(.int (40960) 603), (.str (Str.ofString "l") 631)] 0), #[]⟩) ::
  (nat_lit 120, ⟨(.type "tuple"), none, (.seq #[(.int (49152) 605), (.str (Str.ofString "s") 632)] 0), #[]⟩) ::
  (nat_lit 121, ⟨(.type "tuple"), none, (.seq #[(.int (32768) 599), (.str (Str.ofString "-") 633)] 0), #[]⟩) ::
  (nat_lit 122, ⟨(.type "tuple"), none, (.seq #[(.int (24576) 597), (.str (Str.ofString "b") 634)] 0), #[]⟩) ::
  (nat_lit 123, ⟨(.type "tuple"), none, (.seq #[(.int (16384) 593), (.str (Str.ofString "d") 635)] 0), #[]⟩) ::
  (nat_lit 124, ⟨(.type "tuple"), none, (.seq #[(.int (8192) 595), (.str (Str.ofString "c") 636)] 0), #[]⟩) ::
  (nat_lit 125, ⟨(.type "tuple"), none, (.seq #[(.int (4096) 601), (.str (Str.ofString "p") 637)] 0), #[]⟩) ::
  (nat_lit 126, ⟨(.type "tuple"), none, (.seq #[(.ref 119), (.ref 120), (.ref 121), (.ref 122), (.ref 123), (.ref 124), (.ref 125)] 0), #[]⟩) ::
  (nat_lit 127, ⟨(.type "tuple"), none, (.seq #[(.int (256) 613), (.str (Str.ofString "r") 638)] 0), #[]⟩) ::
  (nat_lit 128, ⟨(.type "tuple"), none, (.seq #[(.ref 127)] 0), #[]⟩) ::
  (nat_lit 129, ⟨(.type "tuple"), none, (.seq #[(.int (128) 615), (.str (Str.ofString "w") 639)] 0), #[]⟩) ::
  (nat_lit 130, ⟨(.type "tuple"), none, (.seq #[(.ref 129)] 0), #[]⟩) ::
  (nat_lit 131, ⟨(.type "tuple"), none, (.seq #[(.int (2112) 640), (.str (Str.ofString "s") 641)] 0), #[]⟩) ::
  (nat_lit 132, ⟨(.type "tuple"), none, (.seq #[(.int (2048) 607), (.str (Str.ofString "S") 642)] 0), #[]⟩) ::
  (nat_lit 133, ⟨(.type "tuple"), none, (.seq #[(.int (64) 617), (.str (Str.ofString "x") 643)] 0), #[]⟩) ::
  (nat_lit 134, ⟨(.type "tuple"), none, (.seq #[(.ref 131), (.ref 132), (.ref 133)] 0), #[]⟩) ::
  (nat_lit 135, ⟨(.type "tuple"), none, (.seq #[(.int (32) 619), (.str (Str.ofString "r") 644)] 0), #[]⟩) ::
  (nat_lit 136, ⟨(.type "tuple"), none, (.seq #[(.ref 135)] 0), #[]⟩) ::
  (nat_lit 137, ⟨(.type "tuple"), none, (.seq #[(.int (16) 621), (.str (Str.ofString "w") 645)] 0), #[]⟩) ::
  (nat_lit 138, ⟨(.type "tuple"), none, (.seq #[(.ref 137)] 0), #[]⟩) ::
  (nat_lit 139, ⟨(.type "tuple"), none, (.seq #[(.int (1032) 646), (.str (Str.ofString "s") 647)] 0), #[]⟩) ::
  (nat_lit 140, ⟨(.type "tuple"), none, (.seq #[(.int (1024) 609), (.str (Str.ofString "S") 648)] 0), #[]⟩) ::
  (nat_lit 141, ⟨(.type "tuple"), none, (.seq #[(.int (8) 623), (.str (Str.ofString "x") 649)] 0), #[]⟩) ::
  (nat_lit 142, ⟨(.type "tuple"), none, (.seq #[(.ref 139), (.ref 140), (.ref 141)] 0), #[]⟩) ::
  (nat_lit 143, ⟨(.type "tuple"), none, (.seq #[(.int (4) 625), (.str (Str.ofString "r") 650)] 0), #[]⟩) ::
  (nat_lit 144, ⟨(.type "tuple"), none, (.seq #[(.ref 143)] 0), #[]⟩) ::
  (nat_lit 145, ⟨(.type "tuple"), none, (.seq #[(.int (2) 627), (.str (Str.ofString "w") 651)] 0), #[]⟩) ::
  (nat_lit 146, ⟨(.type "tuple"), none, (.seq #[(.ref 145)] 0), #[]⟩) ::
  (nat_lit 147, ⟨(.type "tuple"), none, (.seq #[(.int (513) 652), (.str (Str.ofString "t") 653)] 0), #[]⟩) ::
  (nat_lit 148, ⟨(.type "tuple"), none, (.seq #[(.int (512) 611), (.str (Str.ofString "T") 654)] 0), #[]⟩) ::
  (nat_lit 149, ⟨(.type "tuple"), none, (.seq #[(.int (1) 629), (.str (Str.ofString "x") 655)] 0), #[]⟩) ::
  (nat_lit 150, ⟨(.type "tuple"), none, (.seq #[(.ref 147), (.ref 148), (.ref 149)] 0), #[]⟩) ::
  (nat_lit 151, ⟨(.type "tuple"), none, (.seq #[(.ref 126), (.ref 128), (.ref 130), (.ref 134), (.ref 136), (.ref 138), (.ref 142), (.ref 144), (.ref 146), (.ref 150)] 0), #[]⟩) ::
  (nat_lit 152, ⟨(.type "tuple"), none, (.seq #[] 0), #[]⟩) ::
  (nat_lit 154, ⟨(.type "tuple"), none, (.seq #[(.str (Str.ofString "mode") 660), (.str (Str.ofString "perm") 661), (.str (Str.ofString "index") 662), (.str (Str.ofString "table") 663), (.str (Str.ofString "bit") 664), (.str (Str.ofString "char") 665)] 0), #[]⟩) ::
  (nat_lit 155, ⟨(.type "tuple"), none, (.seq #[] 0), #[]⟩) ::
  (nat_lit 157, ⟨(.type "code"), none, (.fields #[(.str (Str.ofString "filemode") 657), (.str (Str.ofString "filemode") 658), (.str (Str.ofString "/claim/cut.py") 659), (.int (178) 0), (.int (1) 0), (.int (0) 0), (.int (0) 0), (.int (3) 0), (.ref 152), (.bool true), (.int (276) 0), (.ref 153), .none, (.ref 154), (.ref 155), (.ref 156), (.int (666) 0), (.int (178) 0), (.str (Str.ofString "/claim/cut.py") 667)]), #[]⟩) ::
  (nat_lit 158, ⟨(.type "function"), none, (.func { name := (Str.ofString "filemode"), qualname := (Str.ofString "filemode"), params := dP (dT 34), body := .stmts (dB (dT 34)), scope := dS (dT 34), globals := 3, closure := [], defaults := .none, kwdefaults := .none, doc := .none, pyModule := (.str (Str.ofString "cpy313.stat") 584), annotations := none, code := (.ref 157), closureTuple := .none, builtins := 0 }), #[]⟩) ::
  (nat_lit 159, ⟨(.type "tuple"), none, (.seq #[] 0), #[]⟩) ::
  (nat_lit 161, ⟨(.type "tuple"), none, (.seq #[(.str (Str.ofString "text") 674), (.str (Str.ofString "asks") 675), (.str (Str.ofString "place") 676), (.str (Str.ofString "column") 677)] 0), #[]⟩) ::
  (nat_lit 162, ⟨(.type "tuple"), none, (.seq #[] 0), #[]⟩) ::
  (nat_lit 164, ⟨(.type "code"), none, (.fields #[(.str (Str.ofString "_law_asks") 671), (.str (Str.ofString "_law_asks") 672), (.str (Str.ofString "/claim/cut.py") 673), (.int (196) 0), (.int (1) 0), (.int (0) 0), (.int (0) 0), (.int (3) 0), (.ref 159), (.bool true), (.int (276) 0), (.ref 160), .none, (.ref 161), (.ref 162), (.ref 163), (.int (678) 0), (.int (196) 0), (.str (Str.ofString "/claim/cut.py") 679)]), #[]⟩) ::
  (nat_lit 165, ⟨(.type "function"), none, (.func { name := (Str.ofString "_law_asks"), qualname := (Str.ofString "_law_asks"), params := dP (dT 36), body := .stmts (dB (dT 36)), scope := dS (dT 36), globals := 3, closure := [], defaults := .none, kwdefaults := .none, doc := .none, pyModule := (.str (Str.ofString "law_in0278_02") 669), annotations := none, code := (.ref 164), closureTuple := .none, builtins := 0 }), #[]⟩) ::
  (nat_lit 166, ⟨(.type "tuple"), none, (.seq #[] 0), #[]⟩) ::
  (nat_lit 168, ⟨(.type "tuple"), none, (.seq #[(.str (Str.ofString "asks") 684), (.str (Str.ofString "row") 685), (.str (Str.ofString "column") 686), (.str (Str.ofString "sign") 687)] 0), #[]⟩) ::
  (nat_lit 169, ⟨(.type "tuple"), none, (.seq #[] 0), #[]⟩) ::
  (nat_lit 171, ⟨(.type "code"), none, (.fields #[(.str (Str.ofString "_law_reach") 681), (.str (Str.ofString "_law_reach") 682), (.str (Str.ofString "/claim/cut.py") 683), (.int (205) 0), (.int (2) 0), (.int (0) 0), (.int (0) 0), (.int (3) 0), (.ref 166), (.bool true), (.int (276) 0), (.ref 167), .none, (.ref 168), (.ref 169), (.ref 170), (.int (688) 0), (.int (205) 0), (.str (Str.ofString "/claim/cut.py") 689)]), #[]⟩) ::
  (nat_lit 172, ⟨(.type "function"), none, (.func { name := (Str.ofString "_law_reach"), qualname := (Str.ofString "_law_reach"), params := dP (dT 37), body := .stmts (dB (dT 37)), scope := dS (dT 37), globals := 3, closure := [], defaults := .none, kwdefaults := .none, doc := .none, pyModule := (.str (Str.ofString "law_in0278_02") 669), annotations := none, code := (.ref 171), closureTuple := .none, builtins := 0 }), #[]⟩) ::
  (nat_lit 173, ⟨(.type "tuple"), none, (.seq #[] 0), #[]⟩) ::
  (nat_lit 175, ⟨(.type "tuple"), none, (.seq #[(.str (Str.ofString "text") 694), (.str (Str.ofString "verdict") 695), (.str (Str.ofString "rule") 696)] 0), #[]⟩) ::
  (nat_lit 176, ⟨(.type "tuple"), none, (.seq #[(.str (Str.ofString "asks") 697)] 0), #[]⟩) ::
  (nat_lit 178, ⟨(.type "code"), none, (.fields #[(.str (Str.ofString "_law_rule") 691), (.str (Str.ofString "_law_rule") 692), (.str (Str.ofString "/claim/cut.py") 693), (.int (210) 0), (.int (2) 0), (.int (0) 0), (.int (0) 0), (.int (3) 0), (.ref 173), (.bool true), (.int (276) 0), (.ref 174), .none, (.ref 175), (.ref 176), (.ref 177), (.int (698) 0), (.int (210) 0), (.str (Str.ofString "/claim/cut.py") 699)]), #[]⟩) ::
  (nat_lit 179, ⟨(.type "function"), none, (.func { name := (Str.ofString "_law_rule"), qualname := (Str.ofString "_law_rule"), params := dP (dT 38), body := .stmts (dB (dT 38)), scope := dS (dT 38), globals := 3, closure := [], defaults := .none, kwdefaults := .none, doc := .none, pyModule := (.str (Str.ofString "law_in0278_02") 669), annotations := none, code := (.ref 178), closureTuple := .none, builtins := 0 }), #[]⟩) ::
  (nat_lit 180, ⟨(.type "tuple"), none, (.seq #[] 0), #[]⟩) ::
  (nat_lit 182, ⟨(.type "tuple"), none, (.seq #[(.str (Str.ofString "mode") 704), (.str (Str.ofString "chosen") 705), (.str (Str.ofString "leaf") 706), (.str (Str.ofString "depth") 707), (.str (Str.ofString "column") 708), (.str (Str.ofString "held") 709)] 0), #[]⟩) ::
  (nat_lit 183, ⟨(.type "tuple"), none, (.seq #[] 0), #[]⟩) ::
  (nat_lit 185, ⟨(.type "code"), none, (.fields #[(.str (Str.ofString "_law_mode") 701), (.str (Str.ofString "_law_mode") 702), (.str (Str.ofString "/claim/cut.py") 703), (.int (216) 0), (.int (3) 0), (.int (0) 0), (.int (0) 0), (.int (3) 0), (.ref 180), (.bool true), (.int (276) 0), (.ref 181), .none, (.ref 182), (.ref 183), (.ref 184), (.int (710) 0), (.int (216) 0), (.str (Str.ofString "/claim/cut.py") 711)]), #[]⟩) ::
  (nat_lit 186, ⟨(.type "function"), none, (.func { name := (Str.ofString "_law_mode"), qualname := (Str.ofString "_law_mode"), params := dP (dT 39), body := .stmts (dB (dT 39)), scope := dS (dT 39), globals := 3, closure := [], defaults := .none, kwdefaults := .none, doc := .none, pyModule := (.str (Str.ofString "law_in0278_02") 669), annotations := none, code := (.ref 185), closureTuple := .none, builtins := 0 }), #[]⟩) ::
  (nat_lit 187, ⟨(.type "tuple"), none, (.seq #[] 0), #[]⟩) ::
  (nat_lit 189, ⟨(.type "tuple"), none, (.seq #[(.str (Str.ofString "modes") 716), (.str (Str.ofString "chosen") 717), (.str (Str.ofString "table") 718), (.str (Str.ofString "rules") 719), (.str (Str.ofString "part") 720), (.str (Str.ofString "first") 721), (.str (Str.ofString "above") 722), (.str (Str.ofString "pattern") 723)] 0), #[]⟩) ::
  (nat_lit 190, ⟨(.type "tuple"), none, (.seq #[(.str (Str.ofString "chosen") 724), (.str (Str.ofString "depth") 725), (.str (Str.ofString "row") 726)] 0), #[]⟩) ::
  (nat_lit 192, ⟨(.type "code"), none, (.fields #[(.str (Str.ofString "_law_rules") 713), (.str (Str.ofString "_law_rules") 714), (.str (Str.ofString "/claim/cut.py") 715), (.int (221) 0), (.int (3) 0), (.int (0) 0), (.int (0) 0), (.int (3) 0), (.ref 187), (.bool true), (.int (276) 0), (.ref 188), .none, (.ref 189), (.ref 190), (.ref 191), (.int (727) 0), (.int (221) 0), (.str (Str.ofString "/claim/cut.py") 728)]), #[]⟩) ::
  (nat_lit 193, ⟨(.type "function"), none, (.func { name := (Str.ofString "_law_rules"), qualname := (Str.ofString "_law_rules"), params := dP (dT 40), body := .stmts (dB (dT 40)), scope := dS (dT 40), globals := 3, closure := [], defaults := .none, kwdefaults := .none, doc := .none, pyModule := (.str (Str.ofString "law_in0278_02") 669), annotations := none, code := (.ref 192), closureTuple := .none, builtins := 0 }), #[]⟩) ::
  (nat_lit 194, ⟨(.type "tuple"), none, (.seq #[] 0), #[]⟩) ::
  (nat_lit 196, ⟨(.type "tuple"), none, (.seq #[(.str (Str.ofString "rules") 733), (.str (Str.ofString "leaf") 734), (.str (Str.ofString "found") 735), (.str (Str.ofString "place") 736), (.str (Str.ofString "first") 737), (.str (Str.ofString "size") 738), (.str (Str.ofString "rule") 739)] 0), #[]⟩) ::
  (nat_lit 197, ⟨(.type "tuple"), none, (.seq #[] 0), #[]⟩) ::
  (nat_lit 199, ⟨(.type "code"), none, (.fields #[(.str (Str.ofString "_law_narrowest") 730), (.str (Str.ofString "_law_narrowest") 731), (.str (Str.ofString "/claim/cut.py") 732), (.int (232) 0), (.int (2) 0), (.int (0) 0), (.int (0) 0), (.int (3) 0), (.ref 194), (.bool true), (.int (276) 0), (.ref 195), .none, (.ref 196), (.ref 197), (.ref 198), (.int (740) 0), (.int (232) 0), (.str (Str.ofString "/claim/cut.py") 741)]), #[]⟩) ::
  (nat_lit 200, ⟨(.type "function"), none, (.func { name := (Str.ofString "_law_narrowest"), qualname := (Str.ofString "_law_narrowest"), params := dP (dT 41), body := .stmts (dB (dT 41)), scope := dS (dT 41), globals := 3, closure := [], defaults := .none, kwdefaults := .none, doc := .none, pyModule := (.str (Str.ofString "law_in0278_02") 669), annotations := none, code := (.ref 199), closureTuple := .none, builtins := 0 }), #[]⟩) ::
  (nat_lit 201, ⟨(.type "tuple"), none, (.seq #[] 0), #[]⟩) ::
  (nat_lit 204, ⟨(.type "code"), none, (.fields #[(.str (Str.ofString "_law_answers") 743), (.str (Str.ofString "_law_answers") 744), (.str (Str.ofString "/claim/cut.py") 745), (.int (238) 0), (.int (3) 0), (.int (0) 0), (.int (0) 0), (.int (3) 0), (.ref 201), (.bool true), (.int (276) 0), (.ref 202), .none, .none, .none, (.ref 203), (.int (746) 0), (.int (238) 0), (.str (Str.ofString "/claim/cut.py") 747)]), #[]⟩) ::
  (nat_lit 205, ⟨(.type "function"), none, (.func { name := (Str.ofString "_law_answers"), qualname := (Str.ofString "_law_answers"), params := dP (dT 42), body := .stmts (dB (dT 42)), scope := dS (dT 42), globals := 3, closure := [], defaults := .none, kwdefaults := .none, doc := .none, pyModule := (.str (Str.ofString "law_in0278_02") 669), annotations := none, code := (.ref 204), closureTuple := .none, builtins := 0 }), #[]⟩) ::
  (nat_lit 206, ⟨(.type "tuple"), none, (.seq #[] 0), #[]⟩) ::
  (nat_lit 209, ⟨(.type "code"), none, (.fields #[(.str (Str.ofString "law") 749), (.str (Str.ofString "law") 750), (.str (Str.ofString "/claim/cut.py") 751), (.int (244) 0), (.int (1) 0), (.int (0) 0), (.int (0) 0), (.int (3) 0), (.ref 206), (.bool true), (.int (276) 0), (.ref 207), .none, .none, .none, (.ref 208), (.int (752) 0), (.int (244) 0), (.str (Str.ofString "/claim/cut.py") 753)]), #[]⟩) ::
  (nat_lit 210, ⟨(.type "function"), none, (.func { name := (Str.ofString "law"), qualname := (Str.ofString "law"), params := dP (dT 43), body := .stmts (dB (dT 43)), scope := dS (dT 43), globals := 3, closure := [], defaults := .none, kwdefaults := .none, doc := .none, pyModule := (.str (Str.ofString "law_in0278_02") 669), annotations := none, code := (.ref 209), closureTuple := .none, builtins := 0 }), #[]⟩) :: []
noncomputable def A0 : List Addr := [2, 3, 39, 41, 42, 44, 45, 46, 48, 49, 51, 52, 53, 55, 56, 58, 59, 60, 62, 63, 65, 66, 67, 68, 69, 70, 71, 77, 78, 79, 81, 82, 84, 85, 87, 91, 93, 94, 96, 97, 98, 100, 101, 103, 104, 105, 107, 108, 110, 111, 112, 114, 115, 117, 118, 119, 120, 121, 122, 123, 124, 125, 126, 127, 128, 129, 130, 131, 132, 133, 134, 135, 136, 137, 138, 139, 140, 141, 142, 143, 144, 145, 146, 147, 148, 149, 150, 151, 152, 154, 155, 157, 158, 159, 161, 162, 164, 165, 166, 168, 169, 171, 172, 173, 175, 176, 178, 179, 180, 182, 183, 185, 186, 187, 189, 190, 192, 193, 194, 196, 197, 199, 200, 201, 204, 205, 206, 209, 210]
end Mine

end
section
open PySem PySem.W PySem.Calls PyProof.Rows
set_option maxRecDepth 100000
namespace Mine
/-! the head: the top's run, by one kernel check a case; the written part and the four tables -/
noncomputable def tabO : Obj := ⟨.none, none, .fields #[], #[]⟩
noncomputable def KT (P : Params) : Frag := K0 P ++ [(174, tabO), (188, tabO), (202, tabO), (207, tabO), (4, ⟨.type "module", some 0, .plain, #[]⟩)]
noncomputable def AT : List Addr := A0 ++ [174, 188, 202, 207, 4]
theorem AT_eq : ∀ P, AT = (KT P).map (·.1) := fun P => by kernel_rfl
noncomputable def H2 : Hook := kHook KT AT AT_eq
theorem kt_k0 {P : Params} {h : Heap} (X : (KT P).In h) : (K0 P).In h := fun a o e => X a o (by
  show (K0 P ++ _).lookup a = some o
  rw [List.lookup_append, e]; rfl)
noncomputable def q1 : Program := { PySem.Challenge.pw_in0278_02 with main := { PySem.Challenge.pw_in0278_02.main with body := PySem.Challenge.pw_in0278_02.main.body.drop 43 } }
noncomputable def loose1 : List Str := (["Entry", "_twin_re_1", "translate", "_special_chars_map", "escape", "_translate", "_join_translated_parts", "S_IFMT", "S_IFDIR", "S_IFCHR", "S_IFBLK", "S_IFREG", "S_IFIFO", "S_IFLNK", "S_IFSOCK", "S_ISUID",
  "S_ISGID", "S_ISVTX", "S_IRUSR", "S_IWUSR", "S_IXUSR", "S_IRGRP", "S_IWGRP", "S_IXGRP", "S_IROTH", "S_IWOTH", "S_IXOTH", "_filemode_table", "filemode", "_sre", "_law_asks", "_law_reach", "_law_rule", "_law_mode", "_law_rules", "_law_narrowest", "_law_answers"] : List String).map Str.ofString
noncomputable def N1 : Nat := 6000
noncomputable def X1 (s : Shared) : Bool := xlAt q1 [] s && recOk (RowW.records PySem.Challenge.rw_in0278_02.row.toRowW) s
noncomputable abbrev w2 (w : World) (a b : Bool) : World := (w.withFollow "special-get-raises" b).withFollow "comprehension-iter-twice" a
noncomputable abbrev pG : Program := PySem.Challenge.rw_in0278_02.row.prog
/-! the states between groups of statements of the top, as they stand -/
noncomputable def life0 : Life := {}
noncomputable def ob0 (P : Params) : Obj := ⟨(.type "dict"), none, (.dict #[⟨PyData.keyHash P (Str.ofString "__name__"), .str (Str.ofString "__name__") 1, (.str (Str.ofString "builtins") 160)⟩, ⟨PyData.keyHash P (Str.ofString "__doc__"), .str (Str.ofString "__doc__") 2, (.builtin "builtins.__doc__:str#opaque")⟩, ⟨PyData.keyHash P (Str.ofString "__package__"), .str (Str.ofString "__package__") 3, (.builtin "builtins.__package__:str#opaque")⟩, ⟨PyData.keyHash P (Str.ofString "__loader__"), .str (Str.ofString "__loader__") 4, (.builtin "builtins.__loader__:shared#opaque")⟩, ⟨PyData.keyHash P (Str.ofString "__spec__"), .str (Str.ofString "__spec__") 5, (.builtin "builtins.__spec__#opaque")⟩, ⟨PyData.keyHash P (Str.ofString "__build_class__"), .str (Str.ofString "__build_class__") 6, (.builtin "__build_class__")⟩, ⟨PyData.keyHash P (Str.ofString "__\x69mport__"), .str (Str.ofString "__\x69mport__") 7, (.builtin "__\x69mport__")⟩, ⟨PyData.keyHash P (Str.ofString "abs"), .str (Str.ofString "abs") 8, (.builtin "abs")⟩, ⟨PyData.keyHash P (Str.ofString "all"), .str (Str.ofString "all") 9, (.builtin "all")⟩, ⟨PyData.keyHash P (Str.ofString "any"), .str (Str.ofString "any") 10, (.builtin "any")⟩, ⟨PyData.keyHash P (Str.ofString "ascii"), .str (Str.ofString "ascii") 11, (.builtin "ascii")⟩, ⟨PyData.keyHash P (Str.ofString "bin"), .str (Str.ofString "bin") 12, (.builtin "bin")⟩, ⟨PyData.keyHash P (Str.ofString "breakpoint"), .str (Str.ofString "breakpoint") 13, (.builtin "breakpoint")⟩, ⟨PyData.keyHash P (Str.ofString "callable"), .str (Str.ofString "callable") 14, (.builtin "callable")⟩, ⟨PyData.keyHash P (Str.ofString "chr"), .str (Str.ofString "chr") 15, (.builtin "chr")⟩, ⟨PyData.keyHash P (Str.ofString "compile"), .str (Str.ofString "compile") 16, (.builtin "compile")⟩, ⟨PyData.keyHash P (Str.ofString "delattr"), .str (Str.ofString "delattr") 17, (.builtin "delattr")⟩, ⟨PyData.keyHash P (Str.ofString "dir"), .str (Str.ofString "dir") 18, (.builtin "dir")⟩, ⟨PyData.keyHash P (Str.ofString "divmod"), .str (Str.ofString "divmod") 19, (.builtin "divmod")⟩, ⟨PyData.keyHash P (Str.ofString "eval"), .str (Str.ofString "eval") 20, (.builtin "eval")⟩, ⟨PyData.keyHash P (Str.ofString "exec"), .str (Str.ofString "exec") 21, (.builtin "exec")⟩, ⟨PyData.keyHash P (Str.ofString "format"), .str (Str.ofString "format") 22, (.builtin "format")⟩, ⟨PyData.keyHash P (Str.ofString "getattr"), .str (Str.ofString "getattr") 23, (.builtin "getattr")⟩, ⟨PyData.keyHash P (Str.ofString "globals"), .str (Str.ofString "globals") 24, (.builtin "globals")⟩, ⟨PyData.keyHash P (Str.ofString "hasattr"), .str (Str.ofString "hasattr") 25, (.builtin "hasattr")⟩, ⟨PyData.keyHash P (Str.ofString "hash"), .str (Str.ofString "hash") 26, (.builtin "hash")⟩, ⟨PyData.keyHash P (Str.ofString "hex"), .str (Str.ofString "hex") 27, (.builtin "hex")⟩, ⟨PyData.keyHash P (Str.ofString "id"), .str (Str.ofString "id") 28, (.builtin "id")⟩, ⟨PyData.keyHash P (Str.ofString "input"), .str (Str.ofString "input") 29, (.builtin "input")⟩, ⟨PyData.keyHash P (Str.ofString "isinstance"), .str (Str.ofString "isinstance") 30, (.builtin "isinstance")⟩, ⟨PyData.keyHash P (Str.ofString "issubclass"), .str (Str.ofString "issubclass") 31, (.builtin "issubclass")⟩, ⟨PyData.keyHash P (Str.ofString "iter"), .str (Str.ofString "iter") 32, (.builtin "iter")⟩, ⟨PyData.keyHash P (Str.ofString "aiter"), .str (Str.ofString "aiter") 33, (.builtin "aiter")⟩, ⟨PyData.keyHash P (Str.ofString "len"), .str (Str.ofString "len") 34, (.builtin "len")⟩, ⟨PyData.keyHash P (Str.ofString "locals"), .str (Str.ofString "locals") 35, (.builtin "locals")⟩, ⟨PyData.keyHash P (Str.ofString "max"), .str (Str.ofString "max") 36, (.builtin "max")⟩, ⟨PyData.keyHash P (Str.ofString "min"), .str (Str.ofString "min") 37, (.builtin "min")⟩, ⟨PyData.keyHash P (Str.ofString "next"), .str (Str.ofString "next") 38, (.builtin "next")⟩, ⟨PyData.keyHash P (Str.ofString "anext"), .str (Str.ofString "anext") 39, (.builtin "anext")⟩, ⟨PyData.keyHash P (Str.ofString "oct"), .str (Str.ofString "oct") 40, (.builtin "oct")⟩, ⟨PyData.keyHash P (Str.ofString "ord"), .str (Str.ofString "ord") 41, (.builtin "ord")⟩, ⟨PyData.keyHash P (Str.ofString "pow"), .str (Str.ofString "pow") 42, (.builtin "pow")⟩, ⟨PyData.keyHash P (Str.ofString "print"), .str (Str.ofString "print") 43, (.builtin "print")⟩, ⟨PyData.keyHash P (Str.ofString "repr"), .str (Str.ofString "repr") 44, (.builtin "repr")⟩, ⟨PyData.keyHash P (Str.ofString "round"), .str (Str.ofString "round") 45, (.builtin "round")⟩, ⟨PyData.keyHash P (Str.ofString "setattr"), .str (Str.ofString "setattr") 46, (.builtin "setattr")⟩, ⟨PyData.keyHash P (Str.ofString "sorted"), .str (Str.ofString "sorted") 47, (.builtin "sorted")⟩, ⟨PyData.keyHash P (Str.ofString "sum"), .str (Str.ofString "sum") 48, (.builtin "sum")⟩, ⟨PyData.keyHash P (Str.ofString "vars"), .str (Str.ofString "vars") 49, (.builtin "vars")⟩, ⟨PyData.keyHash P (Str.ofString "None"), .str (Str.ofString "None") 50, .none⟩, ⟨PyData.keyHash P (Str.ofString "Ellipsis"), .str (Str.ofString "Ellipsis") 51, .ellipsis⟩, ⟨PyData.keyHash P (Str.ofString "NotImplemented"), .str (Str.ofString "NotImplemented") 52, .notImplemented⟩, ⟨PyData.keyHash P (Str.ofString "False"), .str (Str.ofString "False") 53, (.bool false)⟩, ⟨PyData.keyHash P (Str.ofString "True"), .str (Str.ofString "True") 54, (.bool true)⟩, ⟨PyData.keyHash P (Str.ofString "bool"), .str (Str.ofString "bool") 55, (.type "bool")⟩, ⟨PyData.keyHash P (Str.ofString "memoryview"), .str (Str.ofString "memoryview") 56, (.type "memoryview")⟩, ⟨PyData.keyHash P (Str.ofString "bytearray"), .str (Str.ofString "bytearray") 57, (.type "bytearray")⟩, ⟨PyData.keyHash P (Str.ofString "bytes"), .str (Str.ofString "bytes") 58, (.type "bytes")⟩, ⟨PyData.keyHash P (Str.ofString "classmethod"), .str (Str.ofString "classmethod") 59, (.type "classmethod")⟩, ⟨PyData.keyHash P (Str.ofString "complex"), .str (Str.ofString "complex") 60, (.type "complex")⟩, ⟨PyData.keyHash P (Str.ofString "dict"), .str (Str.ofString "dict") 61, (.type "dict")⟩, ⟨PyData.keyHash P (Str.ofString "enumerate"), .str (Str.ofString "enumerate") 62, (.type "enumerate")⟩, ⟨PyData.keyHash P (Str.ofString "filter"), .str (Str.ofString "filter") 63, (.type "filter")⟩, ⟨PyData.keyHash P (Str.ofString "float"), .str (Str.ofString "float") 64, (.type "float")⟩, ⟨PyData.keyHash P (Str.ofString "frozenset"), .str (Str.ofString "frozenset") 65, (.type "frozenset")⟩, ⟨PyData.keyHash P (Str.ofString "property"), .str (Str.ofString "property") 66, (.type "property")⟩, ⟨PyData.keyHash P (Str.ofString "int"), .str (Str.ofString "int") 67, (.type "int")⟩, ⟨PyData.keyHash P (Str.ofString "list"), .str (Str.ofString "list") 68, (.type "list")⟩, ⟨PyData.keyHash P (Str.ofString "map"), .str (Str.ofString "map") 69, (.type "map")⟩, ⟨PyData.keyHash P (Str.ofString "object"), .str (Str.ofString "object") 70, (.type "object")⟩, ⟨PyData.keyHash P (Str.ofString "range"), .str (Str.ofString "range") 71, (.type "range")⟩, ⟨PyData.keyHash P (Str.ofString "reversed"), .str (Str.ofString "reversed") 72, (.type "reversed")⟩, ⟨PyData.keyHash P (Str.ofString "set"), .str (Str.ofString "set") 73, (.type "set")⟩, ⟨PyData.keyHash P (Str.ofString "slice"), .str (Str.ofString "slice") 74, (.type "slice")⟩, ⟨PyData.keyHash P (Str.ofString "staticmethod"), .str (Str.ofString "staticmethod") 75, (.type "staticmethod")⟩, ⟨PyData.keyHash P (Str.ofString "str"), .str (Str.ofString "str") 76, (.type "str")⟩, ⟨PyData.keyHash P (Str.ofString "super"), .str (Str.ofString "super") 77, (.type "super")⟩, ⟨PyData.keyHash P (Str.ofString "tuple"), .str (Str.ofString "tuple") 78, (.type "tuple")⟩, ⟨PyData.keyHash P (Str.ofString "type"), .str (Str.ofString "type") 79, (.type "type")⟩, ⟨PyData.keyHash P (Str.ofString "zip"), .str (Str.ofString "zip") 80, (.type "zip")⟩, ⟨PyData.keyHash P (Str.ofString "__debug__"), .str (Str.ofString "__debug__") 81, (.bool true)⟩, ⟨PyData.keyHash P (Str.ofString "BaseException"), .str (Str.ofString "BaseException") 82, (.type "BaseException")⟩, ⟨PyData.keyHash P (Str.ofString "BaseExceptionGroup"), .str (Str.ofString "BaseExceptionGroup") 83, (.type "BaseExceptionGroup")⟩, ⟨PyData.keyHash P (Str.ofString "Exception"), .str (Str.ofString "Exception") 84, (.type "Exception")⟩, ⟨PyData.keyHash P (Str.ofString "GeneratorExit"), .str (Str.ofString "GeneratorExit") 85, (.type "GeneratorExit")⟩, ⟨PyData.keyHash P (Str.ofString "KeyboardInterrupt"), .str (Str.ofString "KeyboardInterrupt") 86, (.type "KeyboardInterrupt")⟩, ⟨PyData.keyHash P (Str.ofString "SystemExit"), .str (Str.ofString "SystemExit") 87, (.type "SystemExit")⟩, ⟨PyData.keyHash P (Str.ofString "ArithmeticError"), .str (Str.ofString "ArithmeticError") 88, (.type "ArithmeticError")⟩, ⟨PyData.keyHash P (Str.ofString "AssertionError"), .str (Str.ofString "AssertionError") 89, (.type "AssertionError")⟩, ⟨PyData.keyHash P (Str.ofString "AttributeError"), .str (Str.ofString "AttributeError") 90, (.type "AttributeError")⟩, ⟨PyData.keyHash P (Str.ofString "BufferError"), .str (Str.ofString "BufferError") 91, (.type "BufferError")⟩, ⟨PyData.keyHash P (Str.ofString "EOFError"), .str (Str.ofString "EOFError") 92, (.type "EOFError")⟩, ⟨PyData.keyHash P (Str.ofString "ImportError"), .str (Str.ofString "ImportError") 93, (.type "ImportError")⟩, ⟨PyData.keyHash P (Str.ofString "LookupError"), .str (Str.ofString "LookupError") 94, (.type "LookupError")⟩, ⟨PyData.keyHash P (Str.ofString "MemoryError"), .str (Str.ofString "MemoryError") 95, (.type "MemoryError")⟩, ⟨PyData.keyHash P (Str.ofString "NameError"), .str (Str.ofString "NameError") 96, (.type "NameError")⟩, ⟨PyData.keyHash P (Str.ofString "OSError"), .str (Str.ofString "OSError") 97, (.type "OSError")⟩, ⟨PyData.keyHash P (Str.ofString "ReferenceError"), .str (Str.ofString "ReferenceError") 98, (.type "ReferenceError")⟩, ⟨PyData.keyHash P (Str.ofString "RuntimeError"), .str (Str.ofString "RuntimeError") 99, (.type "RuntimeError")⟩, ⟨PyData.keyHash P (Str.ofString "StopAsyncIteration"), .str (Str.ofString "StopAsyncIteration") 100, (.type "StopAsyncIteration")⟩, ⟨PyData.keyHash P (Str.ofString "StopIteration"), .str (Str.ofString "StopIteration") 101, (.type "StopIteration")⟩, ⟨PyData.keyHash P (Str.ofString "SyntaxError"), .str (Str.ofString "SyntaxError") 102, (.type "SyntaxError")⟩, ⟨PyData.keyHash P (Str.ofString "SystemError"), .str (Str.ofString "SystemError") 103, (.type "SystemError")⟩, ⟨PyData.keyHash P (Str.ofString "TypeError"), .str (Str.ofString "TypeError") 104, (.type "TypeError")⟩, ⟨PyData.keyHash P (Str.ofString "ValueError"), .str (Str.ofString "ValueError") 105, (.type "ValueError")⟩, ⟨PyData.keyHash P (Str.ofString "Warning"), .str (Str.ofString "Warning") 106, (.type "Warning")⟩, ⟨PyData.keyHash P (Str.ofString "FloatingPointError"), .str (Str.ofString "FloatingPointError") 107, (.type "FloatingPointError")⟩, ⟨PyData.keyHash P (Str.ofString "OverflowError"), .str (Str.ofString "OverflowError") 108, (.type "OverflowError")⟩, ⟨PyData.keyHash P (Str.ofString "ZeroDivisionError"), .str (Str.ofString "ZeroDivisionError") 109, (.type "ZeroDivisionError")⟩, ⟨PyData.keyHash P (Str.ofString "BytesWarning"), .str (Str.ofString "BytesWarning") 110, (.type "BytesWarning")⟩, ⟨PyData.keyHash P (Str.ofString "DeprecationWarning"), .str (Str.ofString "DeprecationWarning") 111, (.type "DeprecationWarning")⟩, ⟨PyData.keyHash P (Str.ofString "EncodingWarning"), .str (Str.ofString "EncodingWarning") 112, (.type "EncodingWarning")⟩, ⟨PyData.keyHash P (Str.ofString "FutureWarning"), .str (Str.ofString "FutureWarning") 113, (.type "FutureWarning")⟩, ⟨PyData.keyHash P (Str.ofString "ImportWarning"), .str (Str.ofString "ImportWarning") 114, (.type "ImportWarning")⟩, ⟨PyData.keyHash P (Str.ofString "PendingDeprecationWarning"), .str (Str.ofString "PendingDeprecationWarning") 115, (.type "PendingDeprecationWarning")⟩, ⟨PyData.keyHash P (Str.ofString "ResourceWarning"), .str (Str.ofString "ResourceWarning") 116, (.type "ResourceWarning")⟩, ⟨PyData.keyHash P (Str.ofString "RuntimeWarning"), .str (Str.ofString "RuntimeWarning") 117, (.type "RuntimeWarning")⟩, ⟨PyData.keyHash P (Str.ofString "SyntaxWarning"), .str (Str.ofString "SyntaxWarning") 118, (.type "SyntaxWarning")⟩, ⟨PyData.keyHash P (Str.ofString "UnicodeWarning"), .str (Str.ofString "UnicodeWarning") 119, (.type "UnicodeWarning")⟩, ⟨PyData.keyHash P (Str.ofString "UserWarning"), .str (Str.ofString "UserWarning") 120, (.type "UserWarning")⟩, ⟨PyData.keyHash P (Str.ofString "BlockingIOError"), .str (Str.ofString "BlockingIOError") 121, (.type "BlockingIOError")⟩, ⟨PyData.keyHash P (Str.ofString "ChildProcessError"), .str (Str.ofString "ChildProcessError") 122, (.type "ChildProcessError")⟩, ⟨PyData.keyHash P (Str.ofString "ConnectionError"), .str (Str.ofString "ConnectionError") 123, (.type "ConnectionError")⟩, ⟨PyData.keyHash P (Str.ofString "FileExistsError"), .str (Str.ofString "FileExistsError") 124, (.type "FileExistsError")⟩, ⟨PyData.keyHash P (Str.ofString "FileNotFoundError"), .str (Str.ofString "FileNotFoundError") 125, (.type "FileNotFoundError")⟩, ⟨PyData.keyHash P (Str.ofString "InterruptedError"), .str (Str.ofString "InterruptedError") 126, (.type "InterruptedError")⟩, ⟨PyData.keyHash P (Str.ofString "IsADirectoryError"), .str (Str.ofString "IsADirectoryError") 127, (.type "IsADirectoryError")⟩, ⟨PyData.keyHash P (Str.ofString "NotADirectoryError"), .str (Str.ofString "NotADirectoryError") 128, (.type "NotADirectoryError")⟩, ⟨PyData.keyHash P (Str.ofString "PermissionError"), .str (Str.ofString "PermissionError") 129, (.type "PermissionError")⟩, ⟨PyData.keyHash P (Str.ofString "ProcessLookupError"), .str (Str.ofString "ProcessLookupError") 130, (.type "ProcessLookupError")⟩, ⟨PyData.keyHash P (Str.ofString "TimeoutError"), .str (Str.ofString "TimeoutError") 131, (.type "TimeoutError")⟩, ⟨PyData.keyHash P (Str.ofString "IndentationError"), .str (Str.ofString "IndentationError") 132, (.type "IndentationError")⟩, ⟨PyData.keyHash P (Str.ofString "_IncompleteInputError"), .str (Str.ofString "_IncompleteInputError") 133, (.type "_IncompleteInputError")⟩, ⟨PyData.keyHash P (Str.ofString "IndexError"), .str (Str.ofString "IndexError") 134, (.type "IndexError")⟩, ⟨PyData.keyHash P (Str.ofString "KeyError"), .str (Str.ofString "KeyError") 135, (.type "KeyError")⟩, ⟨PyData.keyHash P (Str.ofString "ModuleNotFoundError"), .str (Str.ofString "ModuleNotFoundError") 136, (.type "ModuleNotFoundError")⟩, ⟨PyData.keyHash P (Str.ofString "NotImplementedError"), .str (Str.ofString "NotImplementedError") 137, (.type "NotImplementedError")⟩, ⟨PyData.keyHash P (Str.ofString "PythonFinalizationError"), .str (Str.ofString "PythonFinalizationError") 138, (.type "PythonFinalizationError")⟩, ⟨PyData.keyHash P (Str.ofString "RecursionError"), .str (Str.ofString "RecursionError") 139, (.type "RecursionError")⟩, ⟨PyData.keyHash P (Str.ofString "UnboundLocalError"), .str (Str.ofString "UnboundLocalError") 140, (.type "UnboundLocalError")⟩, ⟨PyData.keyHash P (Str.ofString "UnicodeError"), .str (Str.ofString "UnicodeError") 141, (.type "UnicodeError")⟩, ⟨PyData.keyHash P (Str.ofString "BrokenPipeError"), .str (Str.ofString "BrokenPipeError") 142, (.type "BrokenPipeError")⟩, ⟨PyData.keyHash P (Str.ofString "ConnectionAbortedError"), .str (Str.ofString "ConnectionAbortedError") 143, (.type "ConnectionAbortedError")⟩, ⟨PyData.keyHash P (Str.ofString "ConnectionRefusedError"), .str (Str.ofString "ConnectionRefusedError") 144, (.type "ConnectionRefusedError")⟩, ⟨PyData.keyHash P (Str.ofString "ConnectionResetError"), .str (Str.ofString "ConnectionResetError") 145, (.type "ConnectionResetError")⟩, ⟨PyData.keyHash P (Str.ofString "TabError"), .str (Str.ofString "TabError") 146, (.type "TabError")⟩, ⟨PyData.keyHash P (Str.ofString "UnicodeDecodeError"), .str (Str.ofString "UnicodeDecodeError") 147, (.type "UnicodeDecodeError")⟩, ⟨PyData.keyHash P (Str.ofString "UnicodeEncodeError"), .str (Str.ofString "UnicodeEncodeError") 148, (.type "UnicodeEncodeError")⟩, ⟨PyData.keyHash P (Str.ofString "UnicodeTranslateError"), .str (Str.ofString "UnicodeTranslateError") 149, (.type "UnicodeTranslateError")⟩, ⟨PyData.keyHash P (Str.ofString "ExceptionGroup"), .str (Str.ofString "ExceptionGroup") 150, (.type "ExceptionGroup")⟩, ⟨PyData.keyHash P (Str.ofString "EnvironmentError"), .str (Str.ofString "EnvironmentError") 151, (.type "OSError")⟩, ⟨PyData.keyHash P (Str.ofString "IOError"), .str (Str.ofString "IOError") 152, (.type "OSError")⟩, ⟨PyData.keyHash P (Str.ofString "open"), .str (Str.ofString "open") 153, (.builtin "open")⟩, ⟨PyData.keyHash P (Str.ofString "quit"), .str (Str.ofString "quit") 154, (.builtin "builtins.quit#opaque")⟩, ⟨PyData.keyHash P (Str.ofString "exit"), .str (Str.ofString "exit") 155, (.builtin "builtins.exit#opaque")⟩, ⟨PyData.keyHash P (Str.ofString "copyright"), .str (Str.ofString "copyright") 156, (.builtin "builtins.copyright#opaque")⟩, ⟨PyData.keyHash P (Str.ofString "credits"), .str (Str.ofString "credits") 157, (.builtin "builtins.credits#opaque")⟩, ⟨PyData.keyHash P (Str.ofString "license"), .str (Str.ofString "license") 158, (.builtin "builtins.license#opaque")⟩, ⟨PyData.keyHash P (Str.ofString "help"), .str (Str.ofString "help") 159, (.builtin "builtins.help#opaque")⟩] 159), #[]⟩
noncomputable def ob1 (P : Params) : Obj := ⟨(.type "dict"), none, (.dict #[⟨PyData.keyHash P (Str.ofString "builtins"), .str (Str.ofString "builtins") 162, (.ref 4)⟩, ⟨PyData.keyHash P (Str.ofString "__main__"), .str (Str.ofString "__main__") 163, (.ref 5)⟩, ⟨PyData.keyHash P (Str.ofString "_sre"), .str (Str.ofString "_sre") 244, (.ref 12)⟩] 3), #[]⟩
noncomputable def ob2 (P : Params) : Obj := ⟨.none, none, (.dict #[⟨PyData.keyHash P (Str.ofString "\x69mport.loaded._sre"), .str (Str.ofString "\x69mport.loaded._sre") 183, (.bool true)⟩, ⟨PyData.keyHash P (Str.ofString "class._frozen_\x69mportlib.BuiltinImporter"), .str (Str.ofString "class._frozen_\x69mportlib.BuiltinImporter") 185, (.ref 14)⟩, ⟨PyData.keyHash P (Str.ofString "watched.\x69mport"), .str (Str.ofString "watched.\x69mport") 206, (.ref 18)⟩, ⟨PyData.keyHash P (Str.ofString "class._frozen_\x69mportlib.ModuleSpec"), .str (Str.ofString "class._frozen_\x69mportlib.ModuleSpec") 216, (.ref 22)⟩, ⟨PyData.keyHash P (Str.ofString "sys.modules.booked-epoch"), .str (Str.ofString "sys.modules.booked-epoch") 245, (.int (3) 0)⟩, ⟨PyData.keyHash P (Str.ofString "\x69mport.later-laid._sre"), .str (Str.ofString "\x69mport.later-laid._sre") 270, (.bool true)⟩, ⟨PyData.keyHash P (Str.ofString "watched.library"), .str (Str.ofString "watched.library") 272, (.ref 27)⟩, ⟨PyData.keyHash P (Str.ofString "watched.library-objects"), .str (Str.ofString "watched.library-objects") 0, (.str (Str.ofString "\x0c") 0)⟩, ⟨PyData.keyHash P (Str.ofString "watched.library-deep._sre"), .str (Str.ofString "watched.library-deep._sre") 273, (.str (Str.ofString "\x04\x00\x00\x0b\x04\x00\x00\x0b\x04\x00\x00\x03\x04\x00\x00\x0b\x08\x04dict\x02") 0)⟩] 9), #[]⟩
noncomputable def ob3 (P : Params) : Obj := ⟨(.type "dict"), none, (.dict #[⟨PyData.keyHash P (Str.ofString "__name__"), .str (Str.ofString "__name__") 165, (.str (Str.ofString "__main__") 164)⟩, ⟨PyData.keyHash P (Str.ofString "__doc__"), .str (Str.ofString "__doc__") 166, .none⟩, ⟨PyData.keyHash P (Str.ofString "__package__"), .str (Str.ofString "__package__") 167, .none⟩, ⟨PyData.keyHash P (Str.ofString "__loader__"), .str (Str.ofString "__loader__") 168, (.builtin "__main__.__loader__#opaque")⟩, ⟨PyData.keyHash P (Str.ofString "__spec__"), .str (Str.ofString "__spec__") 169, .none⟩, ⟨PyData.keyHash P (Str.ofString "__annotations__"), .str (Str.ofString "__annotations__") 170, (.ref 6)⟩, ⟨PyData.keyHash P (Str.ofString "__builtins__"), .str (Str.ofString "__builtins__") 171, (.ref 4)⟩, ⟨PyData.keyHash P (Str.ofString "__file__"), .str (Str.ofString "__file__") 173, (.str (Str.ofString "/claim/cut.py") 172)⟩, ⟨PyData.keyHash P (Str.ofString "__cached__"), .str (Str.ofString "__cached__") 174, .none⟩, ⟨PyData.keyHash P (Str.ofString "_sre"), .str (Str.ofString "_sre") 275, (.ref 12)⟩] 10), #[]⟩
noncomputable def ob4 : Obj := ⟨(.type "module"), (some 0), .plain, #[]⟩
noncomputable def ob5 : Obj := ⟨(.type "module"), (some 3), .plain, #[]⟩
noncomputable def ob6 : Obj := ⟨(.type "dict"), none, (.dict #[] 0), #[]⟩
noncomputable def ob7 : Obj := ⟨(.type "tuple"), none, (.seq #[] 0), #[]⟩
noncomputable def ob8 : Obj := ⟨.none, none, (.fields #[]), #[]⟩
noncomputable def ob9 : Obj := ⟨(.type "code"), none, (.fields #[(.str (Str.ofString "<module>") 176), (.str (Str.ofString "<module>") 177), (.str (Str.ofString "/claim/cut.py") 178), (.int (1) 0), (.int (0) 0), (.int (0) 0), (.int (0) 0), (.int (0) 0), (.ref 7), (.bool false), (.int (175) 0), (.ref 8), .none, .none, .none, .none, (.int (179) 0), (.int (1) 0), (.str (Str.ofString "/claim/cut.py") 180)]), #[]⟩
noncomputable def ob10 : Obj := ⟨(.type "frame"), none, .plain, #[(some (.ref 9)), (some (.ref 3)), (some (.ref 3)), none, (some (.str (Str.ofString "__main__") 164)), none, (some (.ref 0))]⟩
noncomputable def ob11 (P : Params) : Obj := ⟨(.type "dict"), none, (.dict #[⟨PyData.keyHash P (Str.ofString "__name__"), .str (Str.ofString "__name__") 247, (.str (Str.ofString "_sre") 246)⟩, ⟨PyData.keyHash P (Str.ofString "__doc__"), .str (Str.ofString "__doc__") 248, .none⟩, ⟨PyData.keyHash P (Str.ofString "__package__"), .str (Str.ofString "__package__") 250, (.str (Str.ofString "") 249)⟩, ⟨PyData.keyHash P (Str.ofString "__loader__"), .str (Str.ofString "__loader__") 251, (.builtin "off-the-table:_sre.__loader__:shared#opaque")⟩, ⟨PyData.keyHash P (Str.ofString "__spec__"), .str (Str.ofString "__spec__") 252, (.builtin "off-the-table:_sre.__spec__:shared#opaque")⟩, ⟨PyData.keyHash P (Str.ofString "compile"), .str (Str.ofString "compile") 253, (.builtin "_sre.compile")⟩, ⟨PyData.keyHash P (Str.ofString "template"), .str (Str.ofString "template") 254, (.builtin "off-the-table:_sre.template:shared#opaque")⟩, ⟨PyData.keyHash P (Str.ofString "getcodesize"), .str (Str.ofString "getcodesize") 255, (.builtin "off-the-table:_sre.getcodesize:shared#opaque")⟩, ⟨PyData.keyHash P (Str.ofString "ascii_iscased"), .str (Str.ofString "ascii_iscased") 256, (.builtin "off-the-table:_sre.ascii_iscased:shared#opaque")⟩, ⟨PyData.keyHash P (Str.ofString "unicode_iscased"), .str (Str.ofString "unicode_iscased") 257, (.builtin "off-the-table:_sre.unicode_iscased:shared#opaque")⟩, ⟨PyData.keyHash P (Str.ofString "ascii_tolower"), .str (Str.ofString "ascii_tolower") 258, (.builtin "off-the-table:_sre.ascii_tolower:shared#opaque")⟩, ⟨PyData.keyHash P (Str.ofString "unicode_tolower"), .str (Str.ofString "unicode_tolower") 259, (.builtin "off-the-table:_sre.unicode_tolower:shared#opaque")⟩, ⟨PyData.keyHash P (Str.ofString "MAGIC"), .str (Str.ofString "MAGIC") 261, (.int (20230612) 260)⟩, ⟨PyData.keyHash P (Str.ofString "CODESIZE"), .str (Str.ofString "CODESIZE") 263, (.int (4) 262)⟩, ⟨PyData.keyHash P (Str.ofString "MAXREPEAT"), .str (Str.ofString "MAXREPEAT") 265, (.int (4294967295) 264)⟩, ⟨PyData.keyHash P (Str.ofString "MAXGROUPS"), .str (Str.ofString "MAXGROUPS") 267, (.int (1073741823) 266)⟩, ⟨PyData.keyHash P (Str.ofString "copyright"), .str (Str.ofString "copyright") 269, (.str (Str.ofString " SRE 2.2.2 Copyright (c) 1997-2002 by Secret Labs AB ") 268)⟩] 17), #[]⟩
noncomputable def ob12 : Obj := ⟨(.type "module"), (some 11), .plain, #[]⟩
noncomputable def ob13 (P : Params) : Obj := ⟨(.type "dict"), none, (.dict #[⟨PyData.keyHash P (Str.ofString "__module__"), .str (Str.ofString "__module__") 189, (.str (Str.ofString "_frozen_\x69mportlib") 186)⟩, ⟨PyData.keyHash P (Str.ofString "__firstlineno__"), .str (Str.ofString "__firstlineno__") 190, (.int (971) 187)⟩, ⟨PyData.keyHash P (Str.ofString "__doc__"), .str (Str.ofString "__doc__") 191, (.builtin "_frozen_\x69mportlib.BuiltinImporter.__doc__:str#opaque")⟩, ⟨PyData.keyHash P (Str.ofString "_ORIGIN"), .str (Str.ofString "_ORIGIN") 192, (.str (Str.ofString "built-in") 188)⟩, ⟨PyData.keyHash P (Str.ofString "find_spec"), .str (Str.ofString "find_spec") 193, (.builtin "_frozen_\x69mportlib.BuiltinImporter.find_spec#opaque")⟩, ⟨PyData.keyHash P (Str.ofString "create_module"), .str (Str.ofString "create_module") 194, (.builtin "_frozen_\x69mportlib.BuiltinImporter.create_module#opaque")⟩, ⟨PyData.keyHash P (Str.ofString "exec_module"), .str (Str.ofString "exec_module") 195, (.builtin "_frozen_\x69mportlib.BuiltinImporter.exec_module#opaque")⟩, ⟨PyData.keyHash P (Str.ofString "get_code"), .str (Str.ofString "get_code") 196, (.builtin "_frozen_\x69mportlib.BuiltinImporter.get_code#opaque")⟩, ⟨PyData.keyHash P (Str.ofString "get_source"), .str (Str.ofString "get_source") 197, (.builtin "_frozen_\x69mportlib.BuiltinImporter.get_source#opaque")⟩, ⟨PyData.keyHash P (Str.ofString "is_package"), .str (Str.ofString "is_package") 198, (.builtin "_frozen_\x69mportlib.BuiltinImporter.is_package#opaque")⟩, ⟨PyData.keyHash P (Str.ofString "load_module"), .str (Str.ofString "load_module") 199, (.builtin "_frozen_\x69mportlib.BuiltinImporter.load_module#opaque")⟩, ⟨PyData.keyHash P (Str.ofString "__static_attributes__"), .str (Str.ofString "__static_attributes__") 200, (.ref 15)⟩, ⟨PyData.keyHash P (Str.ofString "__dict__"), .str (Str.ofString "__dict__") 202, (.ref 16)⟩, ⟨PyData.keyHash P (Str.ofString "__weakref__"), .str (Str.ofString "__weakref__") 204, (.ref 17)⟩] 14), #[]⟩
noncomputable def ob14 : Obj := ⟨(.type "type"), none, (.cls { name := (Str.ofString "BuiltinImporter"), bases := [(.type "object")], mro := [(.ref 14), (.type "object")], ns := 13, qualname := (Str.ofString "BuiltinImporter"), hasDict := true, slotNames := [], subclasses := [], abstract := false, collection := none, hasDel := false }), #[]⟩
noncomputable def ob15 : Obj := ⟨(.type "getset_descriptor"), none, (.fields #[(.str (Str.ofString "__dict__") 201), (.ref 14), (.builtin "function.__dict__"), (.builtin "function.__dict__#set")]), #[]⟩
noncomputable def ob16 : Obj := ⟨(.type "getset_descriptor"), none, (.fields #[(.str (Str.ofString "__weakref__") 203), (.ref 14), (.builtin "ExceptionGroup.__weakref__"), .none]), #[]⟩
noncomputable def ob17 : Obj := ⟨.none, none, (.seq #[(.int (13) 0), (.str (⟨#[6, 189, 10, 95, 95, 109, 111, 100, 117, 108, 101, 95, 95, 6, 186, 17, 95, 102, 114, 111, 122, 101, 110, 95, 105, 109, 112, 111, 114, 116, 108, 105, 98, 6, 190, 15, 95, 95, 102, 105, 114, 115, 116, 108, 105, 110, 101, 110, 111, 95, 95, 4, 187, 0, 971, 6, 191, 7, 95, 95, 100, 111, 99, 95, 95, 9, 52, 95, 102, 114, 111, 122, 101, 110, 95, 105, 109, 112, 111, 114, 116, 108, 105, 98, 46, 66, 117, 105, 108, 116, 105, 110, 73, 109, 112, 111, 114, 116, 101, 114, 46, 95, 95, 100, 111, 99, 95, 95, 58, 115, 116, 114, 35, 111, 112, 97, 113, 117, 101, 6, 192, 7, 95, 79, 82, 73, 71, 73, 78, 6, 188, 8, 98, 117, 105, 108, 116, 45, 105, 110, 6, 193, 9, 102, 105, 110, 100, 95, 115, 112, 101, 99, 9, 50, 95, 102, 114, 111, 122, 101, 110, 95, 105, 109, 112, 111, 114, 116, 108, 105, 98, 46, 66, 117, 105, 108, 116, 105, 110, 73, 109, 112, 111, 114, 116, 101, 114, 46, 102, 105, 110, 100, 95, 115, 112, 101, 99, 35, 111, 112, 97, 113, 117, 101, 6, 194, 13, 99, 114, 101, 97, 116, 101, 95, 109, 111, 100, 117, 108, 101, 9, 54, 95, 102, 114, 111, 122, 101, 110, 95, 105, 109, 112, 111, 114, 116, 108, 105, 98, 46, 66, 117, 105, 108, 116, 105, 110, 73, 109, 112, 111, 114, 116, 101, 114, 46, 99, 114, 101, 97, 116, 101, 95, 109, 111, 100, 117, 108, 101, 35, 111, 112, 97, 113, 117, 101, 6, 195, 11, 101, 120, 101, 99, 95, 109, 111, 100, 117, 108, 101, 9, 52, 95, 102, 114, 111, 122, 101, 110, 95, 105, 109, 112, 111, 114, 116, 108, 105, 98, 46, 66, 117, 105, 108, 116, 105, 110, 73, 109, 112, 111, 114, 116, 101, 114, 46, 101, 120, 101, 99, 95, 109, 111, 100, 117, 108, 101, 35, 111, 112, 97, 113, 117, 101, 6, 196, 8, 103, 101, 116, 95, 99, 111, 100, 101, 9, 49, 95, 102, 114, 111, 122, 101, 110, 95, 105, 109, 112, 111, 114, 116, 108, 105, 98, 46, 66, 117, 105, 108, 116, 105, 110, 73, 109, 112, 111, 114, 116, 101, 114, 46, 103, 101, 116, 95, 99, 111, 100, 101, 35, 111, 112, 97, 113, 117, 101, 6, 197, 10, 103, 101, 116, 95, 115, 111, 117, 114, 99, 101, 9, 51, 95, 102, 114, 111, 122, 101, 110, 95, 105, 109, 112, 111, 114, 116, 108, 105, 98, 46, 66, 117, 105, 108, 116, 105, 110, 73, 109, 112, 111, 114, 116, 101, 114, 46, 103, 101, 116, 95, 115, 111, 117, 114, 99, 101, 35, 111, 112, 97, 113, 117, 101, 6, 198, 10, 105, 115, 95, 112, 97, 99, 107, 97, 103, 101, 9, 51, 95, 102, 114, 111, 122, 101, 110, 95, 105, 109, 112, 111, 114, 116, 108, 105, 98, 46, 66, 117, 105, 108, 116, 105, 110, 73, 109, 112, 111, 114, 116, 101, 114, 46, 105, 115, 95, 112, 97, 99, 107, 97, 103, 101, 35, 111, 112, 97, 113, 117, 101, 6, 199, 11, 108, 111, 97, 100, 95, 109, 111, 100, 117, 108, 101, 9, 52, 95, 102, 114, 111, 122, 101, 110, 95, 105, 109, 112, 111, 114, 116, 108, 105, 98, 46, 66, 117, 105, 108, 116, 105, 110, 73, 109, 112, 111, 114, 116, 101, 114, 46, 108, 111, 97, 100, 95, 109, 111, 100, 117, 108, 101, 35, 111, 112, 97, 113, 117, 101, 6, 200, 21, 95, 95, 115, 116, 97, 116, 105, 99, 95, 97, 116, 116, 114, 105, 98, 117, 116, 101, 115, 95, 95, 4, 0, 0, 15, 6, 202, 8, 95, 95, 100, 105, 99, 116, 95, 95, 4, 0, 0, 16, 6, 204, 11, 95, 95, 119, 101, 97, 107, 114, 101, 102, 95, 95, 4, 0, 0, 17]⟩ : PySem.Str) 0), (.bool true), (.bool true), (.str (Str.ofString "") 205), (.int (21) 0), (.str (⟨#[6, 227, 10, 95, 95, 109, 111, 100, 117, 108, 101, 95, 95, 6, 217, 17, 95, 102, 114, 111, 122, 101, 110, 95, 105, 109, 112, 111, 114, 116, 108, 105, 98, 6, 228, 15, 95, 95, 102, 105, 114, 115, 116, 108, 105, 110, 101, 110, 111, 95, 95, 4, 218, 0, 562, 6, 229, 7, 95, 95, 100, 111, 99, 95, 95, 9, 47, 95, 102, 114, 111, 122, 101, 110, 95, 105, 109, 112, 111, 114, 116, 108, 105, 98, 46, 77, 111, 100, 117, 108, 101, 83, 112, 101, 99, 46, 95, 95, 100, 111, 99, 95, 95, 58, 115, 116, 114, 35, 111, 112, 97, 113, 117, 101, 6, 230, 8, 95, 95, 105, 110, 105, 116, 95, 95, 9, 44, 95, 102, 114, 111, 122, 101, 110, 95, 105, 109, 112, 111, 114, 116, 108, 105, 98, 46, 77, 111, 100, 117, 108, 101, 83, 112, 101, 99, 46, 95, 95, 105, 110, 105, 116, 95, 95, 35, 111, 112, 97, 113, 117, 101, 6, 231, 8, 95, 95, 114, 101, 112, 114, 95, 95, 9, 44, 95, 102, 114, 111, 122, 101, 110, 95, 105, 109, 112, 111, 114, 116, 108, 105, 98, 46, 77, 111, 100, 117, 108, 101, 83, 112, 101, 99, 46, 95, 95, 114, 101, 112, 114, 95, 95, 35, 111, 112, 97, 113, 117, 101, 6, 232, 6, 95, 95, 101, 113, 95, 95, 9, 42, 95, 102, 114, 111, 122, 101, 110, 95, 105, 109, 112, 111, 114, 116, 108, 105, 98, 46, 77, 111, 100, 117, 108, 101, 83, 112, 101, 99, 46, 95, 95, 101, 113, 95, 95, 35, 111, 112, 97, 113, 117, 101, 6, 233, 6, 99, 97, 99, 104, 101, 100, 9, 42, 95, 102, 114, 111, 122, 101, 110, 95, 105, 109, 112, 111, 114, 116, 108, 105, 98, 46, 77, 111, 100, 117, 108, 101, 83, 112, 101, 99, 46, 99, 97, 99, 104, 101, 100, 35, 111, 112, 97, 113, 117, 101, 6, 234, 6, 112, 97, 114, 101, 110, 116, 9, 42, 95, 102, 114, 111, 122, 101, 110, 95, 105, 109, 112, 111, 114, 116, 108, 105, 98, 46, 77, 111, 100, 117, 108, 101, 83, 112, 101, 99, 46, 112, 97, 114, 101, 110, 116, 35, 111, 112, 97, 113, 117, 101, 6, 235, 12, 104, 97, 115, 95, 108, 111, 99, 97, 116, 105, 111, 110, 9, 48, 95, 102, 114, 111, 122, 101, 110, 95, 105, 109, 112, 111, 114, 116, 108, 105, 98, 46, 77, 111, 100, 117, 108, 101, 83, 112, 101, 99, 46, 104, 97, 115, 95, 108, 111, 99, 97, 116, 105, 111, 110, 35, 111, 112, 97, 113, 117, 101, 6, 236, 21, 95, 95, 115, 116, 97, 116, 105, 99, 95, 97, 116, 116, 114, 105, 98, 117, 116, 101, 115, 95, 95, 4, 0, 0, 23, 6, 238, 8, 95, 95, 100, 105, 99, 116, 95, 95, 4, 0, 0, 24, 6, 240, 11, 95, 95, 119, 101, 97, 107, 114, 101, 102, 95, 95, 4, 0, 0, 25, 6, 241, 8, 95, 95, 104, 97, 115, 104, 95, 95, 0]⟩ : PySem.Str) 0), (.bool true), (.bool true), (.str (Str.ofString "") 242)] 1), #[]⟩
noncomputable def ob18 : Obj := ⟨(.type "list"), none, (.seq #[] 0), #[]⟩
noncomputable def ob19 (P : Params) : Obj := ⟨(.type "dict"), none, (.dict #[⟨PyData.keyHash P (Str.ofString "name"), .str (Str.ofString "name") 208, (.str (Str.ofString "_sre") 207)⟩, ⟨PyData.keyHash P (Str.ofString "loader"), .str (Str.ofString "loader") 209, (.ref 14)⟩, ⟨PyData.keyHash P (Str.ofString "origin"), .str (Str.ofString "origin") 210, (.str (Str.ofString "built-in") 184)⟩, ⟨PyData.keyHash P (Str.ofString "loader_state"), .str (Str.ofString "loader_state") 211, .none⟩, ⟨PyData.keyHash P (Str.ofString "submodule_search_locations"), .str (Str.ofString "submodule_search_locations") 212, .none⟩, ⟨PyData.keyHash P (Str.ofString "_uninitialized_submodules"), .str (Str.ofString "_uninitialized_submodules") 213, (.ref 19)⟩, ⟨PyData.keyHash P (Str.ofString "_set_fileattr"), .str (Str.ofString "_set_fileattr") 214, (.bool false)⟩, ⟨PyData.keyHash P (Str.ofString "_cached"), .str (Str.ofString "_cached") 215, .none⟩, ⟨PyData.keyHash P (Str.ofString "_initializing"), .str (Str.ofString "_initializing") 243, (.bool false)⟩] 9), #[]⟩
noncomputable def ob20 (P : Params) : Obj := ⟨(.type "dict"), none, (.dict #[⟨PyData.keyHash P (Str.ofString "__module__"), .str (Str.ofString "__module__") 227, (.str (Str.ofString "_frozen_\x69mportlib") 217)⟩, ⟨PyData.keyHash P (Str.ofString "__firstlineno__"), .str (Str.ofString "__firstlineno__") 228, (.int (562) 218)⟩, ⟨PyData.keyHash P (Str.ofString "__doc__"), .str (Str.ofString "__doc__") 229, (.builtin "_frozen_\x69mportlib.ModuleSpec.__doc__:str#opaque")⟩, ⟨PyData.keyHash P (Str.ofString "__init__"), .str (Str.ofString "__init__") 230, (.builtin "_frozen_\x69mportlib.ModuleSpec.__init__#opaque")⟩, ⟨PyData.keyHash P (Str.ofString "__repr__"), .str (Str.ofString "__repr__") 231, (.builtin "_frozen_\x69mportlib.ModuleSpec.__repr__#opaque")⟩, ⟨PyData.keyHash P (Str.ofString "__eq__"), .str (Str.ofString "__eq__") 232, (.builtin "_frozen_\x69mportlib.ModuleSpec.__eq__#opaque")⟩, ⟨PyData.keyHash P (Str.ofString "cached"), .str (Str.ofString "cached") 233, (.builtin "_frozen_\x69mportlib.ModuleSpec.cached#opaque")⟩, ⟨PyData.keyHash P (Str.ofString "parent"), .str (Str.ofString "parent") 234, (.builtin "_frozen_\x69mportlib.ModuleSpec.parent#opaque")⟩, ⟨PyData.keyHash P (Str.ofString "has_location"), .str (Str.ofString "has_location") 235, (.builtin "_frozen_\x69mportlib.ModuleSpec.has_location#opaque")⟩, ⟨PyData.keyHash P (Str.ofString "__static_attributes__"), .str (Str.ofString "__static_attributes__") 236, (.ref 23)⟩, ⟨PyData.keyHash P (Str.ofString "__dict__"), .str (Str.ofString "__dict__") 238, (.ref 24)⟩, ⟨PyData.keyHash P (Str.ofString "__weakref__"), .str (Str.ofString "__weakref__") 240, (.ref 25)⟩, ⟨PyData.keyHash P (Str.ofString "__hash__"), .str (Str.ofString "__hash__") 241, .none⟩] 13), #[]⟩
noncomputable def ob21 : Obj := ⟨(.type "type"), none, (.cls { name := (Str.ofString "ModuleSpec"), bases := [(.type "object")], mro := [(.ref 22), (.type "object")], ns := 21, qualname := (Str.ofString "ModuleSpec"), hasDict := true, slotNames := [], subclasses := [], abstract := false, collection := none, hasDel := false }), #[]⟩
noncomputable def ob22 : Obj := ⟨(.type "tuple"), none, (.seq #[(.str (Str.ofString "_cached") 219), (.str (Str.ofString "_set_fileattr") 220), (.str (Str.ofString "_uninitialized_submodules") 221), (.str (Str.ofString "loader") 222), (.str (Str.ofString "loader_state") 223), (.str (Str.ofString "name") 224), (.str (Str.ofString "origin") 225), (.str (Str.ofString "submodule_search_locations") 226)] 0), #[]⟩
noncomputable def ob23 : Obj := ⟨(.type "getset_descriptor"), none, (.fields #[(.str (Str.ofString "__dict__") 237), (.ref 22), (.builtin "function.__dict__"), (.builtin "function.__dict__#set")]), #[]⟩
noncomputable def ob24 : Obj := ⟨(.type "getset_descriptor"), none, (.fields #[(.str (Str.ofString "__weakref__") 239), (.ref 22), (.builtin "ExceptionGroup.__weakref__"), .none]), #[]⟩
noncomputable def ob25 : Obj := ⟨(.ref 22), (some 20), .plain, #[]⟩
noncomputable def ob26 : Obj := ⟨.none, none, (.seq #[(.int (11) 0), (.str (⟨#[6, 247, 8, 95, 95, 110, 97, 109, 101, 95, 95, 6, 246, 4, 95, 115, 114, 101, 6, 248, 7, 95, 95, 100, 111, 99, 95, 95, 0, 6, 250, 11, 95, 95, 112, 97, 99, 107, 97, 103, 101, 95, 95, 6, 249, 0, 6, 251, 10, 95, 95, 108, 111, 97, 100, 101, 114, 95, 95, 4, 0, 0, 14, 6, 252, 8, 95, 95, 115, 112, 101, 99, 95, 95, 4, 0, 0, 26, 6, 253, 7, 99, 111, 109, 112, 105, 108, 101, 9, 12, 95, 115, 114, 101, 46, 99, 111, 109, 112, 105, 108, 101, 6, 254, 8, 116, 101, 109, 112, 108, 97, 116, 101, 9, 13, 95, 115, 114, 101, 46, 116, 101, 109, 112, 108, 97, 116, 101, 6, 255, 11, 103, 101, 116, 99, 111, 100, 101, 115, 105, 122, 101, 9, 16, 95, 115, 114, 101, 46, 103, 101, 116, 99, 111, 100, 101, 115, 105, 122, 101, 6, 256, 13, 97, 115, 99, 105, 105, 95, 105, 115, 99, 97, 115, 101, 100, 9, 18, 95, 115, 114, 101, 46, 97, 115, 99, 105, 105, 95, 105, 115, 99, 97, 115, 101, 100, 6, 257, 15, 117, 110, 105, 99, 111, 100, 101, 95, 105, 115, 99, 97, 115, 101, 100, 9, 20, 95, 115, 114, 101, 46, 117, 110, 105, 99, 111, 100, 101, 95, 105, 115, 99, 97, 115, 101, 100, 6, 258, 13, 97, 115, 99, 105, 105, 95, 116, 111, 108, 111, 119, 101, 114, 9, 18, 95, 115, 114, 101, 46, 97, 115, 99, 105, 105, 95, 116, 111, 108, 111, 119, 101, 114, 6, 259, 15, 117, 110, 105, 99, 111, 100, 101, 95, 116, 111, 108, 111, 119, 101, 114, 9, 20, 95, 115, 114, 101, 46, 117, 110, 105, 99, 111, 100, 101, 95, 116, 111, 108, 111, 119, 101, 114, 6, 261, 5, 77, 65, 71, 73, 67, 4, 260, 0, 20230612, 6, 263, 8, 67, 79, 68, 69, 83, 73, 90, 69, 4, 262, 0, 4, 6, 265, 9, 77, 65, 88, 82, 69, 80, 69, 65, 84, 4, 264, 0, 4294967295, 6, 267, 9, 77, 65, 88, 71, 82, 79, 85, 80, 83, 4, 266, 0, 1073741823, 6, 269, 9, 99, 111, 112, 121, 114, 105, 103, 104, 116, 6, 268, 53, 32, 83, 82, 69, 32, 50, 46, 50, 46, 50, 32, 67, 111, 112, 121, 114, 105, 103, 104, 116, 32, 40, 99, 41, 32, 49, 57, 57, 55, 45, 50, 48, 48, 50, 32, 98, 121, 32, 83, 101, 99, 114, 101, 116, 32, 76, 97, 98, 115, 32, 65, 66, 32]⟩ : PySem.Str) 0), (.bool true), (.bool false), (.str (Str.ofString "_sre") 271)] 0), #[]⟩
noncomputable def hp0 (P : Params) : Heap := ⟨⟨ob0 P :: ob1 P :: ob2 P :: ob3 P :: ob4 :: ob5 :: ob6 :: ob7 :: ob8 :: ob9 :: ob10 :: ob11 P :: ob12 :: ob13 P :: ob14 :: ob7 :: ob15 :: ob16 :: ob17 :: ob18 :: ob19 P :: ob20 P :: ob21 :: ob22 :: ob23 :: ob24 :: ob25 :: ob26 :: []⟩, life0⟩
noncomputable def ob27 : Obj := ⟨(.type "code"), none, (.fields #[(.str (Str.ofString "<module>") 277), (.str (Str.ofString "<module>") 278), (.str (Str.ofString "/claim/cut.py") 279), (.int (1) 0), (.int (0) 0), (.int (0) 0), (.int (0) 0), (.int (0) 0), (.ref 28), (.bool false), (.int (276) 0), (.ref 29), .none, .none, .none, .none, (.int (280) 0), (.int (1) 0), (.str (Str.ofString "/claim/cut.py") 281)]), #[]⟩
noncomputable def ob28 : Obj := ⟨(.type "frame"), none, .plain, #[(some (.ref 30)), (some (.ref 3)), (some (.ref 3)), none, (some (.str (Str.ofString "__main__") 164)), none, (some (.ref 0))]⟩
noncomputable def hpa (P : Params) : Heap := ⟨⟨ob0 P :: ob1 P :: ob2 P :: ob3 P :: ob4 :: ob5 :: ob6 :: ob7 :: ob8 :: ob9 :: ob10 :: ob11 P :: ob12 :: ob13 P :: ob14 :: ob7 :: ob15 :: ob16 :: ob17 :: ob18 :: ob19 P :: ob20 P :: ob21 :: ob22 :: ob23 :: ob24 :: ob25 :: ob26 :: ob7 :: ob8 :: ob27 :: ob28 :: []⟩, life0⟩
noncomputable abbrev hpb (P : Params) : Heap := hpa P
noncomputable def ob29 (P : Params) : Obj := ⟨(.type "dict"), none, (.dict #[⟨PyData.keyHash P (Str.ofString "__name__"), .str (Str.ofString "__name__") 165, (.str (Str.ofString "cpy313.urllib.robotparser") 282)⟩, ⟨PyData.keyHash P (Str.ofString "__doc__"), .str (Str.ofString "__doc__") 166, .none⟩, ⟨PyData.keyHash P (Str.ofString "__package__"), .str (Str.ofString "__package__") 167, .none⟩, ⟨PyData.keyHash P (Str.ofString "__loader__"), .str (Str.ofString "__loader__") 168, (.builtin "__main__.__loader__#opaque")⟩, ⟨PyData.keyHash P (Str.ofString "__spec__"), .str (Str.ofString "__spec__") 169, .none⟩, ⟨PyData.keyHash P (Str.ofString "__annotations__"), .str (Str.ofString "__annotations__") 170, (.ref 6)⟩, ⟨PyData.keyHash P (Str.ofString "__builtins__"), .str (Str.ofString "__builtins__") 171, (.ref 4)⟩, ⟨PyData.keyHash P (Str.ofString "__file__"), .str (Str.ofString "__file__") 173, (.str (Str.ofString "/claim/cut.py") 172)⟩, ⟨PyData.keyHash P (Str.ofString "__cached__"), .str (Str.ofString "__cached__") 174, .none⟩, ⟨PyData.keyHash P (Str.ofString "_sre"), .str (Str.ofString "_sre") 275, (.ref 12)⟩, ⟨PyData.keyHash P (Str.ofString "Entry"), .str (Str.ofString "Entry") 345, (.ref 69)⟩] 11), #[]⟩
noncomputable def ob30 : Obj := ⟨.none, none, (.fields #[(.int (3) 0), (.int (0) 0), (.ref 37)]), #[]⟩
noncomputable def ob31 : Obj := ⟨(.type "builtin_function_or_method"), none, (.fields #[(.builtin "type.__prepare__"), (.type "type")]), #[]⟩
noncomputable def ob32 (P : Params) : Obj := ⟨(.type "dict"), none, (.dict #[⟨PyData.keyHash P (Str.ofString "__module__"), .str (Str.ofString "__module__") 291, (.str (Str.ofString "cpy313.urllib.robotparser") 282)⟩, ⟨PyData.keyHash P (Str.ofString "__qualname__"), .str (Str.ofString "__qualname__") 293, (.str (Str.ofString "Entry") 292)⟩, ⟨PyData.keyHash P (Str.ofString "__firstlineno__"), .str (Str.ofString "__firstlineno__") 295, (.int (3) 294)⟩, ⟨PyData.keyHash P (Str.ofString "__init__"), .str (Str.ofString "__init__") 302, (.ref 45)⟩, ⟨PyData.keyHash P (Str.ofString "__str__"), .str (Str.ofString "__str__") 312, (.ref 52)⟩, ⟨PyData.keyHash P (Str.ofString "applies_to"), .str (Str.ofString "applies_to") 321, (.ref 59)⟩, ⟨PyData.keyHash P (Str.ofString "allowance"), .str (Str.ofString "allowance") 333, (.ref 66)⟩, ⟨PyData.keyHash P (Str.ofString "__static_attributes__"), .str (Str.ofString "__static_attributes__") 338, (.ref 67)⟩] 8), #[]⟩
noncomputable def ob33 : Obj := ⟨.none, none, (.fields #[(.int (5) 0), (.int (4) 0), (.ref 44), (.int (11) 0), (.int (4) 0), (.ref 51), (.int (28) 0), (.int (4) 0), (.ref 58), (.int (39) 0), (.int (4) 0), (.ref 65)]), #[]⟩
noncomputable def ob34 : Obj := ⟨(.type "code"), none, (.fields #[(.str (Str.ofString "Entry") 286), (.str (Str.ofString "Entry") 287), (.str (Str.ofString "/claim/cut.py") 288), (.int (3) 0), (.int (0) 0), (.int (0) 0), (.int (0) 0), (.int (0) 0), (.ref 35), (.bool false), (.int (276) 0), (.ref 36), .none, .none, .none, .none, (.int (289) 0), (.int (3) 0), (.str (Str.ofString "/claim/cut.py") 290)]), #[]⟩
noncomputable def ob35 : Obj := ⟨(.type "frame"), none, .plain, #[(some (.ref 37)), (some (.ref 3)), (some (.ref 34)), none, (some (.str (Str.ofString "cpy313.urllib.robotparser") 282)), none, (some (.ref 0))]⟩
noncomputable def ob36 : Obj := ⟨(.type "tuple"), none, (.seq #[(.str (Str.ofString "self") 299)] 0), #[]⟩
noncomputable def ob37 : Obj := ⟨.none, none, (.func { name := (Str.ofString "__init__"), qualname := (Str.ofString "Entry.__init__"), params := dP (mT 2 0), body := .stmts (dB (mT 2 0)), scope := dS (mT 2 0), globals := 0, closure := [], defaults := .none, kwdefaults := .none, doc := .none, pyModule := .none, annotations := none, code := .none, closureTuple := .none, builtins := 0 }), #[]⟩
noncomputable def ob38 : Obj := ⟨(.type "code"), none, (.fields #[(.str (Str.ofString "__init__") 296), (.str (Str.ofString "Entry.__init__") 297), (.str (Str.ofString "/claim/cut.py") 298), (.int (5) 0), (.int (1) 0), (.int (0) 0), (.int (0) 0), (.int (3) 0), (.ref 39), (.bool true), (.int (276) 0), (.ref 40), .none, (.ref 41), (.ref 42), (.ref 43), (.int (300) 0), (.int (5) 0), (.str (Str.ofString "/claim/cut.py") 301)]), #[]⟩
noncomputable def ob39 : Obj := ⟨(.type "function"), none, (.func { name := (Str.ofString "__init__"), qualname := (Str.ofString "Entry.__init__"), params := dP (mT 2 0), body := .stmts (dB (mT 2 0)), scope := dS (mT 2 0), globals := 3, closure := [], defaults := .none, kwdefaults := .none, doc := .none, pyModule := (.str (Str.ofString "cpy313.urllib.robotparser") 282), annotations := none, code := (.ref 44), closureTuple := .none, builtins := 0 }), #[]⟩
noncomputable def ob40 : Obj := ⟨(.type "tuple"), none, (.seq #[(.str (Str.ofString "self") 306), (.str (Str.ofString "ret") 307), (.str (Str.ofString "agent") 308), (.str (Str.ofString "rate") 309)] 0), #[]⟩
noncomputable def ob41 : Obj := ⟨.none, none, (.func { name := (Str.ofString "__str__"), qualname := (Str.ofString "Entry.__str__"), params := dP (mT 2 1), body := .stmts (dB (mT 2 1)), scope := dS (mT 2 1), globals := 0, closure := [], defaults := .none, kwdefaults := .none, doc := .none, pyModule := .none, annotations := none, code := .none, closureTuple := .none, builtins := 0 }), #[]⟩
noncomputable def ob42 : Obj := ⟨(.type "code"), none, (.fields #[(.str (Str.ofString "__str__") 303), (.str (Str.ofString "Entry.__str__") 304), (.str (Str.ofString "/claim/cut.py") 305), (.int (11) 0), (.int (1) 0), (.int (0) 0), (.int (0) 0), (.int (3) 0), (.ref 46), (.bool true), (.int (276) 0), (.ref 47), .none, (.ref 48), (.ref 49), (.ref 50), (.int (310) 0), (.int (11) 0), (.str (Str.ofString "/claim/cut.py") 311)]), #[]⟩
noncomputable def ob43 : Obj := ⟨(.type "function"), none, (.func { name := (Str.ofString "__str__"), qualname := (Str.ofString "Entry.__str__"), params := dP (mT 2 1), body := .stmts (dB (mT 2 1)), scope := dS (mT 2 1), globals := 3, closure := [], defaults := .none, kwdefaults := .none, doc := .none, pyModule := (.str (Str.ofString "cpy313.urllib.robotparser") 282), annotations := none, code := (.ref 51), closureTuple := .none, builtins := 0 }), #[]⟩
noncomputable def ob44 : Obj := ⟨(.type "tuple"), none, (.seq #[(.str (Str.ofString "self") 316), (.str (Str.ofString "useragent") 317), (.str (Str.ofString "agent") 318)] 0), #[]⟩
noncomputable def ob45 : Obj := ⟨.none, none, (.func { name := (Str.ofString "applies_to"), qualname := (Str.ofString "Entry.applies_to"), params := dP (mT 2 2), body := .stmts (dB (mT 2 2)), scope := dS (mT 2 2), globals := 0, closure := [], defaults := .none, kwdefaults := .none, doc := .none, pyModule := .none, annotations := none, code := .none, closureTuple := .none, builtins := 0 }), #[]⟩
noncomputable def ob46 : Obj := ⟨(.type "code"), none, (.fields #[(.str (Str.ofString "applies_to") 313), (.str (Str.ofString "Entry.applies_to") 314), (.str (Str.ofString "/claim/cut.py") 315), (.int (28) 0), (.int (2) 0), (.int (0) 0), (.int (0) 0), (.int (3) 0), (.ref 53), (.bool true), (.int (276) 0), (.ref 54), .none, (.ref 55), (.ref 56), (.ref 57), (.int (319) 0), (.int (28) 0), (.str (Str.ofString "/claim/cut.py") 320)]), #[]⟩
noncomputable def ob47 : Obj := ⟨(.type "function"), none, (.func { name := (Str.ofString "applies_to"), qualname := (Str.ofString "Entry.applies_to"), params := dP (mT 2 2), body := .stmts (dB (mT 2 2)), scope := dS (mT 2 2), globals := 3, closure := [], defaults := .none, kwdefaults := .none, doc := .none, pyModule := (.str (Str.ofString "cpy313.urllib.robotparser") 282), annotations := none, code := (.ref 58), closureTuple := .none, builtins := 0 }), #[]⟩
noncomputable def ob48 : Obj := ⟨(.type "tuple"), none, (.seq #[(.str (Str.ofString "self") 325), (.str (Str.ofString "filename") 326), (.str (Str.ofString "best_match") 327), (.str (Str.ofString "allowance") 328), (.str (Str.ofString "line") 329), (.str (Str.ofString "m") 330)] 0), #[]⟩
noncomputable def ob49 : Obj := ⟨.none, none, (.func { name := (Str.ofString "allowance"), qualname := (Str.ofString "Entry.allowance"), params := dP (mT 2 3), body := .stmts (dB (mT 2 3)), scope := dS (mT 2 3), globals := 0, closure := [], defaults := .none, kwdefaults := .none, doc := .none, pyModule := .none, annotations := none, code := .none, closureTuple := .none, builtins := 0 }), #[]⟩
noncomputable def ob50 : Obj := ⟨(.type "code"), none, (.fields #[(.str (Str.ofString "allowance") 322), (.str (Str.ofString "Entry.allowance") 323), (.str (Str.ofString "/claim/cut.py") 324), (.int (39) 0), (.int (2) 0), (.int (0) 0), (.int (0) 0), (.int (3) 0), (.ref 60), (.bool true), (.int (276) 0), (.ref 61), .none, (.ref 62), (.ref 63), (.ref 64), (.int (331) 0), (.int (39) 0), (.str (Str.ofString "/claim/cut.py") 332)]), #[]⟩
noncomputable def ob51 : Obj := ⟨(.type "function"), none, (.func { name := (Str.ofString "allowance"), qualname := (Str.ofString "Entry.allowance"), params := dP (mT 2 3), body := .stmts (dB (mT 2 3)), scope := dS (mT 2 3), globals := 3, closure := [], defaults := .none, kwdefaults := .none, doc := .none, pyModule := (.str (Str.ofString "cpy313.urllib.robotparser") 282), annotations := none, code := (.ref 65), closureTuple := .none, builtins := 0 }), #[]⟩
noncomputable def ob52 : Obj := ⟨(.type "tuple"), none, (.seq #[(.str (Str.ofString "delay") 334), (.str (Str.ofString "req_rate") 335), (.str (Str.ofString "rulelines") 336), (.str (Str.ofString "useragents") 337)] 0), #[]⟩
noncomputable def ob53 (P : Params) : Obj := ⟨(.type "dict"), none, (.dict #[⟨PyData.keyHash P (Str.ofString "__module__"), .str (Str.ofString "__module__") 291, (.str (Str.ofString "cpy313.urllib.robotparser") 282)⟩, ⟨PyData.keyHash P (Str.ofString "__firstlineno__"), .str (Str.ofString "__firstlineno__") 295, (.int (3) 294)⟩, ⟨PyData.keyHash P (Str.ofString "__init__"), .str (Str.ofString "__init__") 302, (.ref 45)⟩, ⟨PyData.keyHash P (Str.ofString "__str__"), .str (Str.ofString "__str__") 312, (.ref 52)⟩, ⟨PyData.keyHash P (Str.ofString "applies_to"), .str (Str.ofString "applies_to") 321, (.ref 59)⟩, ⟨PyData.keyHash P (Str.ofString "allowance"), .str (Str.ofString "allowance") 333, (.ref 66)⟩, ⟨PyData.keyHash P (Str.ofString "__static_attributes__"), .str (Str.ofString "__static_attributes__") 338, (.ref 67)⟩, ⟨PyData.keyHash P (Str.ofString "__dict__"), .str (Str.ofString "__dict__") 340, (.ref 70)⟩, ⟨PyData.keyHash P (Str.ofString "__weakref__"), .str (Str.ofString "__weakref__") 342, (.ref 71)⟩, ⟨PyData.keyHash P (Str.ofString "__doc__"), .str (Str.ofString "__doc__") 343, .none⟩] 4), #[]⟩
noncomputable def ob54 : Obj := ⟨(.type "type"), none, (.cls { name := (Str.ofString "Entry"), bases := [(.type "object")], mro := [(.ref 69), (.type "object")], ns := 68, qualname := (Str.ofString "Entry"), hasDict := true, slotNames := [], subclasses := [], abstract := false, collection := none, hasDel := false }), #[none, none, (some (.str (Str.ofString "Entry") 284)), (some (.str (Str.ofString "Entry") 292)), (some (.builtin "object.__new__")), (some (.bool true))]⟩
noncomputable def ob55 : Obj := ⟨(.type "getset_descriptor"), none, (.fields #[(.str (Str.ofString "__dict__") 339), (.ref 69), (.builtin "function.__dict__"), (.builtin "function.__dict__#set")]), #[]⟩
noncomputable def ob56 : Obj := ⟨(.type "getset_descriptor"), none, (.fields #[(.str (Str.ofString "__weakref__") 341), (.ref 69), (.builtin "ExceptionGroup.__weakref__"), .none]), #[]⟩
noncomputable def ob57 : Obj := ⟨(.type "super"), none, (.fields #[(.ref 69), (.ref 69), (.ref 69)]), #[]⟩
noncomputable def ob58 : Obj := ⟨(.type "builtin_function_or_method"), none, (.fields #[(.builtin "object.__init_subclass__"), (.ref 69)]), #[]⟩
noncomputable def hp1 (P : Params) : Heap := ⟨⟨ob0 P :: ob1 P :: ob2 P :: ob29 P :: ob4 :: ob5 :: ob6 :: ob7 :: ob8 :: ob9 :: ob10 :: ob11 P :: ob12 :: ob13 P :: ob14 :: ob7 :: ob15 :: ob16 :: ob17 :: ob18 :: ob19 P :: ob20 P :: ob21 :: ob22 :: ob23 :: ob24 :: ob25 :: ob26 :: ob7 :: ob30 :: ob27 :: ob28 :: ob7 :: ob31 :: ob32 P :: ob7 :: ob33 :: ob34 :: ob35 :: ob7 :: ob8 :: ob36 :: ob7 :: ob37 :: ob38 :: ob39 :: ob7 :: ob8 :: ob40 :: ob7 :: ob41 :: ob42 :: ob43 :: ob7 :: ob8 :: ob44 :: ob7 :: ob45 :: ob46 :: ob47 :: ob7 :: ob8 :: ob48 :: ob7 :: ob49 :: ob50 :: ob51 :: ob52 :: ob53 P :: ob54 :: ob55 :: ob56 :: ob57 :: ob58 :: []⟩, life0⟩
noncomputable def ob59 (P : Params) : Obj := ⟨(.type "dict"), none, (.dict #[⟨PyData.keyHash P (Str.ofString "__name__"), .str (Str.ofString "__name__") 165, (.str (Str.ofString "re") 395)⟩, ⟨PyData.keyHash P (Str.ofString "__doc__"), .str (Str.ofString "__doc__") 166, .none⟩, ⟨PyData.keyHash P (Str.ofString "__package__"), .str (Str.ofString "__package__") 167, .none⟩, ⟨PyData.keyHash P (Str.ofString "__loader__"), .str (Str.ofString "__loader__") 168, (.builtin "__main__.__loader__#opaque")⟩, ⟨PyData.keyHash P (Str.ofString "__spec__"), .str (Str.ofString "__spec__") 169, .none⟩, ⟨PyData.keyHash P (Str.ofString "__annotations__"), .str (Str.ofString "__annotations__") 170, (.ref 6)⟩, ⟨PyData.keyHash P (Str.ofString "__builtins__"), .str (Str.ofString "__builtins__") 171, (.ref 4)⟩, ⟨PyData.keyHash P (Str.ofString "__file__"), .str (Str.ofString "__file__") 173, (.str (Str.ofString "/claim/cut.py") 172)⟩, ⟨PyData.keyHash P (Str.ofString "__cached__"), .str (Str.ofString "__cached__") 174, .none⟩, ⟨PyData.keyHash P (Str.ofString "_sre"), .str (Str.ofString "_sre") 275, (.ref 12)⟩, ⟨PyData.keyHash P (Str.ofString "Entry"), .str (Str.ofString "Entry") 345, (.ref 69)⟩, ⟨PyData.keyHash P (Str.ofString "_twin_re_1"), .str (Str.ofString "_twin_re_1") 385, (.ref 78)⟩, ⟨PyData.keyHash P (Str.ofString "translate"), .str (Str.ofString "translate") 394, (.ref 85)⟩] 13), #[]⟩
noncomputable def ob60 : Obj := ⟨.none, none, (.fields #[(.int (3) 0), (.int (0) 0), (.ref 37), (.int (53) 0), (.int (0) 0), (.ref 84)]), #[]⟩
noncomputable def ob61 : Obj := ⟨(.type "list"), none, (.seq #[(.int (14) 351), (.int (14) 352), (.int (4) 353), (.int (1) 354), (.int (1) 355), (.int (9) 356), (.int (0) 357), (.int (64) 358), (.int (0) 359), (.int (1342177280) 360), (.int (0) 361), (.int (0) 362), (.int (0) 363), (.int (0) 364), (.int (0) 365), (.int (17) 366), (.int (0) 367), (.int (13) 368), (.int (11) 369), (.int (9) 370), (.int (0) 371), (.int (64) 372), (.int (0) 373), (.int (1342177280) 374), (.int (0) 375), (.int (0) 376), (.int (0) 377), (.int (0) 378), (.int (0) 379), (.int (17) 380), (.int (1) 381), (.int (1) 382)] 0), #[]⟩
noncomputable def ob62 : Obj := ⟨(.type "tuple"), none, (.seq #[.none, .none] 0), #[]⟩
noncomputable def ob63 : Obj := ⟨(.type "tuple"), none, (.seq #[(.int (14) 0), (.int (14) 0), (.int (4) 0), (.int (1) 0), (.int (1) 0), (.int (9) 0), (.int (0) 0), (.int (64) 0), (.int (0) 0), (.int (1342177280) 0), (.int (0) 0), (.int (0) 0), (.int (0) 0), (.int (0) 0), (.int (0) 0), (.int (17) 0), (.int (0) 0), (.int (13) 0), (.int (11) 0), (.int (9) 0), (.int (0) 0), (.int (64) 0), (.int (0) 0), (.int (1342177280) 0), (.int (0) 0), (.int (0) 0), (.int (0) 0), (.int (0) 0), (.int (0) 0), (.int (17) 0), (.int (1) 0), (.int (1) 0)] 0), #[]⟩
noncomputable def ob64 : Obj := ⟨(.type "re.Pattern"), none, (.fields #[(.str (Str.ofString "([&~|])") 349), (.int (32) 384), (.int (1) 0), .none, .none, (.ref 77), (.int (0) 0)]), #[]⟩
noncomputable def ob65 : Obj := ⟨(.type "tuple"), none, (.seq #[(.str (Str.ofString "pat") 389), (.str (Str.ofString "STAR") 390), (.str (Str.ofString "parts") 391)] 0), #[]⟩
noncomputable def ob66 : Obj := ⟨.none, none, (.func { name := (Str.ofString "translate"), qualname := (Str.ofString "translate"), params := dP (dT 5), body := .stmts (dB (dT 5)), scope := dS (dT 5), globals := 0, closure := [], defaults := .none, kwdefaults := .none, doc := .none, pyModule := .none, annotations := none, code := .none, closureTuple := .none, builtins := 0 }), #[]⟩
noncomputable def ob67 : Obj := ⟨(.type "code"), none, (.fields #[(.str (Str.ofString "translate") 386), (.str (Str.ofString "translate") 387), (.str (Str.ofString "/claim/cut.py") 388), (.int (53) 0), (.int (1) 0), (.int (0) 0), (.int (0) 0), (.int (3) 0), (.ref 79), (.bool true), (.int (276) 0), (.ref 80), .none, (.ref 81), (.ref 82), (.ref 83), (.int (392) 0), (.int (53) 0), (.str (Str.ofString "/claim/cut.py") 393)]), #[]⟩
noncomputable def ob68 : Obj := ⟨(.type "function"), none, (.func { name := (Str.ofString "translate"), qualname := (Str.ofString "translate"), params := dP (dT 5), body := .stmts (dB (dT 5)), scope := dS (dT 5), globals := 3, closure := [], defaults := .none, kwdefaults := .none, doc := .none, pyModule := (.str (Str.ofString "cpy313.fnmatch") 346), annotations := none, code := (.ref 84), closureTuple := .none, builtins := 0 }), #[]⟩
noncomputable def hp2 (P : Params) : Heap := ⟨⟨ob0 P :: ob1 P :: ob2 P :: ob59 P :: ob4 :: ob5 :: ob6 :: ob7 :: ob8 :: ob9 :: ob10 :: ob11 P :: ob12 :: ob13 P :: ob14 :: ob7 :: ob15 :: ob16 :: ob17 :: ob18 :: ob19 P :: ob20 P :: ob21 :: ob22 :: ob23 :: ob24 :: ob25 :: ob26 :: ob7 :: ob60 :: ob27 :: ob28 :: ob7 :: ob31 :: ob32 P :: ob7 :: ob33 :: ob34 :: ob35 :: ob7 :: ob8 :: ob36 :: ob7 :: ob37 :: ob38 :: ob39 :: ob7 :: ob8 :: ob40 :: ob7 :: ob41 :: ob42 :: ob43 :: ob7 :: ob8 :: ob44 :: ob7 :: ob45 :: ob46 :: ob47 :: ob7 :: ob8 :: ob48 :: ob7 :: ob49 :: ob50 :: ob51 :: ob52 :: ob53 P :: ob54 :: ob55 :: ob56 :: ob57 :: ob58 :: ob61 :: ob6 :: ob62 :: ob63 :: ob64 :: ob7 :: ob8 :: ob65 :: ob7 :: ob66 :: ob67 :: ob68 :: []⟩, life0⟩
noncomputable def ob69 (P : Params) : Obj := ⟨(.type "dict"), none, (.dict #[⟨PyData.keyHash P (Str.ofString "__name__"), .str (Str.ofString "__name__") 165, (.str (Str.ofString "re") 395)⟩, ⟨PyData.keyHash P (Str.ofString "__doc__"), .str (Str.ofString "__doc__") 166, .none⟩, ⟨PyData.keyHash P (Str.ofString "__package__"), .str (Str.ofString "__package__") 167, .none⟩, ⟨PyData.keyHash P (Str.ofString "__loader__"), .str (Str.ofString "__loader__") 168, (.builtin "__main__.__loader__#opaque")⟩, ⟨PyData.keyHash P (Str.ofString "__spec__"), .str (Str.ofString "__spec__") 169, .none⟩, ⟨PyData.keyHash P (Str.ofString "__annotations__"), .str (Str.ofString "__annotations__") 170, (.ref 6)⟩, ⟨PyData.keyHash P (Str.ofString "__builtins__"), .str (Str.ofString "__builtins__") 171, (.ref 4)⟩, ⟨PyData.keyHash P (Str.ofString "__file__"), .str (Str.ofString "__file__") 173, (.str (Str.ofString "/claim/cut.py") 172)⟩, ⟨PyData.keyHash P (Str.ofString "__cached__"), .str (Str.ofString "__cached__") 174, .none⟩, ⟨PyData.keyHash P (Str.ofString "_sre"), .str (Str.ofString "_sre") 275, (.ref 12)⟩, ⟨PyData.keyHash P (Str.ofString "Entry"), .str (Str.ofString "Entry") 345, (.ref 69)⟩, ⟨PyData.keyHash P (Str.ofString "_twin_re_1"), .str (Str.ofString "_twin_re_1") 385, (.ref 78)⟩, ⟨PyData.keyHash P (Str.ofString "translate"), .str (Str.ofString "translate") 394, (.ref 85)⟩, ⟨PyData.keyHash P (Str.ofString "_special_chars_map"), .str (Str.ofString "_special_chars_map") 542, (.ref 87)⟩] 14), #[]⟩
noncomputable def ob70 : Obj := ⟨(.type "bytes_iterator"), none, (.fields #[.none, (.int (24) 0)]), #[]⟩
noncomputable def ob71 : Obj := ⟨(.type "dict"), none, (.dict #[⟨40, (.int (40) 398), (.str (Str.ofString "\\(") 402)⟩, ⟨41, (.int (41) 404), (.str (Str.ofString "\\)") 408)⟩, ⟨91, (.int (91) 410), (.str (Str.ofString "\\[") 414)⟩, ⟨93, (.int (93) 416), (.str (Str.ofString "\\]") 420)⟩, ⟨123, (.int (123) 422), (.str (Str.ofString "\\{") 426)⟩, ⟨125, (.int (125) 428), (.str (Str.ofString "\\}") 432)⟩, ⟨63, (.int (63) 434), (.str (Str.ofString "\\?") 438)⟩, ⟨42, (.int (42) 440), (.str (Str.ofString "\\*") 444)⟩, ⟨43, (.int (43) 446), (.str (Str.ofString "\\+") 450)⟩, ⟨45, (.int (45) 452), (.str (Str.ofString "\\-") 456)⟩, ⟨124, (.int (124) 458), (.str (Str.ofString "\\|") 462)⟩, ⟨94, (.int (94) 464), (.str (Str.ofString "\\^") 468)⟩, ⟨36, (.int (36) 470), (.str (Str.ofString "\\$") 474)⟩, ⟨92, (.int (92) 476), (.str (Str.ofString "\\\\") 480)⟩, ⟨46, (.int (46) 482), (.str (Str.ofString "\\.") 486)⟩, ⟨38, (.int (38) 488), (.str (Str.ofString "\\&") 492)⟩, ⟨126, (.int (126) 494), (.str (Str.ofString "\\~") 498)⟩, ⟨35, (.int (35) 500), (.str (Str.ofString "\\#") 504)⟩, ⟨32, (.int (32) 506), (.str (Str.ofString "\\ ") 510)⟩, ⟨9, (.int (9) 512), (.str (Str.ofString "\\\t") 516)⟩, ⟨10, (.int (10) 518), (.str (Str.ofString "\\\n") 522)⟩, ⟨13, (.int (13) 524), (.str (Str.ofString "\\\x0d") 528)⟩, ⟨11, (.int (11) 530), (.str (Str.ofString "\\\x0b") 534)⟩, ⟨12, (.int (12) 536), (.str (Str.ofString "\\\x0c") 540)⟩] 24), #[]⟩
noncomputable def ob72 : Obj := ⟨(.type "dict"), none, (.dict #[] 2), #[]⟩
noncomputable def ob73 : Obj := ⟨(.type "StopIteration"), none, (.fields #[(.ref 89), .none, .none, .none, (.bool false), .none]), #[]⟩
noncomputable def hp3 (P : Params) : Heap := ⟨⟨ob0 P :: ob1 P :: ob2 P :: ob69 P :: ob4 :: ob5 :: ob6 :: ob7 :: ob8 :: ob9 :: ob10 :: ob11 P :: ob12 :: ob13 P :: ob14 :: ob7 :: ob15 :: ob16 :: ob17 :: ob18 :: ob19 P :: ob20 P :: ob21 :: ob22 :: ob23 :: ob24 :: ob25 :: ob26 :: ob7 :: ob60 :: ob27 :: ob28 :: ob7 :: ob31 :: ob32 P :: ob7 :: ob33 :: ob34 :: ob35 :: ob7 :: ob8 :: ob36 :: ob7 :: ob37 :: ob38 :: ob39 :: ob7 :: ob8 :: ob40 :: ob7 :: ob41 :: ob42 :: ob43 :: ob7 :: ob8 :: ob44 :: ob7 :: ob45 :: ob46 :: ob47 :: ob7 :: ob8 :: ob48 :: ob7 :: ob49 :: ob50 :: ob51 :: ob52 :: ob53 P :: ob54 :: ob55 :: ob56 :: ob57 :: ob58 :: ob61 :: ob6 :: ob62 :: ob63 :: ob64 :: ob7 :: ob8 :: ob65 :: ob7 :: ob66 :: ob67 :: ob68 :: ob70 :: ob71 :: ob72 :: ob7 :: ob73 :: []⟩, life0⟩
noncomputable def ob74 (P : Params) : Obj := ⟨(.type "dict"), none, (.dict #[⟨PyData.keyHash P (Str.ofString "__name__"), .str (Str.ofString "__name__") 165, (.str (Str.ofString "cpy313.stat") 584)⟩, ⟨PyData.keyHash P (Str.ofString "__doc__"), .str (Str.ofString "__doc__") 166, .none⟩, ⟨PyData.keyHash P (Str.ofString "__package__"), .str (Str.ofString "__package__") 167, .none⟩, ⟨PyData.keyHash P (Str.ofString "__loader__"), .str (Str.ofString "__loader__") 168, (.builtin "__main__.__loader__#opaque")⟩, ⟨PyData.keyHash P (Str.ofString "__spec__"), .str (Str.ofString "__spec__") 169, .none⟩, ⟨PyData.keyHash P (Str.ofString "__annotations__"), .str (Str.ofString "__annotations__") 170, (.ref 6)⟩, ⟨PyData.keyHash P (Str.ofString "__builtins__"), .str (Str.ofString "__builtins__") 171, (.ref 4)⟩, ⟨PyData.keyHash P (Str.ofString "__file__"), .str (Str.ofString "__file__") 173, (.str (Str.ofString "/claim/cut.py") 172)⟩, ⟨PyData.keyHash P (Str.ofString "__cached__"), .str (Str.ofString "__cached__") 174, .none⟩, ⟨PyData.keyHash P (Str.ofString "_sre"), .str (Str.ofString "_sre") 275, (.ref 12)⟩, ⟨PyData.keyHash P (Str.ofString "Entry"), .str (Str.ofString "Entry") 345, (.ref 69)⟩, ⟨PyData.keyHash P (Str.ofString "_twin_re_1"), .str (Str.ofString "_twin_re_1") 385, (.ref 78)⟩, ⟨PyData.keyHash P (Str.ofString "translate"), .str (Str.ofString "translate") 394, (.ref 85)⟩, ⟨PyData.keyHash P (Str.ofString "_special_chars_map"), .str (Str.ofString "_special_chars_map") 542, (.ref 87)⟩, ⟨PyData.keyHash P (Str.ofString "escape"), .str (Str.ofString "escape") 549, (.ref 97)⟩, ⟨PyData.keyHash P (Str.ofString "_translate"), .str (Str.ofString "_translate") 570, (.ref 104)⟩, ⟨PyData.keyHash P (Str.ofString "_join_translated_parts"), .str (Str.ofString "_join_translated_parts") 583, (.ref 111)⟩, ⟨PyData.keyHash P (Str.ofString "S_IFMT"), .str (Str.ofString "S_IFMT") 592, (.ref 118)⟩, ⟨PyData.keyHash P (Str.ofString "S_IFDIR"), .str (Str.ofString "S_IFDIR") 594, (.int (16384) 593)⟩, ⟨PyData.keyHash P (Str.ofString "S_IFCHR"), .str (Str.ofString "S_IFCHR") 596, (.int (8192) 595)⟩, ⟨PyData.keyHash P (Str.ofString "S_IFBLK"), .str (Str.ofString "S_IFBLK") 598, (.int (24576) 597)⟩, ⟨PyData.keyHash P (Str.ofString "S_IFREG"), .str (Str.ofString "S_IFREG") 600, (.int (32768) 599)⟩, ⟨PyData.keyHash P (Str.ofString "S_IFIFO"), .str (Str.ofString "S_IFIFO") 602, (.int (4096) 601)⟩, ⟨PyData.keyHash P (Str.ofString "S_IFLNK"), .str (Str.ofString "S_IFLNK") 604, (.int (40960) 603)⟩, ⟨PyData.keyHash P (Str.ofString "S_IFSOCK"), .str (Str.ofString "S_IFSOCK") 606, (.int (49152) 605)⟩, ⟨PyData.keyHash P (Str.ofString "S_ISUID"), .str (Str.ofString "S_ISUID") 608, (.int (2048) 607)⟩, ⟨PyData.keyHash P (Str.ofString "S_ISGID"), .str (Str.ofString "S_ISGID") 610, (.int (1024) 609)⟩, ⟨PyData.keyHash P (Str.ofString "S_ISVTX"), .str (Str.ofString "S_ISVTX") 612, (.int (512) 611)⟩, ⟨PyData.keyHash P (Str.ofString "S_IRUSR"), .str (Str.ofString "S_IRUSR") 614, (.int (256) 613)⟩, ⟨PyData.keyHash P (Str.ofString "S_IWUSR"), .str (Str.ofString "S_IWUSR") 616, (.int (128) 615)⟩, ⟨PyData.keyHash P (Str.ofString "S_IXUSR"), .str (Str.ofString "S_IXUSR") 618, (.int (64) 617)⟩, ⟨PyData.keyHash P (Str.ofString "S_IRGRP"), .str (Str.ofString "S_IRGRP") 620, (.int (32) 619)⟩, ⟨PyData.keyHash P (Str.ofString "S_IWGRP"), .str (Str.ofString "S_IWGRP") 622, (.int (16) 621)⟩, ⟨PyData.keyHash P (Str.ofString "S_IXGRP"), .str (Str.ofString "S_IXGRP") 624, (.int (8) 623)⟩, ⟨PyData.keyHash P (Str.ofString "S_IROTH"), .str (Str.ofString "S_IROTH") 626, (.int (4) 625)⟩, ⟨PyData.keyHash P (Str.ofString "S_IWOTH"), .str (Str.ofString "S_IWOTH") 628, (.int (2) 627)⟩, ⟨PyData.keyHash P (Str.ofString "S_IXOTH"), .str (Str.ofString "S_IXOTH") 630, (.int (1) 629)⟩] 37), #[]⟩
noncomputable def ob75 : Obj := ⟨.none, none, (.fields #[(.int (3) 0), (.int (0) 0), (.ref 37), (.int (53) 0), (.int (0) 0), (.ref 84), (.int (59) 0), (.int (0) 0), (.ref 96), (.int (66) 0), (.int (0) 0), (.ref 103), (.int (128) 0), (.int (0) 0), (.ref 110), (.int (156) 0), (.int (0) 0), (.ref 117)]), #[]⟩
noncomputable def ob76 : Obj := ⟨(.type "tuple"), none, (.seq #[(.str (Str.ofString "pattern") 546)] 0), #[]⟩
noncomputable def ob77 : Obj := ⟨.none, none, (.func { name := (Str.ofString "escape"), qualname := (Str.ofString "escape"), params := dP (dT 8), body := .stmts (dB (dT 8)), scope := dS (dT 8), globals := 0, closure := [], defaults := .none, kwdefaults := .none, doc := .none, pyModule := .none, annotations := none, code := .none, closureTuple := .none, builtins := 0 }), #[]⟩
noncomputable def ob78 : Obj := ⟨(.type "code"), none, (.fields #[(.str (Str.ofString "escape") 543), (.str (Str.ofString "escape") 544), (.str (Str.ofString "/claim/cut.py") 545), (.int (59) 0), (.int (1) 0), (.int (0) 0), (.int (0) 0), (.int (3) 0), (.ref 91), (.bool true), (.int (276) 0), (.ref 92), .none, (.ref 93), (.ref 94), (.ref 95), (.int (547) 0), (.int (59) 0), (.str (Str.ofString "/claim/cut.py") 548)]), #[]⟩
noncomputable def ob79 : Obj := ⟨(.type "function"), none, (.func { name := (Str.ofString "escape"), qualname := (Str.ofString "escape"), params := dP (dT 8), body := .stmts (dB (dT 8)), scope := dS (dT 8), globals := 3, closure := [], defaults := .none, kwdefaults := .none, doc := .none, pyModule := (.str (Str.ofString "re") 395), annotations := none, code := (.ref 96), closureTuple := .none, builtins := 0 }), #[]⟩
noncomputable def ob80 : Obj := ⟨(.type "tuple"), none, (.seq #[(.str (Str.ofString "pat") 555), (.str (Str.ofString "STAR") 556), (.str (Str.ofString "QUESTION_MARK") 557), (.str (Str.ofString "res") 558), (.str (Str.ofString "add") 559), (.str (Str.ofString "i") 560), (.str (Str.ofString "n") 561), (.str (Str.ofString "c") 562), (.str (Str.ofString "j") 563), (.str (Str.ofString "stuff") 564), (.str (Str.ofString "chunks") 565), (.str (Str.ofString "k") 566), (.str (Str.ofString "chunk") 567)] 0), #[]⟩
noncomputable def ob81 : Obj := ⟨.none, none, (.func { name := (Str.ofString "_translate"), qualname := (Str.ofString "_translate"), params := dP (dT 10), body := .stmts (dB (dT 10)), scope := dS (dT 10), globals := 0, closure := [], defaults := .none, kwdefaults := .none, doc := .none, pyModule := .none, annotations := none, code := .none, closureTuple := .none, builtins := 0 }), #[]⟩
noncomputable def ob82 : Obj := ⟨(.type "code"), none, (.fields #[(.str (Str.ofString "_translate") 552), (.str (Str.ofString "_translate") 553), (.str (Str.ofString "/claim/cut.py") 554), (.int (66) 0), (.int (3) 0), (.int (0) 0), (.int (0) 0), (.int (3) 0), (.ref 98), (.bool true), (.int (276) 0), (.ref 99), .none, (.ref 100), (.ref 101), (.ref 102), (.int (568) 0), (.int (66) 0), (.str (Str.ofString "/claim/cut.py") 569)]), #[]⟩
noncomputable def ob83 : Obj := ⟨(.type "function"), none, (.func { name := (Str.ofString "_translate"), qualname := (Str.ofString "_translate"), params := dP (dT 10), body := .stmts (dB (dT 10)), scope := dS (dT 10), globals := 3, closure := [], defaults := .none, kwdefaults := .none, doc := .none, pyModule := (.str (Str.ofString "cpy313.fnmatch") 550), annotations := none, code := (.ref 103), closureTuple := .none, builtins := 0 }), #[]⟩
noncomputable def ob84 : Obj := ⟨(.type "tuple"), none, (.seq #[(.str (Str.ofString "inp") 574), (.str (Str.ofString "STAR") 575), (.str (Str.ofString "res") 576), (.str (Str.ofString "add") 577), (.str (Str.ofString "i") 578), (.str (Str.ofString "n") 579), (.str (Str.ofString "fixed") 580)] 0), #[]⟩
noncomputable def ob85 : Obj := ⟨.none, none, (.func { name := (Str.ofString "_join_translated_parts"), qualname := (Str.ofString "_join_translated_parts"), params := dP (dT 11), body := .stmts (dB (dT 11)), scope := dS (dT 11), globals := 0, closure := [], defaults := .none, kwdefaults := .none, doc := .none, pyModule := .none, annotations := none, code := .none, closureTuple := .none, builtins := 0 }), #[]⟩
noncomputable def ob86 : Obj := ⟨(.type "code"), none, (.fields #[(.str (Str.ofString "_join_translated_parts") 571), (.str (Str.ofString "_join_translated_parts") 572), (.str (Str.ofString "/claim/cut.py") 573), (.int (128) 0), (.int (2) 0), (.int (0) 0), (.int (0) 0), (.int (3) 0), (.ref 105), (.bool true), (.int (276) 0), (.ref 106), .none, (.ref 107), (.ref 108), (.ref 109), (.int (581) 0), (.int (128) 0), (.str (Str.ofString "/claim/cut.py") 582)]), #[]⟩
noncomputable def ob87 : Obj := ⟨(.type "function"), none, (.func { name := (Str.ofString "_join_translated_parts"), qualname := (Str.ofString "_join_translated_parts"), params := dP (dT 11), body := .stmts (dB (dT 11)), scope := dS (dT 11), globals := 3, closure := [], defaults := .none, kwdefaults := .none, doc := .none, pyModule := (.str (Str.ofString "cpy313.fnmatch") 550), annotations := none, code := (.ref 110), closureTuple := .none, builtins := 0 }), #[]⟩
noncomputable def ob88 : Obj := ⟨(.type "tuple"), none, (.seq #[(.str (Str.ofString "mode") 589)] 0), #[]⟩
noncomputable def ob89 : Obj := ⟨.none, none, (.func { name := (Str.ofString "S_IFMT"), qualname := (Str.ofString "S_IFMT"), params := dP (dT 13), body := .stmts (dB (dT 13)), scope := dS (dT 13), globals := 0, closure := [], defaults := .none, kwdefaults := .none, doc := .none, pyModule := .none, annotations := none, code := .none, closureTuple := .none, builtins := 0 }), #[]⟩
noncomputable def ob90 : Obj := ⟨(.type "code"), none, (.fields #[(.str (Str.ofString "S_IFMT") 586), (.str (Str.ofString "S_IFMT") 587), (.str (Str.ofString "/claim/cut.py") 588), (.int (156) 0), (.int (1) 0), (.int (0) 0), (.int (0) 0), (.int (3) 0), (.ref 112), (.bool true), (.int (276) 0), (.ref 113), .none, (.ref 114), (.ref 115), (.ref 116), (.int (590) 0), (.int (156) 0), (.str (Str.ofString "/claim/cut.py") 591)]), #[]⟩
noncomputable def ob91 : Obj := ⟨(.type "function"), none, (.func { name := (Str.ofString "S_IFMT"), qualname := (Str.ofString "S_IFMT"), params := dP (dT 13), body := .stmts (dB (dT 13)), scope := dS (dT 13), globals := 3, closure := [], defaults := .none, kwdefaults := .none, doc := .none, pyModule := (.str (Str.ofString "cpy313.stat") 584), annotations := none, code := (.ref 117), closureTuple := .none, builtins := 0 }), #[]⟩
noncomputable def hp4 (P : Params) : Heap := ⟨⟨ob0 P :: ob1 P :: ob2 P :: ob74 P :: ob4 :: ob5 :: ob6 :: ob7 :: ob8 :: ob9 :: ob10 :: ob11 P :: ob12 :: ob13 P :: ob14 :: ob7 :: ob15 :: ob16 :: ob17 :: ob18 :: ob19 P :: ob20 P :: ob21 :: ob22 :: ob23 :: ob24 :: ob25 :: ob26 :: ob7 :: ob75 :: ob27 :: ob28 :: ob7 :: ob31 :: ob32 P :: ob7 :: ob33 :: ob34 :: ob35 :: ob7 :: ob8 :: ob36 :: ob7 :: ob37 :: ob38 :: ob39 :: ob7 :: ob8 :: ob40 :: ob7 :: ob41 :: ob42 :: ob43 :: ob7 :: ob8 :: ob44 :: ob7 :: ob45 :: ob46 :: ob47 :: ob7 :: ob8 :: ob48 :: ob7 :: ob49 :: ob50 :: ob51 :: ob52 :: ob53 P :: ob54 :: ob55 :: ob56 :: ob57 :: ob58 :: ob61 :: ob6 :: ob62 :: ob63 :: ob64 :: ob7 :: ob8 :: ob65 :: ob7 :: ob66 :: ob67 :: ob68 :: ob70 :: ob71 :: ob72 :: ob7 :: ob73 :: ob7 :: ob8 :: ob76 :: ob7 :: ob77 :: ob78 :: ob79 :: ob7 :: ob8 :: ob80 :: ob7 :: ob81 :: ob82 :: ob83 :: ob7 :: ob8 :: ob84 :: ob7 :: ob85 :: ob86 :: ob87 :: ob7 :: ob8 :: ob88 :: ob7 :: ob89 :: ob90 :: ob91 :: []⟩, life0⟩
noncomputable def ob92 (P : Params) : Obj := ⟨(.type "dict"), none, (.dict #[⟨PyData.keyHash P (Str.ofString "__name__"), .str (Str.ofString "__name__") 165, (.str (Str.ofString "law_in0278_02") 669)⟩, ⟨PyData.keyHash P (Str.ofString "__doc__"), .str (Str.ofString "__doc__") 166, .none⟩, ⟨PyData.keyHash P (Str.ofString "__package__"), .str (Str.ofString "__package__") 167, .none⟩, ⟨PyData.keyHash P (Str.ofString "__loader__"), .str (Str.ofString "__loader__") 168, (.builtin "__main__.__loader__#opaque")⟩, ⟨PyData.keyHash P (Str.ofString "__spec__"), .str (Str.ofString "__spec__") 169, .none⟩, ⟨PyData.keyHash P (Str.ofString "__annotations__"), .str (Str.ofString "__annotations__") 170, (.ref 6)⟩, ⟨PyData.keyHash P (Str.ofString "__builtins__"), .str (Str.ofString "__builtins__") 171, (.ref 4)⟩, ⟨PyData.keyHash P (Str.ofString "__file__"), .str (Str.ofString "__file__") 173, (.str (Str.ofString "/claim/cut.py") 172)⟩, ⟨PyData.keyHash P (Str.ofString "__cached__"), .str (Str.ofString "__cached__") 174, .none⟩, ⟨PyData.keyHash P (Str.ofString "_sre"), .str (Str.ofString "_sre") 275, (.ref 12)⟩, ⟨PyData.keyHash P (Str.ofString "Entry"), .str (Str.ofString "Entry") 345, (.ref 69)⟩, ⟨PyData.keyHash P (Str.ofString "_twin_re_1"), .str (Str.ofString "_twin_re_1") 385, (.ref 78)⟩, ⟨PyData.keyHash P (Str.ofString "translate"), .str (Str.ofString "translate") 394, (.ref 85)⟩, ⟨PyData.keyHash P (Str.ofString "_special_chars_map"), .str (Str.ofString "_special_chars_map") 542, (.ref 87)⟩, ⟨PyData.keyHash P (Str.ofString "escape"), .str (Str.ofString "escape") 549, (.ref 97)⟩, ⟨PyData.keyHash P (Str.ofString "_translate"), .str (Str.ofString "_translate") 570, (.ref 104)⟩, ⟨PyData.keyHash P (Str.ofString "_join_translated_parts"), .str (Str.ofString "_join_translated_parts") 583, (.ref 111)⟩, ⟨PyData.keyHash P (Str.ofString "S_IFMT"), .str (Str.ofString "S_IFMT") 592, (.ref 118)⟩, ⟨PyData.keyHash P (Str.ofString "S_IFDIR"), .str (Str.ofString "S_IFDIR") 594, (.int (16384) 593)⟩, ⟨PyData.keyHash P (Str.ofString "S_IFCHR"), .str (Str.ofString "S_IFCHR") 596, (.int (8192) 595)⟩, ⟨PyData.keyHash P (Str.ofString "S_IFBLK"), .str (Str.ofString "S_IFBLK") 598, (.int (24576) 597)⟩, ⟨PyData.keyHash P (Str.ofString "S_IFREG"), .str (Str.ofString "S_IFREG") 600, (.int (32768) 599)⟩, ⟨PyData.keyHash P (Str.ofString "S_IFIFO"), .str (Str.ofString "S_IFIFO") 602, (.int (4096) 601)⟩, ⟨PyData.keyHash P (Str.ofString "S_IFLNK"), .str (Str.ofString "S_IFLNK") 604, (.int (40960) 603)⟩, ⟨PyData.keyHash P (Str.ofString "S_IFSOCK"), .str (Str.ofString "S_IFSOCK") 606, (.int (49152) 605)⟩, ⟨PyData.keyHash P (Str.ofString "S_ISUID"), .str (Str.ofString "S_ISUID") 608, (.int (2048) 607)⟩, ⟨PyData.keyHash P (Str.ofString "S_ISGID"), .str (Str.ofString "S_ISGID") 610, (.int (1024) 609)⟩, ⟨PyData.keyHash P (Str.ofString "S_ISVTX"), .str (Str.ofString "S_ISVTX") 612, (.int (512) 611)⟩, ⟨PyData.keyHash P (Str.ofString "S_IRUSR"), .str (Str.ofString "S_IRUSR") 614, (.int (256) 613)⟩, ⟨PyData.keyHash P (Str.ofString "S_IWUSR"), .str (Str.ofString "S_IWUSR") 616, (.int (128) 615)⟩, ⟨PyData.keyHash P (Str.ofString "S_IXUSR"), .str (Str.ofString "S_IXUSR") 618, (.int (64) 617)⟩, ⟨PyData.keyHash P (Str.ofString "S_IRGRP"), .str (Str.ofString "S_IRGRP") 620, (.int (32) 619)⟩, ⟨PyData.keyHash P (Str.ofString "S_IWGRP"), .str (Str.ofString "S_IWGRP") 622, (.int (16) 621)⟩, ⟨PyData.keyHash P (Str.ofString "S_IXGRP"), .str (Str.ofString "S_IXGRP") 624, (.int (8) 623)⟩, ⟨PyData.keyHash P (Str.ofString "S_IROTH"), .str (Str.ofString "S_IROTH") 626, (.int (4) 625)⟩, ⟨PyData.keyHash P (Str.ofString "S_IWOTH"), .str (Str.ofString "S_IWOTH") 628, (.int (2) 627)⟩, ⟨PyData.keyHash P (Str.ofString "S_IXOTH"), .str (Str.ofString "S_IXOTH") 630, (.int (1) 629)⟩, ⟨PyData.keyHash P (Str.ofString "_filemode_table"), .str (Str.ofString "_filemode_table") 656, (.ref 151)⟩, ⟨PyData.keyHash P (Str.ofString "filemode"), .str (Str.ofString "filemode") 668, (.ref 158)⟩, ⟨PyData.keyHash P (Str.ofString "_law_asks"), .str (Str.ofString "_law_asks") 680, (.ref 165)⟩, ⟨PyData.keyHash P (Str.ofString "_law_reach"), .str (Str.ofString "_law_reach") 690, (.ref 172)⟩, ⟨PyData.keyHash P (Str.ofString "_law_rule"), .str (Str.ofString "_law_rule") 700, (.ref 179)⟩, ⟨PyData.keyHash P (Str.ofString "_law_mode"), .str (Str.ofString "_law_mode") 712, (.ref 186)⟩, ⟨PyData.keyHash P (Str.ofString "_law_rules"), .str (Str.ofString "_law_rules") 729, (.ref 193)⟩, ⟨PyData.keyHash P (Str.ofString "_law_narrowest"), .str (Str.ofString "_law_narrowest") 742, (.ref 200)⟩, ⟨PyData.keyHash P (Str.ofString "_law_answers"), .str (Str.ofString "_law_answers") 748, (.ref 205)⟩, ⟨PyData.keyHash P (Str.ofString "law"), .str (Str.ofString "law") 754, (.ref 210)⟩] 47), #[]⟩
noncomputable def ob93 : Obj := ⟨.none, none, (.fields #[(.int (3) 0), (.int (0) 0), (.ref 37), (.int (53) 0), (.int (0) 0), (.ref 84), (.int (59) 0), (.int (0) 0), (.ref 96), (.int (66) 0), (.int (0) 0), (.ref 103), (.int (128) 0), (.int (0) 0), (.ref 110), (.int (156) 0), (.int (0) 0), (.ref 117), (.int (178) 0), (.int (0) 0), (.ref 157), (.int (196) 0), (.int (0) 0), (.ref 164), (.int (205) 0), (.int (0) 0), (.ref 171), (.int (210) 0), (.int (0) 0), (.ref 178), (.int (216) 0), (.int (0) 0), (.ref 185), (.int (221) 0), (.int (0) 0), (.ref 192), (.int (232) 0), (.int (0) 0), (.ref 199), (.int (238) 0), (.int (0) 0), (.ref 204), (.int (244) 0), (.int (0) 0), (.ref 209)]), #[]⟩
noncomputable def ob94 : Obj := ⟨(.type "tuple"), none, (.seq #[(.int (40960) 603), (.str (Str.ofString "l") 631)] 0), #[]⟩
noncomputable def ob95 : Obj := ⟨(.type "tuple"), none, (.seq #[(.int (49152) 605), (.str (Str.ofString "s") 632)] 0), #[]⟩
noncomputable def ob96 : Obj := ⟨(.type "tuple"), none, (.seq #[(.int (32768) 599), (.str (Str.ofString "-") 633)] 0), #[]⟩
noncomputable def ob97 : Obj := ⟨(.type "tuple"), none, (.seq #[(.int (24576) 597), (.str (Str.ofString "b") 634)] 0), #[]⟩
noncomputable def ob98 : Obj := ⟨(.type "tuple"), none, (.seq #[(.int (16384) 593), (.str (Str.ofString "d") 635)] 0), #[]⟩
noncomputable def ob99 : Obj := ⟨(.type "tuple"), none, (.seq #[(.int (8192) 595), (.str (Str.ofString "c") 636)] 0), #[]⟩
noncomputable def ob100 : Obj := ⟨(.type "tuple"), none, (.seq #[(.int (4096) 601), (.str (Str.ofString "p") 637)] 0), #[]⟩
noncomputable def ob101 : Obj := ⟨(.type "tuple"), none, (.seq #[(.ref 119), (.ref 120), (.ref 121), (.ref 122), (.ref 123), (.ref 124), (.ref 125)] 0), #[]⟩
noncomputable def ob102 : Obj := ⟨(.type "tuple"), none, (.seq #[(.int (256) 613), (.str (Str.ofString "r") 638)] 0), #[]⟩
noncomputable def ob103 : Obj := ⟨(.type "tuple"), none, (.seq #[(.ref 127)] 0), #[]⟩
noncomputable def ob104 : Obj := ⟨(.type "tuple"), none, (.seq #[(.int (128) 615), (.str (Str.ofString "w") 639)] 0), #[]⟩
noncomputable def ob105 : Obj := ⟨(.type "tuple"), none, (.seq #[(.ref 129)] 0), #[]⟩
noncomputable def ob106 : Obj := ⟨(.type "tuple"), none, (.seq #[(.int (2112) 640), (.str (Str.ofString "s") 641)] 0), #[]⟩
noncomputable def ob107 : Obj := ⟨(.type "tuple"), none, (.seq #[(.int (2048) 607), (.str (Str.ofString "S") 642)] 0), #[]⟩
noncomputable def ob108 : Obj := ⟨(.type "tuple"), none, (.seq #[(.int (64) 617), (.str (Str.ofString "x") 643)] 0), #[]⟩
noncomputable def ob109 : Obj := ⟨(.type "tuple"), none, (.seq #[(.ref 131), (.ref 132), (.ref 133)] 0), #[]⟩
noncomputable def ob110 : Obj := ⟨(.type "tuple"), none, (.seq #[(.int (32) 619), (.str (Str.ofString "r") 644)] 0), #[]⟩
noncomputable def ob111 : Obj := ⟨(.type "tuple"), none, (.seq #[(.ref 135)] 0), #[]⟩
noncomputable def ob112 : Obj := ⟨(.type "tuple"), none, (.seq #[(.int (16) 621), (.str (Str.ofString "w") 645)] 0), #[]⟩
noncomputable def ob113 : Obj := ⟨(.type "tuple"), none, (.seq #[(.ref 137)] 0), #[]⟩
noncomputable def ob114 : Obj := ⟨(.type "tuple"), none, (.seq #[(.int (1032) 646), (.str (Str.ofString "s") 647)] 0), #[]⟩
noncomputable def ob115 : Obj := ⟨(.type "tuple"), none, (.seq #[(.int (1024) 609), (.str (Str.ofString "S") 648)] 0), #[]⟩
noncomputable def ob116 : Obj := ⟨(.type "tuple"), none, (.seq #[(.int (8) 623), (.str (Str.ofString "x") 649)] 0), #[]⟩
noncomputable def ob117 : Obj := ⟨(.type "tuple"), none, (.seq #[(.ref 139), (.ref 140), (.ref 141)] 0), #[]⟩
noncomputable def ob118 : Obj := ⟨(.type "tuple"), none, (.seq #[(.int (4) 625), (.str (Str.ofString "r") 650)] 0), #[]⟩
noncomputable def ob119 : Obj := ⟨(.type "tuple"), none, (.seq #[(.ref 143)] 0), #[]⟩
noncomputable def ob120 : Obj := ⟨(.type "tuple"), none, (.seq #[(.int (2) 627), (.str (Str.ofString "w") 651)] 0), #[]⟩
noncomputable def ob121 : Obj := ⟨(.type "tuple"), none, (.seq #[(.ref 145)] 0), #[]⟩
noncomputable def ob122 : Obj := ⟨(.type "tuple"), none, (.seq #[(.int (513) 652), (.str (Str.ofString "t") 653)] 0), #[]⟩
noncomputable def ob123 : Obj := ⟨(.type "tuple"), none, (.seq #[(.int (512) 611), (.str (Str.ofString "T") 654)] 0), #[]⟩
noncomputable def ob124 : Obj := ⟨(.type "tuple"), none, (.seq #[(.int (1) 629), (.str (Str.ofString "x") 655)] 0), #[]⟩
noncomputable def ob125 : Obj := ⟨(.type "tuple"), none, (.seq #[(.ref 147), (.ref 148), (.ref 149)] 0), #[]⟩
noncomputable def ob126 : Obj := ⟨(.type "tuple"), none, (.seq #[(.ref 126), (.ref 128), (.ref 130), (.ref 134), (.ref 136), (.ref 138), (.ref 142), (.ref 144), (.ref 146), (.ref 150)] 0), #[]⟩
noncomputable def ob127 : Obj := ⟨(.type "tuple"), none, (.seq #[(.str (Str.ofString "mode") 660), (.str (Str.ofString "perm") 661), (.str (Str.ofString "index") 662), (.str (Str.ofString "table") 663), (.str (Str.ofString "bit") 664), (.str (Str.ofString "char") 665)] 0), #[]⟩
noncomputable def ob128 : Obj := ⟨.none, none, (.func { name := (Str.ofString "filemode"), qualname := (Str.ofString "filemode"), params := dP (dT 34), body := .stmts (dB (dT 34)), scope := dS (dT 34), globals := 0, closure := [], defaults := .none, kwdefaults := .none, doc := .none, pyModule := .none, annotations := none, code := .none, closureTuple := .none, builtins := 0 }), #[]⟩
noncomputable def ob129 : Obj := ⟨(.type "code"), none, (.fields #[(.str (Str.ofString "filemode") 657), (.str (Str.ofString "filemode") 658), (.str (Str.ofString "/claim/cut.py") 659), (.int (178) 0), (.int (1) 0), (.int (0) 0), (.int (0) 0), (.int (3) 0), (.ref 152), (.bool true), (.int (276) 0), (.ref 153), .none, (.ref 154), (.ref 155), (.ref 156), (.int (666) 0), (.int (178) 0), (.str (Str.ofString "/claim/cut.py") 667)]), #[]⟩
noncomputable def ob130 : Obj := ⟨(.type "function"), none, (.func { name := (Str.ofString "filemode"), qualname := (Str.ofString "filemode"), params := dP (dT 34), body := .stmts (dB (dT 34)), scope := dS (dT 34), globals := 3, closure := [], defaults := .none, kwdefaults := .none, doc := .none, pyModule := (.str (Str.ofString "cpy313.stat") 584), annotations := none, code := (.ref 157), closureTuple := .none, builtins := 0 }), #[]⟩
noncomputable def ob131 : Obj := ⟨(.type "tuple"), none, (.seq #[(.str (Str.ofString "text") 674), (.str (Str.ofString "asks") 675), (.str (Str.ofString "place") 676), (.str (Str.ofString "column") 677)] 0), #[]⟩
noncomputable def ob132 : Obj := ⟨.none, none, (.func { name := (Str.ofString "_law_asks"), qualname := (Str.ofString "_law_asks"), params := dP (dT 36), body := .stmts (dB (dT 36)), scope := dS (dT 36), globals := 0, closure := [], defaults := .none, kwdefaults := .none, doc := .none, pyModule := .none, annotations := none, code := .none, closureTuple := .none, builtins := 0 }), #[]⟩
noncomputable def ob133 : Obj := ⟨(.type "code"), none, (.fields #[(.str (Str.ofString "_law_asks") 671), (.str (Str.ofString "_law_asks") 672), (.str (Str.ofString "/claim/cut.py") 673), (.int (196) 0), (.int (1) 0), (.int (0) 0), (.int (0) 0), (.int (3) 0), (.ref 159), (.bool true), (.int (276) 0), (.ref 160), .none, (.ref 161), (.ref 162), (.ref 163), (.int (678) 0), (.int (196) 0), (.str (Str.ofString "/claim/cut.py") 679)]), #[]⟩
noncomputable def ob134 : Obj := ⟨(.type "function"), none, (.func { name := (Str.ofString "_law_asks"), qualname := (Str.ofString "_law_asks"), params := dP (dT 36), body := .stmts (dB (dT 36)), scope := dS (dT 36), globals := 3, closure := [], defaults := .none, kwdefaults := .none, doc := .none, pyModule := (.str (Str.ofString "law_in0278_02") 669), annotations := none, code := (.ref 164), closureTuple := .none, builtins := 0 }), #[]⟩
noncomputable def ob135 : Obj := ⟨(.type "tuple"), none, (.seq #[(.str (Str.ofString "asks") 684), (.str (Str.ofString "row") 685), (.str (Str.ofString "column") 686), (.str (Str.ofString "sign") 687)] 0), #[]⟩
noncomputable def ob136 : Obj := ⟨.none, none, (.func { name := (Str.ofString "_law_reach"), qualname := (Str.ofString "_law_reach"), params := dP (dT 37), body := .stmts (dB (dT 37)), scope := dS (dT 37), globals := 0, closure := [], defaults := .none, kwdefaults := .none, doc := .none, pyModule := .none, annotations := none, code := .none, closureTuple := .none, builtins := 0 }), #[]⟩
noncomputable def ob137 : Obj := ⟨(.type "code"), none, (.fields #[(.str (Str.ofString "_law_reach") 681), (.str (Str.ofString "_law_reach") 682), (.str (Str.ofString "/claim/cut.py") 683), (.int (205) 0), (.int (2) 0), (.int (0) 0), (.int (0) 0), (.int (3) 0), (.ref 166), (.bool true), (.int (276) 0), (.ref 167), .none, (.ref 168), (.ref 169), (.ref 170), (.int (688) 0), (.int (205) 0), (.str (Str.ofString "/claim/cut.py") 689)]), #[]⟩
noncomputable def ob138 : Obj := ⟨(.type "function"), none, (.func { name := (Str.ofString "_law_reach"), qualname := (Str.ofString "_law_reach"), params := dP (dT 37), body := .stmts (dB (dT 37)), scope := dS (dT 37), globals := 3, closure := [], defaults := .none, kwdefaults := .none, doc := .none, pyModule := (.str (Str.ofString "law_in0278_02") 669), annotations := none, code := (.ref 171), closureTuple := .none, builtins := 0 }), #[]⟩
noncomputable def ob139 : Obj := ⟨(.type "tuple"), none, (.seq #[(.str (Str.ofString "text") 694), (.str (Str.ofString "verdict") 695), (.str (Str.ofString "rule") 696)] 0), #[]⟩
noncomputable def ob140 : Obj := ⟨(.type "tuple"), none, (.seq #[(.str (Str.ofString "asks") 697)] 0), #[]⟩
noncomputable def ob141 : Obj := ⟨.none, none, (.func { name := (Str.ofString "_law_rule"), qualname := (Str.ofString "_law_rule"), params := dP (dT 38), body := .stmts (dB (dT 38)), scope := dS (dT 38), globals := 0, closure := [], defaults := .none, kwdefaults := .none, doc := .none, pyModule := .none, annotations := none, code := .none, closureTuple := .none, builtins := 0 }), #[]⟩
noncomputable def ob142 : Obj := ⟨(.type "code"), none, (.fields #[(.str (Str.ofString "_law_rule") 691), (.str (Str.ofString "_law_rule") 692), (.str (Str.ofString "/claim/cut.py") 693), (.int (210) 0), (.int (2) 0), (.int (0) 0), (.int (0) 0), (.int (3) 0), (.ref 173), (.bool true), (.int (276) 0), (.ref 174), .none, (.ref 175), (.ref 176), (.ref 177), (.int (698) 0), (.int (210) 0), (.str (Str.ofString "/claim/cut.py") 699)]), #[]⟩
noncomputable def ob143 : Obj := ⟨(.type "function"), none, (.func { name := (Str.ofString "_law_rule"), qualname := (Str.ofString "_law_rule"), params := dP (dT 38), body := .stmts (dB (dT 38)), scope := dS (dT 38), globals := 3, closure := [], defaults := .none, kwdefaults := .none, doc := .none, pyModule := (.str (Str.ofString "law_in0278_02") 669), annotations := none, code := (.ref 178), closureTuple := .none, builtins := 0 }), #[]⟩
noncomputable def ob144 : Obj := ⟨(.type "tuple"), none, (.seq #[(.str (Str.ofString "mode") 704), (.str (Str.ofString "chosen") 705), (.str (Str.ofString "leaf") 706), (.str (Str.ofString "depth") 707), (.str (Str.ofString "column") 708), (.str (Str.ofString "held") 709)] 0), #[]⟩
noncomputable def ob145 : Obj := ⟨.none, none, (.func { name := (Str.ofString "_law_mode"), qualname := (Str.ofString "_law_mode"), params := dP (dT 39), body := .stmts (dB (dT 39)), scope := dS (dT 39), globals := 0, closure := [], defaults := .none, kwdefaults := .none, doc := .none, pyModule := .none, annotations := none, code := .none, closureTuple := .none, builtins := 0 }), #[]⟩
noncomputable def ob146 : Obj := ⟨(.type "code"), none, (.fields #[(.str (Str.ofString "_law_mode") 701), (.str (Str.ofString "_law_mode") 702), (.str (Str.ofString "/claim/cut.py") 703), (.int (216) 0), (.int (3) 0), (.int (0) 0), (.int (0) 0), (.int (3) 0), (.ref 180), (.bool true), (.int (276) 0), (.ref 181), .none, (.ref 182), (.ref 183), (.ref 184), (.int (710) 0), (.int (216) 0), (.str (Str.ofString "/claim/cut.py") 711)]), #[]⟩
noncomputable def ob147 : Obj := ⟨(.type "function"), none, (.func { name := (Str.ofString "_law_mode"), qualname := (Str.ofString "_law_mode"), params := dP (dT 39), body := .stmts (dB (dT 39)), scope := dS (dT 39), globals := 3, closure := [], defaults := .none, kwdefaults := .none, doc := .none, pyModule := (.str (Str.ofString "law_in0278_02") 669), annotations := none, code := (.ref 185), closureTuple := .none, builtins := 0 }), #[]⟩
noncomputable def ob148 : Obj := ⟨(.type "tuple"), none, (.seq #[(.str (Str.ofString "modes") 716), (.str (Str.ofString "chosen") 717), (.str (Str.ofString "table") 718), (.str (Str.ofString "rules") 719), (.str (Str.ofString "part") 720), (.str (Str.ofString "first") 721), (.str (Str.ofString "above") 722), (.str (Str.ofString "pattern") 723)] 0), #[]⟩
noncomputable def ob149 : Obj := ⟨(.type "tuple"), none, (.seq #[(.str (Str.ofString "chosen") 724), (.str (Str.ofString "depth") 725), (.str (Str.ofString "row") 726)] 0), #[]⟩
noncomputable def ob150 : Obj := ⟨.none, none, (.func { name := (Str.ofString "_law_rules"), qualname := (Str.ofString "_law_rules"), params := dP (dT 40), body := .stmts (dB (dT 40)), scope := dS (dT 40), globals := 0, closure := [], defaults := .none, kwdefaults := .none, doc := .none, pyModule := .none, annotations := none, code := .none, closureTuple := .none, builtins := 0 }), #[]⟩
noncomputable def ob151 : Obj := ⟨(.type "code"), none, (.fields #[(.str (Str.ofString "_law_rules") 713), (.str (Str.ofString "_law_rules") 714), (.str (Str.ofString "/claim/cut.py") 715), (.int (221) 0), (.int (3) 0), (.int (0) 0), (.int (0) 0), (.int (3) 0), (.ref 187), (.bool true), (.int (276) 0), (.ref 188), .none, (.ref 189), (.ref 190), (.ref 191), (.int (727) 0), (.int (221) 0), (.str (Str.ofString "/claim/cut.py") 728)]), #[]⟩
noncomputable def ob152 : Obj := ⟨(.type "function"), none, (.func { name := (Str.ofString "_law_rules"), qualname := (Str.ofString "_law_rules"), params := dP (dT 40), body := .stmts (dB (dT 40)), scope := dS (dT 40), globals := 3, closure := [], defaults := .none, kwdefaults := .none, doc := .none, pyModule := (.str (Str.ofString "law_in0278_02") 669), annotations := none, code := (.ref 192), closureTuple := .none, builtins := 0 }), #[]⟩
noncomputable def ob153 : Obj := ⟨(.type "tuple"), none, (.seq #[(.str (Str.ofString "rules") 733), (.str (Str.ofString "leaf") 734), (.str (Str.ofString "found") 735), (.str (Str.ofString "place") 736), (.str (Str.ofString "first") 737), (.str (Str.ofString "size") 738), (.str (Str.ofString "rule") 739)] 0), #[]⟩
noncomputable def ob154 : Obj := ⟨.none, none, (.func { name := (Str.ofString "_law_narrowest"), qualname := (Str.ofString "_law_narrowest"), params := dP (dT 41), body := .stmts (dB (dT 41)), scope := dS (dT 41), globals := 0, closure := [], defaults := .none, kwdefaults := .none, doc := .none, pyModule := .none, annotations := none, code := .none, closureTuple := .none, builtins := 0 }), #[]⟩
noncomputable def ob155 : Obj := ⟨(.type "code"), none, (.fields #[(.str (Str.ofString "_law_narrowest") 730), (.str (Str.ofString "_law_narrowest") 731), (.str (Str.ofString "/claim/cut.py") 732), (.int (232) 0), (.int (2) 0), (.int (0) 0), (.int (0) 0), (.int (3) 0), (.ref 194), (.bool true), (.int (276) 0), (.ref 195), .none, (.ref 196), (.ref 197), (.ref 198), (.int (740) 0), (.int (232) 0), (.str (Str.ofString "/claim/cut.py") 741)]), #[]⟩
noncomputable def ob156 : Obj := ⟨(.type "function"), none, (.func { name := (Str.ofString "_law_narrowest"), qualname := (Str.ofString "_law_narrowest"), params := dP (dT 41), body := .stmts (dB (dT 41)), scope := dS (dT 41), globals := 3, closure := [], defaults := .none, kwdefaults := .none, doc := .none, pyModule := (.str (Str.ofString "law_in0278_02") 669), annotations := none, code := (.ref 199), closureTuple := .none, builtins := 0 }), #[]⟩
noncomputable def ob157 : Obj := ⟨.none, none, (.func { name := (Str.ofString "_law_answers"), qualname := (Str.ofString "_law_answers"), params := dP (dT 42), body := .stmts (dB (dT 42)), scope := dS (dT 42), globals := 0, closure := [], defaults := .none, kwdefaults := .none, doc := .none, pyModule := .none, annotations := none, code := .none, closureTuple := .none, builtins := 0 }), #[]⟩
noncomputable def ob158 : Obj := ⟨(.type "code"), none, (.fields #[(.str (Str.ofString "_law_answers") 743), (.str (Str.ofString "_law_answers") 744), (.str (Str.ofString "/claim/cut.py") 745), (.int (238) 0), (.int (3) 0), (.int (0) 0), (.int (0) 0), (.int (3) 0), (.ref 201), (.bool true), (.int (276) 0), (.ref 202), .none, .none, .none, (.ref 203), (.int (746) 0), (.int (238) 0), (.str (Str.ofString "/claim/cut.py") 747)]), #[]⟩
noncomputable def ob159 : Obj := ⟨(.type "function"), none, (.func { name := (Str.ofString "_law_answers"), qualname := (Str.ofString "_law_answers"), params := dP (dT 42), body := .stmts (dB (dT 42)), scope := dS (dT 42), globals := 3, closure := [], defaults := .none, kwdefaults := .none, doc := .none, pyModule := (.str (Str.ofString "law_in0278_02") 669), annotations := none, code := (.ref 204), closureTuple := .none, builtins := 0 }), #[]⟩
noncomputable def ob160 : Obj := ⟨.none, none, (.func { name := (Str.ofString "law"), qualname := (Str.ofString "law"), params := dP (dT 43), body := .stmts (dB (dT 43)), scope := dS (dT 43), globals := 0, closure := [], defaults := .none, kwdefaults := .none, doc := .none, pyModule := .none, annotations := none, code := .none, closureTuple := .none, builtins := 0 }), #[]⟩
noncomputable def ob161 : Obj := ⟨(.type "code"), none, (.fields #[(.str (Str.ofString "law") 749), (.str (Str.ofString "law") 750), (.str (Str.ofString "/claim/cut.py") 751), (.int (244) 0), (.int (1) 0), (.int (0) 0), (.int (0) 0), (.int (3) 0), (.ref 206), (.bool true), (.int (276) 0), (.ref 207), .none, .none, .none, (.ref 208), (.int (752) 0), (.int (244) 0), (.str (Str.ofString "/claim/cut.py") 753)]), #[]⟩
noncomputable def ob162 : Obj := ⟨(.type "function"), none, (.func { name := (Str.ofString "law"), qualname := (Str.ofString "law"), params := dP (dT 43), body := .stmts (dB (dT 43)), scope := dS (dT 43), globals := 3, closure := [], defaults := .none, kwdefaults := .none, doc := .none, pyModule := (.str (Str.ofString "law_in0278_02") 669), annotations := none, code := (.ref 209), closureTuple := .none, builtins := 0 }), #[]⟩
noncomputable def hp5 (P : Params) : Heap := ⟨⟨ob0 P :: ob1 P :: ob2 P :: ob92 P :: ob4 :: ob5 :: ob6 :: ob7 :: ob8 :: ob9 :: ob10 :: ob11 P :: ob12 :: ob13 P :: ob14 :: ob7 :: ob15 :: ob16 :: ob17 :: ob18 :: ob19 P :: ob20 P :: ob21 :: ob22 :: ob23 :: ob24 :: ob25 :: ob26 :: ob7 :: ob93 :: ob27 :: ob28 :: ob7 :: ob31 :: ob32 P :: ob7 :: ob33 :: ob34 :: ob35 :: ob7 :: ob8 :: ob36 :: ob7 :: ob37 :: ob38 :: ob39 :: ob7 :: ob8 :: ob40 :: ob7 :: ob41 :: ob42 :: ob43 :: ob7 :: ob8 :: ob44 :: ob7 :: ob45 :: ob46 :: ob47 :: ob7 :: ob8 :: ob48 :: ob7 :: ob49 :: ob50 :: ob51 :: ob52 :: ob53 P :: ob54 :: ob55 :: ob56 :: ob57 :: ob58 :: ob61 :: ob6 :: ob62 :: ob63 :: ob64 :: ob7 :: ob8 :: ob65 :: ob7 :: ob66 :: ob67 :: ob68 :: ob70 :: ob71 :: ob72 :: ob7 :: ob73 :: ob7 :: ob8 :: ob76 :: ob7 :: ob77 :: ob78 :: ob79 :: ob7 :: ob8 :: ob80 :: ob7 :: ob81 :: ob82 :: ob83 :: ob7 :: ob8 :: ob84 :: ob7 :: ob85 :: ob86 :: ob87 :: ob7 :: ob8 :: ob88 :: ob7 :: ob89 :: ob90 :: ob91 :: ob94 :: ob95 :: ob96 :: ob97 :: ob98 :: ob99 :: ob100 :: ob101 :: ob102 :: ob103 :: ob104 :: ob105 :: ob106 :: ob107 :: ob108 :: ob109 :: ob110 :: ob111 :: ob112 :: ob113 :: ob114 :: ob115 :: ob116 :: ob117 :: ob118 :: ob119 :: ob120 :: ob121 :: ob122 :: ob123 :: ob124 :: ob125 :: ob126 :: ob7 :: ob8 :: ob127 :: ob7 :: ob128 :: ob129 :: ob130 :: ob7 :: ob8 :: ob131 :: ob7 :: ob132 :: ob133 :: ob134 :: ob7 :: ob8 :: ob135 :: ob7 :: ob136 :: ob137 :: ob138 :: ob7 :: ob8 :: ob139 :: ob140 :: ob141 :: ob142 :: ob143 :: ob7 :: ob8 :: ob144 :: ob7 :: ob145 :: ob146 :: ob147 :: ob7 :: ob8 :: ob148 :: ob149 :: ob150 :: ob151 :: ob152 :: ob7 :: ob8 :: ob153 :: ob7 :: ob154 :: ob155 :: ob156 :: ob7 :: ob8 :: ob157 :: ob158 :: ob159 :: ob7 :: ob8 :: ob160 :: ob161 :: ob162 :: []⟩, life0⟩
noncomputable abbrev hpz (P : Params) : Heap := hp5 P
noncomputable def tk0 : Nat := 276
noncomputable def ps0 : Pos := ⟨0, 0, 0, 0⟩
noncomputable def tka : Nat := 282
noncomputable def psa : Pos := ⟨0, 0, 0, 0⟩
noncomputable def tkb : Nat := 282
noncomputable def psb : Pos := ⟨0, 0, 0, 0⟩
noncomputable def tk1 : Nat := 346
noncomputable def ps1 : Pos := ⟨3, 0, 50, 24⟩
noncomputable def tk2 : Nat := 397
noncomputable def ps2 : Pos := ⟨57, 0, 57, 8⟩
noncomputable def tk3 : Nat := 543
noncomputable def ps3 : Pos := ⟨58, 0, 58, 18⟩
noncomputable def tk4 : Nat := 631
noncomputable def ps4 : Pos := ⟨176, 0, 176, 7⟩
noncomputable def tk5 : Nat := 755
noncomputable def ps5 : Pos := ⟨244, 0, 262, 15⟩
noncomputable def tkz : Nat := 755
noncomputable def psz : Pos := ⟨244, 0, 262, 15⟩
noncomputable def mG : Nat := 28
noncomputable def annG : Option Value := some (.ref 6)
noncomputable def envG : Env := { scope := pG.main.scope, locals := mainNs, globals := mainNs, cells := [], code := (.ref 30), frame := some 31 }
noncomputable def qG : Pos := ⟨0, 0, 0, 0⟩
-- steps 12 0 [9, 327, 9, 81, 31, 9, 1242, 29, 9, 41, 35, 9, 29, 9, 9, 9, 9, 9, 9, 9, 9, 9, 9, 9, 9, 9, 9, 9, 9, 9, 9, 9, 161, 34, 9, 32, 32, 32, 34, 39, 35, 26, 26] 1

noncomputable def bG : List Stmt := behindTheImports pG
noncomputable def cG : Code := .body bG envG
noncomputable abbrev BG : List Frame := [topFrame qG]
noncomputable def g1 : List Stmt := bG.take 2
noncomputable def g2 : List Stmt := (bG.drop 2).take 4
noncomputable def g3 : List Stmt := (bG.drop 6).take 1
noncomputable def g4 : List Stmt := (bG.drop 7).take 25
noncomputable def g5 : List Stmt := bG.drop 32
theorem bG_eq : bG = g1 ++ (g2 ++ (g3 ++ (g4 ++ (g5 ++ [])))) := by kernel_rfl
theorem openG : ∀ w : World, (fencedOpening treeTable pG w N1).map (fun s => (s.heap, s.gens, s.drawn, s.toks)) = some (hp0 w.params, #[], {}, tk0) := by intro w; kernel_rfl
theorem sizeG : ∀ w : World, ((hp0 w.params).isNs mainGlobals && (#[] : Array GenState).size == 0, (hp0 w.params).objs.size, (hp0 w.params).nsMap mainGlobals "__annotations__") = (true, mG, annG) := by intro w; kernel_rfl
theorem preG : ∀ (w : World) (os : OsState), topGo treeTable pG w mG annG 12 ⟨hp0 w.params, #[], {}, tk0, os⟩ (topStub pG) = some (⟨hpa w.params, #[], {}, tka, os⟩, ⟨denote treeTable cG, cG, psa, BG⟩) := by intro w os; kernel_rfl
theorem blockG : ∀ (w : World) (os : OsState), segRun treeTable pG w mG annG 1 2 ⟨hpa w.params, #[], {}, tka, os⟩ (blockOf bG envG cG psa BG) = some (.next, ⟨hpb w.params, #[], {}, tkb, os⟩, cG, psb) := by intro w os; kernel_rfl
theorem sG1 : ∀ (w : World) (os : OsState), segRun treeTable pG w mG annG 1 600 ⟨hpb w.params, #[], {}, tkb, os⟩ (piecesOf g1 envG cG psb BG) = some (.next, ⟨hp1 w.params, #[], {}, tk1, os⟩, cG, ps1) := by intro w os; kernel_rfl
theorem sG2 : ∀ (w : World) (os : OsState), segRun treeTable pG w mG annG 1 600 ⟨hp1 w.params, #[], {}, tk1, os⟩ (piecesOf g2 envG cG ps1 BG) = some (.next, ⟨hp2 w.params, #[], {}, tk2, os⟩, cG, ps2) := by intro w os; kernel_rfl
noncomputable abbrev S3 (w : World) : Prop := ∀ os : OsState, segRun treeTable pG w mG annG 1 1500 ⟨hp2 w.params, #[], {}, tk2, os⟩ (piecesOf g3 envG cG ps2 BG) = some (.next, ⟨hp3 w.params, #[], {}, tk3, os⟩, cG, ps3)
theorem l00 : ∀ w : World, S3 (w2 w false false) := by intro w os; kernel_rfl
theorem l01 : ∀ w : World, S3 (w2 w false true) := by intro w os; kernel_rfl
theorem l10 : ∀ w : World, S3 (w2 w true false) := by intro w os; kernel_rfl
theorem l11 : ∀ w : World, S3 (w2 w true true) := by intro w os; kernel_rfl
theorem sG3 : ∀ w : World, S3 w :=
  byRow2 "comprehension-iter-twice" (P := S3) (byRow2 "special-get-raises" (P := fun w => S3 (w.withFollow "comprehension-iter-twice" false)) l00 l01) (byRow2 "special-get-raises" (P := fun w => S3 (w.withFollow "comprehension-iter-twice" true)) l10 l11)
theorem sG4 : ∀ (w : World) (os : OsState), segRun treeTable pG w mG annG 1 600 ⟨hp3 w.params, #[], {}, tk3, os⟩ (piecesOf g4 envG cG ps3 BG) = some (.next, ⟨hp4 w.params, #[], {}, tk4, os⟩, cG, ps4) := by intro w os; kernel_rfl
theorem sG5 : ∀ (w : World) (os : OsState), segRun treeTable pG w mG annG 1 600 ⟨hp4 w.params, #[], {}, tk4, os⟩ (piecesOf g5 envG cG ps4 BG) = some (.next, ⟨hp5 w.params, #[], {}, tk5, os⟩, cG, ps5) := by intro w os; kernel_rfl
theorem finG : ∀ (w : World) (os : OsState), topRun treeTable pG w mG annG 3 ⟨hp5 w.params, #[], {}, tk5, os⟩ ⟨doneF .next, cG, ps5, BG⟩ = some ⟨hpz w.params, #[], {}, tkz, os⟩ := by intro w os; kernel_rfl
theorem runG : ∀ (w : World) (os : OsState), topRun treeTable pG w mG annG (12 + (2 + (600 + (600 + (1500 + (600 + (600 + 3))))))) ⟨hp0 w.params, #[], {}, tk0, os⟩ (topStub pG) = some ⟨hpz w.params, #[], {}, tkz, os⟩ := fun w os => by
  refine go_top (preG w os) (piece_block (blockG w os) ?_)
  have k := piece_app (sG1 w os) (piece_app (sG2 w os) (piece_app (sG3 w os) (piece_app (sG4 w os) (piece_app (sG5 w os) (piece_nil (env := envG) (finG w os))))))
  rw [← bG_eq] at k
  exact k
theorem looksG : ∀ w : World, (fun os => ((staticsOk (importedModules pG.main.body) (hp0 w.params) (hpz w.params) && namesBound pG (hpz w.params) && gensDone ⟨hpz w.params, #[], {}, tkz, os⟩ && laidKept (hp0 w.params) (hpz w.params)),
    openSeen q1 loose1 (importedModules pG.main.body) X1 true ⟨hpz w.params, #[], {}, tkz, os⟩, H2.obs ⟨hpz w.params, #[], {}, tkz, os⟩)) = fun _ => (true, openGood q1 loose1, H2.val w) := by intro w; funext os; kernel_rfl
theorem left1 : LeftO PySem.Challenge.rw_in0278_02.row.prog q1 loose1 X1 H2.obs H2.val N1 :=
  LeftO.of_pieces (H₀ := hp0) (H₁ := hpz) (gs₀ := #[]) (gs₁ := #[]) (d₀ := {}) (d₁ := {}) (k₀ := tk0) (k₁ := tkz) (m₀ := mG) (ann := annG) (M := 12 + (2 + (600 + (600 + (1500 + (600 + (600 + 3))))))) openG sizeG runG (by decide) looksG
end Mine

end
section
open PySem PySem.W PySem.Calls PyProof.Rows
set_option linter.unusedVariables false
set_option maxRecDepth 100000
namespace Mine

/-! A small program logic over deep values: a frozen part of the heap bears the values, the frame's own lists turn. -/

/-- a lambda of one closed name -/
structure Lam where
  qual : Str
  params : Arguments
  body : Expr
  scope : Scope
  nm : Str
noncomputable abbrev lamObj (d : Lam) (c : Addr) (pm : Value) (c' : Addr) (ctv : Value) : Obj :=
  { cls := .type "function", data := .func { name := "<lambda>", qualname := d.qual, params := d.params, body := .expr d.body, scope := d.scope, globals := mainGlobals, closure := [(d.nm, c)], defaults := .none, kwdefaults := .none, doc := .none, pyModule := pm, annotations := none, code := .ref c', closureTuple := ctv, builtins := builtinsNs } }
noncomputable abbrev rngObj (a b : Int) (t u v : Tok) : Obj := { cls := .type "range", dict := none, data := .fields #[.int a t, .int b u, .int 1 v], slots := #[] }
/-- a deep value -/
inductive V where
  | nil
  | bool (b : Bool)
  | int (i : Int)
  | str (x : Str)
  | tup (vs : List V)
  | lst (vs : List V)
  | raw (v : Value)
  | ins (ks : List Str) (vs : List V)
  | obj (p d : Addr)
  | rng (a b : Int)
  | lam (d : Lam) (c : Addr)
  | fn (d : Lam) (v : V)

noncomputable abbrev Zp := Addr → Option Obj
noncomputable def Sub (z : Zp) (h : Heap) : Prop := ∀ b o, z b = some o → h.get? b = some o

/-- a plain list or tuple of these items -/
noncomputable def SeqIs (T : String) (q : Option Obj) (xs : List Value) : Prop := ∃ o n, q = some o ∧ o.cls = .type T ∧ o.dict = o.dict ∧ o.data = .seq xs.toArray n
theorem SeqIs.mono {T : String} {q q' : Option Obj} {xs : List Value} (h : SeqIs T q xs) (k : ∀ o, q = some o → q' = some o) : SeqIs T q' xs :=
  let ⟨o, n, e, r⟩ := h; ⟨o, n, k o e, r⟩

theorem SeqIs.plain {h : Heap} {a : Addr} {xs : List Value} (p : h.PlainList a xs.toArray) : SeqIs "list" (h.get? a) xs := let ⟨n, e⟩ := p; ⟨_, n, e, rfl, rfl, rfl⟩

/-- the dict of an object of a class -/
noncomputable def FieldsOk : List Str → List Value → List DictEntry → Prop
  | [], [], [] => True
  | k :: ks, x :: xs, e :: es => e.val = x ∧ (∃ t, e.key = .str k t) ∧ FieldsOk ks xs es
  | _, _, _ => False

/-- a code object of this name -/
noncomputable def Recd (z : Zp) (q : Str) (cv : Value) : Prop := ∃ c' oc vs t, cv = .ref c' ∧ z c' = some oc ∧ oc.data = .fields vs ∧ vs[1]? = some (.str q t)
theorem Recd.mono {z z' : Zp} (hz : ∀ b o, z b = some o → z' b = some o) {q : Str} {cv : Value} (h : Recd z q cv) : Recd z' q cv := let ⟨c', oc, vs, t, e, h, r⟩ := h; ⟨c', oc, vs, t, e, hz _ _ h, r⟩
/-- a lambda of the frozen part -/
noncomputable def LamAt (z : Zp) (d : Lam) (c : Addr) (x : Value) : Prop := ∃ a pm c' ctv, x = .ref a ∧ z a = some (lamObj d c pm c' ctv) ∧ Recd z d.qual (.ref c')
theorem LamAt.mono {z z' : Zp} (hz : ∀ b o, z b = some o → z' b = some o) {d : Lam} {c : Addr} {x : Value} (h : LamAt z d c x) : LamAt z' d c x := let ⟨a, pm, c', ctv, e, h, r⟩ := h; ⟨a, pm, c', ctv, e, hz _ _ h, r.mono hz⟩
mutual
/-- the value x bears v over the frozen part z; C: the class of the instances -/
noncomputable def Rz (C : Addr) (z : Zp) : V → Value → Prop
  | .nil, x => x = .none
  | .bool b, x => x = .bool b
  | .int i, x => ∃ t, x = .int i t
  | .str s, x => ∃ t, x = .str s t
  | .tup vs, x => ∃ a xs, x = .ref a ∧ SeqIs "tuple" (z a) xs ∧ RzL C z vs xs
  | .lst vs, x => ∃ a xs, x = .ref a ∧ SeqIs "list" (z a) xs ∧ RzL C z vs xs
  | .raw v, x => x = v
  | .obj p d, x => x = .ref p ∧ z p = some (instObj C d)
  | .ins ks vs, x => ∃ a d es n xs, x = .ref a ∧ z a = some (instObj C d) ∧ z d = some (dictOf es n) ∧ FieldsOk ks xs es ∧ RzL C z vs xs
  | .rng a b, x => ∃ p t u v, x = .ref p ∧ z p = some (rngObj a b t u v)
  | .lam d c, x => LamAt z d c x
  | .fn d v, x => ∃ c o y, LamAt z d c x ∧ z c = some o ∧ o.data = .cell (some y) ∧ Rz C z v y
noncomputable def RzL (C : Addr) (z : Zp) : List V → List Value → Prop
  | [], xs => xs = []
  | v :: vs, xs => ∃ x r, xs = x :: r ∧ Rz C z v x ∧ RzL C z vs r
end

mutual
theorem Rz.mono {C : Addr} {z z' : Zp} (hz : ∀ b o, z b = some o → z' b = some o) : ∀ {v : V} {x : Value}, Rz C z v x → Rz C z' v x
  | .nil, _, h => h
  | .bool _, _, h => h
  | .int _, _, h => h
  | .str _, _, h => h
  | .raw _, _, h => h
  | .tup _, _, ⟨a, xs, e, o, r⟩ => ⟨a, xs, e, o.mono (hz a), RzL.mono hz r⟩
  | .lst _, _, ⟨a, xs, e, o, r⟩ => ⟨a, xs, e, o.mono (hz a), RzL.mono hz r⟩
  | .obj _ _, _, ⟨e, o⟩ => ⟨e, hz _ _ o⟩
  | .ins _ _, _, ⟨a, d, es, n, xs, e, o, q, f, r⟩ => ⟨a, d, es, n, xs, e, hz _ _ o, hz _ _ q, f, RzL.mono hz r⟩
  | .rng _ _, _, ⟨p, t, u, v, e, o⟩ => ⟨p, t, u, v, e, hz _ _ o⟩
  | .lam _ _, _, h => LamAt.mono hz h
  | .fn _ _, _, ⟨c, o, y, h, e, d, r⟩ => ⟨c, o, y, h.mono hz, hz _ _ e, d, Rz.mono hz r⟩
theorem RzL.mono {C : Addr} {z z' : Zp} (hz : ∀ b o, z b = some o → z' b = some o) : ∀ {vs : List V} {xs : List Value}, RzL C z vs xs → RzL C z' vs xs
  | [], _, h => h
  | _ :: _, _, ⟨x, r, e, h, t⟩ => ⟨x, r, e, Rz.mono hz h, RzL.mono hz t⟩
end

theorem RzL.length {C : Addr} {z : Zp} : ∀ {vs : List V} {xs : List Value}, RzL C z vs xs → xs.length = vs.length
  | [], _, h => by cases h; rfl
  | _ :: vs, _, ⟨x, r, e, _, t⟩ => by rw [e, List.length_cons, List.length_cons, RzL.length t]
theorem RzL.append {C : Addr} {z : Zp} {ws : List V} {ys : List Value} (h2 : RzL C z ws ys) : ∀ {vs : List V} {xs : List Value}, RzL C z vs xs → RzL C z (vs ++ ws) (xs ++ ys)
  | [], _, h => by cases h; exact h2
  | _ :: _, _, ⟨x, r, e, h, t⟩ => ⟨x, r ++ ys, by rw [e]; rfl, h, RzL.append h2 t⟩
theorem RzL.one {C : Addr} {z : Zp} {v : V} {x : Value} (h : Rz C z v x) : RzL C z [v] [x] := ⟨x, [], rfl, h, rfl⟩
theorem RzL.get {C : Addr} {z : Zp} : ∀ {vs : List V} {xs : List Value}, RzL C z vs xs → ∀ (i : Nat) (v : V), vs[i]? = some v → ∃ x, xs[i]? = some x ∧ Rz C z v x
  | [], _, _, _, _, h => by cases h
  | _ :: _, _, ⟨x, r, e, h, t⟩, 0, v, hv => by
    cases hv; exact ⟨x, by rw [e]; rfl, h⟩
  | _ :: _, _, ⟨x, r, e, h, t⟩, i + 1, v, hv => by
    obtain ⟨y, hy, hr⟩ := RzL.get t i v (by simpa using hv)
    exact ⟨y, by rw [e]; simpa using hy, hr⟩

/-- a thing like the table of a code object: it may grow -/
noncomputable def nilV : Value → Bool
  | .none => true
  | _ => false
noncomputable def fieldsD : Data → Bool
  | .fields _ => true
  | _ => false
noncomputable def tabLike (o : Obj) : Bool := nilV o.cls && fieldsD o.data
theorem fieldsD_no : ∀ {d : Data}, (∀ vs, d ≠ .fields vs) → fieldsD d = false := fun {d} h => by
  cases q : fieldsD d with
  | false => rfl
  | true =>
    unfold fieldsD at q
    split at q
    · exact absurd rfl (h _)
    · cases q
theorem nilV_no : ∀ {v : Value}, v ≠ .none → nilV v = false := fun {v} h => by
  cases q : nilV v with
  | false => rfl
  | true =>
    unfold nilV at q
    split at q
    · exact absurd rfl h
    · cases q
theorem notTab_data {o : Obj} (h : ∀ vs, o.data ≠ .fields vs) : tabLike o = false := by
  unfold tabLike; rw [fieldsD_no h, Bool.and_false]
theorem notTab_cls {o : Obj} (h : o.cls ≠ .none) : tabLike o = false := by
  unfold tabLike; rw [nilV_no h]; rfl
/-- the tables that may grow -/
noncomputable def TAd : List Addr := [174, 188, 202, 207]
/-- what was there is there, save that these tables grow -/
structure Was (h h' : Heap) : Prop where
  at_ : ∀ b o, h.get? b = some o → h'.get? b = some o ∨ (b ∈ TAd ∧ o.cls = .none ∧ ∃ vs more, o.data = .fields vs ∧ h'.get? b = some { o with data := .fields (vs ++ more) })
theorem Was.keep {h h' : Heap} (w : Was h h') {b : Addr} {o : Obj} (e : h.get? b = some o) (ht : tabLike o = false) : h'.get? b = some o := by
  rcases w.at_ b o e with x | ⟨_, hc, vs, _, hd, _⟩
  · exact x
  · obtain ⟨c, d, dt, sl⟩ := o
    dsimp only at hc hd
    subst hc hd
    cases ht
theorem Was.of_keep {h h' : Heap} (k : ∀ b o, h.get? b = some o → h'.get? b = some o) : Was h h' := ⟨fun b o e => .inl (k b o e)⟩
theorem Was.trans {h h' h'' : Heap} (x : Was h h') (y : Was h' h'') : Was h h'' := by
  refine ⟨fun b o e => ?_⟩
  rcases x.at_ b o e with e' | ⟨t, hc, vs, more, hd, e'⟩
  · exact y.at_ b o e'
  · rcases y.at_ _ _ e' with e'' | ⟨t', hc', vs', more', hd', e''⟩
    · exact .inr ⟨t, hc, vs, more, hd, e''⟩
    · cases hd'
      refine .inr ⟨t, hc, vs, more ++ more', hd, ?_⟩
      rw [← Array.append_assoc]
      exact e''
theorem Was.there {h h' : Heap} (w : Was h h') {b : Addr} {o : Obj} (e : h.get? b = some o) : ∃ o', h'.get? b = some o' ∧ (tabLike o = false → o' = o) := by
  cases q : tabLike o with
  | false => exact ⟨o, w.keep e q, fun _ => rfl⟩
  | true =>
    rcases w.at_ b o e with x | ⟨_, _, _, _, _, x⟩
    · exact ⟨_, x, fun h => by cases h⟩
    · exact ⟨_, x, fun h => by cases h⟩
/-- the frozen part holds a table -/
noncomputable def Ztab (z : Zp) : Prop := ∃ t ∈ TAd, ∃ o, z t = some o
theorem Ztab.mono {z z' : Zp} (hz : ∀ b o, z b = some o → z' b = some o) (h : Ztab z) : Ztab z' := let ⟨t, m, o, e⟩ := h; ⟨t, m, o, hz _ _ e⟩
/-- the generators: those that were, and some that are bare -/
structure G0 (a b : Array GenState) : Prop where
  sz : a.size ≤ b.size
  old : ∀ i, i < a.size → b[i]? = a[i]?
  new : ∀ i x, a.size ≤ i → b[i]? = some x → x.bare = true
theorem G0.refl (a : Array GenState) : G0 a a := ⟨Nat.le_refl _, fun _ _ => rfl, fun i x h e => by rw [Array.getElem?_eq_none h] at e; cases e⟩
theorem G0.trans {a b c : Array GenState} (x : G0 a b) (y : G0 b c) : G0 a c := by
  refine ⟨Nat.le_trans x.sz y.sz, fun i hi => (y.old i (Nat.lt_of_lt_of_le hi x.sz)).trans (x.old i hi), fun i q hi e => ?_⟩
  by_cases h : i < b.size
  · rw [y.old i h] at e; exact x.new i q hi e
  · exact y.new i q (Nat.le_of_not_lt h) e
theorem G0.bare {b : Array GenState} (x : G0 #[] b) : AllBare b := fun y hy => by
  obtain ⟨i, hi, e⟩ := Array.getElem_of_mem hy
  exact x.new i y (Nat.zero_le _) (by rw [Array.getElem?_eq_getElem hi, e])
/-- nothing at all, if the frozen part holds a table -/
structure GG (z : Zp) (a b : Array GenState) : Prop where
  g0 : G0 a b
  q : Ztab z → b = a
theorem GG.refl (z : Zp) (a : Array GenState) : GG z a a := ⟨.refl a, fun _ => rfl⟩
theorem GG.trans {z z' : Zp} {a b c : Array GenState} (x : GG z a b) (hz : ∀ b o, z b = some o → z' b = some o) (y : GG z' b c) : GG z a c := ⟨x.g0.trans y.g0, fun h => (y.q (h.mono hz)).trans (x.q h)⟩
theorem GG.of_eq {z : Zp} {a b : Array GenState} (e : b = a) : GG z a b := e ▸ .refl _ _

/-- the codes whose tables grow -/
noncomputable def TBC : List (Addr × Addr) := [(178, 174), (192, 188), (204, 202), (209, 207)]
/-- the name of the codes in the table of this code, if they are called -/
noncomputable def qualIn (c : Addr) : Option Str := if c = 178 then some "_law_rule.<locals>.<lambda>" else none
structure TabAt (z : Zp) (h : Heap) (c P : Addr) : Prop where
  hz : z P = none
  ps : ∃ ps, h.IsCode c P ps ∧ h.TableAt c P ps ∧ ∀ q, qualIn c = some q → ∀ pos cv, codeAmong pos ps.toList = some cv → Recd z q cv
noncomputable def Tabs (z : Zp) (h : Heap) : Prop := ∀ c ∈ TBC, TabAt z h c.1 c.2
theorem Tabs.move {z z' : Zp} {h h' : Heap} (t : Tabs z h) (zz : ∀ b o, z b = some o → z' b = some o) (hn : ∀ c ∈ TBC, z c.2 = none → (∃ o, h.get? c.2 = some o) → z' c.2 = none)
    (hk : ∀ c ∈ TBC, (∀ o, h.get? c.1 = some o → h'.get? c.1 = some o) ∧ ∀ o, h.get? c.2 = some o → h'.get? c.2 = some o) : Tabs z' h' := fun c hc => by
  obtain ⟨hz, ps, x, y, r⟩ := t c hc
  obtain ⟨k1, k2⟩ := hk c hc
  refine ⟨hn c hc hz ⟨_, y.2⟩, ps, ?_, ?_, fun q e pos cv hv => (r q e pos cv hv).mono zz⟩
  · obtain ⟨o, vs, file, tf, flags, tg, inF, text, tt, op, ho, hd, h11, h2, h7, h9, h10, hop, rest⟩ := x
    exact ⟨o, vs, file, tf, flags, tg, inF, text, tt, op, k1 _ ho, hd, h11, h2, h7, h9, h10, k2 _ hop, rest⟩
  · obtain ⟨⟨o, vs, e, rest⟩, t⟩ := y
    exact ⟨⟨o, vs, k1 _ e, rest⟩, k2 _ t⟩

/-- what a step of an expression leaves -/
structure Ext (z : Zp) (s : Shared) (z' : Zp) (s' : Shared) : Prop where
  zz : ∀ b o, z b = some o → z' b = some o
  sub : Sub z' s'.heap
  was : Was s.heap s'.heap
  new : ∀ b o, z' b = some o → z b = none → s.heap.get? b = none
  gens : GG z s.gens s'.gens
  tabs : Tabs z s.heap → Tabs z' s'.heap
  dr : s'.drawn = s.drawn
  os : s'.os = s.os
theorem Ext.keep {z z' : Zp} {s s' : Shared} (x : Ext z s z' s') (b : Addr) (o : Obj) (e : s.heap.get? b = some o) (h : tabLike o = false := by rfl) : s'.heap.get? b = some o := x.was.keep e h
/-- with all kept -/
theorem Ext.full {z z' : Zp} {s s' : Shared} (zz : ∀ b o, z b = some o → z' b = some o) (sub : Sub z' s'.heap) (keep : ∀ b o, s.heap.get? b = some o → s'.heap.get? b = some o)
    (new : ∀ b o, z' b = some o → z b = none → s.heap.get? b = none) (gens : s'.gens = s.gens) (dr : s'.drawn = s.drawn) (os : s'.os = s.os) : Ext z s z' s' := ⟨zz, sub, .of_keep keep, new, .of_eq gens, fun t => t.move zz (fun c _ hn ⟨o, ho⟩ => by
  cases q : z' c.2 with
  | none => rfl
  | some o' => rw [new _ _ q hn] at ho; cases ho) fun c _ => ⟨fun o => keep _ o, fun o => keep _ o⟩, dr, os⟩

theorem Ext.refl {z : Zp} {s : Shared} (h : Sub z s.heap) : Ext z s z s := .full (fun _ _ e => e) h (fun _ _ e => e) (fun _ _ e n => (by rw [n] at e; cases e)) rfl rfl rfl
theorem Ext.trans {z z' z'' : Zp} {s s' s'' : Shared} (x : Ext z s z' s') (y : Ext z' s' z'' s'') : Ext z s z'' s'' where
  zz b o e := y.zz b o (x.zz b o e)
  sub := y.sub
  was := x.was.trans y.was
  new b o e n := by
    cases q : z' b with
    | some o' => exact x.new b o' q n
    | none =>
      have := y.new b o e q
      cases q2 : s.heap.get? b with
      | none => rfl
      | some o2 =>
        obtain ⟨o', ho', _⟩ := x.was.there q2
        rw [ho'] at this; cases this
  gens := x.gens.trans x.zz y.gens
  tabs t := y.tabs (x.tabs t)
  dr := y.dr.trans x.dr
  os := y.os.trans x.os

/-- a state that differs by its tokens -/
theorem Ext.toks {z : Zp} {s : Shared} (h : Sub z s.heap) (t : Nat) : Ext z s z { s with toks := t } := .full (fun _ _ e => e) h (fun _ _ e => e) (fun _ _ e n => (by rw [n] at e; cases e)) rfl rfl rfl
/-- a heap that has grown -/
theorem Ext.grow {z : Zp} {s : Shared} {h' : Heap} {t : Nat} (h : Sub z s.heap) (k : ∀ b o, s.heap.get? b = some o → h'.get? b = some o) : Ext z s z { s with heap := h', toks := t } :=
  .full (fun _ _ e => e) (fun b o e => k b o (h b o e)) k (fun _ _ e n => (by rw [n] at e; cases e)) rfl rfl rfl
/-- one new object, frozen at once -/
noncomputable def Zp.put (z : Zp) (a : Addr) (o : Obj) : Zp := fun b => if b = a then some o else z b
theorem Zp.put_self {z : Zp} {a : Addr} {o : Obj} : z.put a o a = some o := by simp [Zp.put]
theorem Zp.put_old {z : Zp} {a : Addr} {o : Obj} (hz : z a = none) : ∀ b q, z b = some q → z.put a o b = some q := by
  intro b q e
  have : b ≠ a := fun h => by rw [h, hz] at e; cases e
  simp [Zp.put, this, e]
theorem Sub.fresh {z : Zp} {h : Heap} (k : Sub z h) : z h.objs.size = none := by
  cases q : z h.objs.size with
  | none => rfl
  | some o => exact absurd (Heap.lt_size (k _ _ q)) (Nat.lt_irrefl _)
theorem get_fresh (h : Heap) : h.get? h.objs.size = none := by
  cases q : h.get? h.objs.size with
  | none => rfl
  | some o => exact absurd (Heap.lt_size q) (Nat.lt_irrefl _)
theorem Ext.push {z : Zp} {s : Shared} {o : Obj} (h : Sub z s.heap) (hf : o.isFreed = false) : Ext z s (z.put s.heap.objs.size o) { s with heap := s.heap.push o } :=
  .full (Zp.put_old h.fresh) (fun b q e => by
    by_cases hb : b = s.heap.objs.size
    · subst hb
      rw [Zp.put_self] at e; cases e
      exact Heap.get?_push_size _ hf
    · exact Heap.get?_push_of_some _ (h b q (by simpa [Zp.put, hb] using e)))
   (fun _ _ e => Heap.get?_push_of_some _ e) (fun b q e n => by
    by_cases hb : b = s.heap.objs.size
    · subst hb; exact get_fresh _
    · simp [Zp.put, hb, n] at e) rfl rfl rfl
theorem stays_none {z z' : Zp} {s s' : Shared} (x : Ext z s z' s') {a : Addr} {o : Obj} (ha : s.heap.get? a = some o) (hz : z a = none) : z' a = none := by
  cases q : z' a with
  | none => rfl
  | some o' => rw [x.new a o' q hz] at ha; cases ha
theorem Tabs.alive {z : Zp} {h : Heap} (t : Tabs z h) : ∀ c ∈ TBC, (∃ o, h.get? c.1 = some o) ∧ ∃ o, h.get? c.2 = some o := fun c hc => by
  obtain ⟨_, ps, x, y, _⟩ := t c hc
  obtain ⟨⟨o, _, e, _⟩, t⟩ := y
  exact ⟨⟨o, e⟩, ⟨_, t⟩⟩
theorem Tabs.move1 {z z' : Zp} {h₀ h h' : Heap} {z₀ : Zp} (t₀ : Tabs z₀ h₀) (t : Tabs z h) (zz : ∀ b o, z b = some o → z' b = some o) (hn : ∀ b, (∃ o, h₀.get? b = some o) → (∃ o, h.get? b = some o) → z b = none → z' b = none)
    (hk : ∀ b, (∃ o, h₀.get? b = some o) → ∀ o, h.get? b = some o → h'.get? b = some o) : Tabs z' h' := by
  have al := t₀.alive
  exact t.move zz (fun c hc e h => hn c.2 (al c hc).2 h e) fun c hc => ⟨hk _ (al c hc).1, hk _ (al c hc).2⟩
theorem Ext.put {z z' : Zp} {s s' : Shared} (x : Ext z s z' s') {D : Addr} {o : Obj} (hD : s.heap.get? D = none) (zD : z' D = none) (ho : s'.heap.get? D = some o) : Ext z s (z'.put D o) s' := by
  refine ⟨fun b q e => Zp.put_old zD b q (x.zz b q e), fun b q e => ?_, x.was, fun b q e n => ?_, x.gens, fun t => t.move1 (x.tabs t) (Zp.put_old zD) (fun b ⟨q, h⟩ _ e => ?_) fun _ _ _ e => e, x.dr, x.os⟩
  · by_cases hb : b = D
    · subst hb; rw [Zp.put_self] at e; cases e; exact ho
    · exact x.sub b q (by simpa [Zp.put, hb] using e)
  · by_cases hb : b = D
    · subst hb; exact hD
    · exact x.new b q (by simpa [Zp.put, hb] using e) n
  · have : b ≠ D := fun q => by rw [q, hD] at h; cases h
    simp [Zp.put, this, e]
/-- how the tables grow -/
structure Grows (h₀ h : Heap) : Prop where
  at_ : ∀ b o, h₀.get? b = some o → tabLike o = true → h.get? b = some o ∨ (b ∈ TAd ∧ o.cls = .none ∧ ∃ vs more, o.data = .fields vs ∧ h.get? b = some { o with data := .fields (vs ++ more) })
theorem Grows.of_keep {h h' : Heap} (k : ∀ b o, h.get? b = some o → h'.get? b = some o) : Grows h h' := ⟨fun b o e _ => .inl (k b o e)⟩
theorem Grows.was {h₀ h h' : Heap} (g : Grows h₀ h) (w : Was h h') : Grows h₀ h' := by
  refine ⟨fun b o e t => ?_⟩
  rcases g.at_ b o e t with e' | ⟨t', hc, vs, more, hd, e'⟩
  · exact w.at_ b o e'
  · rcases w.at_ _ _ e' with e'' | ⟨_, _, vs', more', hd', e''⟩
    · exact .inr ⟨t', hc, vs, more, hd, e''⟩
    · cases hd'
      refine .inr ⟨t', hc, vs, more ++ more', hd, ?_⟩
      rw [← Array.append_assoc]
      exact e''
/-- a thing that is no record of fields -/
noncomputable def NoFields (h : Heap) (a : Addr) : Prop := ∃ o, h.get? a = some o ∧ ∀ vs, o.data ≠ .fields vs
theorem NoFields.ne_code {h : Heap} {a c P : Addr} {ps : Array Value} (n : NoFields h a) (x : h.IsCode c P ps) : c ≠ a ∧ P ≠ a := by
  obtain ⟨o, ho, hn⟩ := n
  obtain ⟨o', vs, _, _, _, _, _, _, _, op, e, hd, _, _, _, _, _, e', hd', _⟩ := x
  exact ⟨fun q => by rw [q, ho] at e; cases e; exact hn _ hd, fun q => by rw [q, ho] at e'; cases e'; exact hn _ hd'⟩
theorem Tabs.ne {z : Zp} {h : Heap} {a : Addr} (t : Tabs z h) (n : NoFields h a) {c : Addr × Addr} (hc : c ∈ TBC) : c.1 ≠ a ∧ c.2 ≠ a := by
  obtain ⟨_, ps, x, _⟩ := t c hc
  exact n.ne_code x
theorem Tabs.same {z : Zp} {h h' : Heap} {a : Addr} (t : Tabs z h) (n : NoFields h a) (sb : Heap.SameBut a h h') : Tabs z h' :=
  t.move (fun _ _ e => e) (fun _ _ e _ => e) fun c hc => ⟨fun o => sb.extBut _ o (t.ne n hc).1, fun o => sb.extBut _ o (t.ne n hc).2⟩
theorem Tabs.keeps {z : Zp} {h h' : Heap} (t : Tabs z h) (k : ∀ b o, h.get? b = some o → h'.get? b = some o) : Tabs z h' := t.move (fun _ _ e => e) (fun _ _ e _ => e) fun c _ => ⟨fun o => k _ o, fun o => k _ o⟩
theorem Tabs.zmove {z z' : Zp} {h : Heap} (t : Tabs z h) (zz : ∀ b o, z b = some o → z' b = some o) (hn : ∀ c ∈ TBC, z c.2 = none → z' c.2 = none) : Tabs z' h := t.move zz (fun c hc e _ => hn c hc e) fun c _ => ⟨fun _ e => e, fun _ e => e⟩
theorem Grows.same {h₀ h h' : Heap} {a : Addr} (g : Grows h₀ h) (n : NoFields h a) (sb : Heap.SameBut a h h') : Grows h₀ h' := by
  refine ⟨fun b o e t => ?_⟩
  obtain ⟨oa, ha, hn⟩ := n
  have ne : ∀ {q : Obj}, h.get? b = some q → tabLike q = true → b ≠ a := fun {q} e' t' hb => by
    rw [hb, ha] at e'; cases e'
    rw [notTab_data hn] at t'; cases t'
  rcases g.at_ b o e t with e' | ⟨t', hc, vs, more, hd, e'⟩
  · exact .inl (sb.extBut b o (ne e' t) e')
  · refine .inr ⟨t', hc, vs, more, hd, sb.extBut b _ (ne e' ?_) e'⟩
    obtain ⟨c0, d0, dt0, sl0⟩ := o
    dsimp only at hc hd
    subst hc
    rfl
end Mine

end
section
open PySem PySem.W PySem.Calls PyProof.Rows
set_option linter.unusedVariables false
set_option maxRecDepth 100000
namespace Mine

/-- what stands for the whole law: the top's written part, its names -/
structure Gl (prog : Program) (w : World) (K : Frag) where
  zB : Zp
  C : Addr
  q : Bool
  mg : Str → Option Value
  mb : Str → Option Value
  inK : ∀ a o, K.lookup a = some o → zB a = some o
  nolim : ∀ h, Sub zB h → h.NoLimit
  gNs : ∀ h, Sub zB h → h.Ns mainGlobals mg
  bNs : ∀ h, Sub zB h → h.Ns builtinsNs mb
  gK : ∀ x v, nsIn K mainGlobals x = some (some v) → mg x = some v
  gB : ∀ x v, nsIn K mainGlobals x = some none → bootBuiltins x = some v → x ≠ "__name__" → mg x = none ∧ mb x = some v
  bt : ∃ bm ob, mg "__builtins__" = some (.ref bm) ∧ bm ≠ builtinsNs ∧ zB bm = some ob ∧ ob.cls = .type "module" ∧ ob.dict = some builtinsNs ∧ ob.data = .plain
/-- where no table grows -/
noncomputable def Gl.quiet {prog : Program} {w : World} {K : Frag} (G : Gl prog w K) : Gl prog w K := { G with q := false }

noncomputable def Room (r : Nat) (A : Around) : Prop := A.depth + r < recursionLimit ∧ A.units + 60 * r + 60 < cLine
theorem Room.lt {r : Nat} {A : Around} (h : Room r A) : A.depth < recursionLimit := by unfold Room at h; omega
theorem Room.deeper {r : Nat} {A : Around} {env : Env} (h : Room (r + 1) A) : Room r (A.deeper env) := by
  unfold Room at h ⊢
  show A.depth + 1 + r < _ ∧ A.units + 3 + 60 * r + 60 < _
  omega
theorem Room.less {r r' : Nat} {A : Around} (h : Room r A) (hr : r' ≤ r) : Room r' A := by unfold Room at h ⊢; omega

section
variable {prog : Program} {w : World} {K : Frag}

/-- what a call finds: the written part, the tables -/
structure Bd (G : Gl prog w K) (z : Zp) (h : Heap) : Prop where
  zz : ∀ b o, G.zB b = some o → z b = some o
  tabs : G.q = true → Tabs z h
/-- a frame at work -/
structure Frm (G : Gl prog w K) (r : Nat) (sc : Scope) where
  L : Addr
  cells : List (Str × Addr)
  qual : Str
  func : Option Addr
  code : Value
  frame : Option Addr
  A : Around
  base : Zp
  z0 : Zp
  h0 : Heap
  g : Array GenState
  dr : Drawn
  os : OsState
  hk : sc.kind = .function
  zB : ∀ b o, G.zB b = some o → z0 b = some o
  bT : ∀ b o, base b = some o → tabLike o = false
  hh : A.handled = none
  room : Room r A
  tq : Prop
  hq : G.q = true → tq
  zq : Prop
  zqz : zq → Ztab z0
@[reducible] noncomputable def Frm.env {G : Gl prog w K} {r : Nat} {sc : Scope} (F : Frm G r sc) : Env :=
  { scope := sc, locals := F.L, globals := mainGlobals, cells := F.cells, qual := F.qual, func := F.func, code := F.code, frame := F.frame, builtins := builtinsNs }

/-- what a name holds: a value; an own list; the append of an own list. Ghosts (names of no scope): a list at a, an object's dict at a -/
inductive LV where
  | v (x : V)
  | own (xs : List V)
  | app (y : Str)
  | gl (a : Addr) (xs : List V)
  | gd (a : Addr) (ks : List Str) (vs : List V)
  | ca (y : Str) (c : Addr)
noncomputable def LV.mine : LV → Bool
  | .v _ | .app _ | .ca .. => false
  | _ => true
noncomputable def LV.isApp (x : Str) : LV → Bool
  | .app y => y == x
  | _ => false
noncomputable abbrev Locs := List (Str × LV)
noncomputable def put (l : Locs) (x : Str) (lv : LV) : Locs := (x, lv) :: l.filter fun p => !(p.1 == x) && !p.2.isApp x

variable {G : Gl prog w K} {r : Nat} {sc : Scope}

/-- the name x holds the value -/
noncomputable def Frm.Nm (F : Frm G r sc) (m : Str → Option Value) (h : Heap) (x : Str) (val : Value) : Prop :=
  (sc.names.lookup x = some .local ∧ m x = some val) ∨ ((sc.names.lookup x = some .cell ∨ sc.names.lookup x = some .free) ∧ ∃ c, F.cells.lookup x = some c ∧ h.IsCell c (some val))
/-- what was there, or is held -/
noncomputable def Frm.Bs (F : Frm G r sc) (b : Addr) : Option Obj := match F.base b with
  | some o => some o
  | none => F.h0.get? b
theorem Frm.Bs_none {F : Frm G r sc} {b : Addr} (h : F.Bs b = none) : F.base b = none ∧ F.h0.get? b = none := by
  unfold Frm.Bs at h
  cases q : F.base b with
  | some o => rw [q] at h; cases h
  | none => rw [q] at h; exact ⟨rfl, h⟩
theorem Frm.Bs_of {F : Frm G r sc} {b : Addr} (h : F.base b = none) (h2 : F.h0.get? b = none) : F.Bs b = none := by
  unfold Frm.Bs
  rw [h]; exact h2
noncomputable def Frm.Fresh (F : Frm G r sc) (z : Zp) (a : Addr) : Prop := z a = none ∧ F.Bs a = none

noncomputable def appObj (a : Addr) (o : Obj) : Prop := o.cls = .type "builtin_function_or_method" ∧ ∃ vs, o.data = .fields vs ∧ vs.toList = [.builtin "list.append", .ref a]

/-- what an own thing holds -/
noncomputable def Cont (C : Addr) (z : Zp) (h : Heap) (a : Addr) : LV → Prop
  | .own xs | .gl _ xs => ∃ vals, h.PlainList a vals.toArray ∧ RzL C z xs vals
  | .gd _ ks vs => ∃ es n xs, h.get? a = some (dictOf es n) ∧ FieldsOk ks xs es ∧ RzL C z vs xs
  | _ => True
theorem plainL_at {h h' : Heap} {a : Addr} {xs : Array Value} (p : h.PlainList a xs) (hh : ∀ o, h.get? a = some o → tabLike o = false → h'.get? a = some o) : h'.PlainList a xs := by
  obtain ⟨n, p⟩ := p
  exact ⟨n, hh _ p rfl⟩
theorem Cont.mono {C : Addr} {z z' : Zp} {h h' : Heap} {a : Addr} {u : LV} (c : Cont C z h a u) (hz : ∀ b o, z b = some o → z' b = some o) (hh : ∀ o, h.get? a = some o → tabLike o = false → h'.get? a = some o) : Cont C z' h' a u := by
  cases u with
  | v _ => exact c
  | app _ => exact c
  | ca _ _ => exact c
  | own xs => obtain ⟨vals, p, rl⟩ := c; exact ⟨vals, plainL_at p hh, RzL.mono hz rl⟩
  | gl _ xs => obtain ⟨vals, p, rl⟩ := c; exact ⟨vals, plainL_at p hh, RzL.mono hz rl⟩
  | gd _ ks vs => obtain ⟨es, n, xs, p, f, rl⟩ := c; exact ⟨es, n, xs, hh _ p rfl, f, RzL.mono hz rl⟩
theorem Cont.noFields {C : Addr} {z : Zp} {h : Heap} {a : Addr} {u : LV} (c : Cont C z h a u) (hu : u.mine = true) : NoFields h a := by
  cases u with
  | v _ => cases hu
  | app _ => cases hu
  | ca _ _ => cases hu
  | own xs => obtain ⟨vals, ⟨n, p⟩, _⟩ := c; exact ⟨_, p, fun vs q => by cases q⟩
  | gl _ xs => obtain ⟨vals, ⟨n, p⟩, _⟩ := c; exact ⟨_, p, fun vs q => by cases q⟩
  | gd _ ks vs => obtain ⟨es, n, xs, p, _⟩ := c; exact ⟨_, p, fun vs q => by cases q⟩
theorem ns_noFields {h : Heap} {a : Addr} {m : Str → Option Value} (n : h.Ns a m) : NoFields h a := let ⟨o, _, _, e, d, _⟩ := n; ⟨o, e, fun vs q => by rw [d] at q; cases q⟩
theorem cell_noFields {h : Heap} {c : Addr} {v : Option Value} (n : h.IsCell c v) : NoFields h c := let ⟨o, e, d⟩ := n; ⟨o, e, fun vs q => by rw [d] at q; cases q⟩
theorem Ext.ns {z z' : Zp} {s s' : Shared} (x : Ext z s z' s') {a : Addr} {m : Str → Option Value} (n : s.heap.Ns a m) : s'.heap.Ns a m := by
  obtain ⟨o, es, ep, e, d, r⟩ := n
  exact ⟨o, es, ep, x.was.keep e (notTab_data fun vs q => by rw [d] at q; cases q), d, r⟩
theorem Ext.cell {z z' : Zp} {s s' : Shared} (x : Ext z s z' s') {c : Addr} {v : Option Value} (n : s.heap.IsCell c v) : s'.heap.IsCell c v := by
  obtain ⟨o, e, d⟩ := n
  exact ⟨o, x.was.keep e (notTab_data fun vs q => by rw [d] at q; cases q), d⟩
theorem Cont.alive {C : Addr} {z : Zp} {h : Heap} {a : Addr} {u : LV} (c : Cont C z h a u) (hu : u.mine = true) : ∃ o, h.get? a = some o := by
  cases u with
  | v _ => cases hu
  | app _ => cases hu
  | ca _ _ => cases hu
  | own xs => obtain ⟨vals, ⟨n, p⟩, _⟩ := c; exact ⟨_, p⟩
  | gl _ xs => obtain ⟨vals, ⟨n, p⟩, _⟩ := c; exact ⟨_, p⟩
  | gd _ ks vs => obtain ⟨es, n, xs, p, _⟩ := c; exact ⟨_, p⟩
structure Frm.Mine (F : Frm G r sc) (z : Zp) (a : Addr) : Prop where
  fr : F.Fresh z a
  nl : a ≠ F.L
  nc : ∀ y c, sc.names.lookup y = some .cell → F.cells.lookup y = some c → c ≠ a
noncomputable def Frm.Tag (F : Frm G r sc) (h : Heap) (m : Str → Option Value) (am : Str → Addr) (x : Str) : LV → Prop
  | .own _ => F.Nm m h x (.ref (am x))
  | .gl a _ | .gd a _ _ => am x = a
  | _ => True
/-- a cell's place; the code's place -/
noncomputable def Frm.Ca (F : Frm G r sc) (y : Str) (c : Addr) : Prop := if y = "#code" then F.code = .ref c ∧ (c = 178 → F.qual = "_law_rule.<locals>.") else F.cells.lookup y = some c
noncomputable def Frm.VOk (F : Frm G r sc) (z : Zp) (h : Heap) (m : Str → Option Value) (am : Str → Addr) (x : Str) : LV → Prop
  | .v v => ∃ val, F.Nm m h x val ∧ Rz G.C z v val
  | .app y => ∃ q o, F.Nm m h x (.ref q) ∧ z q = some o ∧ appObj (am y) o
  | .ca y c => F.Ca y c
  | u => F.Mine z (am x) ∧ Cont G.C z h (am x) u ∧ F.Tag h m am x u
theorem Frm.VOk.of {F : Frm G r sc} {z : Zp} {h : Heap} {m : Str → Option Value} {am : Str → Addr} {x : Str} {u : LV} (k : F.VOk z h m am x u) (hu : u.mine = true) : F.Mine z (am x) ∧ Cont G.C z h (am x) u ∧ F.Tag h m am x u := by
  cases u <;> first | exact k | cases hu
theorem Frm.VOk.to {F : Frm G r sc} {z : Zp} {h : Heap} {m : Str → Option Value} {am : Str → Addr} {x : Str} {u : LV} (hu : u.mine = true) (k : F.Mine z (am x) ∧ Cont G.C z h (am x) u ∧ F.Tag h m am x u) : F.VOk z h m am x u := by
  cases u <;> first | exact k | cases hu

structure Frm.LocOk (F : Frm G r sc) (l : Locs) (z : Zp) (h : Heap) (m : Str → Option Value) (am : Str → Addr) : Prop where
  nd : (l.map (·.1)).Nodup
  ns : h.Ns F.L m
  fr : F.Fresh z F.L
  ce : ∀ x, sc.names.lookup x = some .cell → ∃ c v, F.cells.lookup x = some c ∧ h.IsCell c v ∧ F.Fresh z c ∧ c ≠ F.L
  cd : ∀ x y c, sc.names.lookup x = some .cell → sc.names.lookup y = some .cell → F.cells.lookup x = some c → F.cells.lookup y = some c → x = y
  fe : ∀ x c, sc.names.lookup x = some .free → F.cells.lookup x = some c → ∃ o, F.Bs c = some o
  ok : ∀ x lv, l.lookup x = some lv → F.VOk z h m am x lv
  ds : ∀ x y u u', l.lookup x = some u → l.lookup y = some u' → u.mine = true → u'.mine = true → am x = am y → x = y

/-- what goes beside the names: generators and tables -/
structure Side (F : Frm G r sc) (z : Zp) (s : Shared) : Prop where
  was : ∀ b o, F.h0.get? b = some o → tabLike o = false → ∃ o', s.heap.get? b = some o'
  g0 : G0 F.g s.gens
  gq : F.zq → s.gens = F.g
  gr : Grows F.h0 s.heap
  tabs : F.tq → Tabs z s.heap
  t0 : F.tq → ∀ c ∈ TBC, (∃ o, F.h0.get? c.1 = some o) ∧ ∃ o, F.h0.get? c.2 = some o
theorem Side.ext {F : Frm G r sc} {z z' : Zp} {s s' : Shared} (x : Side F z s) (hz : ∀ b o, F.z0 b = some o → z b = some o) (e : Ext z s z' s') : Side F z' s' := ⟨fun b o h t => let ⟨o', ho'⟩ := x.was b o h t; let ⟨o2, h2, _⟩ := e.was.there ho'; ⟨o2, h2⟩, x.g0.trans e.gens.g0, fun h => (e.gens.q ((F.zqz h).mono hz)).trans (x.gq h), x.gr.was e.was, fun h => e.tabs (x.tabs h), x.t0⟩
theorem Side.same {F : Frm G r sc} {z : Zp} {s : Shared} {h' : Heap} {t : Nat} {a : Addr} (x : Side F z s) (n : NoFields s.heap a) (sb : Heap.SameBut a s.heap h') (al : F.Bs a = none) : Side F z { s with heap := h', toks := t } := ⟨fun b o h tl => by
    obtain ⟨o', ho'⟩ := x.was b o h tl
    have ne : b ≠ a := fun q => by rw [q, (F.Bs_none al).2] at h; cases h
    exact ⟨o', sb.extBut b o' ne ho'⟩, x.g0, x.gq, x.gr.same n sb, fun h => (x.tabs h).same n sb, x.t0⟩
/-- the state bears the frame's names -/
structure Rep (F : Frm G r sc) (l : Locs) (z : Zp) (s : Shared) : Prop where
  sub : Sub z s.heap
  zz : ∀ b o, F.z0 b = some o → z b = some o
  base : ∀ b o, F.base b = some o → s.heap.get? b = some o
  new : ∀ b o, z b = some o → F.z0 b = none → F.Bs b = none
  gens : Side F z s
  dr : s.drawn = F.dr
  os : s.os = F.os
  loc : ∃ m am, F.LocOk l z s.heap m am

theorem Frm.Nm.keep {F : Frm G r sc} {m : Str → Option Value} {h h' : Heap} {x : Str} {val : Value} (n : F.Nm m h x val) (k : ∀ b o, h.get? b = some o → tabLike o = false → h'.get? b = some o) : F.Nm m h' x val := by
  rcases n with n | ⟨n, c, e, ⟨o, ho, hd⟩⟩
  · exact .inl n
  · exact .inr ⟨n, c, e, o, k _ _ ho (notTab_data fun vs q => by rw [hd] at q; cases q), hd⟩

theorem Frm.Tag.keep {F : Frm G r sc} {h h' : Heap} {m m' : Str → Option Value} {am am' : Str → Addr} {x : Str} {u : LV} (t : F.Tag h m am x u) (k : ∀ val, F.Nm m h x val → F.Nm m' h' x val) (ha : am' x = am x) : F.Tag h' m' am' x u := by
  cases u with
  | own xs => show F.Nm m' h' x _; rw [ha]; exact k _ t
  | gl a xs => exact ha.trans t
  | gd a ks vs => exact ha.trans t
  | v _ => trivial
  | app _ => trivial
  | ca _ _ => trivial

theorem Frm.LocOk.ext {F : Frm G r sc} {l : Locs} {z z' : Zp} {s s' : Shared} {m : Str → Option Value} {am : Str → Addr} (L : F.LocOk l z s.heap m am) (x : Ext z s z' s') : F.LocOk l z' s'.heap m am := by
  have fr : ∀ {a o}, s.heap.get? a = some o → F.Fresh z a → F.Fresh z' a := fun ha f => ⟨stays_none x ha f.1, f.2⟩
  refine ⟨L.nd, x.ns L.ns, ?_, fun y hy => ?_, L.cd, L.fe, fun y lv hy => ?_, L.ds⟩
  · obtain ⟨o, _, _, ho, _⟩ := L.ns
    exact fr ho L.fr
  · obtain ⟨c, v, e, ic, f, ne⟩ := L.ce y hy
    obtain ⟨o, ho, hd⟩ := id ic
    exact ⟨c, v, e, x.cell ic, fr ho f, ne⟩
  · have k := L.ok y lv hy
    cases hu : lv.mine with
    | true =>
      obtain ⟨mi, c, t⟩ := k.of hu
      obtain ⟨o, ho⟩ := c.alive hu
      exact .to hu ⟨⟨fr ho mi.fr, mi.nl, mi.nc⟩, c.mono x.zz fun o' => x.was.keep, t.keep (fun val n => n.keep fun _ _ => x.was.keep) rfl⟩
    | false =>
      cases lv with
      | v v =>
        obtain ⟨val, n, rz⟩ := k
        exact ⟨val, n.keep fun _ _ => x.was.keep, rz.mono x.zz⟩
      | app y' =>
        obtain ⟨q, o, n, zq, ap⟩ := k
        exact ⟨q, o, n.keep fun _ _ => x.was.keep, x.zz _ _ zq, ap⟩
      | ca y' c => exact k
      | _ => cases hu

structure RepE (F : Frm G r sc) (z : Zp) (s : Shared) : Prop where
  sub : Sub z s.heap
  zz : ∀ b o, F.z0 b = some o → z b = some o
  base : ∀ b o, F.base b = some o → s.heap.get? b = some o
  new : ∀ b o, z b = some o → F.z0 b = none → F.Bs b = none
  gens : Side F z s
  dr : s.drawn = F.dr
  os : s.os = F.os
theorem Rep.end {F : Frm G r sc} {l : Locs} {z : Zp} {s : Shared} (R : Rep F l z s) : RepE F z s := ⟨R.sub, R.zz, R.base, R.new, R.gens, R.dr, R.os⟩
theorem RepE.at {F : Frm G r sc} {l : Locs} {z : Zp} {s : Shared} {m : Str → Option Value} {am : Str → Addr} (R : RepE F z s) (L : F.LocOk l z s.heap m am) : Rep F l z s := ⟨R.sub, R.zz, R.base, R.new, R.gens, R.dr, R.os, m, am, L⟩
theorem RepE.there {F : Frm G r sc} {z : Zp} {s : Shared} (R : RepE F z s) {b : Addr} {o : Obj} (e : F.Bs b = some o) : ∃ o', s.heap.get? b = some o' := by
  unfold Frm.Bs at e
  cases q : F.base b with
  | some o' => exact ⟨o', R.base b o' q⟩
  | none =>
    rw [q] at e
    cases t : tabLike o with
    | false => exact R.gens.was b o e t
    | true =>
      rcases R.gens.gr.at_ b o e t with x | ⟨_, _, _, _, _, x⟩
      · exact ⟨_, x⟩
      · exact ⟨_, x⟩
theorem RepE.bs_none {F : Frm G r sc} {z : Zp} {s : Shared} (R : RepE F z s) {b : Addr} (e : s.heap.get? b = none) : F.Bs b = none := by
  cases q : F.Bs b with
  | none => rfl
  | some o =>
    obtain ⟨o', ho'⟩ := R.there q
    rw [e] at ho'; cases ho'
theorem RepE.ext {F : Frm G r sc} {z z' : Zp} {s s' : Shared} (R : RepE F z s) (x : Ext z s z' s') : RepE F z' s' := by
  refine ⟨x.sub, fun b o e => x.zz b o (R.zz b o e), fun b o e => x.was.keep (R.base b o e) (F.bT b o e), fun b o e n => ?_, R.gens.ext R.zz x, x.dr.trans R.dr, x.os.trans R.os⟩
  cases q : z b with
  | some o' => exact R.new b o' q n
  | none =>
    have hn := x.new b o e q
    cases q2 : F.Bs b with
    | none => rfl
    | some o2 =>
      obtain ⟨o3, h3⟩ := R.there q2
      rw [h3] at hn; cases hn
/-- the things of a heap that are no tables -/
noncomputable def ntab (h : Heap) : Zp := fun b => match h.get? b with
  | some o => if tabLike o = true then none else some o
  | none => none
theorem ntab_some {h : Heap} {b : Addr} {o : Obj} (e : ntab h b = some o) : h.get? b = some o ∧ tabLike o = false := by
  unfold ntab at e
  cases q : h.get? b with
  | none => rw [q] at e; cases e
  | some o' =>
    rw [q] at e
    dsimp only at e
    by_cases t : tabLike o' = true
    · rw [if_pos t] at e; cases e
    · rw [if_neg t] at e
      cases e
      exact ⟨rfl, by simpa using t⟩
theorem ntab_of {h : Heap} {b : Addr} {o : Obj} (e : h.get? b = some o) (t : tabLike o = false) : ntab h b = some o := by
  unfold ntab
  rw [e]
  dsimp only
  rw [if_neg (by rw [t]; decide)]
/-- at the end of a frame -/
theorem RepE.done {F : Frm G r sc} {z : Zp} {s s₀ : Shared} (R : RepE F z s) (hb : F.base = ntab s₀.heap) (h : F.h0 = s₀.heap) (g : F.g = s₀.gens) (d : F.dr = s₀.drawn) (o : F.os = s₀.os) (ht : Tabs F.z0 s₀.heap → F.tq) (hzq : Ztab F.z0 → F.zq) : Ext F.z0 s₀ z s := by
  refine ⟨R.zz, R.sub, ⟨fun b o e => ?_⟩, fun b o e n => h ▸ (F.Bs_none (R.new b o e n)).2, ⟨g ▸ R.gens.g0, fun q => (R.gens.gq (hzq q)).trans g⟩, fun t => R.gens.tabs (ht t), R.dr.trans d, R.os.trans o⟩
  cases t : tabLike o with
  | false => exact .inl (R.base b o (hb ▸ ntab_of e t))
  | true => exact R.gens.gr.at_ b o (h ▸ e) t
theorem Rep.ext {F : Frm G r sc} {l : Locs} {z z' : Zp} {s s' : Shared} (R : Rep F l z s) (x : Ext z s z' s') : Rep F l z' s' := by
  obtain ⟨m, am, L⟩ := R.loc
  exact (R.end.ext x).at (L.ext x)

/-- an expression's meaning -/
noncomputable def WE (G : Gl prog w K) (r : Nat) (sc : Scope) (l : Locs) (e : Expr) (Q : V → Prop) : Prop :=
  ∀ (F : Frm G r sc) z s, Rep F l z s → wpAny (model prog w) F.A (eval e F.env) (fun x s' => ∃ z' v, Ext z s z' s' ∧ Rz G.C z' v x ∧ Q v) (fun _ _ => False) s
/-- a test's meaning -/
noncomputable def WT (G : Gl prog w K) (r : Nat) (sc : Scope) (l : Locs) (e : Expr) (Q : Bool → Prop) : Prop :=
  ∀ (F : Frm G r sc) z s, Rep F l z s → wpAny (model prog w) F.A (isTrue e F.env (eval e F.env)) (fun b s' => ∃ z', Ext z s z' s' ∧ Q b) (fun _ _ => False) s
/-- a call's meaning, for a caller with room r -/
noncomputable def CS (G : Gl prog w K) (r : Nat) (f : Value) (vs : List V) (Q : V → Prop) : Prop :=
  ∀ A z s xs, A.handled = none → Room r A → Bd G z s.heap → Sub z s.heap → RzL G.C z vs xs →
    wpAny (model prog w) A (call f xs) (fun x s' => ∃ z' v, Ext z s z' s' ∧ Rz G.C z' v x ∧ Q v) (fun _ _ => False) s

structure Kt where
  nx : Locs → Prop
  bk : Locs → Prop := fun _ => False
  ct : Locs → Prop := fun _ => False
  rt : V → Prop := fun _ => False

noncomputable def Post (F : Frm G r sc) (k : Kt) (f : Flow) (s : Shared) : Prop := match f with
  | .next => ∃ z l, Rep F l z s ∧ k.nx l
  | .brk => ∃ z l, Rep F l z s ∧ k.bk l
  | .cont => ∃ z l, Rep F l z s ∧ k.ct l
  | .ret x => ∃ z v, RepE F z s ∧ Rz G.C z v x ∧ k.rt v
noncomputable def WS (G : Gl prog w K) (r : Nat) (sc : Scope) (l : Locs) (st : List Stmt) (k : Kt) : Prop := ∀ (F : Frm G r sc) z s, Rep F l z s → wpAny (model prog w) F.A (execs st F.env) (Post F k) (fun _ _ => False) s
noncomputable def WX (G : Gl prog w K) (r : Nat) (sc : Scope) (l : Locs) (st : Stmt) (k : Kt) : Prop := ∀ (F : Frm G r sc) z s, Rep F l z s → wpAny (model prog w) F.A (exec st F.env) (Post F k) (fun _ _ => False) s

section rules
variable {l : Locs} {k : Kt} {Q : V → Prop}

theorem noE {α : Type} {t : Sem α} {A : Around} {s : Shared} {P P' : α → Shared → Prop} {E : Value → Shared → Prop} (h : wpAny (model prog w) A t P (fun _ _ => False) s) (hp : ∀ a s', P a s' → P' a s') : wpAny (model prog w) A t P' E s :=
  wpAny_mono h hp fun _ _ x => x.elim

theorem WS_nil (h : k.nx l) : WS G r sc l [] k := fun F z s R => wpAny_execs_nil ⟨z, l, R, h⟩
theorem WS_cons {st : Stmt} {rest : List Stmt} (h : WX G r sc l st { k with nx := fun l' => WS G r sc l' rest k }) : WS G r sc l (st :: rest) k := fun F z s R =>
  wpAny_execs_cons (noE (h F z s R) fun f s' p => by
    cases f with
    | next => obtain ⟨z', l', R', p⟩ := p; exact p F z' s' R'
    | brk => exact p
    | cont => exact p
    | ret x => exact p)
end rules
end
end Mine

end
section
open PySem PySem.W PySem.Calls PyProof.Rows
set_option linter.unusedVariables false
set_option maxRecDepth 100000
namespace Mine
section
variable {prog : Program} {w : World} {K : Frag} {G : Gl prog w K} {r : Nat} {sc : Scope} {l : Locs} {k : Kt} {Q : V → Prop} {P : Bool → Prop}

/-- what an action on values gives back -/
noncomputable abbrev Ret (G : Gl prog w K) (z : Zp) (s : Shared) (Q : V → Prop) (x : Value) (s' : Shared) : Prop := ∃ z' v, Ext z s z' s' ∧ Rz G.C z' v x ∧ Q v
noncomputable abbrev RetB (_G : Gl prog w K) (z : Zp) (s : Shared) (P : Bool → Prop) (b : Bool) (s' : Shared) : Prop := ∃ z', Ext z s z' s' ∧ P b

theorem Rep.zBsub {F : Frm G r sc} {z : Zp} {s : Shared} (R : Rep F l z s) : ∀ b o, G.zB b = some o → z b = some o := fun b o e => R.zz b o (F.zB b o e)
theorem Rep.bd {F : Frm G r sc} {l : Locs} {z : Zp} {s : Shared} (R : Rep F l z s) : Bd G z s.heap := ⟨R.zBsub, fun h => R.gens.tabs (F.hq h)⟩
theorem Rep.sB {F : Frm G r sc} {z : Zp} {s : Shared} (R : Rep F l z s) : Sub G.zB s.heap := fun b o e => R.sub b o (R.zBsub b o e)

/-- an action on two values -/
noncomputable def Act2 (G : Gl prog w K) (t : Value → Value → Sem Value) (a b : V) (Q : V → Prop) : Prop :=
  ∀ A z s xa xb, A.handled = none → Room 0 A → (∀ b o, G.zB b = some o → z b = some o) → Sub z s.heap → Rz G.C z a xa → Rz G.C z b xb →
    wpAny (model prog w) A (t xa xb) (Ret G z s Q) (fun _ _ => False) s
noncomputable def Tru (G : Gl prog w K) (a : V) (P : Bool → Prop) : Prop :=
  ∀ A z s xa, A.handled = none → Room 0 A → (∀ b o, G.zB b = some o → z b = some o) → Sub z s.heap → Rz G.C z a xa →
    wpAny (model prog w) A (truthy xa) (RetB G z s P) (fun _ _ => False) s

theorem ret_of {z : Zp} {s s' : Shared} {v : V} {x : Value} (h : Q v) (e : Ext z s z s') (rz : Rz G.C z v x) : Ret G z s Q x s' := ⟨z, v, e, rz, h⟩
theorem ret_trans {z z' : Zp} {s s' s'' : Shared} {x : Value} (e : Ext z s z' s') (h : Ret G z' s' Q x s'') : Ret G z s Q x s'' := by
  obtain ⟨z'', v, e', rz, q⟩ := h
  exact ⟨z'', v, e.trans e', rz, q⟩

theorem WE.mono {e : Expr} {Q' : V → Prop} (h : WE G r sc l e Q) (k : ∀ v, Q v → Q' v) : WE G r sc l e Q' := fun F z s R =>
  noE (h F z s R) fun _ _ ⟨z', v, e, rz, q⟩ => ⟨z', v, e, rz, k v q⟩
theorem WT.mono {e : Expr} {P' : Bool → Prop} (h : WT G r sc l e P) (k : ∀ v, P v → P' v) : WT G r sc l e P' := fun F z s R =>
  noE (h F z s R) fun _ _ ⟨z', e, q⟩ => ⟨z', e, k _ q⟩

/-! leaves -/
theorem WE_int {i : Int} {kd : Nat} {p : Pos} (h : Q (.int i)) : WE G r sc l (.Constant (.int i) kd p) Q := fun F z s R =>
  wpAny_Constant_int (ret_of h (Ext.toks R.sub _) ⟨_, rfl⟩)
theorem WE_str {x : Str} {kd : Nat} {p : Pos} (h : Q (.str x)) : WE G r sc l (.Constant (.str x) kd p) Q := fun F z s R =>
  wpAny_Constant_str (ret_of h (Ext.toks R.sub _) ⟨_, rfl⟩)
theorem WE_bool {b : Bool} {kd : Nat} {p : Pos} (h : Q (.bool b)) : WE G r sc l (.Constant (.bool b) kd p) Q := fun F z s R =>
  wpAny_Constant_bool (ret_of h (Ext.refl R.sub) rfl)
theorem WE_none {kd : Nat} {p : Pos} (h : Q .nil) : WE G r sc l (.Constant .none kd p) Q := fun F z s R =>
  wpAny_Constant_none (ret_of h (Ext.refl R.sub) rfl)

theorem Frm.kindOf (F : Frm G r sc) (x : Str) : F.env.kindOf x = sc.names.lookup x := rfl
theorem Frm.kind (F : Frm G r sc) : F.env.scope.kind = .function := F.hk
theorem Frm.notClass (F : Frm G r sc) : (F.env.scope.kind == .class || (F.env.scope.kind == .module && F.L != F.env.globals)) = false := by rw [F.kind]; rfl

/-- a name is read -/
theorem Frm.load {F : Frm G r sc} {m : Str → Option Value} {s : Shared} {x : Str} {val : Value} {P : Value → Shared → Prop} (ns : s.heap.Ns F.L m) (n : F.Nm m s.heap x val) (hc : (x == ("__classdict__" : Str)) = false) (h : P val s) :
    wpAny (model prog w) F.A (loadName F.env x) P (fun _ _ => False) s := by
  rcases n with ⟨n, e⟩ | ⟨n, c, e, hc'⟩
  · exact wpAny_loadName_local F.kind ((F.kindOf x).trans n) ns e h
  · rcases n with n | n
    · exact wpAny_loadName_cell F.kind ((F.kindOf x).trans n) e hc' h
    · exact wpAny_loadName_free F.kind ((F.kindOf x).trans n) e hc' h hc

theorem WE_v {x : Str} {p : Pos} {v : V} (e : l.lookup x = some (.v v)) (h : Q v) (hd : (x == ("__debug__" : Str)) = false := by decide) (hc : (x == ("__classdict__" : Str)) = false := by decide) : WE G r sc l (.Name x p) Q := fun F z s R => by
  obtain ⟨m, am, L⟩ := R.loc
  obtain ⟨val, n, rz⟩ := L.ok x _ e
  exact wpAny_Name (Frm.load L.ns n hc (ret_of h (Ext.refl R.sub) rz)) hd

theorem Frm.global {F : Frm G r sc} {s : Shared} {x : Str} {val : Value} {P : Value → Shared → Prop} (hB : Sub G.zB s.heap) (hx : sc.names.lookup x = some .globalImplicit) (hv : G.mg x = some val ∨ (G.mg x = none ∧ G.mb x = some val)) (h : P val s) :
    wpAny (model prog w) F.A (loadName F.env x) P (fun _ _ => False) s := by
  have hk : F.env.kindOf x = some .globalImplicit := (F.kindOf x).trans hx
  have e : loadName F.env x = loadGlobal F.env x := by
    unfold loadName
    have h1 : F.env.scope.kind.isAnnotationScope = false := by rw [F.kind]; rfl
    have h2 : F.env.blockKind = .function := by unfold Env.blockKind; rw [h1]; exact F.kind
    rw [h1, h2, hk]
    rfl
  rw [e]
  unfold loadGlobal
  refine wpAny_bind (wpAny_nsGet (G.gNs _ hB) ?_)
  rcases hv with hv | ⟨hn, hv⟩
  · rw [hv]; exact wpAny_pure h
  · rw [hn]
    refine wpAny_bind (wpAny_nsGet (G.bNs _ hB) ?_)
    rw [hv]; exact wpAny_pure h

theorem WE_g {x : Str} {p : Pos} {val : Value} (e : nsIn K mainGlobals x = some (some val)) (h : Q (.raw val)) (hx : sc.names.lookup x = some .globalImplicit := by rfl) (hd : (x == ("__debug__" : Str)) = false := by decide) : WE G r sc l (.Name x p) Q := fun F z s R =>
  wpAny_Name (Frm.global R.sB hx (.inl (G.gK x val e)) (ret_of h (Ext.refl R.sub) rfl)) hd
theorem WE_gd {x : Str} {p : Pos} {val : Value} {v : V} (e : nsIn K mainGlobals x = some (some val)) (hv : Rz G.C G.zB v val) (h : Q v) (hx : sc.names.lookup x = some .globalImplicit := by rfl) (hd : (x == ("__debug__" : Str)) = false := by decide) : WE G r sc l (.Name x p) Q := fun F z s R =>
  wpAny_Name (Frm.global R.sB hx (.inl (G.gK x val e)) (ret_of h (Ext.refl R.sub) (hv.mono R.zBsub))) hd
theorem WE_b {x : Str} {p : Pos} {val : Value} (e : nsIn K mainGlobals x = some none) (hv : bootBuiltins x = some val) (h : Q (.raw val)) (hn : x ≠ "__name__" := by decide) (hx : sc.names.lookup x = some .globalImplicit := by rfl) (hd : (x == ("__debug__" : Str)) = false := by decide) : WE G r sc l (.Name x p) Q := fun F z s R =>
  wpAny_Name (Frm.global R.sB hx (.inr (G.gB x val e hv hn)) (ret_of h (Ext.refl R.sub) rfl)) hd

/-! operators -/
theorem Frm.room0 (F : Frm G r sc) : Room 0 F.A := F.room.less (Nat.zero_le _)

theorem WE_bin {a b : Expr} {op : Operator} {p : Pos} (h : WE G r sc l a fun x => WE G r sc l b fun y => Act2 G (binaryOp op) x y Q) : WE G r sc l (.BinOp a op b p) Q := fun F z s R =>
  wpAny_BinOp (noE (h F z s R) fun xa s₁ ⟨z₁, va, e₁, ra, h₁⟩ => noE (h₁ F z₁ s₁ (R.ext e₁)) fun xb s₂ ⟨z₂, vb, e₂, rb, h₂⟩ =>
    noE (h₂ F.A z₂ s₂ xa xb F.hh F.room0 (R.ext (e₁.trans e₂)).zBsub e₂.sub (ra.mono e₂.zz) rb) fun _ _ q => ret_trans (e₁.trans e₂) q)

theorem WE_cmp {a b : Expr} {op : CmpOp} {p : Pos} (h : WE G r sc l a fun x => WE G r sc l b fun y => Act2 G (compareOp op) x y Q) (hm : behindInMarks op b = false := by with_unfolding_all rfl) : WE G r sc l (.Compare a [op] [b] p) Q := fun F z s R =>
  wpAny_Compare1 (noE (h F z s R) fun xa s₁ ⟨z₁, va, e₁, ra, h₁⟩ => noE (h₁ F z₁ s₁ (R.ext e₁)) fun xb s₂ ⟨z₂, vb, e₂, rb, h₂⟩ =>
    noE (h₂ F.A z₂ s₂ xa xb F.hh F.room0 (R.ext (e₁.trans e₂)).zBsub e₂.sub (ra.mono e₂.zz) rb) fun _ _ q => ret_trans (e₁.trans e₂) q) hm

/-- a value that is a bool -/
noncomputable def IsB (P : Bool → Prop) : V → Prop
  | .bool b => P b
  | _ => False
theorem IsB.truthy {z z' : Zp} {s s' : Shared} {v : V} {x : Value} {A : Around} (e : Ext z s z' s') (rz : Rz G.C z' v x) (h : IsB P v) : wpAny (model prog w) A (PySem.truthy x) (RetB G z s P) (fun _ _ => False) s' := by
  cases v <;> first | exact h.elim | skip
  cases rz
  exact wpAny_truthy_bool ⟨z', e, h⟩

theorem WT_cmp {a b : Expr} {op : CmpOp} {p : Pos} (h : WE G r sc l a fun x => WE G r sc l b fun y => Act2 G (compareOp op) x y (IsB P)) (hm : behindInMarks op b = false := by with_unfolding_all rfl) : WT G r sc l (.Compare a [op] [b] p) P := fun F z s R =>
  wpAny_isTrue_Compare1 (noE (h F z s R) fun xa s₁ ⟨z₁, va, e₁, ra, h₁⟩ => noE (h₁ F z₁ s₁ (R.ext e₁)) fun xb s₂ ⟨z₂, vb, e₂, rb, h₂⟩ =>
    noE (h₂ F.A z₂ s₂ xa xb F.hh F.room0 (R.ext (e₁.trans e₂)).zBsub e₂.sub (ra.mono e₂.zz) rb) fun _ _ ⟨z₃, v, e₃, rz, q⟩ => IsB.truthy (e₁.trans (e₂.trans e₃)) rz q) hm

/-- a test that is a plain value -/
theorem WT_val {e : Expr} (h : WE G r sc l e fun x => Tru G x P) (he : ∀ env whole, isTrue e env whole = (do let v ← whole; standAt e.pos; holding [v] (truthy v)) := by intro _ _; rfl) : WT G r sc l e P := fun F z s R =>
  wpAny_isTrue_value (noE (h F z s R) fun xa s₁ ⟨z₁, va, e₁, ra, h₁⟩ =>
    noE (h₁ F.A z₁ s₁ xa F.hh F.room0 (R.ext e₁).zBsub e₁.sub ra) fun _ _ ⟨z₂, e₂, q⟩ => ⟨z₂, e₁.trans e₂, q⟩) (he _ _)
theorem WT_not {e : Expr} {p : Pos} (h : WT G r sc l e fun b => P (!b)) : WT G r sc l (.UnaryOp .Not e p) P := fun F z s R => wpAny_isTrue_Not (h F z s R)

theorem WT_or2 {a b : Expr} {p : Pos} (h : WT G r sc l a fun x => (x = true → P true) ∧ (x = false → WT G r sc l b P)) : WT G r sc l (.BoolOp .Or [a, b] p) P := fun F z s R =>
  wpAny_isTrue_BoolOp (wpAny_allTrue_Or_cons (noE (h F z s R) fun x s₁ ⟨z₁, e₁, h₁⟩ => by
    cases x with
    | true => exact ⟨z₁, e₁, h₁.1 rfl⟩
    | false =>
      simp only [Bool.false_eq_true, if_false]
      refine wpAny_allTrue_Or_cons (noE (h₁.2 rfl F z₁ s₁ (R.ext e₁)) fun y s₂ ⟨z₂, e₂, h₂⟩ => ?_)
      cases y with
      | true => exact ⟨z₂, e₁.trans e₂, h₂⟩
      | false => exact wpAny_pure ⟨z₂, e₁.trans e₂, h₂⟩))
theorem WT_and2 {a b : Expr} {p : Pos} (h : WT G r sc l a fun x => (x = false → P false) ∧ (x = true → WT G r sc l b P)) : WT G r sc l (.BoolOp .And [a, b] p) P := fun F z s R =>
  wpAny_isTrue_BoolOp (wpAny_allTrue_And_cons (noE (h F z s R) fun x s₁ ⟨z₁, e₁, h₁⟩ => by
    cases x with
    | false => exact ⟨z₁, e₁, h₁.1 rfl⟩
    | true =>
      simp only [if_true]
      refine wpAny_allTrue_And_cons (noE (h₁.2 rfl F z₁ s₁ (R.ext e₁)) fun y s₂ ⟨z₂, e₂, h₂⟩ => ?_)
      cases y with
      | false => exact ⟨z₂, e₁.trans e₂, h₂⟩
      | true => exact wpAny_pure ⟨z₂, e₁.trans e₂, h₂⟩))

theorem WE_ite {t a b : Expr} {p : Pos} (h : WT G r sc l t fun c => (c = true → WE G r sc l a Q) ∧ (c = false → WE G r sc l b Q)) : WE G r sc l (.IfExp t a b p) Q := fun F z s R =>
  wpAny_IfExp (noE (h F z s R) fun c s₁ ⟨z₁, e₁, h₁⟩ => by
    cases c with
    | true => exact noE (h₁.1 rfl F z₁ s₁ (R.ext e₁)) fun _ _ q => ret_trans e₁ q
    | false => exact noE (h₁.2 rfl F z₁ s₁ (R.ext e₁)) fun _ _ q => ret_trans e₁ q)
end
end Mine

end
section
open PySem PySem.W PySem.Calls PyProof.Rows
set_option linter.unusedVariables false
set_option maxRecDepth 100000
namespace Mine
section
variable {prog : Program} {w : World} {K : Frag} {G : Gl prog w K} {Q : V → Prop} {P : Bool → Prop} {a b : Int} {x y : Str} {c d : Bool}

theorem A_add (h : Q (.int (a + b))) : Act2 G (binaryOp .Add) (.int a) (.int b) Q := fun A z s xa xb hh hr zB hs ⟨t, ra⟩ ⟨u, rb⟩ => by
  subst ra rb; exact noE (PyProof.Rows.add_int (ret_of h (Ext.toks hs _) ⟨_, rfl⟩)) fun _ _ q => q
theorem A_sub (h : Q (.int (a - b))) : Act2 G (binaryOp .Sub) (.int a) (.int b) Q := fun A z s xa xb hh hr zB hs ⟨t, ra⟩ ⟨u, rb⟩ => by
  subst ra rb; exact noE (PyProof.Rows.sub_int (ret_of h (Ext.toks hs _) ⟨_, rfl⟩)) fun _ _ q => q
theorem A_mul (h : Q (.int (a * b))) (hm : IntMulOk a b) : Act2 G (binaryOp .Mult) (.int a) (.int b) Q := fun A z s xa xb hh hr zB hs ⟨t, ra⟩ ⟨u, rb⟩ => by
  subst ra rb; exact noE (PySem.P.mul_int (ret_of h (Ext.toks hs _) ⟨_, rfl⟩) hm) fun _ _ q => q
theorem A_and (h : Q (.int (Builtin.bitAnd a b))) : Act2 G (binaryOp .BitAnd) (.int a) (.int b) Q := fun A z s xa xb hh hr zB hs ⟨t, ra⟩ ⟨u, rb⟩ => by
  subst ra rb; exact noE (PyProof.Rows.and_int (ret_of h (Ext.toks hs _) ⟨_, rfl⟩)) fun _ _ q => q
theorem A_xor (h : Q (.int (Builtin.bitXor a b))) : Act2 G (binaryOp .BitXor) (.int a) (.int b) Q := fun A z s xa xb hh hr zB hs ⟨t, ra⟩ ⟨u, rb⟩ => by
  subst ra rb; exact noE (PyProof.Rows.xor_int (ret_of h (Ext.toks hs _) ⟨_, rfl⟩)) fun _ _ q => q
theorem A_mod (hb : b ≠ 0) (h : Q (.int (a.fmod b))) : Act2 G (binaryOp .Mod) (.int a) (.int b) Q := fun A z s xa xb hh hr zB hs ⟨t, ra⟩ ⟨u, rb⟩ => by
  subst ra rb; exact noE (PyProof.Rows.mod_int hb (ret_of h (Ext.toks hs _) ⟨_, rfl⟩)) fun _ _ q => q
theorem A_fdiv (hb : b ≠ 0) (hp : Builtin.divisionGoesByPylong a b = false) (h : Q (.int (a.fdiv b))) : Act2 G (binaryOp .FloorDiv) (.int a) (.int b) Q := fun A z s xa xb hh hr zB hs ⟨t, ra⟩ ⟨u, rb⟩ => by
  subst ra rb; exact noE (PyProof.Rows.floordiv_int hb (ret_of h (Ext.toks hs _) ⟨_, rfl⟩) (.inl hp)) fun _ _ q => q
theorem A_pow (hn : 0 ≤ b) (hsz : (Builtin.Int.intBits a : Int) * b ≤ 2 ^ 27) (h : Q (.int (a ^ b.toNat))) : Act2 G (binaryOp .Pow) (.int a) (.int b) Q := fun A z s xa xb hh hr zB hs ⟨t, ra⟩ ⟨u, rb⟩ => by
  subst ra rb; exact noE (PyProof.Rows.pow_int hn hsz (ret_of h (Ext.toks hs _) ⟨_, rfl⟩)) fun _ _ q => q
theorem A_shr (hn : 0 ≤ b) (h : Q (.int (a.fdiv (2 ^ b.toNat)))) : Act2 G (binaryOp .RShift) (.int a) (.int b) Q := fun A z s xa xb hh hr zB hs ⟨t, ra⟩ ⟨u, rb⟩ => by
  subst ra rb; exact noE (PyProof.Rows.rshift_int hn (ret_of h (Ext.toks hs _) ⟨_, rfl⟩)) fun _ _ q => q
theorem A_shl (hn : 0 ≤ b) (hn2 : b ≤ 1000000) (ha : a.natAbs < 2 ^ 64) (h : Q (.int (a * 2 ^ b.toNat))) : Act2 G (binaryOp .LShift) (.int a) (.int b) Q := fun A z s xa xb hh hr zB hs ⟨t, ra⟩ ⟨u, rb⟩ => by
  subst ra rb; exact noE (PyProof.Rows.lshift_int_small hn hn2 ha (ret_of h (Ext.toks hs _) ⟨_, rfl⟩)) fun _ _ q => q
theorem A_cat (hsz : (x ++ y).length ≤ sizeLine) (h : Q (.str (x ++ y))) : Act2 G (binaryOp .Add) (.str x) (.str y) Q := fun A z s xa xb hh hr zB hs ⟨t, ra⟩ ⟨u, rb⟩ => by
  subst ra rb
  refine noE (PySem.P.add_str ?_) fun _ _ q => q
  by_cases hx : (x.length == 0) = true
  · rw [if_pos hx]
    have : x ++ y = y := by
      have : x = Str.empty := Str.ext' (by simpa [Str.length, Str.empty] using hx)
      rw [this]; exact Str.empty_append y
    rw [this] at h
    exact ret_of h (Ext.refl hs) ⟨_, rfl⟩
  · rw [if_neg hx]
    by_cases hy : (y.length == 0) = true
    · rw [if_pos hy]
      have : x ++ y = x := by
        have : y = Str.empty := Str.ext' (by simpa [Str.length, Str.empty] using hy)
        rw [this]; exact Str.append_empty x
      rw [this] at h
      exact ret_of h (Ext.refl hs) ⟨_, rfl⟩
    · rw [if_neg hy]
      exact ⟨hsz, ret_of h (Ext.toks hs _) ⟨_, rfl⟩⟩

theorem C_eqI (h : Q (.bool (a == b))) : Act2 G (compareOp .Eq) (.int a) (.int b) Q := fun A z s xa xb hh hr zB hs ⟨t, ra⟩ ⟨u, rb⟩ => by
  subst ra rb; exact noE (PySem.P.eq_int (ret_of h (Ext.refl hs) rfl)) fun _ _ q => q
theorem C_neI (h : Q (.bool (a != b))) : Act2 G (compareOp .NotEq) (.int a) (.int b) Q := fun A z s xa xb hh hr zB hs ⟨t, ra⟩ ⟨u, rb⟩ => by
  subst ra rb; exact noE (PySem.P.ne_int (ret_of h (Ext.refl hs) rfl)) fun _ _ q => q
theorem C_ltI (h : Q (.bool (decide (a < b)))) : Act2 G (compareOp .Lt) (.int a) (.int b) Q := fun A z s xa xb hh hr zB hs ⟨t, ra⟩ ⟨u, rb⟩ => by
  subst ra rb; exact noE (PySem.P.lt_int (ret_of h (Ext.refl hs) rfl)) fun _ _ q => q
theorem C_leI (h : Q (.bool (decide (a ≤ b)))) : Act2 G (compareOp .LtE) (.int a) (.int b) Q := fun A z s xa xb hh hr zB hs ⟨t, ra⟩ ⟨u, rb⟩ => by
  subst ra rb; exact noE (PySem.P.le_int (ret_of h (Ext.refl hs) rfl)) fun _ _ q => q
theorem C_gtI (h : Q (.bool (decide (a > b)))) : Act2 G (compareOp .Gt) (.int a) (.int b) Q := fun A z s xa xb hh hr zB hs ⟨t, ra⟩ ⟨u, rb⟩ => by
  subst ra rb; exact noE (PySem.P.gt_int (ret_of h (Ext.refl hs) rfl)) fun _ _ q => q
theorem str_beq (x y : Str) : (x.cps.toList == y.cps.toList) = (x == y) := by
  rw [Bool.eq_iff_iff, beq_iff_eq, beq_iff_eq]
  exact ⟨fun h => Str.ext' (Array.ext' h), fun h => by rw [h]⟩
theorem C_eqS (h : Q (.bool (x == y))) : Act2 G (compareOp .Eq) (.str x) (.str y) Q := fun A z s xa xb hh hr zB hs ⟨t, ra⟩ ⟨u, rb⟩ => by
  subst ra rb
  rw [← str_beq] at h
  exact noE (PySem.P.eq_str (ret_of h (Ext.refl hs) rfl)) fun _ _ q => q
theorem C_neS (h : Q (.bool (x != y))) : Act2 G (compareOp .NotEq) (.str x) (.str y) Q := fun A z s xa xb hh hr zB hs ⟨t, ra⟩ ⟨u, rb⟩ => by
  subst ra rb
  have e : (x.cps.toList != y.cps.toList) = (x != y) := by rw [bne, bne, str_beq]
  rw [← e] at h
  exact noE (PySem.P.ne_str (ret_of h (Ext.refl hs) rfl)) fun _ _ q => q
theorem C_neB (h : Q (.bool (c != d))) : Act2 G (compareOp .NotEq) (.bool c) (.bool d) Q := fun A z s xa xb hh hr zB hs ra rb => by
  subst ra rb; exact noE (PyProof.Rows.ne_bool (ret_of h (Ext.refl hs) rfl)) fun _ _ q => q

theorem T_bool (h : P c) : Tru G (.bool c) P := fun A z s xa hh hr zB hs ra => by subst ra; exact wpAny_truthy_bool ⟨z, Ext.refl hs, h⟩
theorem T_int (h : P (a != 0)) : Tru G (.int a) P := fun A z s xa hh hr zB hs ⟨t, ra⟩ => by subst ra; exact PySem.P.truthy_int ⟨z, Ext.refl hs, h⟩
theorem T_lst {vs : List V} (hsz : vs.length ≤ sizeLine) (h : P (!vs.isEmpty)) : Tru G (.lst vs) P := fun A z s xa hh hr zB hs ra => by
  obtain ⟨a, xs, rfl, ⟨o, n, e, e1, e2, e3⟩, rl⟩ := ra
  have hl : s.heap.IsList a xs.toArray := ⟨o, hs _ _ e, e1, n, e3⟩
  have hlen := rl.length
  refine wpAny_truthy_list hl (by rw [List.size_toArray, hlen]; rw [sizeLine_eq] at hsz; omega) ?_
  have e : xs.toArray.isEmpty = vs.isEmpty := by
    cases vs <;> cases xs <;> first | rfl | (simp at hlen)
  rw [e]
  exact ⟨z, Ext.toks hs _, h⟩
end
end Mine

end
section
open PySem PySem.W PySem.Calls PyProof.Rows
set_option linter.unusedVariables false
set_option maxRecDepth 100000
namespace Mine
theorem lookup_mem {α : Type} {x : Str} {u : α} : ∀ {l : List (Str × α)}, l.lookup x = some u → (x, u) ∈ l
  | (y, v) :: l, h => by
    rw [List.lookup_cons] at h
    cases q : x == y with
    | true => rw [q] at h; cases h; rw [eq_of_beq q]; exact .head _
    | false => rw [q] at h; exact .tail _ (lookup_mem h)
theorem mem_lookup {α : Type} {x : Str} {u : α} : ∀ {l : List (Str × α)}, (l.map (·.1)).Nodup → (x, u) ∈ l → l.lookup x = some u
  | (y, v) :: l, nd, h => by
    rw [List.lookup_cons]
    rw [List.map_cons, List.nodup_cons] at nd
    rcases List.mem_cons.mp h with h | h
    · cases h; simp
    · have : (x == y) = false := by
        cases q : x == y with
        | false => rfl
        | true => exact absurd (List.mem_map_of_mem (f := Prod.fst) h) (eq_of_beq q ▸ nd.1)
      rw [this]; exact mem_lookup nd.2 h
theorem put_lookup {l : Locs} (nd : (l.map (·.1)).Nodup) {x y : Str} {lv u : LV} (h : (put l x lv).lookup y = some u) : (y = x ∧ u = lv) ∨ (y ≠ x ∧ l.lookup y = some u ∧ u.isApp x = false) := by
  unfold put at h
  rw [List.lookup_cons] at h
  cases q : y == x with
  | true => rw [q] at h; cases h; exact .inl ⟨eq_of_beq q, rfl⟩
  | false =>
    rw [q] at h
    have m := List.mem_filter.mp (lookup_mem h)
    refine .inr ⟨fun e => by simp [e] at q, mem_lookup nd m.1, ?_⟩
    have := m.2
    simp at this
    exact this.2
theorem put_nodup {l : Locs} (nd : (l.map (·.1)).Nodup) {x : Str} {lv : LV} : ((put l x lv).map (·.1)).Nodup := by
  unfold put
  rw [List.map_cons, List.nodup_cons]
  refine ⟨fun h => ?_, (List.filter_sublist.map _).nodup nd⟩
  obtain ⟨p, hp, e⟩ := List.mem_map.mp h
  have := (List.mem_filter.mp hp).2
  simp [e] at this

section
variable {prog : Program} {w : World} {K : Frag} {G : Gl prog w K} {r : Nat} {sc : Scope} {F : Frm G r sc} {l : Locs} {k : Kt} {Q : V → Prop}

theorem isApp_self {x : Str} : (LV.app x).isApp x = true := by simp [LV.isApp]

/-- the frame's names behind a store -/
theorem Frm.LocOk.put {z : Zp} {h h' : Heap} {m m' : Str → Option Value} {am am' : Str → Addr} {x : Str} {lv : LV} (L : F.LocOk l z h m am)
    (ns : h'.Ns F.L m') (nm : ∀ y val, y ≠ x → F.Nm m h y val → F.Nm m' h' y val)
    (cells : ∀ y c v, sc.names.lookup y = some .cell → F.cells.lookup y = some c → h.IsCell c v → ∃ v', h'.IsCell c v')
    (lists : ∀ y u, y ≠ x → l.lookup y = some u → u.mine = true → h'.get? (am y) = h.get? (am y))
    (hm : ∀ y, y ≠ x → am' y = am y) (hn : F.VOk z h' m' am' x lv) (hd : lv.mine = true → ∀ y u, y ≠ x → l.lookup y = some u → u.mine = true → am y ≠ am' x)
    (ha : ∀ y, lv = .app y → y ≠ x) : F.LocOk (put l x lv) z h' m' am' := by
  refine ⟨put_nodup L.nd, ns, L.fr, fun y hy => ?_, L.cd, L.fe, fun y u hy => ?_, fun y y' u u' hy hy' hu hu' e => ?_⟩
  · obtain ⟨c, v, e, q, f, n⟩ := L.ce y hy
    obtain ⟨v', q'⟩ := cells y c v hy e q
    exact ⟨c, v', e, q', f, n⟩
  · rcases put_lookup L.nd hy with ⟨rfl, rfl⟩ | ⟨ne, hl, na⟩
    · exact hn
    · have q := L.ok y u hl
      cases hu : u.mine with
      | true =>
        obtain ⟨mi, c, t⟩ := q.of hu
        refine .to hu ⟨by rw [hm y ne]; exact mi, ?_, t.keep (fun val n => nm y val ne n) (hm y ne)⟩
        rw [hm y ne]
        exact c.mono (fun _ _ e => e) fun o e _ => (lists y u ne hl hu).trans e
      | false =>
        cases u with
        | v v => obtain ⟨val, n, rz⟩ := q; exact ⟨val, nm y val ne n, rz⟩
        | app y' =>
          obtain ⟨q, o, n, zq, ap⟩ := q
          have : y' ≠ x := fun e => by rw [e, isApp_self] at na; cases na
          exact ⟨q, o, nm y _ ne n, zq, by rw [hm y' this]; exact ap⟩
        | ca y' c => exact q
        | _ => cases hu
  · rcases put_lookup L.nd hy with ⟨rfl, e1⟩ | ⟨ne, hl, _⟩
    · rcases put_lookup L.nd hy' with ⟨rfl, _⟩ | ⟨ne', hl', _⟩
      · rfl
      · rw [hm y' ne'] at e
        exact absurd e.symm (hd (e1 ▸ hu) y' u' ne' hl' hu')
    · rcases put_lookup L.nd hy' with ⟨rfl, e1⟩ | ⟨ne', hl', _⟩
      · rw [hm y ne] at e
        exact absurd e (hd (e1 ▸ hu') y u ne hl hu)
      · rw [hm y ne, hm y' ne'] at e
        exact L.ds y y' u u' hl hl' hu hu' e

/-- a name is stored: a value that the frozen part bears -/
theorem RepE.store {z : Zp} {s : Shared} {x : Str} {val : Value} {lv : LV} {m : Str → Option Value} {am am' : Str → Addr} {P : Unit → Shared → Prop} (R : RepE F z s) (L : F.LocOk l z s.heap m am) (hx : sc.names.lookup x = some .local ∨ sc.names.lookup x = some .cell)
    (hm : ∀ y, y ≠ x → am' y = am y) (hd : lv.mine = true → ∀ y u, y ≠ x → l.lookup y = some u → u.mine = true → am y ≠ am' x) (ha : ∀ y, lv = .app y → y ≠ x)
    (hn : ∀ h' m', F.Nm m' h' x val → (∀ b o, b ≠ F.L → (∀ c, sc.names.lookup x = some .cell → F.cells.lookup x = some c → b ≠ c) → s.heap.get? b = some o → h'.get? b = some o) → F.VOk z h' m' am' x lv)
    (h : ∀ s', Rep F (put l x lv) z s' → P () s') : wpAny (model prog w) F.A (storeName F.env x val) P (fun _ _ => False) s := by
  rcases hx with hx | hx
  · refine wpAny_storeName_local ((F.kindOf x).trans hx) L.ns (fun h' ns sb => h _ ?_) F.notClass
    have kp : ∀ b o, b ≠ F.L → s.heap.get? b = some o → h'.get? b = some o := fun b o nb e => (sb.2 b nb).trans e
    refine ⟨fun b o e => kp b o (fun q => by rw [q, L.fr.1] at e; cases e) (R.sub b o e), R.zz, fun b o e => kp b o (fun q => by rw [q, (F.Bs_none L.fr.2).1] at e; cases e) (R.base b o e), R.new, R.gens.same (ns_noFields L.ns) sb L.fr.2, R.dr, R.os, fun y => if y = x then some val else m y, am', ?_⟩
    refine L.put ns (fun y vy ne n => ?_) (fun y c v hy e q => ⟨v, ?_⟩) (fun y u ne e hu => sb.2 _ ((L.ok y _ e).of hu).1.nl) hm (hn h' _ (.inl ⟨hx, by simp⟩) fun b o nb _ e => kp b o nb e) hd ha
    · rcases n with ⟨n, e⟩ | ⟨n, c, e, q⟩
      · exact .inl ⟨n, by simp [ne, e]⟩
      · refine .inr ⟨n, c, e, q.sameBut sb ?_⟩
        rcases n with n | n
        · obtain ⟨c', _, e', _, _, n'⟩ := L.ce y n
          rw [e] at e'; cases e'; exact n'
        · obtain ⟨o, ho⟩ := L.fe y c n e
          intro q; rw [q, L.fr.2] at ho; cases ho
    · obtain ⟨c', _, e', _, _, n'⟩ := L.ce y hy
      rw [e] at e'; cases e'
      exact q.sameBut sb n'
  · obtain ⟨c, v, ec, qc, fc, nc⟩ := L.ce x hx
    refine wpAny_storeName_cell F.kind ((F.kindOf x).trans hx) ec qc fun h' ic sb => h _ ?_
    have kp : ∀ b o, b ≠ c → s.heap.get? b = some o → h'.get? b = some o := fun b o nb e => (sb.2 b nb).trans e
    refine ⟨fun b o e => kp b o (fun q => by rw [q, fc.1] at e; cases e) (R.sub b o e), R.zz, fun b o e => kp b o (fun q => by rw [q, (F.Bs_none fc.2).1] at e; cases e) (R.base b o e), R.new, R.gens.same (cell_noFields qc) sb fc.2, R.dr, R.os, m, am', ?_⟩
    refine L.put (L.ns.sameBut sb (Ne.symm nc)) (fun y vy ne n => ?_) (fun y c' v hy e q => ?_) (fun y u ne e hu => sb.2 _ (Ne.symm (((L.ok y _ e).of hu).1.nc x c hx ec))) hm (hn h' _ (.inr ⟨.inl hx, c, ec, ic⟩) fun b o nb nb' e => kp b o (nb' c hx ec) e) hd ha
    · rcases n with n | ⟨n, c', e, q⟩
      · exact .inl n
      · refine .inr ⟨n, c', e, q.sameBut sb ?_⟩
        rcases n with n | n
        · intro q; subst q; exact ne (L.cd y x c' n hx e ec)
        · obtain ⟨o, ho⟩ := L.fe y c' n e
          intro q; rw [q, fc.2] at ho; cases ho
    · by_cases hc : c' = c
      · subst hc; exact ⟨_, ic⟩
      · exact ⟨v, q.sameBut sb hc⟩

theorem Rep.storeV {z : Zp} {s : Shared} {x : Str} {val : Value} {v : V} {P : Unit → Shared → Prop} (R : Rep F l z s) (hx : sc.names.lookup x = some .local ∨ sc.names.lookup x = some .cell) (rz : Rz G.C z v val)
    (h : ∀ s', Rep F (Mine.put l x (.v v)) z s' → P () s') : wpAny (model prog w) F.A (storeName F.env x val) P (fun _ _ => False) s := by
  obtain ⟨m, am, L⟩ := R.loc
  exact R.end.store (lv := .v v) L hx (fun _ _ => rfl) (fun e => (by cases e)) (fun _ e => (by cases e)) (fun h' m' n _ => ⟨val, n, rz⟩) h

theorem Rep.size_fresh {z : Zp} {s : Shared} (R : Rep F l z s) : F.Mine z s.heap.objs.size := by
  have hn := get_fresh s.heap
  obtain ⟨m, am, L⟩ := R.loc
  refine ⟨⟨R.sub.fresh, ?_⟩, ?_, ?_⟩
  · cases q : F.Bs s.heap.objs.size with
    | none => rfl
    | some o =>
      obtain ⟨o', ho'⟩ := R.end.there q
      rw [ho'] at hn; cases hn
  · obtain ⟨o, _, _, ho, _⟩ := L.ns
    intro e; rw [← e, hn] at ho; cases ho
  · intro y c hy e
    obtain ⟨c', v, e', ⟨o, ho, _⟩, _⟩ := L.ce y hy
    rw [e] at e'; cases e'
    intro q; rw [q, hn] at ho; cases ho

/-- a new list of the frame's own -/
theorem Rep.storeOwn {z z' : Zp} {s s' : Shared} {x : Str} {vals : List Value} {xs : List V} {P : Unit → Shared → Prop} (R : Rep F l z s) (ex : Ext z s z' s') (hx : sc.names.lookup x = some .local ∨ sc.names.lookup x = some .cell)
    (hz : z' s.heap.objs.size = none) (hs : s'.heap.PlainList s.heap.objs.size vals.toArray) (rz : RzL G.C z' xs vals)
    (h : ∀ s', Rep F (Mine.put l x (.own xs)) z' s' → P () s') : wpAny (model prog w) F.A (storeName F.env x (.ref s.heap.objs.size)) P (fun _ _ => False) s' := by
  have hn := get_fresh s.heap
  obtain ⟨f, n1, n2⟩ := R.size_fresh
  obtain ⟨m, am, L⟩ := R.loc
  refine (R.end.ext ex).store (lv := .own xs) (am' := fun y => if y = x then s.heap.objs.size else am y) (L.ext ex) hx (fun y n => by simp [n]) (fun e y u n hl hu => ?_) (fun _ e => (by cases e)) (fun h' m' n kp => ?_) h
  · simp only [if_true]
    obtain ⟨o, ho⟩ := ((L.ok y _ hl).of hu).2.1.alive hu
    intro q; rw [q, hn] at ho; cases ho
  · have e : (fun y => if y = x then s.heap.objs.size else am y) x = s.heap.objs.size := if_pos rfl
    refine ⟨by rw [e]; exact ⟨⟨hz, f.2⟩, n1, n2⟩, ⟨vals, ?_, rz⟩, ?_⟩
    · rw [e]
      exact hs.at fun o e => kp _ o n1 (fun c h1 h2 => (n2 x c h1 h2).symm) e
    · show F.Nm _ _ _ (.ref _)
      rw [e]; exact n

/-- the frozen view: own lists as values -/
noncomputable def LV.frz : LV → LV
  | .own xs => .v (.lst xs)
  | u => u
noncomputable def frz (S : Str → Bool) (l : Locs) : Locs := l.map fun p => (p.1, if S p.1 then p.2.frz else p.2)
theorem frz_lookup {S : Str → Bool} {x : Str} : ∀ {l : Locs}, (frz S l).lookup x = (l.lookup x).map fun u => if S x then u.frz else u
  | [] => rfl
  | (y, v) :: l => by
    show List.lookup x ((y, _) :: frz S l) = _
    rw [List.lookup_cons, List.lookup_cons]
    cases q : x == y with
    | true => rw [eq_of_beq q]; rfl
    | false => exact frz_lookup

open Classical in
theorem Rep.freezeX {z : Zp} {s : Shared} (S : Str → Bool) (R : Rep F l z s) : ∃ z', (∀ b o, z b = some o → z' b = some o) ∧ Rep F (frz S l) z' s ∧ ∀ b o, z' b = some o → z b = some o ∨ ∀ vs, o.data ≠ .fields vs := by
  obtain ⟨m, am, L⟩ := R.loc
  let own (b : Addr) : Prop := ∃ x xs, S x = true ∧ l.lookup x = some (.own xs) ∧ am x = b
  let z' : Zp := fun b => if own b then s.heap.get? b else z b
  have nown : ∀ {b o}, z b = some o → ¬ own b := by
    rintro b o e ⟨x, xs, _, hl, rfl⟩
    rw [((L.ok x _ hl).of rfl).1.fr.1] at e; cases e
  have zz : ∀ b o, z b = some o → z' b = some o := fun b o e => by show (if own b then _ else _) = _; rw [if_neg (nown e)]; exact e
  have fr : ∀ {a}, F.Fresh z a → ¬ own a → F.Fresh z' a := fun f n => ⟨by show (if own _ then _ else _) = _; rw [if_neg n]; exact f.1, f.2⟩
  have un : ∀ {x u}, (frz S l).lookup x = some u → u.mine = true → l.lookup x = some u ∧ ¬ own (am x) := by
    intro x u h hu
    rw [frz_lookup] at h
    cases hl : l.lookup x with
    | none => rw [hl] at h; cases h
    | some u0 =>
      rw [hl] at h
      have h : (if S x = true then u0.frz else u0) = u := Option.some.inj h
      have k : u0 = u ∧ (S x = true → ∀ xs, u0 ≠ .own xs) := by
        cases hS : S x with
        | false => rw [hS] at h; exact ⟨h, fun e => by cases e⟩
        | true =>
          rw [hS] at h
          cases u0 with
          | own ys => have h : LV.v (.lst ys) = u := h; subst h; cases hu
          | v a => exact ⟨h, fun _ xs e => by cases e⟩
          | app a => exact ⟨h, fun _ xs e => by cases e⟩
          | ca a b => exact ⟨h, fun _ xs e => by cases e⟩
          | gl a b => exact ⟨h, fun _ xs e => by cases e⟩
          | gd a b c => exact ⟨h, fun _ xs e => by cases e⟩
      refine ⟨by rw [k.1], ?_⟩
      rintro ⟨y, ys, hS, hy, e⟩
      have hxy := L.ds y x _ _ hy hl rfl (k.1 ▸ hu) e
      subst hxy
      rw [hl] at hy
      exact k.2 hS ys (Option.some.inj hy)
  refine ⟨z', zz, ⟨fun b o e => ?_, fun b o e => zz b o (R.zz b o e), R.base, fun b o e n => ?_, ?_, R.dr, R.os, m, am, ?_⟩, fun b o e => ?_⟩
  rotate_right
  · by_cases q : own b
    · obtain ⟨x, xs, hS, hl, rfl⟩ := id q
      have : z' (am x) = s.heap.get? (am x) := if_pos q
      obtain ⟨vals, ⟨n, p⟩, _⟩ := ((L.ok x _ hl).of rfl).2.1
      rw [this, p] at e
      cases e
      exact .inr fun vs q => by cases q
    · have : z' b = z b := if_neg q
      exact .inl (this ▸ e)
  · by_cases q : own b
    · have : z' b = s.heap.get? b := if_pos q
      rw [← this]; exact e
    · have : z' b = z b := if_neg q
      rw [this] at e; exact R.sub b o e
  · by_cases q : own b
    · obtain ⟨x, xs, _, hl, rfl⟩ := q
      exact ((L.ok x _ hl).of rfl).1.fr.2
    · have : z' b = z b := if_neg q
      rw [this] at e; exact R.new b o e n
  · refine ⟨R.gens.was, R.gens.g0, R.gens.gq, R.gens.gr, fun h => (R.gens.tabs h).zmove zz fun c hc hz => ?_, R.gens.t0⟩
    have no : ¬ own c.2 := fun ⟨x, xs, _, hl, e⟩ => ((R.gens.tabs h).ne (((L.ok x _ hl).of rfl).2.1.noFields rfl) hc).2 e.symm
    exact (if_neg no : z' c.2 = z c.2).trans hz
  · refine ⟨?_, L.ns, fr L.fr fun ⟨x, xs, _, hl, e⟩ => ((L.ok x _ hl).of rfl).1.nl e, fun y hy => ?_, L.cd, L.fe, fun x u hu => ?_, fun x y u u' hx hy hu hu' e => L.ds x y u u' (un hx hu).1 (un hy hu').1 hu hu' e⟩
    · have : (frz S l).map (·.1) = l.map (·.1) := by unfold frz; rw [List.map_map]; rfl
      rw [this]; exact L.nd
    · obtain ⟨c, v, e, q, f, n⟩ := L.ce y hy
      exact ⟨c, v, e, q, fr f fun ⟨x, xs, _, hl, e'⟩ => ((L.ok x _ hl).of rfl).1.nc y c hy e e'.symm, n⟩
    · cases hm : u.mine with
      | true =>
        obtain ⟨hl, no⟩ := un hu hm
        obtain ⟨mi, c, t⟩ := (L.ok x u hl).of hm
        exact .to hm ⟨⟨fr mi.fr no, mi.nl, mi.nc⟩, c.mono zz fun _ e _ => e, t⟩
      | false =>
        rw [frz_lookup] at hu
        cases hl : l.lookup x with
        | none => rw [hl] at hu; cases hu
        | some u0 =>
          rw [hl] at hu
          have hu : (if S x = true then u0.frz else u0) = u := Option.some.inj hu
          have q := L.ok x u0 hl
          cases u0 with
          | v v =>
            have : u = .v v := by rw [← hu]; cases S x <;> rfl
            subst this
            obtain ⟨val, n, rz⟩ := q
            exact ⟨val, n, rz.mono zz⟩
          | app y =>
            have : u = .app y := by rw [← hu]; cases S x <;> rfl
            subst this
            obtain ⟨a, o, n, za, ap⟩ := q
            exact ⟨a, o, n, zz _ _ za, ap⟩
          | ca y c =>
            have : u = .ca y c := by rw [← hu]; cases S x <;> rfl
            subst this
            exact q
          | gl a b => have : u = .gl a b := by rw [← hu]; cases S x <;> rfl
                      subst this; cases hm
          | gd a b c => have : u = .gd a b c := by rw [← hu]; cases S x <;> rfl
                        subst this; cases hm
          | own xs =>
            obtain ⟨mi, ⟨vals, sq, rz⟩, n⟩ := q
            cases hS : S x with
            | true =>
              rw [hS] at hu
              have : u = .v (.lst xs) := hu.symm
              subst this
              refine ⟨_, n, am x, vals, rfl, ?_, RzL.mono zz rz⟩
              have : z' (am x) = s.heap.get? (am x) := if_pos ⟨x, xs, hS, hl, rfl⟩
              rw [this]; exact SeqIs.plain sq
            | false =>
              rw [hS] at hu
              have : u = .own xs := hu.symm
              subst this; cases hm

noncomputable def V.imm : V → Bool
  | .nil | .bool _ | .int _ | .str _ | .raw _ => true
  | _ => false
theorem Rz.imm {C : Addr} {z z' : Zp} {v : V} {x : Value} (h : Rz C z v x) (i : v.imm = true) : Rz C z' v x := by
  cases v <;> first | exact h | cases i

theorem Rep.freeze {z : Zp} {s : Shared} (S : Str → Bool) (R : Rep F l z s) : ∃ z', (∀ b o, z b = some o → z' b = some o) ∧ Rep F (frz S l) z' s := let ⟨z', zz, R', _⟩ := R.freezeX S; ⟨z', zz, R'⟩
open Classical in
theorem Ext.unfreeze {z z' z'' : Zp} {s s' : Shared} (e : Ext z' s z'' s') (zz : ∀ b o, z b = some o → z' b = some o) (sb : Sub z' s.heap) (hd : ∀ b o, z' b = some o → z b = some o ∨ ∀ vs, o.data ≠ .fields vs) :
    ∃ z₃, Ext z s z₃ s' := by
  let z₃ : Zp := fun b => if z b = none ∧ (∃ o, z' b = some o) then none else z'' b
  have up : ∀ b o, z₃ b = some o → z'' b = some o := fun b o h => by
    dsimp only [z₃] at h; split at h
    · cases h
    · exact h
  refine ⟨z₃, fun b o h => ?_, fun b o h => e.sub b o (up b o h), e.was, fun b o h n => ?_, ⟨e.gens.g0, fun h => e.gens.q (h.mono zz)⟩, fun t => ?_, e.dr, e.os⟩
  · dsimp only [z₃]
    rw [if_neg (fun c => by rw [c.1] at h; cases h)]
    exact e.zz b o (zz b o h)
  · refine e.new b o (up b o h) ?_
    cases q : z' b with
    | none => rfl
    | some o' =>
      dsimp only [z₃] at h
      rw [if_pos ⟨n, o', q⟩] at h; cases h
  · have t' : Tabs z' s.heap := t.zmove zz fun c hc hz => by
      cases q : z' c.2 with
      | none => rfl
      | some o =>
        obtain ⟨_, ps, _, y, _⟩ := t c hc
        have h1 := sb _ _ q
        rw [y.2] at h1; cases h1
        rcases hd _ _ q with h | h
        · rw [hz] at h; cases h
        · exact absurd rfl (h ps)
    intro c hc
    obtain ⟨hz, ps, x, y, r⟩ := e.tabs t' c hc
    refine ⟨?_, ps, x, y, fun q hq pos cv hv => ?_⟩
    · dsimp only [z₃]; rw [hz]; split <;> rfl
    · obtain ⟨c', oc, vs, tk, e1, e2, e3, e4⟩ := r q hq pos cv hv
      refine ⟨c', oc, vs, tk, e1, ?_, e3, e4⟩
      dsimp only [z₃]
      rw [if_neg]
      · exact e2
      · rintro ⟨n, o, ho⟩
        have := e.zz _ _ ho
        rw [e2] at this; cases this
        rcases hd _ _ ho with h | h
        · rw [n] at h; cases h
        · exact h vs e3
/-- a look at own lists: the answer is a plain value -/
theorem WE_peek {e : Expr} (h : WE G r sc (frz (fun _ => true) l) e fun v => v.imm = true ∧ Q v) : WE G r sc l e Q := fun F z s R => by
  obtain ⟨z', zz, R', hd⟩ := R.freezeX fun _ => true
  exact noE (h F z' s R') fun x s' ⟨z'', v, e, rz, i, q⟩ => let ⟨z₃, e'⟩ := e.unfreeze zz R'.sub hd; ⟨z₃, v, e', rz.imm i, q⟩
theorem WT_peek {e : Expr} {P : Bool → Prop} (h : WT G r sc (frz (fun _ => true) l) e P) : WT G r sc l e P := fun F z s R => by
  obtain ⟨z', zz, R', hd⟩ := R.freezeX fun _ => true
  exact noE (h F z' s R') fun x s' ⟨z'', e, q⟩ => let ⟨z₃, e'⟩ := e.unfreeze zz R'.sub hd; ⟨z₃, e', q⟩
/-- own lists are given up -/
theorem WS_freeze {st : List Stmt} (S : Str → Bool) (h : WS G r sc (frz S l) st k) : WS G r sc l st k := fun F z s R => by
  obtain ⟨z', zz, R'⟩ := R.freeze S
  exact h F z' s R'
theorem WX_freeze {st : Stmt} (S : Str → Bool) (h : WX G r sc (frz S l) st k) : WX G r sc l st k := fun F z s R => by
  obtain ⟨z', zz, R'⟩ := R.freeze S
  exact h F z' s R'
end
end Mine

end
section
open PySem PySem.W PySem.Calls PyProof.Rows
set_option linter.unusedVariables false
set_option maxRecDepth 100000
namespace Mine
section
variable {prog : Program} {w : World} {K : Frag} {G : Gl prog w K} {r : Nat} {sc : Scope} {l : Locs} {k : Kt} {Q : V → Prop}

noncomputable def stored (sc : Scope) (x : Str) : Bool := sc.names.lookup x == some .local || sc.names.lookup x == some .cell
theorem stored_or {x : Str} (h : stored sc x = true) : sc.names.lookup x = some .local ∨ sc.names.lookup x = some .cell := by
  unfold stored at h
  rcases Bool.or_eq_true_iff.mp h with h | h
  · exact .inl (by simpa using h)
  · exact .inr (by simpa using h)

noncomputable def noComp : Expr → Bool
  | .ListComp .. | .SetComp .. | .DictComp .. => false
  | _ => true
theorem swaps_no {e : Expr} (h : noComp e = true) (t : Option Expr) (n : Nat) (env : Env) : swapsWith e t n env = pure false := by
  cases e <;> first | rfl | cases h

theorem WX_assign {x : Str} {p p' : Pos} {e : Expr} (h : WE G r sc l e fun v => k.nx (put l x (.v v))) (hx : stored sc x = true := by rfl) (hc : noComp e = true := by rfl) : WX G r sc l (.Assign [.Name x p'] e p) k := fun F z s R =>
  wpAny_Assign_Name (noE (h F z s R) fun val s₁ ⟨z₁, v, e₁, rz, q⟩ => (R.ext e₁).storeV (stored_or hx) rz fun s₂ R₂ => ⟨z₁, _, R₂, q⟩) (swaps_no hc _ _ _)

/-- an empty list of the frame's own -/
theorem WX_own {x : Str} {p p' q : Pos} (h : k.nx (put l x (.own []))) (hx : stored sc x = true := by rfl) : WX G r sc l (.Assign [.Name x p'] (.List [] q) p) k := fun F z s R =>
  wpAny_Assign_Name (wpAny_List (wpAny_pure ⟨Nat.zero_le _,
    R.storeOwn (Ext.grow (t := s.toks) R.sub fun b o e => Heap.get?_push_of_some { cls := .type "list", data := .seq ([] : List Value).toArray } e) (xs := []) (vals := []) (stored_or hx) R.sub.fresh ⟨0, Heap.get?_push_size _ rfl⟩ rfl fun s₂ R₂ => ⟨z, _, R₂, h⟩⟩)) (swaps_no rfl _ _ _)

theorem WX_if {t : Expr} {a b : List Stmt} {p : Pos} (h : WT G r sc l t fun c => (c = true → WS G r sc l a k) ∧ (c = false → WS G r sc l b k)) : WX G r sc l (.If t a b p) k := fun F z s R =>
  wpAny_If (noE (h F z s R) fun c s₁ ⟨z₁, e₁, q⟩ => by
    cases c with
    | true => exact q.1 rfl F z₁ s₁ (R.ext e₁)
    | false => exact q.2 rfl F z₁ s₁ (R.ext e₁))
theorem WX_ret {e : Expr} {p : Pos} (h : WE G r sc l e k.rt) : WX G r sc l (.Return (some e) p) k := fun F z s R =>
  wpAny_Return_some (noE (h F z s R) fun x s₁ ⟨z₁, v, e₁, rz, q⟩ => ⟨z₁, v, (R.ext e₁).end, rz, q⟩)
theorem WX_break {p : Pos} (h : k.bk l) : WX G r sc l (.Break p) k := fun F z s R => wpAny_Break ⟨z, l, R, h⟩
theorem WX_assert {t : Expr} {p : Pos} (h : WT G r sc l t fun c => c = true ∧ k.nx l) : WX G r sc l (.Assert t none p) k := fun F z s R =>
  wpAny_Assert_holds (noE (h F z s R) fun c s₁ ⟨z₁, e₁, q⟩ => ⟨q.1, z₁, l, R.ext e₁, q.2⟩)

theorem Frm.notI (F : Frm G r sc) : interactive F.env = false := by
  unfold interactive
  have := F.hk
  simp [this]

noncomputable def upd (l : Locs) (x : Str) (lv : LV) : Locs := l.map fun p => if p.1 == x then (p.1, lv) else p
theorem upd_lookup {x y : Str} {lv : LV} : ∀ {l : Locs}, (upd l x lv).lookup y = if y = x then (l.lookup y).map fun _ => lv else l.lookup y
  | [] => by simp [upd]
  | (u, v) :: l => by
    have ih := upd_lookup (x := x) (y := y) (lv := lv) (l := l)
    show List.lookup y ((if u == x then (u, lv) else (u, v)) :: upd l x lv) = _
    by_cases hu : u = x
    · subst hu
      simp only [beq_self_eq_true, if_true, List.lookup_cons]
      by_cases hy : y = u
      · subst hy; simp
      · have : (y == u) = false := by simpa using hy
        rw [this, ih]
    · have : (u == x) = false := by simpa using hu
      simp only [this, Bool.false_eq_true, if_false, List.lookup_cons]
      by_cases hy : y = u
      · subst hy; simp [hu]
      · have : (y == u) = false := by simpa using hy
        rw [this, ih]
theorem upd_keys {x : Str} {lv : LV} {l : Locs} : (upd l x lv).map (·.1) = l.map (·.1) := by
  unfold upd
  rw [List.map_map]
  apply List.map_congr_left
  intro p _
  simp only [Function.comp]
  split <;> simp_all

/-- an own thing turns -/
theorem RepE.turn {F : Frm G r sc} {z : Zp} {s : Shared} {x : Str} {u u' : LV} {m : Str → Option Value} {am : Str → Addr} {h' : Heap} {t : Nat} (R : RepE F z s) (L : F.LocOk l z s.heap m am) (hl : l.lookup x = some u) (hu : u.mine = true) (hu' : u'.mine = true)
    (ht : ∀ h, F.Tag h m am x u → F.Tag h m am x u') (sb : Heap.SameBut (am x) s.heap h') (hc : Cont G.C z h' (am x) u') : Rep F (upd l x u') z { s with heap := h', toks := t } := by
  obtain ⟨⟨f, n1, n2⟩, ct, tg⟩ := (L.ok x _ hl).of hu
  have kp : ∀ b o, b ≠ am x → s.heap.get? b = some o → h'.get? b = some o := fun b o nb e => (sb.2 b nb).trans e
  refine RepE.at (am := am) (m := m) ⟨fun b o e => kp b o (fun q => by rw [q, f.1] at e; cases e) (R.sub b o e), R.zz, fun b o e => kp b o (fun q => by rw [q, (F.Bs_none f.2).1] at e; cases e) (R.base b o e), R.new, R.gens.same (ct.noFields hu) sb f.2, R.dr, R.os⟩ ?_
  have nm : ∀ y vy, F.Nm m s.heap y vy → F.Nm m h' y vy := fun y vy ny => by
    rcases ny with ny | ⟨ny, c, e, q⟩
    · exact .inl ny
    · refine .inr ⟨ny, c, e, q.sameBut sb ?_⟩
      rcases ny with ny | ny
      · exact n2 y c ny e
      · obtain ⟨o, ho⟩ := L.fe y c ny e
        intro q; rw [q, f.2] at ho; cases ho
  have un : ∀ {y w}, (upd l x u').lookup y = some w → w.mine = true → ∃ w', l.lookup y = some w' ∧ w'.mine = true := by
    intro y w hy hw
    rw [upd_lookup] at hy
    by_cases hyx : y = x
    · exact ⟨u, hyx ▸ hl, hu⟩
    · rw [if_neg hyx] at hy; exact ⟨w, hy, hw⟩
  refine ⟨by rw [upd_keys]; exact L.nd, L.ns.sameBut sb (Ne.symm n1), L.fr, fun y hy => ?_, L.cd, L.fe, fun y w hy => ?_, fun y y' w w' hy hy' hw hw' e => ?_⟩
  · obtain ⟨c, v', e, q, fc, nc⟩ := L.ce y hy
    exact ⟨c, v', e, q.sameBut sb (n2 y c hy e), fc, nc⟩
  · rw [upd_lookup] at hy
    by_cases hyx : y = x
    · subst hyx
      rw [if_pos rfl, hl] at hy
      cases hy
      exact .to hu' ⟨⟨f, n1, n2⟩, hc, ht _ (tg.keep (fun val n => nm y val n) rfl)⟩
    · rw [if_neg hyx] at hy
      have q := L.ok y w hy
      cases hw : w.mine with
      | true =>
        obtain ⟨mi, c, tw⟩ := q.of hw
        exact .to hw ⟨mi, c.mono (fun _ _ e => e) fun o e _ => kp _ o (fun q => hyx (L.ds y x w u hy hl hw hu q)) e, tw.keep (fun val n => nm y val n) rfl⟩
      | false =>
        cases w with
        | v v => obtain ⟨vy, ny, ry⟩ := q; exact ⟨vy, nm y vy ny, ry⟩
        | app y' => obtain ⟨q, o, ny, zq, ap⟩ := q; exact ⟨q, o, nm y _ ny, zq, ap⟩
        | ca _ _ => exact q
        | _ => cases hw
  · obtain ⟨a, ha, ma⟩ := un hy hw
    obtain ⟨b, hb, mb⟩ := un hy' hw'
    exact L.ds y y' a b ha hb ma mb e

/-- an append to an own list -/
theorem RepE.append {F : Frm G r sc} {z : Zp} {s : Shared} {x : Str} {xs : List V} {v : V} {val : Value} {m : Str → Option Value} {am : Str → Addr} {P : Value → Shared → Prop} (R : RepE F z s) (L : F.LocOk l z s.heap m am) (hl : l.lookup x = some (.own xs)) (rz : Rz G.C z v val)
    (hsz : xs.length ≤ sizeLine) (h : ∀ s', Rep F (upd l x (.own (xs ++ [v]))) z s' → P .none s') : wpAny (model prog w) F.A (call (.builtin "list.append") [.ref (am x), val]) P (fun _ _ => False) s := by
  obtain ⟨_, ⟨vals, hp, rl⟩, _⟩ := (L.ok x _ hl).of rfl
  refine wpAny_list_append_plain hp (fun h' hp' sb => h _ (R.turn (t := s.toks) L hl rfl rfl (fun _ t => t) sb ⟨vals ++ [val], ?_, RzL.append (RzL.one rz) rl⟩)) (by rw [List.size_toArray, rl.length]; exact hsz)
  have : (vals ++ [val]).toArray = vals.toArray.push val := by simp
  rw [this]; exact hp'
theorem RepE.appendG {F : Frm G r sc} {z : Zp} {s : Shared} {x : Str} {a : Addr} {xs : List V} {v : V} {val : Value} {m : Str → Option Value} {am : Str → Addr} {P : Value → Shared → Prop} (R : RepE F z s) (L : F.LocOk l z s.heap m am) (hl : l.lookup x = some (.gl a xs)) (rz : Rz G.C z v val)
    (hsz : xs.length ≤ sizeLine) (h : ∀ s', Rep F (upd l x (.gl a (xs ++ [v]))) z s' → P .none s') : wpAny (model prog w) F.A (call (.builtin "list.append") [.ref a, val]) P (fun _ _ => False) s := by
  obtain ⟨_, ⟨vals, hp, rl⟩, ha⟩ := (L.ok x _ hl).of rfl
  have ha : am x = a := ha
  subst ha
  refine wpAny_list_append_plain hp (fun h' hp' sb => h _ (R.turn (t := s.toks) L hl rfl rfl (fun _ t => t) sb ⟨vals ++ [val], ?_, RzL.append (RzL.one rz) rl⟩)) (by rw [List.size_toArray, rl.length]; exact hsz)
  have : (vals ++ [val]).toArray = vals.toArray.push val := by simp
  rw [this]; exact hp'

/-- names are forgotten -/
theorem Rep.weak {F : Frm G r sc} {z : Zp} {s : Shared} {l' : Locs} (R : Rep F l z s) (hd : (l'.map (·.1)).Nodup) (hs : ∀ x u, l'.lookup x = some u → l.lookup x = some u) : Rep F l' z s := by
  obtain ⟨m, am, L⟩ := R.loc
  exact R.end.at (m := m) (am := am) ⟨hd, L.ns, L.fr, L.ce, L.cd, L.fe, fun x u h => L.ok x u (hs x u h), fun x y u u' h h' => L.ds x y u u' (hs x u h) (hs y u' h')⟩
theorem WS.mono {st : List Stmt} {k' : Kt} (h : WS G r sc l st k) (hn : ∀ l, k.nx l → k'.nx l) (hb : ∀ l, k.bk l → k'.bk l) (hc : ∀ l, k.ct l → k'.ct l) (hr : ∀ v, k.rt v → k'.rt v) : WS G r sc l st k' := fun F z s R =>
  noE (h F z s R) fun f s' p => by
    cases f with
    | next => obtain ⟨z, l, R, q⟩ := p; exact ⟨z, l, R, hn _ q⟩
    | brk => obtain ⟨z, l, R, q⟩ := p; exact ⟨z, l, R, hb _ q⟩
    | cont => obtain ⟨z, l, R, q⟩ := p; exact ⟨z, l, R, hc _ q⟩
    | ret x => obtain ⟨z, v, R, rz, q⟩ := p; exact ⟨z, v, R, rz, hr _ q⟩

noncomputable def drop (l : Locs) (x : Str) : Locs := l.filter fun p => !(p.1 == x)
theorem drop_lookup {x y : Str} {u : LV} : ∀ {l : Locs}, (drop l x).lookup y = some u → y ≠ x ∧ l.lookup y = some u
  | [], h => by cases h
  | (n, v) :: l, h => by
    unfold drop at h
    rw [List.filter_cons] at h
    by_cases hn : n = x
    · subst hn
      simp only [beq_self_eq_true, Bool.not_true, Bool.false_eq_true, if_false] at h
      obtain ⟨a, b⟩ := drop_lookup h
      refine ⟨a, ?_⟩
      rw [List.lookup_cons]
      have : (y == n) = false := by simpa using a
      rw [this]; exact b
    · have : (n == x) = false := by simpa using hn
      rw [this] at h
      simp only [Bool.not_false, if_true, List.lookup_cons] at h ⊢
      cases q : y == n with
      | true => rw [q] at h; exact ⟨eq_of_beq q ▸ hn, h⟩
      | false => rw [q] at h; exact drop_lookup h

/-- an own thing is given up: what it held is frozen -/
theorem Rep.settle {F : Frm G r sc} {z : Zp} {s : Shared} {y : Str} {u : LV} (R : Rep F l z s) (hl : l.lookup y = some u) (hu : u.mine = true) :
    ∃ z' a, (∀ b o, z b = some o → z' b = some o) ∧ Rep F (drop l y) z' s ∧ Cont G.C z' s.heap a u ∧ (∀ o, s.heap.get? a = some o → z' a = some o) ∧ (∀ b xs, u = .gl b xs → a = b) ∧ (∀ b ks vs, u = .gd b ks vs → a = b) := by
  obtain ⟨m, am, L⟩ := R.loc
  obtain ⟨mi, c, t⟩ := (L.ok y _ hl).of hu
  obtain ⟨o, ho⟩ := c.alive hu
  have zz : ∀ b q, z b = some q → z.put (am y) o b = some q := Zp.put_old mi.fr.1
  have fr : ∀ {a}, F.Fresh z a → a ≠ am y → F.Fresh (z.put (am y) o) a := fun f n => ⟨by simp [Zp.put, n, f.1], f.2⟩
  refine ⟨z.put (am y) o, am y, zz, ⟨fun b q e => ?_, fun b q e => zz b q (R.zz b q e), R.base, fun b q e n => ?_, ?_, R.dr, R.os, m, am, ?_⟩, c.mono zz fun _ e _ => e, fun q e => ?_, fun b xs e => ?_, fun b ks vs e => ?_⟩
  · by_cases hb : b = am y
    · subst hb; rw [Zp.put_self] at e; cases e; exact ho
    · exact R.sub b q (by simpa [Zp.put, hb] using e)
  · by_cases hb : b = am y
    · subst hb; exact mi.fr.2
    · exact R.new b q (by simpa [Zp.put, hb] using e) n
  · refine ⟨R.gens.was, R.gens.g0, R.gens.gq, R.gens.gr, fun h => (R.gens.tabs h).zmove zz fun c' hc hz => ?_, R.gens.t0⟩
    have ne := ((R.gens.tabs h).ne (c.noFields hu) hc).2
    simp [Zp.put, ne, hz]
  · refine ⟨?_, L.ns, fr L.fr (Ne.symm mi.nl), fun x hx => ?_, L.cd, L.fe, fun x w hx => ?_, fun x x' w w' hx hx' => L.ds x x' w w' (drop_lookup hx).2 (drop_lookup hx').2⟩
    · exact (List.filter_sublist.map _).nodup L.nd
    · obtain ⟨c', v, e, q, f, n⟩ := L.ce x hx
      exact ⟨c', v, e, q, fr f (mi.nc x c' hx e), n⟩
    · obtain ⟨ne, hx⟩ := drop_lookup hx
      have q := L.ok x w hx
      cases hw : w.mine with
      | true =>
        obtain ⟨mi', c', t'⟩ := q.of hw
        exact .to hw ⟨⟨fr mi'.fr fun e => ne (L.ds x y w u hx hl hw hu e), mi'.nl, mi'.nc⟩, c'.mono zz fun _ e _ => e, t'⟩
      | false =>
        cases w with
        | v v => obtain ⟨val, n, rz⟩ := q; exact ⟨val, n, rz.mono zz⟩
        | app y' => obtain ⟨a, o, n, za, ap⟩ := q; exact ⟨a, o, n, zz _ _ za, ap⟩
        | ca _ _ => exact q
        | _ => cases hw
  · rw [ho] at e; cases e; exact Zp.put_self
  · subst e; exact t
  · subst e; exact t

/-- what stands for another in the frozen part z, where u lies at a -/
noncomputable def Turns (C : Addr) (z : Zp) : LV → LV → Prop
  | .v v, .v v' => ∀ x, Rz C z v x → Rz C z v' x
  | .own xs, .own xs' => ∀ vs, RzL C z xs vs → RzL C z xs' vs
  | .gl a xs, .gl a' xs' => a = a' ∧ ∀ vs, RzL C z xs vs → RzL C z xs' vs
  | .gd a ks vs, .gd a' ks' vs' => a = a' ∧ ks = ks' ∧ ∀ xs, RzL C z vs xs → RzL C z vs' xs
  | _, _ => False
theorem Rep.turns {F : Frm G r sc} {z : Zp} {s : Shared} {x : Str} {u u' : LV} (R : Rep F l z s) (hl : l.lookup x = some u) (t : Turns G.C z u u') : Rep F (upd l x u') z s := by
  obtain ⟨m, am, L⟩ := R.loc
  have hm : u'.mine = u.mine := by cases u <;> cases u' <;> first | rfl | exact t.elim
  have un : ∀ {y w}, (upd l x u').lookup y = some w → ∃ w', l.lookup y = some w' ∧ w'.mine = w.mine := by
    intro y w hy
    rw [upd_lookup] at hy
    by_cases hyx : y = x
    · rw [if_pos hyx, hyx, hl] at hy
      cases hy
      exact ⟨u, hyx ▸ hl, hm.symm⟩
    · rw [if_neg hyx] at hy; exact ⟨w, hy, rfl⟩
  refine R.end.at (m := m) (am := am) ⟨by rw [upd_keys]; exact L.nd, L.ns, L.fr, L.ce, L.cd, L.fe, fun y w hy => ?_, fun y y' w w' hy hy' hw hw' e => ?_⟩
  · rw [upd_lookup] at hy
    by_cases hyx : y = x
    · subst hyx
      rw [if_pos rfl, hl] at hy
      cases hy
      have q := L.ok y u hl
      cases u <;> cases u' <;> first | exact t.elim | skip
      · obtain ⟨val, n, rz⟩ := q; exact ⟨val, n, t _ rz⟩
      · obtain ⟨mi, ⟨vals, p, rl⟩, n⟩ := q; exact ⟨mi, ⟨vals, p, t _ rl⟩, n⟩
      · obtain ⟨mi, ⟨vals, p, rl⟩, n⟩ := q; exact ⟨mi, ⟨vals, p, t.2 _ rl⟩, t.1 ▸ n⟩
      · obtain ⟨mi, ⟨es, n, xs, p, fo, rl⟩, tg⟩ := q
        obtain ⟨rfl, rfl, t⟩ := t
        exact ⟨mi, ⟨es, n, xs, p, fo, t _ rl⟩, tg⟩
    · rw [if_neg hyx] at hy; exact L.ok y w hy
  · obtain ⟨a, ha, ma⟩ := un hy
    obtain ⟨b, hb, mb⟩ := un hy'
    exact L.ds y y' a b ha hb (ma.trans hw) (mb.trans hw') e

/-- a ghost list is given up; what names it bears the list itself -/
theorem Rep.fill {F : Frm G r sc} {z : Zp} {s : Shared} {y x : Str} {a : Addr} {xs : List V} {u u' : LV} (R : Rep F l z s) (hy : l.lookup y = some (.gl a xs)) (hx : (drop l y).lookup x = some u)
    (ht : ∀ z, Rz G.C z (.lst xs) (.ref a) → Turns G.C z u u') : ∃ z', (∀ b o, z b = some o → z' b = some o) ∧ Rep F (upd (drop l y) x u') z' s := by
  obtain ⟨z', a', zz, R', ⟨vals, p, rl⟩, hz, e1, _⟩ := R.settle hy rfl
  have e1 := e1 a xs rfl
  subst e1
  exact ⟨z', zz, R'.turns hx (ht z' ⟨_, vals, rfl, (SeqIs.plain p).mono hz, rl⟩)⟩
/-- a ghost dict is given up: the object is whole -/
theorem Rep.fillObj {F : Frm G r sc} {z : Zp} {s : Shared} {y x : Str} {p d : Addr} {ks : List Str} {vs : List V} (R : Rep F l z s) (hy : l.lookup y = some (.gd d ks vs)) (hx : (drop l y).lookup x = some (.v (.obj p d))) :
    ∃ z', (∀ b o, z b = some o → z' b = some o) ∧ Rep F (upd (drop l y) x (.v (.ins ks vs))) z' s := by
  obtain ⟨z', a', zz, R', ⟨es, n, xs, q, fo, rl⟩, hz, _, e1⟩ := R.settle hy rfl
  have e1 := e1 d ks vs rfl
  subst e1
  refine ⟨z', zz, R'.turns hx ?_⟩
  rintro x ⟨rfl, ho⟩
  exact ⟨p, _, es, n, xs, rfl, ho, hz _ q, fo, rl⟩
theorem WS_fill {st : List Stmt} (y x : Str) {a : Addr} {xs : List V} {u : LV} (u' : LV) (hy : l.lookup y = some (.gl a xs)) (hx : (drop l y).lookup x = some u)
    (ht : ∀ z, Rz G.C z (.lst xs) (.ref a) → Turns G.C z u u') (h : WS G r sc (upd (drop l y) x u') st k) : WS G r sc l st k := fun F z s R => by
  obtain ⟨z', _, R'⟩ := R.fill hy hx ht
  exact h F z' s R'
theorem WS_fillObj {st : List Stmt} (y x : Str) {p d : Addr} {ks : List Str} {vs : List V} (hy : l.lookup y = some (.gd d ks vs)) (hx : (drop l y).lookup x = some (.v (.obj p d)))
    (h : WS G r sc (upd (drop l y) x (.v (.ins ks vs))) st k) : WS G r sc l st k := fun F z s R => by
  obtain ⟨z', _, R'⟩ := R.fillObj hy hx
  exact h F z' s R'

/-- x.append(e) -/
theorem WX_append {x : Str} {xs : List V} {e : Expr} {p pn pc pa : Pos} (hl : l.lookup x = some (.own xs)) (h : WE G r sc l e fun v => xs.length ≤ sizeLine ∧ k.nx (upd l x (.own (xs ++ [v]))))
    (hfew : ∀ env : Env, ((backTo pc (starEach [e] env)).all (fun x => !x.1) && (backToKw pc (keywordEach [] env)).all (fun x => x.1.isSome)
      && decide (([e] : List Expr).length + ([] : List Keyword).length + (if ([] : List Keyword).isEmpty then 0 else 1) < 30)) = true := by intro _; rfl)
    (hline : (pa.endLine == pc.line) = true := by rfl) (htrees : ∀ env : Env, backTo pc (starEach [e] env) = [(false, eval e env)] := by intro _; rfl)
    (hd : (x == ("__debug__" : Str)) = false := by decide) (hc : (x == ("__classdict__" : Str)) = false := by decide) :
    WX G r sc l (.Expr (.Call (.Attribute (.Name x pn) "append" pa) [e] [] pc) p) k := fun F z s R => by
  obtain ⟨m, am, L⟩ := R.loc
  obtain ⟨_, ⟨vals, hp, rl⟩, n⟩ := (L.ok x _ hl).of rfl
  refine wpAny_Expr (wpAny_Call_append rfl (hfew _) hline (htrees _) (wpAny_Name (Frm.load L.ns n hc ?_) hd)) (Frm.notI F) (swaps_no rfl _ _ _)
  refine ⟨am x, vals.toArray, rfl, ⟨_, _, hp.choose_spec, rfl, rfl, rfl⟩, ?_⟩
  refine noE (h F z s R) fun val s₁ ⟨z₁, v, e₁, rz, hs, q⟩ => ?_
  exact (R.end.ext e₁).append (L.ext e₁) hl rz hs fun s₂ R₂ => ⟨z₁, _, R₂, q⟩
/-- e.append(e'), where e is a ghost list -/
theorem WX_appendG {o e : Expr} {p pc pa : Pos} (y : Str) {a : Addr} {xs : List V} (hl : l.lookup y = some (.gl a xs)) (ho : WE G r sc l o (· = .raw (.ref a))) (h : WE G r sc l e fun v => xs.length ≤ sizeLine ∧ k.nx (upd l y (.gl a (xs ++ [v]))))
    (hfew : ∀ env : Env, ((backTo pc (starEach [e] env)).all (fun x => !x.1) && (backToKw pc (keywordEach [] env)).all (fun x => x.1.isSome)
      && decide (([e] : List Expr).length + ([] : List Keyword).length + (if ([] : List Keyword).isEmpty then 0 else 1) < 30)) = true := by intro _; rfl)
    (hline : (pa.endLine == pc.line) = true := by rfl) (htrees : ∀ env : Env, backTo pc (starEach [e] env) = [(false, eval e env)] := by intro _; rfl) (hb : ∀ env whole, attributeBase o "append" env whole = whole := by intro _ _; rfl) :
    WX G r sc l (.Expr (.Call (.Attribute o "append" pa) [e] [] pc) p) k := fun F z s R => by
  refine wpAny_Expr (wpAny_Call_append (hb _ _) (hfew _) hline (htrees _) (noE (ho F z s R) fun oa s₀ ⟨z₀, v, e₀, rz, hv⟩ => ?_)) (Frm.notI F) (swaps_no rfl _ _ _)
  subst hv
  have rz : oa = .ref a := rz
  have R₀ := R.ext e₀
  obtain ⟨m, am, L⟩ := R₀.loc
  obtain ⟨_, ⟨vals, hp, rl⟩, ha⟩ := (L.ok y _ hl).of rfl
  have ha : am y = a := ha
  refine ⟨a, vals.toArray, rz, ?_, ?_⟩
  · rw [← ha]; exact ⟨_, _, hp.choose_spec, rfl, rfl, rfl⟩
  · refine noE (h F z₀ s₀ R₀) fun val s₁ ⟨z₁, v, e₁, rz, hs, q⟩ => ?_
    exact (R₀.end.ext e₁).appendG (L.ext e₁) hl rz hs fun s₂ R₂ => ⟨z₁, _, R₂, q⟩
end
end Mine

end
section
open PySem PySem.W PySem.Calls PyProof.Rows
set_option linter.unusedVariables false
set_option maxRecDepth 100000
namespace Mine
section
variable {prog : Program} {w : World} {K : Frag} {G : Gl prog w K} {r : Nat} {sc : Scope} {l : Locs} {k : Kt} {Q : V → Prop}

/-! arguments -/
noncomputable def plainEs (es : List Expr) : Bool := es.all fun e => match e with | .Starred .. => false | _ => true
theorem starEach_plain {env : Env} : ∀ {es : List Expr}, plainEs es = true → starEach es env = es.map fun e => (false, eval e env)
  | [], _ => rfl
  | e :: es, h => by
    unfold plainEs at h
    rw [List.all_cons, Bool.and_eq_true] at h
    have ih := starEach_plain (env := env) (es := es) h.2
    cases e <;> first | (show _ :: starEach es env = _; rw [ih]; rfl) | (exact absurd h.1 (by simp))
theorem backTo_plain {env : Env} {es : List Expr} {p : Pos} (h : plainEs es = true) : backTo p (starEach es env) = es.map fun e => (false, eval e env) := by
  rw [starEach_plain h]
  unfold backTo
  rw [List.map_map]
  rfl

noncomputable def WEs (G : Gl prog w K) (r : Nat) (sc : Scope) (l : Locs) : List Expr → (List V → Prop) → Prop
  | [], Q => Q []
  | e :: es, Q => WE G r sc l e fun v => WEs G r sc l es fun vs => Q (v :: vs)
theorem WEs.run {F : Frm G r sc} : ∀ {es : List Expr} {Q : List V → Prop}, WEs G r sc l es Q → ∀ z s, Rep F l z s →
    wpAny (model prog w) F.A (spliced (es.map fun e => (false, eval e F.env))) (fun xs s' => ∃ z' vs, Ext z s z' s' ∧ RzL G.C z' vs xs ∧ Q vs) (fun _ _ => False) s
  | [], Q, h, z, s, R => Calls.spliced_nil ⟨z, [], Ext.refl R.sub, rfl, h⟩
  | e :: es, Q, h, z, s, R => Calls.spliced_cons (noE (h F z s R) fun x s₁ ⟨z₁, v, e₁, rz, q⟩ => noE (WEs.run q z₁ s₁ (R.ext e₁)) fun xs s₂ ⟨z₂, vs, e₂, rl, q⟩ =>
      ⟨z₂, v :: vs, e₁.trans e₂, ⟨x, xs, rfl, rz.mono e₂.zz, rl⟩, q⟩)

/-! calls -/
noncomputable def Cal (K : Frag) (f : Value) : Bool := match f with
  | .ref a => keepIn K (.ref a)
  | .builtin _ | .type _ => true
  | _ => false
theorem keeps_any {f : Value} (h : Cal K f = true) (hp : Heap) (X : K.In hp) : ∃ k, (k = Keeper.frame ∨ k = Keeper.machine ∨ k = Keeper.boundFrame) ∧ Looks (model prog w) hp (keeperOf f) k := by
  cases f <;> first | cases h | skip
  · exact ⟨.machine, .inr (.inl rfl), Looks.of_pure rfl⟩
  · exact ⟨.machine, .inr (.inl rfl), Looks.of_pure rfl⟩
  · rename_i a
    exact keeps_K (K := K) (show keepIn K (.ref a) = true from h) hp X

theorem Rep.inK {F : Frm G r sc} {z : Zp} {s : Shared} (R : Rep F l z s) : K.In s.heap := fun a o e => R.sB a o (G.inK a o e)

theorem WEs.callWith {F : Frm G r sc} {es : List Expr} {p : Pos} {f : Value} {first : List Value} {Q : List V → Prop} {P : Value → Shared → Prop} (hf : Cal K f = true) (hp : plainEs es = true) {z : Zp} {s : Shared} (R : Rep F l z s) (h : WEs G r sc l es Q)
    (hc : ∀ xs s' z' vs, Ext z s z' s' → RzL G.C z' vs xs → Q vs → wpAny (model prog w) F.A (call f (first ++ xs)) P (fun _ _ => False) s') :
    wpAny (model prog w) F.A (PySem.callWith p f first (backTo p (starEach es F.env)) []) P (fun _ _ => False) s := by
  rw [backTo_plain hp]
  refine callWith_of (P := K.In) (by
    show ((es.map fun e => (false, eval e F.env)).any (·.1) || false) = false
    rw [Bool.or_false, List.any_map]
    exact List.any_eq_false.mpr fun _ _ => by simp) (fun hp X => keeps_any hf hp X) ?_
  have fin := h.run z s R
  cases es with
  | nil => exact evalArgs_nil3 ⟨R.inK, hc [] s z [] (Ext.refl R.sub) rfl h⟩
  | cons e es =>
    exact Calls.evalArgs_plain (noE fin fun xs s' ⟨z', vs, e', rl, q⟩ => ⟨(R.ext e').inK, hc xs s' z' vs e' rl q⟩)

theorem CS.room {r r' : Nat} {f : Value} {vs : List V} (h : CS G r' f vs Q) (hr : r' ≤ r) : CS G r f vs Q := fun A z s xs hh hR zB hs rl => h A z s xs hh (hR.less hr) zB hs rl

theorem WE_call {x : Str} {p1 p : Pos} {es : List Expr} (h : WE G r sc l (.Name x p1) fun c => ∃ f, c = .raw f ∧ Cal K f = true ∧ WEs G r sc l es fun vs => CS G r f vs Q) (hp : plainEs es = true := by rfl) :
    WE G r sc l (.Call (.Name x p1) es [] p) Q := fun F z s R =>
  wpAny_Call_ofName (noE (h F z s R) fun f s₁ ⟨z₁, v, e₁, rz, f', hv, hf, q⟩ => by
    subst hv
    have : f = f' := rz
    subst this
    exact WEs.callWith hf hp (R.ext e₁) q fun xs s₂ z₂ vs e₂ rl q => noE (q F.A z₂ s₂ xs F.hh F.room ((R.ext e₁).ext e₂).bd e₂.sub rl) fun _ _ q => ret_trans (e₁.trans e₂) q)
/-- a def of the top -/
theorem WE_def {x : Str} {p1 p : Pos} {es : List Expr} {f : Addr} (e : nsIn K mainGlobals x = some (some (.ref f))) (hf : keepIn K (.ref f) = true) (h : WEs G r sc l es fun vs => CS G r (.ref f) vs Q)
    (hx : sc.names.lookup x = some .globalImplicit := by rfl) (hd : (x == ("__debug__" : Str)) = false := by decide) (hp : plainEs es = true := by rfl) : WE G r sc l (.Call (.Name x p1) es [] p) Q :=
  WE_call (WE_g e ⟨_, rfl, hf, h⟩ hx hd) hp
/-- a built-in -/
theorem WE_bi {x : Str} {p1 p : Pos} {es : List Expr} {val : Value} (e : nsIn K mainGlobals x = some none) (hv : bootBuiltins x = some val) (hf : Cal K val = true) (h : WEs G r sc l es fun vs => CS G r val vs Q)
    (hn : x ≠ "__name__" := by decide) (hx : sc.names.lookup x = some .globalImplicit := by rfl) (hd : (x == ("__debug__" : Str)) = false := by decide) (hp : plainEs es = true := by rfl) : WE G r sc l (.Call (.Name x p1) es [] p) Q :=
  WE_call (WE_b e hv ⟨_, rfl, hf, h⟩ hn hx hd) hp

/-! methods -/
/-- what getMethod finds on a value -/
noncomputable def GMt (G : Gl prog w K) (nm : Str) (a : V) (Q : Value → Prop) : Prop :=
  ∀ A z s xa pl, A.handled = none → (∀ b o, G.zB b = some o → z b = some o) → Sub z s.heap → Rz G.C z a xa →
    wpAny (model prog w) A (getMethod xa nm pl) (fun q s' => s' = s ∧ q.2 = [xa] ∧ Q q.1) (fun _ _ => False) s

theorem WE_meth {o : Expr} {nm : Str} {pa p : Pos} {es : List Expr} (h : WE G r sc l o fun v => GMt G nm v fun f => Cal K f = true ∧ WEs G r sc l es fun vs => CS G r f (v :: vs) Q)
    (hp : plainEs es = true := by rfl) (hfew : es.length < 30 := by decide) (hline : (pa.endLine == p.line) = true := by rfl) (hb : ∀ env whole, attributeBase o nm env whole = whole := by intro _ _; rfl) :
    WE G r sc l (.Call (.Attribute o nm pa) es [] p) Q := fun F z s R => by
  rw [arm_eval_Call, hb]
  refine wpAny_bind (noE (h F z s R) fun xa s₁ ⟨z₁, v, e₁, rz, q⟩ => wpAny_bind (wpAny_standAt ?_))
  have hform : methodCallForm (es.length + ([] : List Keyword).length) (backTo p (starEach es F.env)) (backToKw p (keywordEach [] F.env)) = true := by
    rw [backTo_plain hp]
    show (List.all _ _ && true && decide (es.length + 0 + 0 < 30)) = true
    rw [List.all_map, Bool.and_true, Bool.and_eq_true]
    exact ⟨List.all_eq_true.mpr fun _ _ => rfl, decide_eq_true hfew⟩
  have hpos : methodCallPos true o F.env pa p = pure p := by unfold methodCallPos; simp [hline]
  unfold methodCall
  rw [hform]
  refine wpAny_bind (wpAny_holding ?_)
  show wpAny _ _ (getMethod xa nm _) _ _ _
  refine noE (q F.A z₁ s₁ xa _ F.hh (R.ext e₁).zBsub e₁.sub rz) fun ⟨f, fs⟩ s₂ ⟨hs, hfs, hf, q⟩ => ?_
  dsimp only at hfs hf q ⊢
  subst hfs
  subst hs
  refine wpAny_bind (wpAny_of_eq hpos ?_)
  exact WEs.callWith hf hp (R.ext e₁) q fun xs s₃ z₃ vs e₃ rl q =>
    noE (q F.A z₃ s₃ (xa :: xs) F.hh F.room ((R.ext e₁).ext e₃).bd e₃.sub ⟨xa, xs, rfl, rz.mono e₃.zz, rl⟩) fun _ _ q => ret_trans (e₁.trans e₃) q

theorem GM_str {nm : Str} {id : String} {x : Str} {P : Value → Prop} (slot : Slot "str" nm id) (ty : typeOf (.builtin id) = pure (.type "method_descriptor")) (h : P (.builtin id)) : GMt G nm (.str x) P := fun A z s xa pl hh zB hs ⟨t, rz⟩ => by
  subst rz
  exact GM.of (.str x t) (typeIs_str _ _ _) slot ty GM.noRef ⟨rfl, rfl, h⟩

/-- an object's field by its name -/
noncomputable def fieldOf (nm : Str) : List Str → List V → Option V
  | k :: ks, v :: vs => if k == nm then some v else fieldOf nm ks vs
  | _, _ => none

theorem FieldsOk.find {nm : Str} : ∀ {ks : List Str} {xs : List Value} {es : List DictEntry}, FieldsOk ks xs es → ks.all (fun k => !(k == nm)) = true → es.find? (·.key.isStr nm) = none
  | [], [], [], _, _ => rfl
  | k :: ks, x :: xs, e :: es, ⟨_, ⟨t, ht⟩, r⟩, hk => by
    rw [List.all_cons, Bool.and_eq_true] at hk
    have h0 : e.key.isStr nm = false := by rw [ht]; show (k == nm) = false; simpa using hk.1
    rw [List.find?_cons, h0]; exact r.find hk.2
theorem FieldsOk.noRef : ∀ {ks : List Str} {xs : List Value} {es : List DictEntry}, FieldsOk ks xs es → es.any (·.refKey) = false
  | [], [], [], _ => rfl
  | k :: ks, x :: xs, e :: es, ⟨_, ⟨t, ht⟩, r⟩ => by
    rw [List.any_cons, r.noRef, Bool.or_false]
    unfold DictEntry.refKey; rw [ht]
theorem getL_none {C : Addr} {z : Zp} {nm : Str} {ks : List Str} {xs : List Value} {es : List DictEntry} (h : FieldsOk ks xs es) (hk : ks.all (fun k => !(k == nm)) = true) : getL nm es = some none := by
  unfold getL
  rw [h.find hk, h.noRef]
  rfl

theorem GM_ins {nm : Str} {f : Addr} {ks : List Str} {vs : List V} {P : Value → Prop} (hg : plainGet K G.C nm = true) (hf : findIn K (.ref G.C) nm = some (some (.ref f))) (ht : isFn K (.ref f) = true) (hk : ks.all (fun k => !(k == nm)) = true) (h : P (.ref f)) :
    GMt G nm (.ins ks vs) P := fun A z s xa pl hh zB hs ⟨a, d, es, n, xs, e, o1, o2, fo, rl⟩ => by
  subst e
  have X : K.In s.heap := fun b o e => hs _ _ (zB _ _ (G.inK b o e))
  have I : InstAt s.heap a (instObj G.C d) G.C (some (dictOf es n)) := ⟨hs _ _ o1, rfl, rfl, hs _ _ o2⟩
  refine method_fn X I (plainGet_of hg).1 (plainGet_of hg).2 hf (beq_iff_eq.mp ht) ?_ ⟨rfl, rfl, h⟩
  show (lookIn nm (dictOf es n)).map _ = _
  rw [lookIn_dict, getL_none (C := G.C) (z := z) fo hk]; rfl
end
end Mine

end
section
open PySem PySem.W PySem.Calls PyProof.Rows
set_option linter.unusedVariables false
set_option maxRecDepth 100000
namespace Mine
theorem xl1 {xs : List Value} (h : xs.length = 1) : ∃ a, xs = [a] := List.length_eq_one_iff.mp h
theorem xl2 {xs : List Value} (h : xs.length = 2) : ∃ a b, xs = [a, b] := by
  cases xs with
  | nil => cases h
  | cons a r => obtain ⟨b, rfl⟩ := xl1 (Nat.succ.inj h); exact ⟨a, b, rfl⟩
theorem xl3 {xs : List Value} (h : xs.length = 3) : ∃ a b c, xs = [a, b, c] := by
  cases xs with
  | nil => cases h
  | cons a r => obtain ⟨b, c, rfl⟩ := xl2 (Nat.succ.inj h); exact ⟨a, b, c, rfl⟩
section
variable {prog : Program} {w : World} {K : Frag} {G : Gl prog w K} {r : Nat} {sc : Scope} {l : Locs} {k : Kt} {Q : V → Prop}

theorem zip_bears {C : Addr} {z : Zp} {x : Str} {lv : LV} : ∀ {nms : List Str} {vs : List V} {xs : List Value}, RzL C z vs xs → (nms.zip (vs.map LV.v)).lookup x = some lv → ∃ v val, lv = .v v ∧ (nms.zip xs).lookup x = some val ∧ Rz C z v val
  | [], _, _, _, h => by cases h
  | _ :: _, [], _, _, h => by cases h
  | n :: nms, v :: vs, _, ⟨y, r, e, h1, h2⟩, h => by
    subst e
    simp only [List.map_cons, List.zip_cons_cons, List.lookup_cons] at h ⊢
    cases q : x == n with
    | true => rw [q] at h; cases h; exact ⟨v, y, rfl, rfl, h1⟩
    | false => rw [q] at h; exact zip_bears h2 h
theorem lookup_reverse {α : Type} {l : List (Str × α)} (nd : (l.map (·.1)).Nodup) {x : Str} {v : α} (h : l.lookup x = some v) : l.reverse.lookup x = some v :=
  mem_lookup (by rw [List.map_reverse]; exact List.pairwise_reverse.mpr (List.Pairwise.imp (fun h => Ne.symm h) nd)) (List.mem_reverse.mpr (lookup_mem h))
theorem lookup_some_mem {x : Str} {kd : NameKind} {l : List (Str × NameKind)} (h : l.lookup x = some kd) : (x, kd) ∈ l := lookup_mem h

/-- a def of the top is called: its body's meaning -/
theorem CS_def {f : Addr} {name qual : Str} {params : Arguments} {body : List Stmt} {dV kV doc pm cdv ct oc : Value} {an od : Option Addr} {osl : Array (Option Value)} {vs : List V} (nms : List Str)
    (ho : K.lookup f = some ⟨oc, od, .func (fnOf name qual params body sc dV kV doc pm an cdv ct), osl⟩) (hcd : codeIn K cdv qual = true)
    (h : WS G r sc (nms.zip (vs.map LV.v)) body { nx := fun _ => Q .nil, rt := Q })
    (hb : ∀ xs : List Value, xs.length = nms.length → bindArgs (fnOf name qual params body sc dV kV doc pm an cdv ct) ⟨xs, []⟩ = pure (nms.zip xs))
    (hl : nms.length = vs.length := by rfl) (hnd : nms.Nodup := by decide) (hloc : (nms.all fun x => sc.names.lookup x == some .local) = true := by decide +kernel)
    (hcell : (sc.names.all fun x => x.2 != .cell) = true := by decide +kernel) (hco : sc.isCoroutine = false := by rfl) (hgen : sc.isGenerator = false := by rfl) (hk : sc.kind = .function := by rfl) :
    CS G (r + 1) (.ref f) vs Q := fun A z s xs hh hR zB hs rl => by
  have X : K.In s.heap := fun b o e => hs _ _ (zB.zz _ _ (G.inK b o e))
  have hlen : xs.length = nms.length := by rw [rl.length, hl]
  have hnk : ∀ x, sc.names.lookup x ≠ some .cell := fun x e => by
    have := List.all_eq_true.mp hcell _ (lookup_some_mem e)
    simp at this
  have hkeys : ((nms.zip xs).map (·.1)) = nms := by
    have : (nms.zip xs).map Prod.fst = nms := List.map_fst_zip (by omega)
    exact this
  refine wpAny_call (codeAny_call_def (fd := fnOf name qual params body sc dV kV doc pm an cdv ct) (body := body) (binds := nms.zip xs) hR.lt (X _ _ ho) rfl (G.nolim _ fun b o e => hs _ _ (zB.zz _ _ e)) (codeRec_of X hcd) rfl (.of_eq (hb xs hlen))
    (fun x hx e => by
      have := List.all_eq_true.mp hcell _ hx
      simp [e] at this) (fun x hx => ?_) (fun h₀ ns kp => ?_) hco hgen hk)
  · have : x.1 ∈ nms := by rw [← hkeys]; exact List.mem_map_of_mem hx
    exact beq_iff_eq.mp (List.all_eq_true.mp hloc _ this)
  · let F : Frm G r sc := Frm.mk s.heap.objs.size [] (qual ++ ".<locals>.") (some f) cdv (some s.heap.objs.size) (A.deeper (callEnv (fnOf name qual params body sc dV kV doc pm an cdv ct) s.heap.objs.size f))
      (ntab s.heap) z s.heap s.gens s.drawn s.os hk zB.zz (fun _ _ e => (ntab_some e).2) hh hR.deeper (Tabs z s.heap) zB.tabs (Ztab z) id
    have L0 : F.LocOk (nms.zip (vs.map LV.v)) z h₀ (fun x => (nms.zip xs).reverse.lookup x) (fun _ => 0) := by
      refine ⟨?_, ns, ⟨hs.fresh, Frm.Bs_of (by show ntab s.heap s.heap.objs.size = none; unfold ntab; rw [get_fresh]) (get_fresh _)⟩, fun x hx => absurd hx (hnk x), fun x y c hx => absurd hx (hnk x), fun x c _ e => (by cases e), fun x lv e => ?_, fun x y u u' hx _ hu => ?_⟩
      · have : (nms.zip (vs.map LV.v)).map (·.1) = nms := List.map_fst_zip (by rw [List.length_map]; omega)
        rw [this]; exact hnd
      · obtain ⟨v, val, rfl, e2, rz⟩ := zip_bears rl e
        refine ⟨val, .inl ⟨?_, lookup_reverse (by rw [hkeys]; exact hnd) e2⟩, rz⟩
        have : x ∈ nms := by
          have := List.mem_map_of_mem (f := Prod.fst) (lookup_mem e2)
          rw [hkeys] at this; exact this
        exact beq_iff_eq.mp (List.all_eq_true.mp hloc _ this)
      · obtain ⟨v, val, e, _⟩ := zip_bears rl hx
        rw [e] at hu; cases hu
    have R0 : Rep F (nms.zip (vs.map LV.v)) z { s with heap := h₀, toks := s.toks + (nms.zip xs).length } :=
      ⟨fun b o e => kp b o (hs b o e), fun _ _ e => e, fun b o e => kp b o (ntab_some e).1, fun b o e n => (by have n' : z b = none := n; rw [n'] at e; cases e), ⟨fun b o e _ => ⟨o, kp b o e⟩, .refl _, fun _ => rfl, .of_keep kp, fun t => Tabs.keeps t kp, fun t => Tabs.alive t⟩, rfl, rfl, _, _, L0⟩
    have ex : ∀ {z' : Zp} {s' : Shared}, RepE F z' s' → Ext z s z' s' := fun R => R.done rfl rfl rfl rfl rfl id id
    refine noE (h F z _ R0) fun fl s' p => ?_
    cases fl with
    | next => obtain ⟨z', l', R', q⟩ := p; exact ⟨z', .nil, ex R'.end, rfl, q⟩
    | brk => obtain ⟨_, _, _, q⟩ := p; exact q.elim
    | cont => obtain ⟨_, _, _, q⟩ := p; exact q.elim
    | ret x => obtain ⟨z', v, R', rz, q⟩ := p; exact ⟨z', v, ex R', rz, q⟩

/-! attributes -/
theorem getL_some {C : Addr} {z : Zp} {nm : Str} {v : V} : ∀ {ks : List Str} {xs : List Value} {vs : List V} {es : List DictEntry}, FieldsOk ks xs es → RzL C z vs xs → fieldOf nm ks vs = some v → ∃ x, getL nm es = some (some x) ∧ Rz C z v x
  | [], _, _, _, _, _, h => by cases h
  | _ :: _, _, [], _, _, _, h => by cases h
  | q :: ks, xs, v0 :: vs, es, fo, rl, h => by
    obtain ⟨x0, r0, rfl, r1, r2⟩ := rl
    cases es with
    | nil => exact fo.elim
    | cons e es =>
      obtain ⟨h1, ⟨t, ht⟩, fo⟩ := fo
      unfold fieldOf at h
      have hq : e.key.isStr nm = (q == nm) := by rw [ht]; rfl
      by_cases hn : (q == nm) = true
      · rw [if_pos hn] at h
        cases h
        refine ⟨x0, ?_, r1⟩
        unfold getL
        rw [List.find?_cons, hq, hn]
        show some (some e.val) = _
        rw [h1]
      · rw [if_neg hn] at h
        have hn' : (q == nm) = false := by simpa using hn
        obtain ⟨x, g, rz⟩ := getL_some fo r2 h
        refine ⟨x, ?_, rz⟩
        unfold getL at g ⊢
        rw [List.find?_cons, hq, hn']
        cases hf : List.find? (fun x => x.key.isStr nm) es with
        | some e' => rw [hf] at g; exact g
        | none =>
          rw [hf] at g
          exfalso
          dsimp only at g
          split at g <;> cases g

theorem handed_rz {C : Addr} {z : Zp} {v : V} {x : Value} (h : Rz C z v x) (hr : ∀ u, v = .raw u → handedIn u = true) : handedIn x = true := by
  cases v with
  | raw u0 => have e : x = u0 := h; rw [e]; exact hr u0 rfl
  | nil => cases h; rfl
  | bool b => cases h; rfl
  | int i => obtain ⟨t, rfl⟩ := h; rfl
  | str i => obtain ⟨t, rfl⟩ := h; rfl
  | tup vs => obtain ⟨a, xs, rfl, _⟩ := h; rfl
  | lst vs => obtain ⟨a, xs, rfl, _⟩ := h; rfl
  | ins ks vs => obtain ⟨a, d, es, n, xs, rfl, _⟩ := h; rfl
  | obj p d => obtain ⟨rfl, _⟩ := h; rfl
  | rng a b => obtain ⟨p, t, u, v, rfl, _⟩ := h; rfl
  | lam d c => obtain ⟨a, _, _, _, rfl, _⟩ := h; rfl
  | fn d v => obtain ⟨_, _, _, ⟨a, _, _, _, rfl, _⟩, _⟩ := h; rfl

end
end Mine

end
section
open PySem PySem.W PySem.Calls PyProof.Rows
set_option linter.unusedVariables false
set_option maxRecDepth 100000
namespace Mine
section
variable {prog : Program} {w : World} {K : Frag} {G : Gl prog w K} {r : Nat} {sc : Scope} {l : Locs} {k : Kt} {Q : V → Prop}

/-! a part of the heap beside the frame's own: it stays while a body runs -/
noncomputable def Frm.Off (F : Frm G r sc) (l : Locs) (z : Zp) (am : Str → Addr) (b : Addr) : Prop :=
  z b = none ∧ F.Bs b = none ∧ b ≠ F.L ∧ (∀ y c, sc.names.lookup y = some .cell → F.cells.lookup y = some c → c ≠ b) ∧ ∀ x u, l.lookup x = some u → u.mine = true → am x ≠ b
noncomputable def RepO (F : Frm G r sc) (l : Locs) (z : Zp) (s : Shared) (ad : List Addr) : Prop := ∃ m am, RepE F z s ∧ F.LocOk l z s.heap m am ∧ ∀ b ∈ ad, F.Off l z am b
theorem RepO.rep {F : Frm G r sc} {z : Zp} {s : Shared} {ad : List Addr} (R : RepO F l z s ad) : Rep F l z s := let ⟨_, _, E, L, _⟩ := R; E.at L

open Classical in
noncomputable def Frm.inner (F : Frm G r sc) (l : Locs) (am : Str → Addr) (z : Zp) (h : Heap) (zB : ∀ b o, G.zB b = some o → z b = some o) : Frm G r sc :=
  Frm.mk F.L F.cells F.qual F.func F.code F.frame F.A
    (fun b => if b = F.L ∨ (∃ x, sc.names.lookup x = some .cell ∧ F.cells.lookup x = some b) ∨ (∃ x u, l.lookup x = some u ∧ u.mine = true ∧ am x = b) then none else ntab h b) z F.h0 F.g F.dr F.os F.hk zB (fun b o e => by
      split at e
      · cases e
      · exact (ntab_some e).2) F.hh F.room F.tq F.hq (F.zq ∧ Ztab z) (·.2)

section inner
variable {F : Frm G r sc} {z : Zp} {s : Shared} {m : Str → Option Value} {am : Str → Addr}
theorem inner_some {hz : ∀ b o, G.zB b = some o → z b = some o} {h : Heap} {b : Addr} {o : Obj} (e : (F.inner l am z h hz).base b = some o) : h.get? b = some o := by
  unfold Frm.inner at e
  dsimp only at e
  split at e
  · cases e
  · exact (ntab_some e).1
theorem base_inner {hz : ∀ b o, G.zB b = some o → z b = some o} {b : Addr} {o : Obj} (L : F.LocOk l z s.heap m am) (hb : ∃ q, F.Bs b = some q) (e : s.heap.get? b = some o) (t : tabLike o = false) : (F.inner l am z s.heap hz).base b = some o := by
  obtain ⟨q, hb⟩ := hb
  unfold Frm.inner
  dsimp only
  rw [if_neg]
  · exact ntab_of e t
  · rintro (h | ⟨x, hx, hc⟩ | ⟨x, u, hx, hu, h⟩)
    · rw [h, L.fr.2] at hb; cases hb
    · obtain ⟨c, v, e1, _, f, _⟩ := L.ce x hx
      rw [hc] at e1; cases e1
      rw [f.2] at hb; cases hb
    · rw [← h, ((L.ok x _ hx).of hu).1.fr.2] at hb; cases hb
theorem off_inner {hz : ∀ b o, G.zB b = some o → z b = some o} {b : Addr} {o : Obj} (hb : F.Off l z am b) (e : s.heap.get? b = some o) (t : tabLike o = false) : (F.inner l am z s.heap hz).base b = some o := by
  unfold Frm.inner
  dsimp only
  rw [if_neg]
  · exact ntab_of e t
  · rintro (h | ⟨x, hx, hc⟩ | ⟨x, u, hx, hu, h⟩)
    · exact hb.2.2.1 h
    · exact hb.2.2.2.1 x b hx hc rfl
    · exact hb.2.2.2.2 x u hx hu h
theorem inner_rep (E : RepE F z s) (L : F.LocOk l z s.heap m am) (hz : ∀ b o, G.zB b = some o → z b = some o) : Rep (F.inner l am z s.heap hz) l z s := by
  have mt : ∀ b, (b = F.L ∨ (∃ x, sc.names.lookup x = some .cell ∧ F.cells.lookup x = some b) ∨ (∃ x u, l.lookup x = some u ∧ u.mine = true ∧ am x = b)) → F.Bs b = none → (F.inner l am z s.heap hz).Bs b = none := fun b h hb => by
    refine Frm.Bs_of ?_ (F.Bs_none hb).2
    unfold Frm.inner; dsimp only; rw [if_pos h]
  refine ⟨E.sub, fun _ _ e => e, fun b o e => inner_some e, fun b o e n => ?_, ⟨E.gens.was, E.gens.g0, fun h => E.gens.gq h.1, E.gens.gr, E.gens.tabs, E.gens.t0⟩, E.dr, E.os, m, am, L.nd, L.ns, ⟨L.fr.1, mt _ (.inl rfl) L.fr.2⟩, fun y hy => ?_, L.cd, fun x c hx e => ?_, fun x lv hl => ?_, L.ds⟩
  · exact absurd e (by rw [show z b = none from n]; intro h; cases h)
  · obtain ⟨c, v, e, q, f, n⟩ := L.ce y hy
    exact ⟨c, v, e, q, ⟨f.1, mt _ (.inr (.inl ⟨y, hy, e⟩)) f.2⟩, n⟩
  · obtain ⟨o, ho⟩ := L.fe x c hx e
    cases q : (F.inner l am z s.heap hz).Bs c with
    | some o' => exact ⟨o', rfl⟩
    | none =>
      obtain ⟨q1, q2⟩ := Frm.Bs_none q
      have q2 : F.h0.get? c = none := q2
      unfold Frm.Bs at ho
      rw [q2] at ho
      cases hb : F.base c with
      | none => rw [hb] at ho; cases ho
      | some o2 =>
        rw [base_inner L ⟨o2, by unfold Frm.Bs; rw [hb]⟩ (E.base _ _ hb) (F.bT _ _ hb)] at q1; cases q1
  · have q := L.ok x lv hl
    cases hu : lv.mine with
    | true =>
      obtain ⟨⟨f, n1, n2⟩, rest⟩ := q.of hu
      exact .to hu ⟨⟨⟨f.1, mt _ (.inr (.inr ⟨x, lv, hl, hu, rfl⟩)) f.2⟩, n1, n2⟩, rest.1, rest.2.keep (fun _ n => n) rfl⟩
    | false =>
      cases lv with
      | v v => exact q
      | app y => exact q
      | ca _ _ => exact q
      | _ => cases hu

variable {hz : ∀ b o, G.zB b = some o → z b = some o} {z' : Zp} {s' : Shared}
theorem bs_inner (E : RepE F z s) (L : F.LocOk l z s.heap m am) {b : Addr} (h : (F.inner l am z s.heap hz).Bs b = none) : F.Bs b = none := by
  obtain ⟨q1, q2⟩ := Frm.Bs_none h
  refine Frm.Bs_of ?_ q2
  cases hb : F.base b with
  | none => rfl
  | some o2 => rw [base_inner L ⟨o2, by unfold Frm.Bs; rw [hb]⟩ (E.base _ _ hb) (F.bT _ _ hb)] at q1; cases q1
theorem inner_end (E : RepE F z s) (L : F.LocOk l z s.heap m am) (R : RepE (F.inner l am z s.heap hz) z' s') : RepE F z' s' := by
  refine ⟨R.sub, fun b o e => R.zz b o (E.zz b o e), fun b o e => R.base b o (base_inner L ⟨o, by unfold Frm.Bs; rw [e]⟩ (E.base b o e) (F.bT b o e)), fun b o e n => ?_, ⟨R.gens.was, R.gens.g0, fun h => R.gens.gq ⟨h, (F.zqz h).mono E.zz⟩, R.gens.gr, R.gens.tabs, R.gens.t0⟩, R.dr, R.os⟩
  cases q : z b with
  | some o' => exact E.new b o' q n
  | none => exact bs_inner E L (R.new b o e q)
theorem inner_out {l' : Locs} {ad : List Addr} (E : RepE F z s) (L : F.LocOk l z s.heap m am) (O : ∀ b ∈ ad, F.Off l z am b) (al : ∀ b ∈ ad, ∃ o, s.heap.get? b = some o ∧ tabLike o = false) (R : Rep (F.inner l am z s.heap hz) l' z' s') :
    RepO F l' z' s' ad ∧ ∀ b ∈ ad, ∀ o, s.heap.get? b = some o → s'.heap.get? b = some o := by
  obtain ⟨m', am', L'⟩ := R.loc
  have un : ∀ {a}, (F.inner l am z s.heap hz).Fresh z' a → F.Fresh z' a := fun {a} f => ⟨f.1, bs_inner E L f.2⟩
  refine ⟨⟨m', am', inner_end E L R.end, ⟨L'.nd, L'.ns, un L'.fr, fun y hy => ?_, L'.cd, fun x c hx e => L.fe x c hx e, fun x lv hl => ?_, L'.ds⟩, fun b hb => ?_⟩, fun b hb o e => by
    obtain ⟨o', e', t⟩ := al b hb
    rw [e] at e'; cases e'
    exact R.base b o (off_inner (O b hb) e t)⟩
  · obtain ⟨c, v, e, q, f, n⟩ := L'.ce y hy
    exact ⟨c, v, e, q, un f, n⟩
  · have q := L'.ok x lv hl
    cases hu : lv.mine with
    | true =>
      obtain ⟨⟨f, n1, n2⟩, rest⟩ := q.of hu
      exact .to hu ⟨⟨un f, n1, n2⟩, rest.1, rest.2.keep (fun _ n => n) rfl⟩
    | false =>
      cases lv with
      | v v => exact q
      | app y => exact q
      | ca _ _ => exact q
      | _ => cases hu
  · obtain ⟨o, e, t⟩ := al b hb
    have hB := off_inner (hz := hz) (O b hb) e t
    refine ⟨?_, (O b hb).2.1, (O b hb).2.2.1, (O b hb).2.2.2.1, fun x u hx hu q => ?_⟩
    · cases q : z' b with
      | none => rfl
      | some o' => have := (Frm.Bs_none (R.new b o' q (O b hb).1)).1; rw [hB] at this; cases this
    · have := (Frm.Bs_none ((L'.ok x _ hx).of hu).1.fr.2).1
      rw [q, hB] at this; cases this
end inner

/-- growth beside some objects that turn -/
structure ExtI (ad : List Addr) (z : Zp) (s : Shared) (z' : Zp) (s' : Shared) : Prop where
  zz : ∀ b o, z b = some o → z' b = some o
  sub : Sub z' s'.heap
  keep : ∀ b o, b ∉ ad → s.heap.get? b = some o → s'.heap.get? b = some o
  new : ∀ b o, z' b = some o → z b = none → s.heap.get? b = none
  gens : s'.gens = s.gens
  dr : s'.drawn = s.drawn
  os : s'.os = s.os
theorem RepO.next {F : Frm G r sc} {z z' : Zp} {s s' : Shared} {ad : List Addr} (R : RepO F l z s ad) (al : ∀ b ∈ ad, ∃ o, s.heap.get? b = some o ∧ tabLike o = false) (x : ExtI ad z s z' s') : RepO F l z' s' ad := by
  obtain ⟨m, am, E, L, O⟩ := R
  have fr : ∀ {a o}, s.heap.get? a = some o → z a = none → z' a = none := fun {a o} ha hz => by
    cases q : z' a with
    | none => rfl
    | some o' => rw [x.new a o' q hz] at ha; cases ha
  have nL : F.L ∉ ad := fun h => (O _ h).2.2.1 rfl
  have nz : ∀ {b o}, z b = some o → b ∉ ad := fun e h => by rw [(O _ h).1] at e; cases e
  have nB : ∀ {b o}, F.Bs b = some o → b ∉ ad := fun e h => by rw [(O _ h).2.1] at e; cases e
  have nb : ∀ {b o}, F.base b = some o → b ∉ ad := fun {b o} e h => by rw [(F.Bs_none (O _ h).2.1).1] at e; cases e
  have n0 : ∀ {b o}, F.h0.get? b = some o → b ∉ ad := fun {b o} e h => by rw [(F.Bs_none (O _ h).2.1).2] at e; cases e
  have nm : ∀ {y vy}, F.Nm m s.heap y vy → F.Nm m s'.heap y vy := fun {y vy} n => by
    rcases n with n | ⟨n, c, e, o, ho, hd⟩
    · exact .inl n
    · refine .inr ⟨n, c, e, o, x.keep c o (fun h => ?_) ho, hd⟩
      rcases n with n | n
      · exact (O _ h).2.2.2.1 y c n e rfl
      · obtain ⟨q, hq⟩ := L.fe y c n e
        exact nB hq h
  refine ⟨m, am, ⟨x.sub, fun b o e => x.zz b o (E.zz b o e), fun b o e => x.keep b o (nb e) (E.base b o e), fun b o e n => ?_, ?_, x.dr.trans E.dr, x.os.trans E.os⟩,
    ⟨L.nd, ?_, ?_, fun y hy => ?_, L.cd, L.fe, fun y lv hl => ?_, L.ds⟩, fun b hb => ?_⟩
  · cases q : z b with
    | some o' => exact E.new b o' q n
    | none =>
      have hn := x.new b o e q
      cases q2 : F.Bs b with
      | none => rfl
      | some o2 =>
        obtain ⟨o3, h3⟩ := E.there q2
        rw [h3] at hn; cases hn
  · refine ⟨fun b o e t => let ⟨o', ho'⟩ := E.gens.was b o e t; ⟨o', x.keep _ _ (n0 e) ho'⟩, x.gens ▸ E.gens.g0, fun h => x.gens.trans (E.gens.gq h), ⟨fun b o e t => ?_⟩, fun h => (E.gens.tabs h).move x.zz (fun c _ e ⟨_, ho⟩ => fr ho e) fun c hc => ?_, E.gens.t0⟩
    · rcases E.gens.gr.at_ b o e t with e' | ⟨p1, p2, vs, more, p3, e'⟩
      · exact .inl (x.keep _ _ (n0 e) e')
      · exact .inr ⟨p1, p2, vs, more, p3, x.keep _ _ (n0 e) e'⟩
    · obtain ⟨⟨o1, e1⟩, ⟨o2, e2⟩⟩ := E.gens.t0 h c hc
      exact ⟨(x.keep _ · (n0 e1)), (x.keep _ · (n0 e2))⟩
  · obtain ⟨o, es, ep, ho, rest⟩ := L.ns
    exact ⟨o, es, ep, x.keep _ _ nL ho, rest⟩
  · obtain ⟨o, _, _, ho, _⟩ := L.ns
    exact ⟨fr ho L.fr.1, L.fr.2⟩
  · obtain ⟨c, v, e, ⟨o, ho, hd⟩, f, n⟩ := L.ce y hy
    exact ⟨c, v, e, ⟨o, x.keep _ _ (fun h => (O _ h).2.2.2.1 y c hy e rfl) ho, hd⟩, ⟨fr ho f.1, f.2⟩, n⟩
  · have q := L.ok y lv hl
    cases hu : lv.mine with
    | true =>
      obtain ⟨⟨f, n1, n2⟩, c, t⟩ := q.of hu
      obtain ⟨o, ho⟩ := c.alive hu
      exact .to hu ⟨⟨⟨fr ho f.1, f.2⟩, n1, n2⟩, c.mono x.zz fun o' e _ => x.keep _ o' (fun h => (O _ h).2.2.2.2 y lv hl hu rfl) e, t.keep (fun _ n => nm n) rfl⟩
    | false =>
      cases lv with
      | v v => obtain ⟨val, n, rz⟩ := q; exact ⟨val, nm n, rz.mono x.zz⟩
      | app y' => obtain ⟨a, o, n, za, ap⟩ := q; exact ⟨a, o, nm n, x.zz _ _ za, ap⟩
      | ca _ _ => exact q
      | _ => cases hu
  · obtain ⟨o, ho, _⟩ := al b hb
    obtain ⟨q, rest⟩ := O b hb
    exact ⟨fr ho q, rest⟩

/-! for -/
/-- an iterator that hands out deep values -/
structure DIt (G : Gl prog w K) (A : Around) (tgt : Expr) (I : Value) (ad : List Addr) (z : Zp) (vs : List V) (St : Nat → Heap → Prop) : Prop where
  alive : ∀ i h, St i h → ∀ b ∈ ad, ∃ o, h.get? b = some o ∧ tabLike o = false
  keep : ∀ i h h', St i h → (∀ b ∈ ad, ∀ o, h.get? b = some o → h'.get? b = some o) → Sub z h' → St i h'
  item : ∀ i v, vs[i]? = some v → ∀ z' s, (∀ b o, z b = some o → z' b = some o) → Sub z' s.heap → St i s.heap → (∀ b ∈ ad, z' b = none) →
    wpAny (model prog w) A (pyNext I) (fun o s₁ => ∃ x, o = some x ∧ wpAny (model prog w) A (letOwnedTupleGo tgt I x) (fun _ s₂ => ∃ z'', ExtI ad z' s z'' s₂ ∧ Rz G.C z'' v x ∧ St (i + 1) s₂.heap) (fun _ _ => False) s₁) (fun _ _ => False) s
  done : ∀ z' s, (∀ b o, z b = some o → z' b = some o) → Sub z' s.heap → St vs.length s.heap → (∀ b ∈ ad, z' b = none) →
    wpAny (model prog w) A (pyNext I) (fun o s₁ => o = none ∧ ExtI ad z' s z' s₁) (fun _ _ => False) s

/-- an assignment to a target -/
noncomputable def WAs (G : Gl prog w K) (r : Nat) (sc : Scope) (l : Locs) (tgt : Expr) (v : V) (P : Locs → Prop) : Prop :=
  ∀ (F : Frm G r sc) z s x, Rep F l z s → Rz G.C z v x → wpAny (model prog w) F.A (assign tgt F.env x) (fun _ s' => ∃ z' l', (∀ b o, z b = some o → z' b = some o) ∧ Rep F l' z' s' ∧ P l') (fun _ _ => False) s

/-- a for over these values -/
noncomputable def WF (G : Gl prog w K) (r : Nat) (sc : Scope) (tgt : Expr) (body orelse : List Stmt) (k : Kt) : List V → Locs → Prop
  | [], l => WS G r sc l orelse k
  | v :: vs, l => WAs G r sc l tgt v fun l' => WS G r sc l' body { nx := WF G r sc tgt body orelse k vs, ct := WF G r sc tgt body orelse k vs, bk := k.nx, rt := k.rt }

theorem for_run {F : Frm G r sc} {tgt : Expr} {I : Value} {ad : List Addr} {z₀ : Zp} {vs : List V} {St : Nat → Heap → Prop} {body orelse : List Stmt} (D : DIt G F.A tgt I ad z₀ vs St)
    {z : Zp} {s : Shared} (hz : ∀ b o, z₀ b = some o → z b = some o) (R : RepO F l z s ad) (hst : St 0 s.heap) (h : WF G r sc tgt body orelse k vs l) :
    codeAny (model prog w) F.A (.forLoop tgt I body orelse F.env) (fun r s' => match r with | .ok f => Post F k f s' | .error _ => False) s := by
  refine codeAny_forLoop_any (fun n s' => ∃ i l' z', (∀ b o, z₀ b = some o → z' b = some o) ∧ RepO F l' z' s' ad ∧ St i s'.heap ∧ i ≤ vs.length ∧ n = vs.length + 1 - i ∧ WF G r sc tgt body orelse k (vs.drop i) l') ?_ (vs.length + 1)
    ⟨0, l, z, hz, R, hst, Nat.zero_le _, rfl, h⟩
  rintro n s' ⟨i, l', z', hz', R', st, hi, hn, hw⟩
  have al := D.alive i _ st
  have adz : ∀ b ∈ ad, z' b = none := fun b hb => by obtain ⟨m, am, _, _, O⟩ := R'; exact (O b hb).1
  cases hv : vs[i]? with
  | none =>
    have hi' : i = vs.length := Nat.le_antisymm hi (by simpa using hv)
    subst hi'
    rw [List.drop_length] at hw
    refine noE (D.done z' s' hz' R'.rep.sub st adz) fun o s₁ ⟨ho, ex⟩ => ?_
    subst ho
    exact noE (hw F z' s₁ (R'.next al ex).rep) fun f s₃ p => p
  | some v =>
    have hlt : i < vs.length := by
      rcases Nat.lt_or_ge i vs.length with h | h
      · exact h
      · rw [List.getElem?_eq_none h] at hv; cases hv
    have hd : vs.drop i = v :: vs.drop (i + 1) := by
      rw [List.drop_eq_getElem_cons hlt]
      congr 1
      rw [List.getElem?_eq_getElem hlt] at hv
      exact Option.some.inj hv
    rw [hd] at hw
    refine noE (D.item i v hv z' s' hz' R'.rep.sub st adz) fun o s₁ ⟨x, ho, hgo⟩ => ?_
    subst ho
    dsimp only
    refine noE hgo fun _ s₂ ⟨z₂, ex, rz, st₂⟩ => ?_
    have R₂ := R'.next al ex
    have hz₂ : ∀ b o, z₀ b = some o → z₂ b = some o := fun b o e => ex.zz b o (hz' b o e)
    obtain ⟨m, am, E, L, O⟩ := R₂
    have zB₂ := (E.at L).zBsub
    have al₂ := D.alive _ _ st₂
    refine noE (hw (F.inner l' am z₂ s₂.heap zB₂) z₂ s₂ x (inner_rep E L zB₂) rz) fun _ s₃ ⟨z₃, l₃, _, R₃, hw₃⟩ => ?_
    refine noE (hw₃ (F.inner l' am z₂ s₂.heap zB₂) z₃ s₃ R₃) fun f s₄ p => ?_
    have next : ∀ {l₄ z₄}, Rep (F.inner l' am z₂ s₂.heap zB₂) l₄ z₄ s₄ → WF G r sc tgt body orelse k (vs.drop (i + 1)) l₄ → ∃ m, m < n ∧ ∃ i l' z', (∀ b o, z₀ b = some o → z' b = some o) ∧ RepO F l' z' s₄ ad ∧ St i s₄.heap ∧ i ≤ vs.length ∧ m = vs.length + 1 - i ∧ WF G r sc tgt body orelse k (vs.drop i) l' := by
      intro l₄ z₄ R₄ hw₄
      obtain ⟨RO, kp⟩ := inner_out E L O al₂ R₄
      have hz₄ : ∀ b o, z₀ b = some o → z₄ b = some o := fun b o e => R₄.zz b o (hz₂ b o e)
      exact ⟨vs.length + 1 - (i + 1), by omega, i + 1, l₄, z₄, hz₄, RO, D.keep _ _ _ st₂ kp (fun b o e => R₄.sub b o (hz₄ b o e)), hlt, rfl, hw₄⟩
    cases f with
    | next => obtain ⟨z₄, l₄, R₄, q⟩ := p; exact next R₄ q
    | cont => obtain ⟨z₄, l₄, R₄, q⟩ := p; exact next R₄ q
    | brk => obtain ⟨z₄, l₄, R₄, q⟩ := p; exact ⟨z₄, l₄, (inner_out E L O al₂ R₄).1.rep, q⟩
    | ret y => obtain ⟨z₄, v₄, R₄, rz₄, q⟩ := p; exact ⟨z₄, v₄, inner_end E L R₄, rz₄, q⟩

theorem WAs_name {x : Str} {p : Pos} {v : V} {P : Locs → Prop} (h : P (put l x (.v v))) (hx : stored sc x = true := by rfl) : WAs G r sc l (.Name x p) v P := fun F z s val R rz =>
  wpAny_assign_Name (R.storeV (stored_or hx) rz fun s₂ R₂ => ⟨z, _, fun _ _ e => e, R₂, h⟩)

/-- the heap's own new objects stand beside the frame -/
theorem Rep.beside {F : Frm G r sc} {z : Zp} {s : Shared} {z' : Zp} {s' : Shared} {ad : List Addr} (R : Rep F l z s) (x : Ext z s z' s') (hn : ∀ b ∈ ad, s.heap.get? b = none ∧ z' b = none) : RepO F l z' s' ad := by
  obtain ⟨m, am, L⟩ := R.loc
  refine ⟨m, am, R.end.ext x, L.ext x, fun b hb => ⟨(hn b hb).2, ?_, ?_, ?_, ?_⟩⟩
  · cases q : F.Bs b with
    | none => rfl
    | some o =>
      obtain ⟨o', ho'⟩ := R.end.there q
      rw [(hn b hb).1] at ho'; cases ho'
  · obtain ⟨o, _, _, ho, _⟩ := L.ns
    intro e; rw [← e, (hn b hb).1] at ho; cases ho
  · intro y c hy e
    obtain ⟨c', v, e', ⟨o, ho, _⟩, _⟩ := L.ce y hy
    rw [e] at e'; cases e'
    intro q; rw [q, (hn b hb).1] at ho; cases ho
  · intro y u hl hu q
    obtain ⟨o, ho⟩ := ((L.ok y _ hl).of hu).2.1.alive hu
    rw [q, (hn b hb).1] at ho; cases ho

/-- over a list -/
theorem letOwned_plain {A : Around} {tgt : Expr} {it : Addr} {o : Obj} {x : Value} {s : Shared} {P : Unit → Shared → Prop} {n : String} (ho : s.heap.get? it = some o) (hc : o.cls = .type n)
    (hn : (["enumerate", "zip", "dict_itemiterator", "dict_reverseitemiterator", "odict_iterator", "itertools.zip_longest", "itertools.pairwise"] : List String).contains n = false) (h : P () s) :
    wpAny (model prog w) A (letOwnedTupleGo tgt (.ref it) x) P (fun _ _ => False) s := by
  have go : wpAny (model prog w) A (do
      let (.ref r, .ref a) := ((Value.ref it, x) : Value × Value) | return ()
      let o ← load r
      match o.cls, o.data with
      | .type n, .fields vs =>
        if ["enumerate", "zip", "dict_itemiterator", "dict_reverseitemiterator", "odict_iterator", "itertools.zip_longest", "itertools.pairwise"].contains n && vs[0]? == some (rawInt a) then
          rule "for.unpacks-the-owned-tuple"
          updateField r 0 .none
      | _, _ => pure () : Sem Unit) P (fun _ _ => False) s := by
    cases x <;> first | exact wpAny_pure h | skip
    refine wpAny_bind (wpAny_load ho ?_)
    rw [hc]
    cases o.data <;> first | exact wpAny_pure h | skip
    dsimp only
    rw [if_neg (by rw [hn]; simp)]
    exact wpAny_pure h
  cases tgt <;> first | exact wpAny_pure h | exact go

theorem DIt.list {A : Around} (hh : A.handled = none) {tgt : Expr} {it a : Addr} {xs : List Value} {vs : List V} {z : Zp} (ha : SeqIs "list" (z a) xs) (rl : RzL G.C z vs xs) (hne : z it = none) :
    DIt G A tgt (.ref it) [it] z vs (fun i h => h.IsListIter it a i ∧ h.IsList a xs.toArray) := by
  obtain ⟨o, ep, e, e1, e2, e3⟩ := ha
  have ne : a ≠ it := fun q => by rw [q, hne] at e; cases e
  refine ⟨fun i h st b hb => ?_, fun i h h' st kp sub => ⟨st.1.at fun o e => kp it (by simp) o e, ⟨o, sub _ _ e, e1, ep, e3⟩⟩, fun i v hv z' s hz hs st had => ?_, fun z' s hz hs st had => ?_⟩
  · obtain ⟨⟨o, ho, hc, _⟩, _⟩ := st
    rw [List.mem_singleton.mp hb]; exact ⟨o, ho, notTab_cls (by rw [hc]; exact fun q => by cases q)⟩
  · obtain ⟨x, hx, rz⟩ := rl.get i v hv
    refine wpAny_pyNext_list_item st.1 st.2 (x := x) (by simpa using hx) fun h' hit' sb => ⟨x, rfl, ?_⟩
    obtain ⟨oi, hoi, hci, _⟩ := id hit'
    have kp : ∀ b o, b ∉ [it] → s.heap.get? b = some o → h'.get? b = some o := fun b o nb e => (sb.2 b (by simpa using nb)).trans e
    exact letOwned_plain hoi hci (by decide) ⟨z', ⟨fun _ _ e => e, fun b o e => kp b o (fun q => by rw [had b q] at e; cases e) (hs b o e), kp, fun b o e n => (by rw [n] at e; cases e), rfl, rfl, rfl⟩, rz.mono hz, hit', st.2.extBut sb.extBut ne⟩
  · refine wpAny_pyNext_list_end hh st.1 st.2 (by simp [rl.length]) fun h' eb => ⟨rfl, ?_⟩
    have kp : ∀ b o, b ∉ [it] → s.heap.get? b = some o → h'.get? b = some o := fun b o nb e => eb b o (by simpa using nb) e
    exact ⟨fun _ _ e => e, fun b o e => kp b o (fun q => by rw [had b q] at e; cases e) (hs b o e), kp, fun b o e n => (by rw [n] at e; cases e), rfl, rfl, rfl⟩
theorem DIt.tuple {A : Around} (hh : A.handled = none) {tgt : Expr} {it a : Addr} {xs : List Value} {vs : List V} {z : Zp} (ha : SeqIs "tuple" (z a) xs) (rl : RzL G.C z vs xs) (hne : z it = none) :
    DIt G A tgt (.ref it) [it] z vs (fun i h => h.IsTupleIter it a i ∧ h.IsTuple a xs.toArray) := by
  obtain ⟨o, ep, e, e1, e2, e3⟩ := ha
  have ne : a ≠ it := fun q => by rw [q, hne] at e; cases e
  refine ⟨fun i h st b hb => ?_, fun i h h' st kp sub => ⟨?_, ⟨o, sub _ _ e, e1, ep, e3⟩⟩, fun i v hv z' s hz hs st had => ?_, fun z' s hz hs st had => ?_⟩
  · obtain ⟨⟨o, ho, hc, _⟩, _⟩ := st
    rw [List.mem_singleton.mp hb]; exact ⟨o, ho, notTab_cls (by rw [hc]; exact fun q => by cases q)⟩
  · obtain ⟨o, ho, r⟩ := st.1
    exact ⟨o, kp it (by simp) o ho, r⟩
  · obtain ⟨x, hx, rz⟩ := rl.get i v hv
    refine wpAny_pyNext_tuple_item st.1 st.2 (x := x) (by simpa using hx) fun h' hit' sb => ⟨x, rfl, ?_⟩
    obtain ⟨oi, hoi, hci, _⟩ := id hit'
    have kp : ∀ b o, b ∉ [it] → s.heap.get? b = some o → h'.get? b = some o := fun b o nb e => (sb.2 b (by simpa using nb)).trans e
    exact letOwned_plain hoi hci (by decide) ⟨z', ⟨fun _ _ e => e, fun b o e => kp b o (fun q => by rw [had b q] at e; cases e) (hs b o e), kp, fun b o e n => (by rw [n] at e; cases e), rfl, rfl, rfl⟩, rz.mono hz, hit', st.2.extBut sb.extBut ne⟩
  · refine wpAny_pyNext_tuple_end hh st.1 st.2 (by simp [rl.length]) fun h' eb => ⟨rfl, ?_⟩
    have kp : ∀ b o, b ∉ [it] → s.heap.get? b = some o → h'.get? b = some o := fun b o nb e => eb b o (by simpa using nb) e
    exact ⟨fun _ _ e => e, fun b o e => kp b o (fun q => by rw [had b q] at e; cases e) (hs b o e), kp, fun b o e n => (by rw [n] at e; cases e), rfl, rfl, rfl⟩

noncomputable def noSet : Expr → Bool
  | .Set .. => false
  | _ => true
theorem folded_no {e : Expr} (h : noSet e = true) (env : Env) (x : Value) : foldedSetIterable e env x = pure x := by
  cases e <;> first | rfl | cases h

theorem cameBack {A : Around} {env : Env} {P : Flow → Shared → Prop} {E : Value → Shared → Prop} {c : Code} {s : Shared} (h : codeAny (model prog w) A c (fun r s' => match r with | .ok f => P f s' | .error _ => False) s) :
    codeAny (model prog w) A c (fun r s' => match r with | .ok f => P f s' | .error e => cameBackBy (model prog w) A env E e s') s := codeAny_mono h fun r s' q => by
  cases r with
  | ok f => exact q
  | error e => exact q.elim

end
end Mine

end
section
open PySem PySem.W PySem.Calls PyProof.Rows
open AutoSeq1 (wpAny_loadPart')
set_option linter.unusedVariables false
set_option maxRecDepth 100000
namespace Mine

/-! iterators of lists and tuples alike -/
noncomputable def ItN (T : String) : String := if T = "list" then "list_iterator" else "tuple_iterator"
noncomputable def IsIt (T : String) (h : Heap) (it a : Addr) (i : Nat) : Prop := ∃ o, h.get? it = some o ∧ o.cls = .type (ItN T) ∧ o.data = .fields #[.ref a, .int i 0]
noncomputable abbrev LT (T : String) : Prop := T = "list" ∨ T = "tuple"
section
variable {prog : Program} {w : World} {A : Around} {E : Value → Shared → Prop} {s : Shared}
theorem IsIt.at {T : String} {h h' : Heap} {it a : Addr} {i : Nat} (x : IsIt T h it a i) (k : ∀ o, h.get? it = some o → h'.get? it = some o) : IsIt T h' it a i :=
  let ⟨o, e, r⟩ := x; ⟨o, k o e, r⟩
theorem isList_of {h : Heap} {a : Addr} {xs : List Value} (p : SeqIs "list" (h.get? a) xs) : h.IsList a xs.toArray := let ⟨o, n, e, e1, e2, e3⟩ := p; ⟨o, e, e1, n, e3⟩
theorem isTuple_of {h : Heap} {a : Addr} {xs : List Value} (p : SeqIs "tuple" (h.get? a) xs) : h.IsTuple a xs.toArray := let ⟨o, n, e, e1, e2, e3⟩ := p; ⟨o, e, e1, n, e3⟩

theorem nextOf_tuple_item {it l : Addr} {i : Nat} {items} {x : Value} {Q : Value → Shared → Prop} (hit : IsIt "tuple" s.heap it l i)
    (hl : s.heap.IsTuple l items) (hx : items[i]? = some x)
    (hQ : ∀ h', IsIt "tuple" h' it l (i + 1) → Heap.SameBut it s.heap h' → Q x { s with heap := h' }) :
    wpAny (model prog w) A (Builtin.SmallTypes.nextOf (.ref it)) Q E s := by
  obtain ⟨o, ho, hc, hd⟩ := id hit
  obtain ⟨ol, hol, _, nl, hdl⟩ := hl
  have hty : s.TypeIs (.ref it) "tuple_iterator" := ⟨o, ho, hc⟩
  unfold Builtin.SmallTypes.nextOf
  refine wpAny_bind (wpAny_callSpecial?_slot (name := Str.ofString "__next__") hty F.slot_tuple_iterator_next
    (wpAny_call_entry F.slot_tuple_iterator_next hty F.entry_tuple_iterator_next ?_ (F.args_tuple_iterator_next_1 _)))
  show wpAny _ _ (field (.ref it) 0 >>= _) _ _ s
  refine wpAny_bind (wpAny_field ho hd (x := .ref l) rfl ?_)
  show wpAny _ _ (if (Value.ref l == Value.none) = true then _ else _) _ _ s
  rw [if_neg (show ¬ ((Value.ref l == Value.none) = true) from Bool.false_ne_true)]
  show wpAny _ _ (field (.ref it) 1 >>= _) _ _ s
  refine wpAny_bind (wpAny_field ho hd (x := .int i 0) rfl ?_)
  show wpAny _ _ (seqItems? (.ref l) >>= _) _ _ s
  refine wpAny_bind (wpAny_seqItems hol hdl ?_)
  simp only [Int.toNat_natCast, hx]
  refine wpAny_bind (wpAny_setField ho hd (by simp) (wpAny_pure ⟨x, rfl, wpAny_pure (hQ _ ?_ (Heap.SameBut.update ..))⟩))
  exact ⟨_, Heap.get?_update_self _ ho (Obj.isFreed_of_fields (Obj.data_mapFields hd _)), (Obj.cls_mapFields ..).trans hc, by
    rw [Obj.data_mapFields hd]; simp [rawInt]⟩

theorem nextOf_tuple_end {it l : Addr} {i : Nat} {items} {Q : Value → Shared → Prop} (hh : A.handled = none) (hit : IsIt "tuple" s.heap it l i)
    (hl : s.heap.IsTuple l items) (hx : items[i]? = none)
    (hE : ∀ h' e, Heap.ExtBut it s.heap h' → (∃ o, h'.get? e = some o ∧ o.cls = .type "StopIteration") → E (.ref e) { s with heap := h' }) :
    wpAny (model prog w) A (Builtin.SmallTypes.nextOf (.ref it)) Q E s := by
  obtain ⟨o, ho, hc, hd⟩ := id hit
  obtain ⟨ol, hol, _, nl, hdl⟩ := hl
  have hty : s.TypeIs (.ref it) "tuple_iterator" := ⟨o, ho, hc⟩
  unfold Builtin.SmallTypes.nextOf
  refine wpAny_bind (wpAny_callSpecial?_slot (name := Str.ofString "__next__") hty F.slot_tuple_iterator_next
    (wpAny_call_entry F.slot_tuple_iterator_next hty F.entry_tuple_iterator_next ?_ (F.args_tuple_iterator_next_1 _)))
  show wpAny _ _ (field (.ref it) 0 >>= _) _ _ s
  refine wpAny_bind (wpAny_field ho hd (x := .ref l) rfl ?_)
  show wpAny _ _ (if (Value.ref l == Value.none) = true then _ else _) _ _ s
  rw [if_neg (show ¬ ((Value.ref l == Value.none) = true) from Bool.false_ne_true)]
  show wpAny _ _ (field (.ref it) 1 >>= _) _ _ s
  refine wpAny_bind (wpAny_field ho hd (x := .int i 0) rfl ?_)
  show wpAny _ _ (seqItems? (.ref l) >>= _) _ _ s
  refine wpAny_bind (wpAny_seqItems hol hdl ?_)
  simp only [Int.toNat_natCast, hx]
  refine wpAny_bind (wpAny_rule (wpAny_bind (wpAny_setField ho hd (by simp) ?_)))
  show wpAny _ _ (newExc (.type "StopIteration") [] >>= _) _ _ _
  refine wpAny_bind ?_
  simp only [newExc, newTuple]
  refine wpAny_bind (wpAny_newObj_type ?_ (by size_fits))
  refine wpAny_bind (m := firstArgMember _ _) (wpAny_of_eq (a := Value.none) (by first | rfl | (simp only [firstArgMember]; rfl)) ?_)
  refine wpAny_newObj_type ?_ (by size_fits)
  simp only [raiseNew]
  refine wpAny_bind (wpAny_handled ?_)
  first | rw [show A.in1.handled = none from hh] | rw [hh]
  refine wpAny_bind (wpAny_pure (wpAny_throw ?_))
  exact hE _ _ (((Heap.SameBut.update ..).extBut.push _).push _) ⟨_, Heap.get?_push_size _ rfl, rfl⟩

theorem seq_draws {T : String} (hT : LT T) (hh : A.handled = none) (it a : Addr) (hne : a ≠ it) (xs : List Value) :
    Draws prog w A it [it, a] xs.length (fun i v => xs[i]? = some v) (fun i h => IsIt T h it a i ∧ SeqIs T (h.get? a) xs) where
  live := fun _ _ st => let ⟨o, ho, _⟩ := st.1; ⟨o, ho⟩
  frame := fun _ _ _ st hk => ⟨st.1.at fun o e => hk it (by simp) o e, st.2.mono fun o e => hk a (by simp) o e⟩
  item := fun i s Q E hi st hQ => by
    rcases hT with rfl | rfl
    · refine wpAny_nextOf_list_item st.1 (isList_of st.2) (x := xs[i]) (by simp [hi]) fun h' hit' hs' => ?_
      exact hQ _ h' s.toks (by simp [hi]) ⟨hit', st.2.mono fun o e => hs'.extBut _ _ hne e⟩ hs'
    · refine nextOf_tuple_item st.1 (isTuple_of st.2) (x := xs[i]) (by simp [hi]) fun h' hit' hs' => ?_
      exact hQ _ h' s.toks (by simp [hi]) ⟨hit', st.2.mono fun o e => hs'.extBut _ _ hne e⟩ hs'
  done := fun s Q E st hE => by
    rcases hT with rfl | rfl
    · exact wpAny_nextOf_list_end hh st.1 (isList_of st.2) (by simp) hE
    · exact nextOf_tuple_end hh st.1 (isTuple_of st.2) (by simp) hE


/-! enumerate -/

theorem meets_enum_tup (l : Addr) (items : Array Value) (n : Nat) (dct : Option Addr) (sl : Array (Option Value)) :
    Meets (Builtin.«enumerate.__new__» ⟨[.type "enumerate", .ref l], []⟩) (fun _ R s => s.heap.get? l = some { cls := .type "tuple", dict := dct, data := .seq items n, slots := sl } ∧
      R (.ok (.ret (.ref (s.heap.push { cls := .type "tuple_iterator", data := .fields #[.ref l, .int 0 0] }).objs.size)))
        { s with heap := (s.heap.push { cls := .type "tuple_iterator", data := .fields #[.ref l, .int 0 0] }).push { cls := .type "enumerate", data := .fields #[.none, .bool false, .ref s.heap.objs.size, rawInt 0, .none, .none] } }) :=
  .of_wp fun prog w A R s h => by
    obtain ⟨hp, g, d, tk, os⟩ := s; obtain ⟨hl, h⟩ := h
    have hsub := sub_enumerate
    have hL : Heap.IsTuple (Shared.heap ⟨hp, g, d, tk, os⟩) l items := ⟨_, hl, rfl, n, rfl⟩
    wp_walk using wpAny_loadPart' hl
    refine wpAny_stack_any fun st => wpAny_pure ?_
    split
    · rename_i c _ _ _ _ _
      cases (c == Value.type "enumerate")
      · wp_walk using wpAny_loadPart' hl, wpAny_pyIter_tuple hL
        exact ⟨_, rfl, h⟩
      · wp_walk using wpAny_loadPart' hl, wpAny_pyIter_tuple hL
        exact ⟨_, rfl, h⟩
    · wp_walk using wpAny_loadPart' hl, wpAny_pyIter_tuple hL
      exact ⟨_, rfl, h⟩

theorem call_enum {T : String} (hT : LT T) {l : Addr} {xs : List Value} {Q : Value → Shared → Prop} (hl : SeqIs T (s.heap.get? l) xs)
    (h : ∀ h', IsEnum h' (s.heap.objs.size + 1) s.heap.objs.size 0 .none → IsIt T h' s.heap.objs.size l 0 → h'.objs.size = s.heap.objs.size + 2 →
      (∀ b o, s.heap.get? b = some o → h'.get? b = some o) → Q (.ref (s.heap.objs.size + 1)) { s with heap := h' }) :
    wpAny (model prog w) A (call (.type "enumerate") [.ref l]) Q E s := by
  have fin : ∀ (o : Obj), o.isFreed = false → o = { cls := .type (ItN T), data := .fields #[.ref l, .int 0 0] } →
      let h' := (s.heap.push o).push { cls := .type "enumerate", data := .fields #[.none, .bool false, .ref s.heap.objs.size, rawInt 0, .none, .none] }
      (∃ ob : Obj, h'.get? (s.heap.push o).objs.size = some ob ∧ ob.cls = .type "enumerate") ∧ Q (.ref (s.heap.push o).objs.size) { s with heap := h' } := by
    intro o hf ho h'
    have hz : (s.heap.push o).objs.size = s.heap.objs.size + 1 := Heap.size_push ..
    have he : IsEnum h' (s.heap.objs.size + 1) s.heap.objs.size 0 .none := by
      have := Heap.get?_push_size (s.heap.push o) (o := { cls := .type "enumerate", data := .fields #[.none, .bool false, .ref s.heap.objs.size, rawInt 0, .none, .none] }) rfl
      rw [hz] at this; exact this
    rw [hz]
    exact ⟨⟨_, he, rfl⟩, h h' he ⟨o, Heap.get?_push_of_some _ (Heap.get?_push_size _ hf), by rw [ho], by rw [ho]; rfl⟩ (by show (Heap.push _ _).objs.size = _; rw [Heap.size_push, hz]) fun b o x => Heap.get?_push_of_some _ (Heap.get?_push_of_some _ x)⟩
  obtain ⟨⟨c, dct, dt, sl⟩, n, e, e1, e2, e3⟩ := hl
  dsimp only at e1 e2 e3
  subst e1 e3
  rcases hT with rfl | rfl
  · exact callType_new F.called_enumerate (by decide) (F.typeCall_enumerate_1 _) (F.newCall_enumerate_1 _) (fun obj => F.args_object_init_2 obj _) F.entry_enumerate_new
      (meets_enumerate_newL l _ n dct sl) ⟨e, fin { cls := .type "list_iterator", data := .fields #[.ref l, .int 0 0] } rfl rfl⟩
  · exact callType_new F.called_enumerate (by decide) (F.typeCall_enumerate_1 _) (F.newCall_enumerate_1 _) (fun obj => F.args_object_init_2 obj _) F.entry_enumerate_new
      (meets_enum_tup l _ n dct sl) ⟨e, fin { cls := .type "tuple_iterator", data := .fields #[.ref l, .int 0 0] } rfl rfl⟩
end
end Mine

end
section
open PySem PySem.W PySem.Calls PyProof.Rows
set_option linter.unusedVariables false
set_option maxRecDepth 100000
namespace Mine
section
variable {prog : Program} {w : World} {A : Around} {E : Value → Shared → Prop} {s : Shared}

/-! zip of two sequences of any kind: like ZipIter's proofs, over Draws -/


variable {z TI TO i1 i2 : Addr} {n1 n2 k : Nat} {P1 P2 : Nat → Value → Prop} {S1 S2 : Nat → Heap → Prop} {f1 f2 : List Addr} {a b : Value}






end
end Mine

end
section
open PySem PySem.W PySem.Calls PyProof.Rows
set_option linter.unusedVariables false
set_option maxRecDepth 100000
namespace Mine
noncomputable def isTup : Expr → Bool
  | .Tuple .. => true
  | _ => false
/-- the values with their places -/
noncomputable def enumV : Nat → List V → List V
  | _, [] => []
  | i, v :: vs => .tup [.int i, v] :: enumV (i + 1) vs
theorem enumV_get {v : V} : ∀ {vs : List V} {j i : Nat}, (enumV j vs)[i]? = some v → ∃ u, vs[i]? = some u ∧ v = .tup [.int ((j + i : Nat) : Int), u]
  | [], j, i, h => by simp [enumV] at h
  | u :: vs, j, 0, h => by
    simp [enumV] at h; exact ⟨u, by simp, h.symm⟩
  | u :: vs, j, i + 1, h => by
    simp only [enumV, List.getElem?_cons_succ] at h ⊢
    obtain ⟨u', e1, e2⟩ := enumV_get h
    exact ⟨u', e1, by rw [e2, show j + 1 + i = j + (i + 1) by omega]⟩
theorem enumV_length : ∀ {vs : List V} {j : Nat}, (enumV j vs).length = vs.length
  | [], _ => rfl
  | _ :: vs, j => by simp [enumV, enumV_length (vs := vs)]

section
variable {prog : Program} {w : World} {K : Frag} {G : Gl prog w K} {r : Nat} {sc : Scope} {l : Locs} {k : Kt} {Q : V → Prop}

/-- a new tuple is frozen -/
theorem pair_rz {C : Addr} {z : Zp} {T : Addr} {x y : Value} {v u : V} (hT : z T = some { cls := .type "tuple", data := .seq #[x, y] }) (hx : Rz C z v x) (hy : Rz C z u y) : Rz C z (.tup [v, u]) (.ref T) :=
  ⟨T, [x, y], rfl, ⟨_, _, hT, rfl, rfl, rfl⟩, ⟨x, [y], rfl, hx, y, [], rfl, hy, rfl⟩⟩

theorem ext_new {z' : Zp} {s s₂ : Shared} {ad : List Addr} {T : Addr} {o : Obj} (sub : Sub z' s.heap) (hT : s₂.heap.get? T = some o) (hn : s.heap.get? T = none) (had : ∀ b ∈ ad, z' b = none)
    (kp : ∀ b o, b ∉ ad → s.heap.get? b = some o → s₂.heap.get? b = some o) (hg : s₂.gens = s.gens) (hd : s₂.drawn = s.drawn) (ho : s₂.os = s.os) : ExtI ad z' s (z'.put T o) s₂ := by
  have hz : z' T = none := by
    cases q : z' T with
    | none => rfl
    | some o' => rw [sub _ _ q] at hn; cases hn
  refine ⟨Zp.put_old hz, fun b q e => ?_, kp, fun b q e n => ?_, hg, hd, ho⟩
  · by_cases hb : b = T
    · subst hb; rw [Zp.put_self] at e; cases e; exact hT
    · have e : z' b = some q := by simpa [Zp.put, hb] using e
      exact kp b q (fun h => by rw [had b h] at e; cases e) (sub _ _ e)
  · by_cases hb : b = T
    · subst hb; exact hn
    · simp [Zp.put, hb, n] at e

theorem DIt.enum {A : Around} (hh : A.handled = none) {tgt : Expr} (ht : isTup tgt = true) {T : String} (hT : LT T) {e it a : Addr} {xs : List Value} {vs : List V} {z : Zp} (ha : SeqIs T (z a) xs) (rl : RzL G.C z vs xs) (hne : z it = none) (hee : z e = none) (hei : e ≠ it) :
    DIt G A tgt (.ref e) [e, it] z (enumV 0 vs) (fun i h => (∃ old, IsEnum h e it i old) ∧ IsIt T h it a i ∧ SeqIs T (h.get? a) xs) := by
  obtain ⟨oa, na, ea, ra⟩ := id ha
  have nai : a ≠ it := fun q => by rw [q, hne] at ea; cases ea
  have nae : a ≠ e := fun q => by rw [q, hee] at ea; cases ea
  have hef : e ∉ [it, a] := by simp; exact ⟨hei, Ne.symm nae⟩
  have D := seq_draws (prog := prog) (w := w) (A := A.in1) hT (by exact hh) it a nai xs
  refine ⟨fun i h st b hb => ?_, fun i h h' st kp sub => ⟨?_, st.2.1.at fun o e => kp it (by simp) o e, ⟨oa, na, sub _ _ ea, ra⟩⟩, fun i v hv z' s hz hs st had => ?_, fun z' s hz hs st had => ?_⟩
  · obtain ⟨⟨old, he⟩, ⟨o, ho, hc, _⟩, _⟩ := st
    simp at hb
    rcases hb with rfl | rfl
    · exact ⟨_, he, rfl⟩
    · exact ⟨_, ho, notTab_cls (by rw [hc]; exact fun q => by cases q)⟩
  · obtain ⟨⟨old, he⟩, _⟩ := st
    exact ⟨old, kp e (by simp) _ he⟩
  · obtain ⟨⟨old, he⟩, st⟩ := st
    obtain ⟨u, hu, rfl⟩ := enumV_get hv
    obtain ⟨x, hx, rz⟩ := rl.get i u hu
    have hlt : i < xs.length := by
      rcases Nat.lt_or_ge i xs.length with h | h
      · exact h
      · rw [List.getElem?_eq_none h] at hx; cases hx
    refine wpAny_pyNext_enum_itemD D he st hlt hei hef fun x' h' tk hp heo st' hT' hsz kp => ⟨_, rfl, ?_⟩
    have hp : xs[i]? = some x' := hp
    rw [hx] at hp; cases hp
    have hes : e ≠ s.heap.objs.size := Nat.ne_of_lt (Heap.lt_size he)
    cases tgt <;> first | cases ht | skip
    refine wpAny_letOwnedTupleGo_enum heo fun h₂ he₂ sb => ?_
    replace sb : Heap.SameBut e h' h₂ := sb
    have hT₂ : h₂.get? s.heap.objs.size = some { cls := .type "tuple", data := .seq #[.int i tk, x] } := (sb.2 _ (Ne.symm hes)).trans hT'
    have kp₂ : ∀ b o, b ∉ [e, it] → s.heap.get? b = some o → h₂.get? b = some o := fun b o nb e0 => by
      simp at nb
      exact (sb.2 b nb.1).trans (kp b o nb.1 nb.2 e0)
    have hTz : z' s.heap.objs.size = none := hs.fresh
    refine ⟨z'.put s.heap.objs.size _, ext_new hs hT₂ (get_fresh _) had kp₂ rfl rfl rfl, ?_, ⟨x, he₂⟩, D.frame _ _ _ st' fun b hb o y => (sb.2 b fun q => hef (q ▸ hb)).trans y⟩
    refine pair_rz Zp.put_self ⟨tk, by simp⟩ (rz.mono fun b o e0 => Zp.put_old hTz b o (hz b o e0))
  · obtain ⟨⟨old, he⟩, st⟩ := st
    have hl : (enumV 0 vs).length = xs.length := by rw [enumV_length, rl.length]
    rw [hl] at he st
    refine wpAny_pyNext_enum_endD D he st fun h' eb => ⟨rfl, ?_⟩
    have kp : ∀ b o, b ∉ [e, it] → s.heap.get? b = some o → h'.get? b = some o := fun b o nb e0 => by simp at nb; exact eb b o nb.2 e0
    exact ⟨fun _ _ e => e, fun b o e => kp b o (fun q => by rw [had b q] at e; cases e) (hs b o e), kp, fun b o e n => (by rw [n] at e; cases e), rfl, rfl, rfl⟩


end
end Mine

end
section
open PySem PySem.W PySem.Calls PyProof.Rows
set_option linter.unusedVariables false
set_option maxRecDepth 100000
namespace Mine
section
variable {prog : Program} {w : World} {K : Frag} {G : Gl prog w K} {r : Nat} {sc : Scope} {l : Locs} {k : Kt} {Q : V → Prop}

/-! targets -/
noncomputable def WAss (G : Gl prog w K) (r : Nat) (sc : Scope) : List Expr → List V → Locs → (Locs → Prop) → Prop
  | [], [], l, P => P l
  | e :: es, v :: vs, l, P => WAs G r sc l e v fun l' => WAss G r sc es vs l' P
  | _, _, _, _ => False
theorem assignEach_plain {env : Env} : ∀ {es : List Expr}, plainEs es = true → assignEach es env = es.map fun t => (false, assign t env)
  | [], _ => rfl
  | e :: es, h => by
    unfold plainEs at h
    rw [List.all_cons, Bool.and_eq_true] at h
    have ih := assignEach_plain (env := env) (es := es) h.2
    cases e <;> first | (show _ :: assignEach es env = _; rw [ih]; rfl) | (exact absurd h.1 (by simp))
theorem WAss.run {F : Frm G r sc} {P : Locs → Prop} : ∀ {es : List Expr} {vs : List V} {l : Locs} {z : Zp} {s : Shared} {xs : List Value}, WAss G r sc es vs l P → Rep F l z s → RzL G.C z vs xs →
    wpAny (model prog w) F.A (assignInOrder (es.map fun t => assign t F.env) xs) (fun _ s' => ∃ z' l', (∀ b o, z b = some o → z' b = some o) ∧ Rep F l' z' s' ∧ P l') (fun _ _ => False) s
  | [], [], l, z, s, xs, h, R, rl => by
    have rl : xs = [] := rl
    subst rl
    exact wpAny_assignInOrder_none ⟨z, l, fun _ _ e => e, R, h⟩
  | e :: es, v :: vs, l, z, s, xs, h, R, rl => by
    obtain ⟨x, r, rfl, h1, h2⟩ := rl
    exact wpAny_assignInOrder_more (noE (h F z s x R h1) fun _ s₁ ⟨z₁, l₁, zz, R₁, q⟩ => noE (WAss.run q R₁ (RzL.mono zz h2)) fun _ s₂ ⟨z₂, l₂, zz₂, R₂, q⟩ => ⟨z₂, l₂, fun b o e => zz₂ b o (zz b o e), R₂, q⟩)
  | [], _ :: _, _, _, _, _, h, _, _ => h.elim
  | _ :: _, [], _, _, _, _, h, _, _ => h.elim

theorem ext_kept {z : Zp} {s : Shared} {h' : Heap} {t : Nat} (hs : Sub z s.heap) (e : Heap.ExtBut s.heap.objs.size s.heap h') : Ext z s z { s with heap := h', toks := t } :=
  Ext.grow hs fun b o q => e b o (Nat.ne_of_lt (Heap.lt_size q)) q

theorem WAs_tup {es : List Expr} {x1} {p : Pos} {vs : List V} {P : Locs → Prop} (h : WAss G r sc es vs l P) (hp : plainEs es = true := by rfl) (hl : es.length = vs.length := by rfl) : WAs G r sc l (.Tuple es x1 p) (.tup vs) P := fun F z s x R rz => by
  obtain ⟨a, xs, rfl, sq, rl⟩ := rz
  have hl' := rl.length
  have he : (assignEach es F.env).map (·.2) = es.map fun t => assign t F.env := by rw [assignEach_plain hp, List.map_map]; rfl
  refine wpAny_assign_Tuple F.hh (isTuple_of (sq.mono fun o e => R.sub _ _ e)) (by rw [assignEach_plain hp, List.length_map, List.size_toArray]; omega) (by
    rw [assignEach_plain hp, List.findIdx?_eq_none_iff]
    intro y hy
    obtain ⟨t, _, rfl⟩ := List.mem_map.mp hy
    rfl) fun h' e => ?_
  rw [he]
  exact h.run (R.ext (ext_kept (t := s.toks) R.sub e)) rl

/-! iterables -/
/-- an iterable's meaning: its items -/
noncomputable def WI (G : Gl prog w K) (r : Nat) (sc : Scope) (l : Locs) (tgt iter : Expr) (Q : List V → Prop) : Prop :=
  ∀ (F : Frm G r sc) z s, Rep F l z s → wpAny (model prog w) F.A (eval iter F.env) (fun x s₁ => wpAny (model prog w) F.A (pyIter x) (fun I s₂ => ∃ ad z₂ vs St, DIt G F.A tgt I ad z₂ vs St ∧ Ext z s z₂ s₂ ∧
    (∀ b ∈ ad, s.heap.get? b = none ∧ z₂ b = none) ∧ St 0 s₂.heap ∧ Q vs) (fun _ _ => False) s₁) (fun _ _ => False) s

theorem WI_seq {tgt iter : Expr} {Q : List V → Prop} (h : WE G r sc l iter fun v => ∃ vs, (v = .lst vs ∨ v = .tup vs) ∧ Q vs) : WI G r sc l tgt iter Q := fun F z s R =>
  noE (h F z s R) fun x s₁ ⟨z₁, v, e₁, rz, vs, hv, q⟩ => by
    have sub₁ := e₁.sub
    have fin : ∀ {T : String} {o : Obj}, o.isFreed = false → Ext z s z₁ { s₁ with heap := s₁.heap.push o } ∧ ∀ b ∈ [s₁.heap.objs.size], s.heap.get? b = none ∧ z₁ b = none := fun {T o} hf =>
      ⟨e₁.trans (Ext.grow (t := s₁.toks) e₁.sub fun b o e => Heap.get?_push_of_some _ e), fun b hb => by
        rw [List.mem_singleton.mp hb]
        refine ⟨?_, sub₁.fresh⟩
        cases q : s.heap.get? s₁.heap.objs.size with
        | none => rfl
        | some o =>
          obtain ⟨o', ho', _⟩ := e₁.was.there q
          rw [get_fresh] at ho'; cases ho'⟩
    rcases hv with rfl | rfl
    · obtain ⟨a, xs, rfl, sq, rl⟩ := rz
      have hl : s₁.heap.IsList a xs.toArray := isList_of (sq.mono fun o e => sub₁ _ _ e)
      refine wpAny_pyIter_list hl ?_
      obtain ⟨f1, f2⟩ := fin (T := "list") (o := { cls := .type "list_iterator", data := .fields #[.ref a, .int 0 0] }) rfl
      exact ⟨_, z₁, vs, _, DIt.list F.hh sq rl sub₁.fresh, f1, f2, ⟨⟨_, Heap.get?_push_size _ rfl, rfl, rfl⟩, hl.push _⟩, q⟩
    · obtain ⟨a, xs, rfl, sq, rl⟩ := rz
      have hl : s₁.heap.IsTuple a xs.toArray := isTuple_of (sq.mono fun o e => sub₁ _ _ e)
      refine wpAny_pyIter_tuple hl ?_
      obtain ⟨f1, f2⟩ := fin (T := "tuple") (o := { cls := .type "tuple_iterator", data := .fields #[.ref a, .int 0 0] }) rfl
      exact ⟨_, z₁, vs, _, DIt.tuple F.hh sq rl sub₁.fresh, f1, f2, ⟨⟨_, Heap.get?_push_size _ rfl, rfl, rfl⟩, hl.push _⟩, q⟩

theorem seq_rz {C : Addr} {z : Zp} {v : V} {x : Value} {vs : List V} (hv : v = .lst vs ∨ v = .tup vs) (rz : Rz C z v x) : ∃ T a xs, LT T ∧ x = .ref a ∧ SeqIs T (z a) xs ∧ RzL C z vs xs := by
  rcases hv with rfl | rfl
  · obtain ⟨a, xs, e, sq, rl⟩ := rz; exact ⟨"list", a, xs, .inl rfl, e, sq, rl⟩
  · obtain ⟨a, xs, e, sq, rl⟩ := rz; exact ⟨"tuple", a, xs, .inr rfl, e, sq, rl⟩

theorem none_before {z z' : Zp} {s s' : Shared} (e : Ext z s z' s') {n : Addr} (h : s'.heap.objs.size ≤ n) : s.heap.get? n = none ∧ z' n = none := by
  have g : s'.heap.get? n = none := by
    cases q : s'.heap.get? n with
    | none => rfl
    | some o => exact absurd (Heap.lt_size q) (Nat.not_lt_of_le h)
  constructor
  · cases q : s.heap.get? n with
    | none => rfl
    | some o =>
      obtain ⟨o', ho', _⟩ := e.was.there q
      rw [g] at ho'; cases ho'
  · cases q : z' n with
    | none => rfl
    | some o => have := e.sub _ _ q; rw [g] at this; cases this

theorem bootEnum : bootBuiltins "enumerate" = some (.type "enumerate") := by decide +kernel
theorem WI_enum {tgt e : Expr} {p1 p : Pos} {Q : List V → Prop} (hn : nsIn K mainGlobals "enumerate" = some none) (h : WE G r sc l e fun v => ∃ vs, (v = .lst vs ∨ v = .tup vs) ∧ Q (enumV 0 vs)) (ht : isTup tgt = true := by rfl)
    (hx : sc.names.lookup (Str.ofString "enumerate") = some .globalImplicit := by rfl) (hp : plainEs [e] = true := by rfl) : WI G r sc l tgt (.Call (.Name "enumerate" p1) [e] [] p) Q := fun F z s R => by
  have hw : WEs G r sc l [e] (fun us => ∃ v vs, us = [v] ∧ (v = .lst vs ∨ v = .tup vs) ∧ Q (enumV 0 vs)) := h.mono fun v ⟨vs, hv, q⟩ => ⟨v, vs, rfl, hv, q⟩
  refine wpAny_Call_ofName (wpAny_Name (Frm.global R.sB hx (.inr (G.gB _ _ hn bootEnum (by decide))) ?_) (by decide))
  refine WEs.callWith (f := .type "enumerate") (first := []) rfl hp R hw fun xs s₁ z₁ us e₁ rl ⟨v, vs, hu, hv, q⟩ => ?_
  subst hu
  obtain ⟨x, r0, rfl, rz, rfl⟩ := rl
  obtain ⟨T, a, xs, hT, rfl, sq, rl⟩ := seq_rz hv rz
  refine call_enum hT (sq.mono fun o e => e₁.sub _ _ e) fun h' he hit hsz kp => ?_
  refine wpAny_pyIter_enum he ?_
  have n0 := none_before e₁ (n := s₁.heap.objs.size) (Nat.le_refl _)
  have n1 := none_before e₁ (n := s₁.heap.objs.size + 1) (Nat.le_add_right _ _)
  refine ⟨_, z₁, _, _, DIt.enum F.hh ht hT sq rl n0.2 n1.2 (Nat.succ_ne_self _), e₁.trans (Ext.grow (t := s₁.toks) e₁.sub kp), fun b hb => ?_, ⟨⟨_, he⟩, hit, sq.mono fun o e => kp _ _ (e₁.sub _ _ e)⟩, q⟩
  simp at hb
  rcases hb with rfl | rfl
  · exact n1
  · exact n0


/-- for over an iterable -/
theorem WX_forI {tgt iter : Expr} {body orelse : List Stmt} {p : Pos} (h : WI G r sc l tgt iter fun vs => WF G r sc tgt body orelse k vs l) (hs : noSet iter = true := by rfl) : WX G r sc l (.For tgt iter body orelse p) k := fun F z s R =>
  wpAny_For (noE (h F z s R) fun x s₁ q => noE q fun I s₂ ⟨ad, z₂, vs, St, D, ex, al, st, q⟩ => cameBack (for_run D (fun _ _ e => e) (R.beside ex al) st q)) (folded_no hs _)
end
end Mine

end
section
open PySem PySem.W PySem.Calls PyProof.Rows
set_option linter.unusedVariables false
set_option maxRecDepth 100000
namespace Mine
section
variable {prog : Program} {w : World} {K : Frag} {G : Gl prog w K} {r : Nat} {sc : Scope} {l : Locs} {k : Kt} {Q : V → Prop}

/-! tuples and lists -/
theorem WE_tuple {es : List Expr} {n : Nat} {p : Pos} (h : WEs G r sc l es fun vs => vs.length ≤ sizeLine ∧ Q (.tup vs)) (hp : plainEs es = true := by rfl) : WE G r sc l (.Tuple es n p) Q := fun F z s R =>
  wpAny_Tuple (by
    rw [backTo_plain hp]
    refine noE (h.run z s R) fun xs s₁ ⟨z₁, vs, e₁, rl, hs, q⟩ => ⟨by rw [rl.length]; exact hs, ?_⟩
    have hz := e₁.sub.fresh
    refine ⟨_, .tup vs, e₁.trans (Ext.push e₁.sub (o := { cls := .type "tuple", data := .seq xs.toArray }) rfl), ⟨_, xs, rfl, ⟨_, 0, Zp.put_self, rfl, rfl, rfl⟩, RzL.mono (Zp.put_old hz) rl⟩, q⟩)

/-! in place -/
theorem I_add {a b : Int} (h : Q (.int (a + b))) : Act2 G (inplaceOp .Add) (.int a) (.int b) Q := fun A z s xa xb hh hr zB hs ⟨t, ra⟩ ⟨u, rb⟩ => by
  subst ra rb; exact noE (PyProof.Rows.iadd_int (ret_of h (Ext.toks hs _) ⟨_, rfl⟩)) fun _ _ q => q
theorem WX_aug {x : Str} {p p' : Pos} {op : Operator} {e : Expr} {v : V} (hl : l.lookup x = some (.v v)) (h : WE G r sc l e fun u => Act2 G (inplaceOp op) v u fun y => k.nx (put l x (.v y)))
    (hx : stored sc x = true := by rfl) (hc : (x == ("__classdict__" : Str)) = false := by decide) : WX G r sc l (.AugAssign (.Name x p') op e p) k := fun F z s R =>
  wpAny_AugAssign_Name (by
    obtain ⟨m, am, L⟩ := R.loc
    obtain ⟨val, n, rz⟩ := L.ok x _ hl
    refine Frm.load L.ns n hc (noE (h F z s R) fun u s₁ ⟨z₁, vu, e₁, ru, q⟩ => ?_)
    refine noE (q F.A z₁ s₁ _ _ F.hh F.room0 (R.ext e₁).zBsub e₁.sub (rz.mono e₁.zz) ru) fun y s₂ ⟨z₂, vy, e₂, ry, q⟩ => ?_
    exact ((R.ext e₁).ext e₂).storeV (stored_or hx) ry fun s₃ R₃ => ⟨z₂, _, R₃, q⟩)

/-! while -/
theorem WX_while {t : Expr} {body orelse : List Stmt} {p : Pos} (J : Nat → Locs → Prop) (n : Nat) (h : J n l)
    (turn : ∀ n l, J n l → WT G r sc l t fun c => (c = true → WS G r sc l body { nx := fun l' => ∃ m, m < n ∧ J m l', ct := fun l' => ∃ m, m < n ∧ J m l', bk := k.nx, rt := k.rt }) ∧ (c = false → WS G r sc l orelse k)) :
    WX G r sc l (.While t body orelse p) k := fun F z s R =>
  wpAny_While (cameBack (codeAny_whileLoop (fun n s => ∃ z l, Rep F l z s ∧ J n l) (fun n s ⟨z, l, R, hJ⟩ => by
    refine noE (turn n l hJ F z s R) fun c s₁ ⟨z₁, e₁, q⟩ => ?_
    cases c with
    | true =>
      simp only [if_true]
      refine noE (q.1 rfl F z₁ s₁ (R.ext e₁)) fun f s₂ p => ?_
      cases f with
      | next => obtain ⟨z₂, l₂, R₂, m, hm, hJ⟩ := p; exact ⟨m, hm, z₂, l₂, R₂, hJ⟩
      | cont => obtain ⟨z₂, l₂, R₂, m, hm, hJ⟩ := p; exact ⟨m, hm, z₂, l₂, R₂, hJ⟩
      | brk => exact p
      | ret x => exact p
    | false =>
      simp only [Bool.false_eq_true, if_false]
      exact noE (q.2 rfl F z₁ s₁ (R.ext e₁)) fun f s₂ p => p) n ⟨z, l, R, h⟩))

/-! assignments to tuples -/

theorem WX_swap2 {x y : Str} {px py : Pos} {n1 n2 : Nat} {p1 p2 p : Pos} {a b : Expr} (h : WE G r sc l a fun u => WE G r sc l b fun v => k.nx (put (put l y (.v v)) x (.v u)))
    (hs : ∀ env, swapsWithSole [.Tuple [.Name x px, .Name y py] n1 p1] (.Tuple [a, b] n2 p2) p.line env = pure false) (hw : ∀ F : Frm G r sc, swappedStores [.Tuple [.Name x px, .Name y py] n1 p1] (.Tuple [a, b] n2 p2) F.env = pure (some [x, y]))
    (hx : stored sc x = true := by rfl) (hy : stored sc y = true := by rfl) (hp : plainEs [a, b] = true := by rfl) : WX G r sc l (.Assign [.Tuple [.Name x px, .Name y py] n1 p1] (.Tuple [a, b] n2 p2) p) k := fun F z s R => by
  have hab : WEs G r sc l [a, b] fun us => ∃ u v, us = [u, v] ∧ k.nx (put (put l y (.v v)) x (.v u)) := h.mono fun u h => h.mono fun v q => ⟨u, v, rfl, q⟩
  have ht : WE G r sc l (.Tuple [a, b] n2 p2) fun t => ∃ u v, t = .tup [u, v] ∧ k.nx (put (put l y (.v v)) x (.v u)) := WE_tuple (h.mono fun u h => h.mono fun v q => ⟨by show 2 ≤ sizeLine; rw [sizeLine_eq]; omega, u, v, rfl, q⟩) hp
  rw [exec_Assign_arm]
  refine wpAny_bind (wpAny_standAt ?_)
  rw [hs]
  refine wpAny_bind (wpAny_pure ?_)
  rw [if_neg (by decide)]
  refine wpAny_bind (noE (ht F z s R) fun t s₁ ⟨z₁, vt, e₁, rz, u, v, hv, q⟩ => ?_)
  subst hv
  rw [hw]
  refine wpAny_bind (wpAny_pure ?_)
  unfold assignStores
  refine wpAny_bind (wpAny_rule ?_)
  obtain ⟨at', xs, rfl, sq, xu, rr, rfl, ru, xv, rr', rfl, rv, rfl⟩ := rz
  have R₁ := R.ext e₁
  have hu := wpAny_unpackItems_tuple (prog := prog) (w := w) (E := fun _ _ => False) (Q := fun items s' => ∃ h', items = [xu, xv] ∧ Heap.ExtBut s₁.heap.objs.size s₁.heap h' ∧ s' = { s₁ with heap := h' }) F.hh (isTuple_of (sq.mono fun o e => e₁.sub _ _ e)) (fun h' e => ⟨h', rfl, e, rfl⟩)
  refine wpAny_bind (noE hu ?_)
  rintro items s₂ ⟨h', rfl, e, rfl⟩
  have R₂ := R₁.ext (ext_kept (t := s₁.toks) R₁.sub e)
  refine wpAny_bind ?_
  show wpAny _ _ (assignInOrder [bindName F.env y, bindName F.env x] [xv, xu]) _ _ _
  refine wpAny_assignInOrder_more (wpAny_bindName (R₂.storeV (stored_or hy) rv fun s₃ R₃ => ?_))
  refine wpAny_assignInOrder_more (wpAny_bindName (R₃.storeV (stored_or hx) ru fun s₄ R₄ => ?_))
  exact wpAny_assignInOrder_none (wpAny_pure ⟨_, _, R₄, q⟩)

/-! ghosts: reads and stores of an object under construction -/
noncomputable def GetFacts (K : Frag) (C : Addr) (nm : Str) : Bool := plainGet K C nm && hasDictIn K C && (match findIn K (.ref C) nm with | some attr => noGet K attr | none => false)
theorem WE_gattr {e : Expr} {nm y : Str} {p : Pos} {pa d : Addr} {ks : List Str} {vs : List V} {u : V} (hg : GetFacts K G.C nm = true) (hy : l.lookup y = some (.gd d ks vs)) (h : WE G r sc l e (· = .obj pa d)) (hf : fieldOf nm ks vs = some u) (hu : ∀ q, u = .raw q → handedIn q = true) (q : Q u)
    (he : ∀ env, eval (.Attribute e nm p) env = (do let o ← eval e env; standAt p.atName; let r ← holding [o] (getAttr o nm true); letTemporaryGo e o r; pure r) := by intro _; with_unfolding_all rfl) :
    WE G r sc l (.Attribute e nm p) Q := fun F z s R => by
  unfold GetFacts at hg
  cases hat : findIn K (.ref G.C) nm with
  | none => rw [hat] at hg; simp at hg
  | some attr =>
    rw [hat] at hg
    simp only [Bool.and_eq_true] at hg
    obtain ⟨⟨hg, hh⟩, hn⟩ := hg
    refine Attribute_any_ (noE (h F z s R) fun xa s₁ ⟨z₁, v, e₁, rz, hv⟩ => ?_) (he _)
    subst hv
    obtain ⟨rfl, ho⟩ := rz
    have R₁ := R.ext e₁
    obtain ⟨m, am, L⟩ := R₁.loc
    obtain ⟨mi, ⟨es, n, xs, hd, fo, rl⟩, ha⟩ := (L.ok y _ hy).of rfl
    have ha : am y = d := ha
    rw [ha] at hd
    obtain ⟨x, gx, rx⟩ := getL_some fo rl hf
    have I : InstAt s₁.heap pa (instObj G.C d) G.C (some (dictOf es n)) := ⟨R₁.sub _ _ ho, rfl, rfl, hd⟩
    exact get_value R₁.inK I (plainGet_of hg).1 (findObj_own hh hat hn gx) (handed_rz rx hu) ⟨z₁, u, e₁.trans (Ext.toks e₁.sub _), rx, q⟩

noncomputable def fputK (nm : Str) : List Str → List Str
  | [] => [nm]
  | k :: ks => if k == nm then k :: ks else k :: fputK nm ks
noncomputable def fputV {α : Type} (nm : Str) (v : α) : List Str → List α → List α
  | k :: ks, u :: us => if k == nm then v :: us else u :: fputV nm v ks us
  | _, _ => [v]
theorem fput_ok {nm : Str} {hsh : Int} {t : Tok} {val : Value} : ∀ {ks : List Str} {xs : List Value} {es : List DictEntry}, FieldsOk ks xs es → FieldsOk (fputK nm ks) (fputV nm val ks xs) (putL nm hsh (.str nm t) val es)
  | [], [], [], _ => ⟨rfl, ⟨t, rfl⟩, trivial⟩
  | k :: ks, x :: xs, e :: es, ⟨h1, ⟨t', h2⟩, h3⟩ => by
    have hk : e.key.isStr nm = (k == nm) := by rw [h2]; rfl
    unfold fputK fputV putL
    rw [hk]
    cases q : k == nm with
    | true => exact ⟨rfl, ⟨t', h2⟩, h3⟩
    | false => exact ⟨h1, ⟨t', h2⟩, fput_ok h3⟩
theorem fput_rl {C : Addr} {z : Zp} {nm : Str} {v : V} {val : Value} (rz : Rz C z v val) : ∀ {ks : List Str} {vs : List V} {xs : List Value}, ks.length = vs.length → RzL C z vs xs → RzL C z (fputV nm v ks vs) (fputV nm val ks xs)
  | [], [], _, _, rl => by cases rl; exact RzL.one rz
  | k :: ks, u :: us, _, hl, ⟨x, r, e, h1, h2⟩ => by
    subst e
    unfold fputV
    cases q : k == nm with
    | true => exact ⟨val, r, rfl, rz, h2⟩
    | false => exact ⟨x, fputV nm val ks r, rfl, h1, fput_rl rz (by simpa using hl) h2⟩
theorem FieldsOk.lens {ks : List Str} {xs : List Value} {es : List DictEntry} (h : FieldsOk ks xs es) : ks.length = xs.length ∧ es.length = ks.length := by
  induction ks generalizing xs es with
  | nil =>
    cases xs with
    | nil => cases es with
      | nil => exact ⟨rfl, rfl⟩
      | cons e es => exact False.elim h
    | cons x xs => exact False.elim h
  | cons k ks ih =>
    cases xs with
    | nil => exact False.elim h
    | cons x xs => cases es with
      | nil => exact False.elim h
      | cons e es =>
        have t := ih h.2.2
        exact ⟨congrArg Nat.succ t.1, congrArg Nat.succ t.2⟩
theorem putL_len {nm : Str} {hsh : Int} {key val : Value} : ∀ {es : List DictEntry}, (putL nm hsh key val es).length ≤ es.length + 1
  | [] => by simp [putL]
  | e :: es => by
    unfold putL
    split
    · simp
    · simp only [List.length_cons]; have := putL_len (nm := nm) (hsh := hsh) (key := key) (val := val) (es := es); omega

noncomputable def SetFacts (K : Frag) (C : Addr) (nm : Str) : Bool := findIn K (.ref C) "__setattr__" == some (some (.builtin "object.__setattr__")) && plainOver K C && takerIn K C nm == some none && hasDictIn K C

theorem set_ghost {F : Frm G r sc} {z : Zp} {s : Shared} {nm y : Str} {pa d : Addr} {ks : List Str} {vs : List V} {v : V} {val : Value} {P : Unit → Shared → Prop} (R : Rep F l z s) (hg : SetFacts K G.C nm = true) (hy : l.lookup y = some (.gd d ks vs)) (ho : z pa = some (instObj G.C d)) (rz : Rz G.C z v val) (hz : ks.length ≤ 900)
    (h : ∀ s', Rep F (upd l y (.gd d (fputK nm ks) (fputV nm v ks vs))) z s' → P () s') : wpAny (model prog w) F.A (setAttr (.ref pa) nm val) P (fun _ _ => False) s := by
  unfold SetFacts at hg
  simp only [Bool.and_eq_true, beq_iff_eq] at hg
  obtain ⟨⟨⟨hs, hp⟩, ht⟩, hh⟩ := hg
  have X := R.inK
  obtain ⟨m, am, L⟩ := R.loc
  obtain ⟨mi, ⟨es, n, xs, hd, fo, rl⟩, ha⟩ := (L.ok y _ hy).of rfl
  have ha : am y = d := ha
  rw [ha] at hd
  have I : InstAt s.heap pa (instObj G.C d) G.C (some (dictOf es n)) := ⟨R.sub _ _ ho, rfl, rfl, hd⟩
  obtain ⟨l1, l2⟩ := fo.lens
  refine set_plain X I hs (osa_open (s := { s with toks := s.toks + 1 }) X I hp ht fun b => ?_)
  obtain ⟨cd, hc, hd'⟩ := any_some (show (clsIn K G.C).any (·.hasDict) = true from hh)
  have nop : es.any (·.refKey) = false := fo.noRef
  have hput := putName_dict nm (PyData.keyHash w.params nm) (.str nm (s.toks + 1)) val es n
  have D' : (s.heap.update d (Obj.putName nm (PyData.keyHash w.params nm) (.str nm (s.toks + 1)) val)).get? d = some (dictOf (putL nm (PyData.keyHash w.params nm) (.str nm (s.toks + 1)) val es) (putN nm es n)) := by
    rw [← hput]; exact Heap.get?_update_self _ hd (by rw [hput]; rfl)
  refine wpAny_bind (wpAny_pure (wpAny_bind (wpAny_bind (wpAny_loadPart (R.sub _ _ ho) (wpAny_bind (Looks.here (s := { s with toks := s.toks + 1 }) (looks_clsIn X hc) ?_))))))
  rw [hd']
  refine wpAny_pure (a := some d) (wpAny_bind (wpAny_pure (wpAny_bind ?_)))
  unfold nsSet
  refine wpAny_bind (wpAny_bind (wpAny_askSetting (wpAny_pure (wpAny_bind (wpAny_mkText (wpAny_bind (wpAny_loadPart hd ?_)))))))
  have c : (!es.toArray.any (·.key.isStr nm) && es.toArray.any (·.refKey)) = false := by
    rw [← Array.any_toList, ← Array.any_toList, List.toList_toArray, nop, Bool.and_false]
  dsimp only
  rw [aRefKeyMayBeTheName_at, c]
  refine wpAny_updatePart hd ?_
  have hlen := putL_len (nm := nm) (hsh := PyData.keyHash w.params nm) (key := .str nm (s.toks + 1)) (val := val) (es := es)
  refine wpAny_bind (wpAny_lookBehind D' (pastItsLine_dict (by rw [List.size_toArray, sizeLine_eq]; omega)) ?_)
  have sb : Heap.SameBut d s.heap (s.heap.update d (Obj.putName nm (PyData.keyHash w.params nm) (.str nm (s.toks + 1)) val)) := Heap.SameBut.update ..
  refine wpAny_pure (h _ (R.end.turn (t := s.toks + 2) L hy rfl rfl (fun _ t => t) (by rw [ha]; exact sb) ⟨_, _, _, by rw [ha]; exact D', fput_ok fo, fput_rl rz (by rw [l1, rl.length]) rl⟩))

/-- o.nm = e -/
theorem WX_gset {o e : Expr} {nm y : Str} {p p' : Pos} {pa d : Addr} {ks : List Str} {vs : List V} (hg : SetFacts K G.C nm = true) (hy : l.lookup y = some (.gd d ks vs)) (hz : ks.length ≤ 900)
    (h : WE G r sc l e fun v => WE G r sc l o (· = .obj pa d) ∧ k.nx (upd l y (.gd d (fputK nm ks) (fputV nm v ks vs)))) (hc : noComp e = true := by rfl) : WX G r sc l (.Assign [.Attribute o nm p'] e p) k := fun F z s R =>
  plainObj_wpAny_Assign_Attribute (noE (h F z s R) fun val s₁ ⟨z₁, v, e₁, rz, ho, q⟩ => noE (ho F z₁ s₁ (R.ext e₁)) fun xo s₂ ⟨z₂, vo, e₂, ro, hv⟩ => by
    subst hv
    obtain ⟨rfl, hob⟩ := ro
    exact set_ghost ((R.ext e₁).ext e₂) hg hy hob (rz.mono e₂.zz) hz fun s₃ R₃ => ⟨z₂, _, R₃, q⟩) (swaps_no hc _ _ _)

/-! new things of the frame -/
theorem RepO.adopt {F : Frm G r sc} {z : Zp} {s : Shared} {a : Addr} {ad : List Addr} {y : Str} {u : LV} (R : RepO F l z s (a :: ad)) (hn : a ∉ ad) (hu : u.mine = true) (ht : ∀ h m am, am y = a → F.Tag h m am y u) (hc : Cont G.C z s.heap a u) : RepO F (put l y u) z s ad := by
  obtain ⟨m, am, E, L, O⟩ := R
  obtain ⟨o1, o2, o3, o4, o5⟩ := O a (List.mem_cons_self ..)
  obtain ⟨am', e, e'⟩ : ∃ am' : Str → Addr, am' y = a ∧ ∀ x, x ≠ y → am' x = am x := ⟨fun x => if x = y then a else am x, if_pos rfl, fun x n => if_neg n⟩
  refine ⟨m, am', E, L.put L.ns (fun _ _ _ n => n) (fun _ _ v _ _ q => ⟨v, q⟩) (fun _ _ _ _ _ => rfl) e' (.to hu ⟨by rw [e]; exact ⟨⟨o1, o2⟩, o3, o4⟩, by rw [e]; exact hc, ht _ _ _ e⟩) (fun _ x w n hl hw => by rw [e]; exact o5 x w hl hw) (fun x q => by subst q; cases hu), fun b hb => ?_⟩
  obtain ⟨p1, p2, p3, p4, p5⟩ := O b (List.mem_cons_of_mem _ hb)
  refine ⟨p1, p2, p3, p4, fun x w hl hw => ?_⟩
  rcases put_lookup L.nd hl with ⟨rfl, _⟩ | ⟨n, hl, _⟩
  · rw [e]; exact fun q => hn (q ▸ hb)
  · rw [e' x n]; exact p5 x w hl hw

/-- o.nm = [] : a new ghost list -/
theorem WX_gsetNew {o : Expr} {nm y yn : Str} {p p' pl : Pos} {pa d : Addr} {ks : List Str} {vs : List V} (hg : SetFacts K G.C nm = true) (hy : l.lookup y = some (.gd d ks vs)) (hz : ks.length ≤ 900) (hne : yn ≠ y)
    (h : ∀ a, WE G r sc (put l yn (.gl a [])) o (· = .obj pa d) ∧ k.nx (upd (put l yn (.gl a [])) y (.gd d (fputK nm ks) (fputV nm (.raw (.ref a)) ks vs)))) : WX G r sc l (.Assign [.Attribute o nm p'] (.List [] pl) p) k := fun F z s R =>
  plainObj_wpAny_Assign_Attribute (wpAny_List (wpAny_pure ⟨Nat.zero_le _, by
    have ex : Ext z s z { s with heap := s.heap.push { cls := .type "list", data := .seq ([] : List Value).toArray } } := Ext.grow (t := s.toks) R.sub fun b o e => Heap.get?_push_of_some { cls := .type "list", data := .seq ([] : List Value).toArray } e
    have RO : RepO F l z { s with heap := s.heap.push { cls := .type "list", data := .seq ([] : List Value).toArray } } [s.heap.objs.size] := R.beside ex fun b hb => by
      rw [List.mem_singleton.mp hb]; exact ⟨get_fresh _, R.sub.fresh⟩
    have R₁ := (RO.adopt (y := yn) (u := .gl s.heap.objs.size []) (by simp) rfl (fun _ _ _ e => e) ⟨[], ⟨0, Heap.get?_push_size _ rfl⟩, rfl⟩).rep
    obtain ⟨ho, q⟩ := h s.heap.objs.size
    refine noE (ho F z _ R₁) fun xo s₂ ⟨z₂, vo, e₂, ro, hv⟩ => ?_
    subst hv
    obtain ⟨rfl, hob⟩ := ro
    have hy' : (put l yn (.gl s.heap.objs.size [])).lookup y = some (.gd d ks vs) := by
      obtain ⟨m, am, L⟩ := R.loc
      refine mem_lookup (put_nodup L.nd) (List.mem_cons_of_mem _ (List.mem_filter.mpr ⟨lookup_mem hy, ?_⟩))
      have : (y == yn) = false := by simpa using Ne.symm hne
      show (!(y == yn) && !(LV.isApp yn (.gd d ks vs))) = true
      rw [this]; rfl
    exact set_ghost (R₁.ext e₂) hg hy' hob (v := .raw (.ref s.heap.objs.size)) rfl hz fun s₃ R₃ => ⟨z₂, _, R₃, q⟩⟩)) (swaps_no rfl _ _ _)
end
end Mine

end
section
open PySem PySem.W PySem.Calls PyProof.Rows
set_option linter.unusedVariables false
set_option maxRecDepth 100000
namespace Mine
section
variable {prog : Program} {w : World} {K : Frag} {G : Gl prog w K} {r : Nat} {sc : Scope} {l : Locs} {k : Kt} {Q : V → Prop}

/-! subscripts -/
noncomputable def Item (G : Gl prog w K) (a b : V) (Q : V → Prop) : Prop :=
  ∀ A z s xa xb, A.handled = none → Room 0 A → (∀ b o, G.zB b = some o → z b = some o) → Sub z s.heap → Rz G.C z a xa → Rz G.C z b xb → ItemOn (model prog w) A (fun _ _ => False) xa xb (Ret G z s Q) s

theorem subTail {A : Around} {E : Value → Shared → Prop} {s : Shared} {value slice : Expr} {o i : Value} {Q : Value → Shared → Prop} (h : ItemOn (model prog w) A E o i Q s)
    (hs : subscripted slice false o i = operate [o, i] (getItem o i) ∨ subscripted slice false o i = operate [i, o] (getItem o i)) : wpAny (model prog w) A (subscriptTail value slice o i) Q E s := by
  obtain ⟨T, id, hl, hT, hg⟩ := h
  unfold subscriptTail
  refine wpAny_bind ?_
  rw [getitemInPython_of_ne hT.not_modules]
  refine wpAny_bind (wpAny_specialOf hT hl ?_)
  have fin : wpAny (model prog w) A (subscripted slice false o i) (fun r s₃ => wpAny (model prog w) A (letTemporaryGo value o r >>= fun _ => pure r) Q E s₃) E s := by
    rcases hs with hs | hs
    · rw [hs]
      exact wpAny_operating (wpAny_mono hg (fun r s₃ h₃ => wpAny_bind (wpAny_letTemporaryGo (wpAny_pure h₃))) fun _ _ x => x)
    · rw [hs]
      exact wpAny_operating (wpAny_mono hg (fun r s₃ h₃ => wpAny_bind (wpAny_letTemporaryGo (wpAny_pure h₃))) fun _ _ x => x)
  first
    | exact wpAny_pure (wpAny_bind fin)
    | exact wpAny_bind (wpAny_pure (wpAny_bind fin))
    | exact wpAny_bind fin

theorem WE_sub {value slice : Expr} {p : Pos} (h : WE G r sc l value fun o => WE G r sc l slice fun i => Item G o i Q) (hs : ∀ o i, subscripted slice false o i = operate [o, i] (getItem o i) := by intro _ _; with_unfolding_all rfl) :
    WE G r sc l (.Subscript value slice p) Q := fun F z s R =>
  Subscript_ (noE (h F z s R) fun xo s₁ ⟨z₁, vo, e₁, ro, h₁⟩ => noE (h₁ F z₁ s₁ (R.ext e₁)) fun xi s₂ ⟨z₂, vi, e₂, ri, h₂⟩ =>
    noE (subTail (h₂ F.A z₂ s₂ xo xi F.hh F.room0 (R.ext (e₁.trans e₂)).zBsub e₂.sub (ro.mono e₂.zz) ri) (.inl (hs _ _))) fun _ _ q => ret_trans (e₁.trans e₂) q)

theorem S_str {x : Str} {i : Int} (hr : fitsSsize i = true) (hin : (Txt.charAt x i).isSome = true) (h : Q (.str (Txt.item x i))) : Item G (.str x) (.int i) Q := fun A z s xa xb hh hR zB hs ⟨t, ra⟩ ⟨u, rb⟩ => by
  subst ra rb; exact SB.item hr hin (ret_of h (Ext.toks hs _) ⟨_, rfl⟩)
theorem S_lst {vs : List V} {i : Int} {v : V} (h0 : 0 ≤ i) (hi : i < 2 ^ 63) (hv : vs[i.toNat]? = some v) (h : Q v) : Item G (.lst vs) (.int i) Q := fun A z s xa xb hh hR zB hs ra ⟨u, rb⟩ => by
  subst rb
  obtain ⟨a, xs, rfl, sq, rl⟩ := ra
  obtain ⟨x, hx, rz⟩ := rl.get _ _ hv
  have hl := isList_of (sq.mono fun o e => hs _ _ e)
  exact ⟨"list", _, slot_list_getitem.lookup, hl.typeIs, wpAny_getItem_list hl h0 hi (x := x) (by simpa using hx) (ret_of h (Ext.refl hs) rz)⟩
theorem S_last {vs : List V} {v : V} (hsz : vs.length ≤ sizeLine) (hv : vs.getLast? = some v) (h : Q v) : Item G (.lst vs) (.int (-1)) Q := fun A z s xa xb hh hR zB hs ra ⟨u, rb⟩ => by
  subst rb
  obtain ⟨a, xs, rfl, sq, rl⟩ := ra
  have hlen := rl.length
  have hne : vs ≠ [] := fun e => by rw [e] at hv; cases hv
  have hpos : 0 < vs.length := List.length_pos_iff.mpr hne
  have hv' : vs[vs.length - 1]? = some v := by rw [← hv, List.getLast?_eq_getElem?]
  obtain ⟨x, hx, rz⟩ := rl.get _ _ hv'
  have hl := isList_of (sq.mono fun o e => hs _ _ e)
  have e1 : ((-1 : Int) + (xs.toArray.size : Nat)).toNat = vs.length - 1 := by rw [List.size_toArray, hlen]; omega
  refine ⟨"list", _, slot_list_getitem.lookup, hl.typeIs, wpAny_getItem_list_neg hl (by omega) (by rw [List.size_toArray, hlen]; omega) (by decide) (x := x) (by rw [e1]; simpa using hx) (ret_of h (Ext.refl hs) rz)⟩
theorem S_tup {vs : List V} {i : Int} {v : V} (h0 : 0 ≤ i) (hi : i < 2 ^ 63) (hv : vs[i.toNat]? = some v) (h : Q v) : Item G (.tup vs) (.int i) Q := fun A z s xa xb hh hR zB hs ra ⟨u, rb⟩ => by
  subst rb
  obtain ⟨a, xs, rfl, sq, rl⟩ := ra
  obtain ⟨x, hx, rz⟩ := rl.get _ _ hv
  have ht : IsTup s.heap a xs.toArray := isTuple_of (sq.mono fun o e => hs _ _ e)
  have hlt : i.toNat < xs.length := by
    rcases Nat.lt_or_ge i.toNat xs.length with h | h
    · exact h
    · rw [List.getElem?_eq_none h] at hx; cases hx
  refine ⟨"tuple", _, slot_tuple_getitem.lookup, ht.typeIs, getItem_tuple ht (by omega) hi (j := i.toNat) ?_ (x := x) (by simpa using hx) (ret_of h (Ext.refl hs) rz)⟩
  unfold seqIndex?
  simp
  omega

/-! slices -/
noncomputable def WP (G : Gl prog w K) (r : Nat) (sc : Scope) (l : Locs) : Option Expr → (Option Int → Prop) → Prop
  | none, Q => Q none
  | some e, Q => WE G r sc l e fun v => ∃ i, v = .int i ∧ Q (some i)
theorem WP.run {F : Frm G r sc} {e : Option Expr} {Q : Option Int → Prop} (h : WP G r sc l e Q) {z : Zp} {s : Shared} (R : Rep F l z s) :
    wpAny (model prog w) F.A (evalPart e F.env) (fun x s' => ∃ z' lo, Ext z s z' s' ∧ x = partValue lo ∧ Q (lo.map (·.1))) (fun _ _ => False) s := by
  cases e with
  | none => exact evalPart_none_step ⟨z, none, Ext.refl R.sub, rfl, h⟩
  | some e => exact evalPart_some_step (noE (h F z s R) fun x s₁ ⟨z₁, v, e₁, rz, i, hv, q⟩ => by
      subst hv
      obtain ⟨t, rfl⟩ := rz
      exact ⟨z₁, some (i, t), e₁, rfl, q⟩)

noncomputable def Slc (G : Gl prog w K) (a : V) (lo hi : Option Int) (Q : V → Prop) : Prop :=
  ∀ A z s xa a' (plo phi : Option (Int × Tok)), A.handled = none → (∀ b o, G.zB b = some o → z b = some o) → Sub z s.heap → Rz G.C z a xa → plo.map (·.1) = lo → phi.map (·.1) = hi →
    s.heap.get? a' = some { cls := .type "slice", data := .fields #[partValue plo, partValue phi, .none] } →
    ItemOn (model prog w) A (fun _ _ => False) xa (.ref a') (Ret G z s Q) s

theorem WE_slc {value : Expr} {lower upper : Option Expr} {p p' : Pos} (h : WE G r sc l value fun o => WP G r sc l lower fun lo => WP G r sc l upper fun hi => Slc G o lo hi Q) : WE G r sc l (.Subscript value (.Slice lower upper none p') p) Q := fun F z s R =>
  Subscript_ (noE (h F z s R) fun xo s₁ ⟨z₁, vo, e₁, ro, h₁⟩ => wpAny_Slice (noE (h₁.run (R.ext e₁)) fun xl s₂ ⟨z₂, plo, e₂, hl, h₂⟩ => noE (h₂.run ((R.ext e₁).ext e₂)) fun xu s₃ ⟨z₃, phi, e₃, hu, h₃⟩ => by
    rw [evalPart_none]
    have e13 := e₁.trans (e₂.trans e₃)
    have ex : Ext z₃ s₃ z₃ { s₃ with heap := s₃.heap.push { cls := .type "slice", data := .fields #[xl, xu, .none] } } := Ext.grow (t := s₃.toks) e₃.sub fun b o e => Heap.get?_push_of_some _ e
    refine wpAny_pure (noE (subTail (h₃ F.A z₃ _ xo s₃.heap.objs.size plo phi F.hh (R.ext e13).zBsub ex.sub (ro.mono fun b o e => e₃.zz b o (e₂.zz b o e)) rfl rfl (by rw [← hl, ← hu]; exact Heap.get?_push_size _ rfl)) (.inr (by rfl))) fun _ _ q => ret_trans (e13.trans ex) q)))

theorem SL_str {x : Str} {lo hi : Option Int} (hsz : x.length ≤ sizeLine) (h : Q (.str (Txt.slice x lo hi))) : Slc G (.str x) lo hi Q := fun A z s xa a' plo phi hh zB hs ⟨t, ra⟩ h1 h2 ha => by
  subst ra h1 h2
  exact ⟨"str", _, F.slot_str_getitem.lookup, typeIs_str _ _ _, wpAny_getItem_str_slice (l := plo) (u := phi) (st := none) ⟨_, ha, rfl, rfl⟩ rfl
    (post_val_or_str ⟨Nat.le_trans (Txt.slice_le x _ _) hsz, fun t' k => ret_of h (Ext.toks hs k) ⟨_, rfl⟩⟩)⟩

theorem SL_lst {vs us : List V} {lo hi : Option Int} (hsz : vs.length ≤ sizeLine) (hp : ∀ (xs : List Value), xs.length = vs.length → ∃ ys : List Value, slicePick xs.toArray lo hi Option.none = ys.toArray ∧ (∀ C z, RzL C z vs xs → RzL C z us ys)) (h : Q (.lst us)) : Slc G (.lst vs) lo hi Q := fun A z s xa a' plo phi hh zB hs ra h1 h2 ha => by
  obtain ⟨a, xs, rfl, sq, rl⟩ := ra
  obtain ⟨ys, hy, hr⟩ := hp xs rl.length
  have hl := isList_of (sq.mono fun o e => hs _ _ e)
  have hz := hs.fresh
  refine ⟨"list", _, list_getitem_lookup, hl.typeIs, wpAny_getItem_list_slice (lo := lo) (hi := hi) (st := none) hl ⟨_, ha, rfl, rfl⟩ ?_ ?_ .none (by simp) ?_ (by rw [List.size_toArray, rl.length]; exact hsz)⟩
  · subst h1; cases plo with
    | none => exact .none
    | some p => exact .int _ _
  · subst h2; cases phi with
    | none => exact .none
    | some p => exact .int _ _
  · rw [hy]
    exact ⟨_, .lst us, Ext.push hs (o := { cls := .type "list", data := .seq ys.toArray }) rfl, ⟨_, ys, rfl, ⟨_, 0, Zp.put_self, rfl, rfl, rfl⟩, RzL.mono (Zp.put_old hz) (hr _ _ rl)⟩, h⟩
theorem RzL.drop {C : Addr} {z : Zp} : ∀ {n : Nat} {vs : List V} {xs : List Value}, RzL C z vs xs → RzL C z (vs.drop n) (xs.drop n)
  | 0, _, _, h => by simpa using h
  | n + 1, [], _, h => by cases h; exact rfl
  | n + 1, v :: vs, _, ⟨x, r, e, _, t⟩ => by subst e; simpa using RzL.drop (n := n) t
theorem RzL.take {C : Addr} {z : Zp} : ∀ {n : Nat} {vs : List V} {xs : List Value}, RzL C z vs xs → RzL C z (vs.take n) (xs.take n)
  | 0, _, _, h => by simp only [List.take_zero]; exact rfl
  | n + 1, [], _, h => by cases h; exact rfl
  | n + 1, v :: vs, _, ⟨x, r, e, h1, t⟩ => by subst e; simp only [List.take_succ_cons]; exact ⟨x, _, rfl, h1, RzL.take (n := n) t⟩
theorem SL_upto {vs : List V} (n : Nat) (hsz : vs.length ≤ sizeLine) (h : Q (.lst (vs.take n))) : Slc G (.lst vs) none (some (n : Int)) Q :=
  SL_lst hsz (fun xs _ => ⟨xs.take n, by rw [slicePick_upto'], fun C z rl => rl.take⟩) h
end
end Mine

end
section
open PySem PySem.W PySem.Calls PyProof.Rows
set_option linter.unusedVariables false
set_option maxRecDepth 100000
namespace Mine
section
variable {prog : Program} {w : World} {K : Frag} {G : Gl prog w K} {r : Nat} {sc : Scope} {l : Locs} {k : Kt} {Q : V → Prop} {P : Bool → Prop}

/-! built-in functions and methods -/
theorem B_len_str {x : Str} (hs : x.length ≤ sizeLine) (h : Q (.int x.length)) : CS G r (.builtin "len") [.str x] Q := fun A z s xs hh hR zB hsub rl => by
  obtain ⟨x1, _, rfl, ⟨t, rfl⟩, rfl⟩ := rl
  exact PySem.P.len_str (by rw [sizeLine_eq] at hs; omega) (ret_of h (Ext.toks hsub _) ⟨_, rfl⟩)
theorem B_len_lst {vs : List V} (hs : vs.length ≤ sizeLine) (h : Q (.int vs.length)) : CS G r (.builtin "len") [.lst vs] Q := fun A z s xs hh hR zB hsub rl => by
  obtain ⟨x1, _, rfl, ⟨a, ys, rfl, sq, rl⟩, rfl⟩ := rl
  have hl := isList_of (sq.mono fun o e => hsub _ _ e)
  have hn := rl.length
  refine Calls.call_len_list hl (by rw [List.size_toArray, hn]; rw [sizeLine_eq] at hs; omega) (ret_of (v := .int ys.toArray.size) ?_ (Ext.toks hsub _) ⟨_, rfl⟩)
  rw [List.size_toArray, hn]; exact h
theorem B_isi_str {x : Str} (h : Q (.bool true)) : CS G r (.builtin "isinstance") [.str x, .raw (.type "str")] Q := fun A z s xs hh hR zB hsub rl => by
  obtain ⟨x1, _, rfl, ⟨t, rfl⟩, x2, _, rfl, hx, rfl⟩ := rl
  have hx : x2 = .type "str" := hx
  subst hx
  exact IsiPair.str_str (ret_of h (Ext.refl hsub) rfl)
theorem B_isi_bool {b : Bool} (h : Q (.bool true)) : CS G r (.builtin "isinstance") [.bool b, .raw (.type "bool")] Q := fun A z s xs hh hR zB hsub rl => by
  obtain ⟨x1, _, rfl, hb, x2, _, rfl, hx, rfl⟩ := rl
  have hx : x2 = .type "bool" := hx
  have hb : x1 = .bool b := hb
  subst hx hb
  exact IsiPair.bool_bool (ret_of h (Ext.refl hsub) rfl)


theorem strs_are {C : Addr} {z : Zp} : ∀ {ys : List Str} {xs : List Value}, RzL C z (ys.map V.str) xs → StrsAre xs ys
  | [], _, h => by cases h; exact .nil
  | y :: ys, _, ⟨x, r, e, ⟨t, ht⟩, hr⟩ => by subst e ht; exact .cons _ _ (strs_are hr)
theorem M_join {x : Str} {ys : List Str} (hok : (ys.map (·.length)).sum + ys.length * x.length ≤ 16777216) (h : Q (.str (Txt.join x ys))) : CS G r (.builtin "str.join") [.str x, .lst (ys.map .str)] Q := fun A z s xs hh hR zB hsub rl => by
  obtain ⟨x1, _, rfl, ⟨t, rfl⟩, x2, _, rfl, ⟨a, us, rfl, sq, ru⟩, rfl⟩ := rl
  exact PyProof.Rows.join_list (isList_of (sq.mono fun o e => hsub _ _ e)) (by simpa using strs_are ru) hok fun t' k => ret_of h (Ext.toks hsub _) ⟨_, rfl⟩
theorem ext_list {z : Zp} {s : Shared} {h' : Heap} {k : Nat} {D : Addr} {xs : List Value} (hs : Sub z s.heap) (kp : ∀ b o, s.heap.get? b = some o → h'.get? b = some o) (hn : s.heap.get? D = none) {o : Obj} (ho : h'.get? D = some o) : Ext z s (z.put D o) { s with heap := h', toks := k } := by
  have hz : z D = none := by
    cases q : z D with
    | none => rfl
    | some o => rw [hs _ _ q] at hn; cases hn
  exact (Ext.grow hs kp).put hn hz ho

/-! comparisons by identity -/
/-- is: a str against an object; the object itself -/
theorem C_isRS {a : Addr} {x : Str} (h : Q (.bool true)) : Act2 G (compareOp .IsNot) (.str x) (.raw (.ref a)) Q := fun A z s xa xb hh hr zB hs ⟨t, ra⟩ rb => by
  have rb : xb = .ref a := rb
  subst ra rb
  exact wpAny_isNot_other rfl (by simp) (ret_of h (Ext.refl hs) rfl)
theorem C_isNRR {a : Addr} (h : Q (.bool false)) : Act2 G (compareOp .IsNot) (.raw (.ref a)) (.raw (.ref a)) Q := fun A z s xa xb hh hr zB hs ra rb => by
  have ra : xa = .ref a := ra
  have rb : xb = .ref a := rb
  subst ra rb
  exact wpAny_isNot_ref_self (ret_of h (Ext.refl hs) rfl)

/-! lists of plain data compared -/
mutual
noncomputable def V.dat : V → PyData
  | .bool b => .bool b
  | .int i => .int i
  | .str x => .str x
  | .tup vs => .tuple (V.dats vs)
  | .lst vs => .list (V.dats vs)
  | _ => .none
noncomputable def V.dats : List V → List PyData
  | [] => []
  | v :: vs => V.dat v :: V.dats vs
end
mutual
noncomputable def V.isDat : V → Bool
  | .raw _ | .ins _ _ | .obj _ _ | .rng _ _ | .lam _ _ | .fn _ _ => false
  | .tup vs | .lst vs => V.areDat vs
  | _ => true
noncomputable def V.areDat : List V → Bool
  | [] => true
  | v :: vs => V.isDat v && V.areDat vs
end
mutual
theorem Rz.reads {C : Addr} {z : Zp} {h : Heap} (hs : Sub z h) : ∀ {v : V} {x : Value}, V.isDat v = true → Rz C z v x → ∃ as, Reads h x (V.dat v) as
  | .nil, _, _, e => by cases e; exact ⟨_, .none⟩
  | .bool b, _, _, e => by cases e; exact ⟨_, .bool b⟩
  | .int _, _, _, ⟨t, e⟩ => by cases e; exact ⟨_, .int _ t⟩
  | .str _, _, _, ⟨t, e⟩ => by cases e; exact ⟨_, .str _ t⟩
  | .tup vs, _, hd, ⟨a, xs, e, ⟨o, n, e1, e2, _, e3⟩, r⟩ => by
    subst e
    obtain ⟨as, ra⟩ := RzL.reads hs hd r
    exact ⟨_, .tuple (hs _ _ e1) e2 e3 (by simpa using ra)⟩
  | .lst vs, _, hd, ⟨a, xs, e, ⟨o, n, e1, e2, _, e3⟩, r⟩ => by
    subst e
    obtain ⟨as, ra⟩ := RzL.reads hs hd r
    exact ⟨_, .list (hs _ _ e1) e2 e3 (by simpa using ra)⟩
  | .raw _, _, hd, _ => Bool.noConfusion (show false = true from hd)
  | .ins _ _, _, hd, _ => Bool.noConfusion (show false = true from hd)
  | .obj _ _, _, hd, _ => Bool.noConfusion (show false = true from hd)
  | .rng _ _, _, hd, _ => Bool.noConfusion (show false = true from hd)
  | .lam _ _, _, hd, _ => Bool.noConfusion (show false = true from hd)
  | .fn _ _, _, hd, _ => Bool.noConfusion (show false = true from hd)
theorem RzL.reads {C : Addr} {z : Zp} {h : Heap} (hs : Sub z h) : ∀ {vs : List V} {xs : List Value}, V.areDat vs = true → RzL C z vs xs → ∃ as, ReadsAll h xs (V.dats vs) as
  | [], _, _, e => by cases e; exact ⟨_, .nil⟩
  | v :: vs, _, hd, ⟨x, r, e, h1, h2⟩ => by
    subst e
    simp only [V.areDat, Bool.and_eq_true] at hd
    obtain ⟨as, ra⟩ := Rz.reads hs hd.1 h1
    obtain ⟨bs, rb⟩ := RzL.reads hs hd.2 h2
    exact ⟨_, .cons ra rb⟩
end
theorem Room.two {A : Around} {n : Nat} (h : Room 0 A) (hn : n ≤ 50) : A.units + n < cLine := by unfold Room at h; omega
theorem C_neD {v u : V} (hv : v.isDat = true) (hu : u.isDat = true) (cv : v.dat.canLay0 = true) (cu : u.dat.canLay0 = true) (hd : v.dat.depth ≤ 50) (h : Q (.bool (!PyData.eqv v.dat u.dat))) : Act2 G (compareOp .NotEq) v u Q := fun A z s xa xb hh hr zB hs ra rb => by
  obtain ⟨as, r1⟩ := ra.reads hs hv
  obtain ⟨bs, r2⟩ := rb.reads hs hu
  exact SeqAt.compareNe_reads r1 r2 cv cu (hr.two (Nat.le_trans (Nat.min_le_left _ _) hd)) (ret_of h (Ext.refl hs) rfl)

/-! in a list -/

theorem A_catL {vs us : List V} (hsz : vs.length + us.length ≤ sizeLine) (h : Q (.lst (vs ++ us))) : Act2 G (binaryOp .Add) (.lst vs) (.lst us) Q := fun A z s xa xb hh hr zB hs ra rb => by
  obtain ⟨a, xs, rfl, sq, rl⟩ := ra
  obtain ⟨b, ys, rfl, sq', rl'⟩ := rb
  obtain ⟨⟨cls, dd, data, sl⟩, ho, hc, n, hd⟩ := isList_of (sq.mono fun o e => hs _ _ e)
  obtain ⟨⟨cls2, dd2, data2, sl2⟩, ho2, hc2, n2, hd2⟩ := isList_of (sq'.mono fun o e => hs _ _ e)
  simp only at hc hd hc2 hd2
  subst hc hd hc2 hd2
  have e : xs.toArray ++ ys.toArray = (xs ++ ys).toArray := by simp
  refine concat_meets ⟨_, ho, rfl⟩ ⟨_, ho2, rfl⟩ noFill_list_add seq_list_add PySem.F.slot_list_add PySem.F.entry_list_add (PySem.F.args_list_add_2 _ _) (list_addW a b xs.toArray ys.toArray n n2 dd dd2 sl sl2 (by simpa [rl.length, rl'.length] using hsz)) ⟨ho, ho2, ?_⟩
  rw [e]
  have hz := hs.fresh
  exact ⟨_, .lst (vs ++ us), Ext.push hs (o := { cls := .type "list", data := .seq (xs ++ ys).toArray }) rfl, ⟨_, _, rfl, ⟨_, 0, Zp.put_self, rfl, rfl, rfl⟩, RzL.mono (Zp.put_old hz) (RzL.append rl' rl)⟩, h⟩


/-! f-strings -/
noncomputable def FmtA (G : Gl prog w K) (v : V) (Q : Str → Prop) : Prop :=
  ∀ A z s x, A.handled = none → Room 0 A → (∀ b o, G.zB b = some o → z b = some o) → Sub z s.heap → Rz G.C z v x →
    wpAny (model prog w) A (formatField x Str.empty) (fun y s' => ∃ z' t u, y = .str t u ∧ Ext z s z' s' ∧ Q t) (fun _ _ => False) s
theorem Fmt_str {x : Str} {Q : Str → Prop} (hs : x.length ≤ sizeLine) (h : Q x) : FmtA G (.str x) Q := fun A z s y hh hR zB hsub ⟨t, e⟩ => by
  subst e; exact PySem.SB.field_str (fun t' k => ⟨z, _, _, rfl, Ext.toks hsub _, h⟩) hs
theorem WE_fmt {e : Expr} {p : Pos} (h : WE G r sc l e fun v => FmtA G v fun t => Q (.str t)) : WE G r sc l (.FormattedValue e (-1) none p) Q := fun F z s R =>
  wpAny_FormattedValue_plain (noE (h F z s R) fun x s₁ ⟨z₁, v, e₁, rz, q⟩ => noE (q F.A z₁ s₁ x F.hh F.room0 (R.ext e₁).zBsub e₁.sub rz) fun y s₂ ⟨z₂, t, u, hy, e₂, q⟩ => ⟨z₂, .str t, e₁.trans e₂, ⟨u, hy⟩, q⟩)
noncomputable def WJ (G : Gl prog w K) (r : Nat) (sc : Scope) (l : Locs) : List Expr → Str → (Str → Prop) → Prop
  | [], acc, Q => Q acc
  | e :: es, acc, Q => WE G r sc l e fun v => ∃ y, v = .str y ∧ (acc ++ y).length ≤ sizeLine ∧ WJ G r sc l es (acc ++ y) Q
theorem WJ.run {F : Frm G r sc} : ∀ {es : List Expr} {acc : Str} {Q : Str → Prop} {z : Zp} {s : Shared} {P : Str → Shared → Prop}, WJ G r sc l es acc Q → Rep F l z s → (∀ out s' z', Ext z s z' s' → Q out → P out s') →
    Joins (model prog w) F.A (fun _ _ => False) (evalEach es F.env) acc P s
  | [], acc, Q, z, s, P, h, R, k => Joins_nil (k acc s z (Ext.refl R.sub) h)
  | e :: es, acc, Q, z, s, P, h, R, k => Joins_cons (noE (h F z s R) fun x s₁ ⟨z₁, v, e₁, rz, y, hv, hs, q⟩ => by
      subst hv
      obtain ⟨t, rfl⟩ := rz
      exact ⟨y, t, rfl, hs, q.run (R.ext e₁) fun out s' z' e' hq => k out s' z' (e₁.trans e') hq⟩)
theorem WE_joined {e1 e2 : Expr} {es : List Expr} {p : Pos} (h : WJ G r sc l (e1 :: e2 :: es) Str.empty fun out => out.length ≤ sizeLine ∧ Q (.str out)) : WE G r sc l (.JoinedStr (e1 :: e2 :: es) p) Q := fun F z s R =>
  wpAny_JoinedStr (h.run R fun out s' z' e q => ⟨q.1, z', .str out, e.trans (Ext.toks e.sub _), ⟨_, rfl⟩, q.2⟩)
end
end Mine

end
section
open PySem PySem.W PySem.Calls PyProof.Rows
set_option linter.unusedVariables false
set_option maxRecDepth 100000
namespace Mine
section
variable {prog : Program} {w : World} {K : Frag} {G : Gl prog w K} {r : Nat} {sc : Scope} {l : Locs} {k : Kt} {Q : V → Prop}

/-! names forgotten, by computation -/
noncomputable def Has (l : Locs) : Locs → Prop
  | [] => True
  | p :: q => l.lookup p.1 = some p.2 ∧ Has l q
theorem Has.mem : ∀ {l' : Locs}, Has l l' → ∀ p ∈ l', l.lookup p.1 = some p.2
  | _ :: _, ⟨h, t⟩, p, hp => by
    rcases List.mem_cons.mp hp with rfl | hp
    · exact h
    · exact t.mem p hp
noncomputable def ndB : List Str → Bool
  | [] => true
  | x :: xs => !xs.contains x && ndB xs
theorem ndB_nodup : ∀ {l : List Str}, ndB l = true → l.Nodup
  | [], _ => List.nodup_nil
  | x :: xs, h => by
    unfold ndB at h
    rw [Bool.and_eq_true] at h
    exact List.nodup_cons.mpr ⟨by have := h.1; simp at this; exact this, ndB_nodup h.2⟩
theorem Rep.wk {F : Frm G r sc} {z : Zp} {s : Shared} (R : Rep F l z s) (l' : Locs) (h : Has l l') (hn : ndB (l'.map (·.1)) = true) : Rep F l' z s := R.weak (ndB_nodup hn) fun x u e => h.mem (x, u) (lookup_mem e)
theorem WS.wk {st : List Stmt} (l' : Locs) (h : Has l l') (hw : WS G r sc l' st k) (hn : ndB (l'.map (·.1)) = true := by rfl) : WS G r sc l st k := fun F z s R => hw F z s (R.wk l' h hn)
theorem WAs.mono {tgt : Expr} {v : V} {P P' : Locs → Prop} (h : WAs G r sc l tgt v P) (k : ∀ l, P l → P' l) : WAs G r sc l tgt v P' := fun F z s x R rz =>
  noE (h F z s x R rz) fun _ _ ⟨z', l', zz, R', q⟩ => ⟨z', l', zz, R', k _ q⟩

theorem WAs.wk {tgt : Expr} {v : V} {P : Locs → Prop} (l' : Locs) (h : Has l l') (hw : WAs G r sc l' tgt v P) (hn : ndB (l'.map (·.1)) = true := by rfl) : WAs G r sc l tgt v P := fun F z s x R rz => hw F z s x (R.wk l' h hn) rz
theorem WT.wk {e : Expr} {P : Bool → Prop} (l' : Locs) (h : Has l l') (hw : WT G r sc l' e P) (hn : ndB (l'.map (·.1)) = true := by rfl) : WT G r sc l e P := fun F z s R => hw F z s (R.wk l' h hn)
/-- for, by an invariant -/
theorem WF.ind {tgt : Expr} {body orelse : List Stmt} (vs : List V) (J : Nat → Locs → Prop) (h0 : J 0 l) (step : ∀ i v l, vs[i]? = some v → J i l → WAs G r sc l tgt v fun l' => WS G r sc l' body { nx := J (i + 1), ct := J (i + 1), bk := k.nx, rt := k.rt })
    (fin : ∀ l, J vs.length l → WS G r sc l orelse k) : WF G r sc tgt body orelse k vs l := by
  have : ∀ (us ws : List V) (l : Locs), vs = ws ++ us → J ws.length l → WF G r sc tgt body orelse k us l := by
    intro us
    induction us with
    | nil => exact fun ws l hd hJ => fin l (by rw [hd, List.append_nil]; exact hJ)
    | cons v us ih =>
      intro ws l hd hJ
      have hv : vs[ws.length]? = some v := by rw [hd]; simp
      have nxt : ∀ l', J (ws.length + 1) l' → WF G r sc tgt body orelse k us l' := fun l' h => ih (ws ++ [v]) l' (by rw [hd]; simp) (by simpa using h)
      exact WAs.mono (step ws.length v l hv hJ) fun l' h => WS.mono h nxt (fun _ h => h) nxt (fun _ h => h)
  exact this vs [] l rfl h0

theorem cat_len (x y : Str) : (x ++ y).length = x.length + y.length := strLen_append x y

/-! a deep value of the written part -/
mutual
noncomputable def rzK (K : Frag) : V → Value → Bool
  | .int i, .int j _ => i == j
  | .str x, .str y _ => x == y
  | .bool b, .bool c => b == c
  | .nil, .none => true
  | .tup vs, .ref a => match K.lookup a with
    | some ⟨.type "tuple", none, .seq xs _, _⟩ => rzKs K vs xs.toList
    | _ => false
  | _, _ => false
noncomputable def rzKs (K : Frag) : List V → List Value → Bool
  | [], [] => true
  | v :: vs, x :: xs => rzK K v x && rzKs K vs xs
  | _, _ => false
end
mutual
theorem rzK_ok {C : Addr} {z : Zp} (hz : ∀ a o, K.lookup a = some o → z a = some o) : ∀ {v : V} {x : Value}, rzK K v x = true → Rz C z v x
  | .int i, x, h => by
    cases x <;> first | exact Bool.noConfusion (show false = true from h) | skip
    rename_i j t
    have e : i = j := beq_iff_eq.mp (show (i == j) = true from h)
    subst e; exact ⟨_, rfl⟩
  | .str i, x, h => by
    cases x <;> first | exact Bool.noConfusion (show false = true from h) | skip
    rename_i j t
    have e : i = j := beq_iff_eq.mp (show (i == j) = true from h)
    subst e; exact ⟨_, rfl⟩
  | .bool i, x, h => by
    cases x <;> first | exact Bool.noConfusion (show false = true from h) | skip
    rename_i j
    have e : i = j := beq_iff_eq.mp (show (i == j) = true from h)
    subst e; exact rfl
  | .nil, x, h => by
    cases x <;> first | exact Bool.noConfusion (show false = true from h) | skip
    exact rfl
  | .tup vs, x, h => by
    cases x <;> first | exact Bool.noConfusion (show false = true from h) | skip
    rename_i a
    unfold rzK at h
    split at h
    · rename_i xs n sl e
      exact ⟨a, xs.toList, rfl, ⟨_, n, hz _ _ e, rfl, rfl, by simp⟩, rzKs_ok hz h⟩
    · cases h
  | .lst vs, x, h => Bool.noConfusion (show false = true from h)
  | .raw vs, x, h => Bool.noConfusion (show false = true from h)
  | .ins _ _, x, h => Bool.noConfusion (show false = true from h)
  | .obj _ _, x, h => Bool.noConfusion (show false = true from h)
  | .rng _ _, x, h => Bool.noConfusion (show false = true from h)
  | .lam _ _, x, h => Bool.noConfusion (show false = true from h)
  | .fn _ _, x, h => Bool.noConfusion (show false = true from h)
theorem rzKs_ok {C : Addr} {z : Zp} (hz : ∀ a o, K.lookup a = some o → z a = some o) : ∀ {vs : List V} {xs : List Value}, rzKs K vs xs = true → RzL C z vs xs
  | [], [], _ => rfl
  | [], _ :: _, h => Bool.noConfusion (show false = true from h)
  | _ :: _, [], h => Bool.noConfusion (show false = true from h)
  | v :: vs, x :: xs, h => by
    have h := Bool.and_eq_true_iff.mp (show (rzK K v x && rzKs K vs xs) = true from h)
    exact ⟨x, xs, rfl, rzK_ok hz h.1, rzKs_ok hz h.2⟩
end
theorem WE_gk {x : Str} {p : Pos} {val : Value} {v : V} (e : nsIn K mainGlobals x = some (some val)) (hv : rzK K v val = true) (h : Q v) (hx : sc.names.lookup x = some .globalImplicit := by rfl) (hd : (x == ("__debug__" : Str)) = false := by decide) : WE G r sc l (.Name x p) Q :=
  WE_gd e (rzK_ok G.inK hv) h hx hd
end
end Mine

end
section
open PySem PySem.W PySem.Calls PyProof.Rows
set_option linter.unusedVariables false
set_option maxRecDepth 100000
namespace Mine
noncomputable abbrev appOb (a : Addr) : Obj := { cls := .type "builtin_function_or_method", data := .fields #[.builtin "list.append", .ref a] }
theorem slot_mdget : Slot "method_descriptor" "__get__" "method_descriptor.__get__" := Slot.of (T := "method_descriptor") (name := "__get__") (owner := "method_descriptor") (n := "__get__") (by rw [typeLookup_type, builtinLookup_eq_fast]; kernel_rfl) (by decide +kernel) (by decide +kernel) (by decide +kernel)
    (.inl (by decide +kernel)) (by rw [isSubtype_type]; kernel_rfl)
theorem entry_mdget : entryFor table "method_descriptor.__get__" = some Builtin.«method_descriptor.__get__» := entryFor_of_tree (by kernel_rfl)
theorem args_mdget (a b c : Value) : argsOk "method_descriptor.__get__" ⟨[a, b, c], []⟩ := by unfold argsOk; kernel_rfl
theorem meets_ga_append (a : Addr) (xs : Array Value) (k : Nat) (sl : Array (Option Value)) (u : Tok) :
    Meets (Builtin.«object.__getattribute__» ⟨[.ref a, .str "append" u], []⟩) (fun A R s => s.heap.get? a = some { cls := .type "list", dict := none, data := .seq xs k, slots := sl } ∧ R (.ok (.ret (.ref s.heap.objs.size))) { s with heap := s.heap.push (appOb a) }) :=
  Meets.of_wp fun prog w A R s hs => by
    obtain ⟨hp, g, d, tk, os⟩ := s
    obtain ⟨hx, hs⟩ := hs
    have hT : (⟨hp, g, d, tk, os⟩ : Shared).TypeIs (.ref a) "list" := ⟨_, hx, rfl⟩
    have hl : typeLookup (.type "list") (Str.ofString "append") = pure (some (.builtin "list.append")) := slot_list_append.lookup
    unfold Builtin.«object.__getattribute__»
    repeat (any_goals (first | assumption | wp_step))
    have hk : builtinKind "list.append" = some .method := by kernel_rfl
    have hg : typeLookup (.type "method_descriptor") (Str.ofString "__get__") = pure (some (.builtin "method_descriptor.__get__")) := by rw [typeLookup_type, builtinLookup_eq_fast]; kernel_rfl
    simp only [hk]
    refine wpAny_of_eq hg ?_
    have ht : takesIn [] (.builtin "list.append") = some false := by decide +kernel
    refine wpAny_bind ?_
    show wpAny _ _ (Builtin.ObjectAttr.takesStores (.builtin "list.append") >>= _) _ _ _
    refine wpAny_bind ((looks_takesIn (K := []) (fun _ _ e => by cases e) ht).here ?_)
    refine wpAny_pure ?_
    dsimp only
    unfold Builtin.ObjectAttr.ownThenClass Builtin.ObjectAttr.inOwnDict Builtin.ObjectAttr.ownDict
    refine wpAny_bind ?_
    refine wpAny_bind (wpAny_bind ?_)
    refine wpAny_loadPart hx ?_
    dsimp only
    unfold instanceDict
    refine wpAny_bind (wpAny_loadPart hx ?_)
    show wpAny _ _ (pure none) _ _ _
    refine wpAny_pure ?_
    show wpAny _ _ (pure none) _ _ _
    refine wpAny_pure ?_
    show wpAny _ _ (pure () >>= fun _ => _) _ _ _
    refine wpAny_bind (wpAny_pure ?_)
    refine wpAny_bind (wpAny_rule (wpAny_pure ?_))
    dsimp only
    unfold Builtin.ObjectAttr.bindTo
    show wpAny _ _ (holding _ _ >>= fun _ => _) _ _ _
    refine wpAny_bind (wpAny_holding ?_)
    have hty : Shared.TypeIs ⟨hp, g, d, tk, os⟩ (.builtin "list.append") "method_descriptor" := type_list_append
    refine wpAny_call_entry slot_mdget hty entry_mdget ?_ (args_mdget _ _ _)
    unfold Builtin.«method_descriptor.__get__»
    have hc : Manifest.toldItsClass.contains "list.append" = false := by decide +kernel
    refine wpAny_bind (wpAny_pure ?_)
    have e1 : (Value.ref a == Value.none) = false := rfl
    have e2 : (Value.type "list" == Value.none) = false := rfl
    simp only [e1, e2, hc, Bool.false_eq_true, if_false]
    have hi : wpAny (model prog w) A.in1.in1 (isInstance (.ref a) (.type "list")) (fun b s' => b = true ∧ s' = ⟨hp, g, d, tk, os⟩) (fun e s' => R (Except.error e) s') ⟨hp, g, d, tk, os⟩ := wpAny_isInstance hT (by rw [isSubtype_type]; kernel_rfl) ⟨rfl, rfl⟩
    refine wpAny_bind ?_
    · refine wpAny_bind (wpAny_pure ?_)
      have eo : ".".intercalate ("list.append".cutAt '.').dropLast = "list" := by decide +kernel
      dsimp only
      rw [eo]
      refine wpAny_bind (wpAny_mono hi (fun b s' hb => ?_) fun _ _ e => e)
      obtain ⟨rfl, rfl⟩ := hb
      refine wpAny_pure ?_
      unfold newFields
      refine wpAny_bind (wpAny_newObj_type ?_ (by size_fits))
      exact wpAny_pure ⟨_, rfl, wpAny_pure ⟨_, rfl, hs⟩⟩

theorem getAttr_append {prog : Program} {w : World} {A : Around} {E : Value → Shared → Prop} {s : Shared} {a : Addr} {xs : List Value} {Q : Value → Shared → Prop} (hx : s.heap.PlainList a xs.toArray)
    (h : Q (.ref s.heap.objs.size) { s with heap := s.heap.push (appOb a), toks := s.toks + 1 }) : wpAny (model prog w) A (getAttr (.ref a) "append" true) Q E s := by
  obtain ⟨hp, g, d, tk, os⟩ := s
  obtain ⟨k, hx⟩ := hx
  have hT : Shared.TypeIs ⟨hp, g, d, tk + 1, os⟩ (.ref a) "list" := ⟨_, hx, rfl⟩
  unfold getAttr getAttrBy
  refine wpAny_bind (wpAny_mkText ?_)
  refine wpAny_holding ?_
  refine wpAny_bind (wpAny_typeOf hT ?_)
  refine wpAny_bind (wpAny_of_eq list_getattribute ?_)
  show wpAny _ _ (getAttrByItsOwn _ _ _ _ _ _) _ _ _
  unfold getAttrByItsOwn hookBefore callGetattribute boundAndCalled
  wp_walk
  rw [F.slot_list_getattribute.bind]
  refine wpAny_pure ?_
  exact call_meets F.slot_list_getattribute hT am_entry_list_getattribute (F.args_list_getattribute_2 _ _) (meets_ga_append a xs.toArray k #[] _) ⟨hx, wpAny_pure h⟩

noncomputable def apSig : Manifest.Signature := ⟨.oneArg, "list.append", "append", .self, [⟨"object", .posOnly, true⟩]⟩
theorem ap_args (a x : Value) : Bind.checkArgs "list.append" { apSig with full := s!"{Bind.lastOf "list"}.{Bind.lastOf "list.append"}" } ⟨[a, x], []⟩ = pure () := by kernel_rfl
theorem call_appOb {prog : Program} {w : World} {A : Around} {E : Value → Shared → Prop} {s : Shared} {q a : Addr} {o : Obj} {x : Value} {items : Array Value} {Q : Value → Shared → Prop} (ho : s.heap.get? q = some o) (hap : appObj a o)
    (hl : s.heap.PlainList a items) (hQ : ∀ h', h'.PlainList a (items.push x) → Heap.SameBut a s.heap h' → Q .none { s with heap := h' }) (hsz : items.size ≤ sizeLine) : wpAny (model prog w) A (call (.ref q) [x]) Q E s := by
  obtain ⟨hc, vs, hd, hv⟩ := hap
  obtain ⟨oc, od, oda, osl⟩ := o
  dsimp only at hc hd
  subst hc hd
  have hv : vs = #[.builtin "list.append", .ref a] := by rw [← hv]
  subst hv
  refine wpAny_call (codeAny_of_tree ?_)
  show wpAny _ _ (callAny (.ref q) _) _ _ _
  refine nd_load ho (nd_bind (nd_pure ?_))
  show wpAny _ _ (checkBoundCall "list.append" ⟨[.ref a, x], []⟩ >>= fun _ => again (.builtin "list.append" ⟨[.ref a, x], []⟩)) _ _ s
  obtain ⟨n, hx⟩ := id hl
  have hT : s.TypeIs (.ref a) "list" := ⟨_, hx, rfl⟩
  have hs : Manifest.signature? "list.append" = some apSig := by kernel_rfl
  have hk : builtinKind "list.append" = some .method := by kernel_rfl
  have hva : Manifest.varargsMethods.contains "list.append" = false := by decide +kernel
  refine wpAny_bind ?_
  unfold checkBoundCall
  simp only [hs, hk]
  refine wpAny_bind (wpAny_isInstance (T := "list") (b := false) hT (by rw [isSubtype_type]; kernel_rfl) ?_)
  rw [hva]
  simp only [Bool.or_false, Bool.false_eq_true, if_false]
  refine wpAny_bind ?_
  refine wpAny_bind (wpAny_loadPart hx ?_)
  refine wpAny_pure ?_
  simp only [Bool.false_eq_true, if_false]
  refine wpAny_bind (wpAny_typeOf hT ?_)
  show wpAny _ _ (Bind.checkArgs "list.append" _ ⟨[.ref a, x], []⟩) _ _ s
  refine wpAny_of_eq (ap_args _ _) ?_
  refine wpAny_pure (a := Fin.again _) ⟨Code.quiet_builtin _ (by decide +kernel), codeAny_builtin entry_list_append ?_⟩
  show wpAny _ _ (updateSeq a (·.push x) >>= fun _ => ret .none) _ _ s
  refine wpAny_bind ?_
  refine wpAny_updateSeq hx rfl (wpAny_pure (hQ _ ⟨n + 1, ?_⟩ (Heap.SameBut.update ..)))
  rw [Heap.get?_update_self _ hx (by rw [Obj.mapSeq_push_plain]; rfl), Obj.mapSeq_push_plain]

section
variable {prog : Program} {w : World} {K : Frag} {G : Gl prog w K} {r : Nat} {sc : Scope} {l : Locs} {k : Kt} {Q : V → Prop}
/-- y = x.append -/
theorem WX_app {x y : Str} {xs : List V} {p p' pn pa : Pos} (hl : l.lookup x = some (.own xs)) (h : k.nx (put l y (.app x))) (hne : (x == y) = false := by decide) (hx : stored sc y = true := by rfl)
    (he : ∀ env, eval (.Attribute (.Name x pn) "append" pa) env = (do let o ← eval (.Name x pn) env; standAt pa.atName; let r ← holding [o] (getAttr o "append" true); letTemporaryGo (.Name x pn) o r; pure r) := by intro _; with_unfolding_all rfl)
    (hd : (x == ("__debug__" : Str)) = false := by decide) (hc : (x == ("__classdict__" : Str)) = false := by decide) : WX G r sc l (.Assign [.Name y p'] (.Attribute (.Name x pn) "append" pa) p) k := fun F z s R => by
  obtain ⟨m, am, L⟩ := R.loc
  obtain ⟨_, ⟨vals, hp, rl⟩, n⟩ := (L.ok x _ hl).of rfl
  refine wpAny_Assign_Name (Attribute_any_ (wpAny_Name (Frm.load L.ns n hc ?_) hd) (he _)) (swaps_no rfl _ _ _)
  refine getAttr_append hp ?_
  have ex : Ext z s (z.put s.heap.objs.size (appOb (am x))) { s with heap := s.heap.push (appOb (am x)), toks := s.toks + 1 } := (Ext.push R.sub (o := appOb (am x)) rfl).trans (Ext.toks (Ext.push R.sub (o := appOb (am x)) rfl).sub _)
  exact (R.end.ext ex).store (lv := .app x) (am' := am) (L.ext ex) (stored_or hx) (fun _ _ => rfl) (fun e => (by cases e)) (fun q e => by cases e; intro e; subst e; simp at hne) (fun h' m' n' _ => ⟨_, _, n', Zp.put_self, rfl, _, rfl, rfl⟩) fun s₂ R₂ => ⟨_, _, R₂, h⟩

theorem keeps_app {q a : Addr} {o : Obj} (hap : appObj a o) (hp : Heap) (h : hp.get? q = some o) : ∃ k, (k = Keeper.frame ∨ k = Keeper.machine ∨ k = Keeper.boundFrame) ∧ Looks (model prog w) hp (keeperOf (.ref q)) k := by
  obtain ⟨hc, vs, hd, hv⟩ := hap
  refine ⟨.machine, .inr (.inl rfl), fun A Q E s ke hq => ?_⟩
  unfold keeperOf
  refine wpAny_bind (wpAny_load (ke _ _ h) ?_)
  rw [hd, hc]
  exact wpAny_pure hq

/-- y(e), where y is x.append -/
theorem WX_callApp {x y : Str} {xs : List V} {e : Expr} {p pc pn : Pos} (hy : l.lookup y = some (.app x)) (hl : l.lookup x = some (.own xs)) (h : WE G r sc l e fun v => xs.length ≤ sizeLine ∧ k.nx (upd l x (.own (xs ++ [v]))))
    (hpl : plainEs [e] = true := by rfl) (hd : (y == ("__debug__" : Str)) = false := by decide) (hc : (y == ("__classdict__" : Str)) = false := by decide) :
    WX G r sc l (.Expr (.Call (.Name y pn) [e] [] pc) p) k := fun F z s R => by
  obtain ⟨m, am, L⟩ := R.loc
  obtain ⟨q, o, n, zq, hap⟩ := L.ok y _ hy
  refine wpAny_Expr (wpAny_Call_ofName (wpAny_Name (Frm.load L.ns n hc ?_) hd)) (Frm.notI F) (swaps_no rfl _ _ _)
  rw [backTo_plain hpl]
  refine callWith_of (P := fun hp => hp.get? q = some o) rfl (fun hp X => keeps_app hap hp X) ?_
  refine Calls.evalArgs_plain (Calls.spliced_cons (noE (h F z s R) fun val s₁ ⟨z₁, v, e₁, rz, hs, qq⟩ => Calls.spliced_nil ⟨e₁.sub _ _ (e₁.zz _ _ zq), ?_⟩))
  have L₁ := L.ext e₁
  obtain ⟨_, ⟨vals, hp, rl⟩, _⟩ := (L₁.ok x _ hl).of rfl
  refine call_appOb (e₁.sub _ _ (e₁.zz _ _ zq)) hap hp (fun h' hp' sb => ?_) (by rw [List.size_toArray, rl.length]; exact hs)
  refine ⟨z₁, _, (R.end.ext e₁).turn (u' := .own (xs ++ [v])) (t := s₁.toks) L₁ hl rfl rfl (fun _ t => t) sb ⟨vals ++ [val], ?_, RzL.append (RzL.one rz) rl⟩, qq⟩
  have : (vals ++ [val]).toArray = vals.toArray.push val := by simp
  rw [this]; exact hp'
end
end Mine

end
section
open PySem PySem.W PySem.Calls PyProof.Rows
set_option linter.unusedVariables false
set_option maxRecDepth 100000
namespace Mine
theorem mro_object : mroOf (.type "object") = pure [.type "object"] := by rw [mroOf_type]; kernel_rfl
theorem lookup_object_new : typeLookup (.type "object") "__new__" = pure (some (.builtin "object.__new__")) := by rw [typeLookup_type, builtinLookup_eq_fast]; kernel_rfl
theorem slot_object_init : Slot "object" "__init__" "object.__init__" := Slot.of (T := "object") (name := "__init__") (owner := "object") (n := "__init__") (by rw [typeLookup_type, builtinLookup_eq_fast]; kernel_rfl) (by decide +kernel) (by decide +kernel) (by decide +kernel)
    (.inl (by decide +kernel)) (by rw [isSubtype_type]; kernel_rfl)
theorem called_object : TypeCalled "object" "object.__new__" "object.__init__" :=
  ⟨by decide +kernel, by decide +kernel, ⟨_, _, mro_object⟩, madeBy_type mro_object lookup_object_new (by decide +kernel), by decide +kernel, by rw [isSubtype_type]; kernel_rfl, slot_object_init⟩
theorem meets_object_new : Meets (Builtin.«object.__new__» ⟨[.type "object"], []⟩) (fun _ R s => R (.ok (.ret (.ref s.heap.objs.size))) { s with heap := s.heap.push { cls := .type "object", data := .plain } }) :=
  .of_wp fun prog w A R s h => by
    obtain ⟨hp, g, d, tk, os⟩ := s
    unfold Builtin.«object.__new__»
    have hb : Bind.madeHere "object.__new__" (.type "object") = pure () := by kernel_rfl
    wp_walk
    exact ⟨_, rfl, h⟩
theorem call_object {prog : Program} {w : World} {A : Around} {E : Value → Shared → Prop} {s : Shared} {Q : Value → Shared → Prop} (h : Q (.ref s.heap.objs.size) { s with heap := s.heap.push { cls := .type "object", data := .plain } }) :
    wpAny (model prog w) A (call (.type "object") []) Q E s := by
  refine callType_meets called_object (by kernel_rfl) (by kernel_rfl) F.objNew.entry F.entry_object_init meets_object_new (Q₁ := fun obj s₁ => s₁.TypeIs obj "object" ∧ Q obj s₁) ⟨⟨_, Heap.get?_push_size _ rfl, rfl⟩, h⟩ fun obj s₁ hq => ⟨hq.1, oi_args obj, fun _ R s => s.TypeIs obj "object" ∧ R (.ok (.ret .none)) s, ?_, hq.1, rfl, hq.2⟩
  exact Meets.of_wp fun prog w A R s hs => wpAny_pure ⟨_, rfl, hs.2⟩

section
variable {prog : Program} {w : World} {K : Frag} {G : Gl prog w K} {r : Nat} {sc : Scope} {l : Locs} {k : Kt} {Q : V → Prop}
theorem B_object (h : ∀ a, Q (.raw (.ref a))) : CS G r (.type "object") [] Q := fun A z s xs hh hR zB hsub rl => by
  have rl : xs = [] := rl
  subst rl
  exact call_object ⟨z, .raw (.ref s.heap.objs.size), Ext.grow (t := s.toks) hsub fun b o e => Heap.get?_push_of_some _ e, rfl, h _⟩
end
end Mine

end
section
open PySem PySem.W PySem.Calls PyProof.Rows
set_option linter.unusedVariables false
set_option maxRecDepth 100000
namespace Mine
section
variable {prog : Program} {w : World} {A : Around} {E : Value → Shared → Prop} {s : Shared}
theorem nat_len' {n : Nat} (h : n ≤ 1000) : n ≤ sizeLine := by rw [sizeLine_eq]; omega
theorem tl_keep {d : Addr} {f : Int → Option Value} {c : Nat} {Q : Builtin.Str.Mapped → Shared → Prop} (hm : s.heap.IntMap d f) (hnd : ∀ o, s.heap.get? d = some o → o.dict = none ∧ o.slots = #[]) (hd : (d == sysModules) = false) (hh : A.handled = none) (hv : f c = none)
    (h : ∀ h' tk, (∀ b o, s.heap.get? b = some o → h'.get? b = some o) → Q .keep { s with heap := h', toks := tk }) : wpAny (model prog w) A (Builtin.Str.tableLookup (.ref d) c) Q E s := by
  unfold Builtin.Str.tableLookup
  refine wpAny_bind (wpAny_attempt (wpAny_bind (wpAny_mkInt ?_)))
  refine wpAny_getItem_missing_of (knd := intKind prog w) (k := (c : Int)) (f := f) (by simp [intKind, Value.isInt]) hd hh (Heap.IntMap.mapOf hm hnd) hv fun h' e ne => ?_
  dsimp only
  obtain ⟨ob, t, ho, hc, _⟩ := ne.there
  refine wpAny_bind (wpAny_isInstance (T := "KeyError") (b := true) ⟨ob, ho, hc⟩ (by rw [isSubtype_type]; kernel_rfl) ?_)
  simp only [if_true]
  exact wpAny_bind (wpAny_rule (wpAny_pure (h _ _ ne.keeps)))
theorem tl_text {d : Addr} {f : Int → Option Value} {c : Nat} {y : Str} {u : Tok} {Q : Builtin.Str.Mapped → Shared → Prop} (hm : s.heap.IntMap d f) (hv : f c = some (.str y u))
    (h : ∀ tk, Q (.text y) { s with toks := tk }) : wpAny (model prog w) A (Builtin.Str.tableLookup (.ref d) c) Q E s := by
  unfold Builtin.Str.tableLookup
  refine wpAny_bind (wpAny_attempt (wpAny_bind (wpAny_mkInt ?_)))
  refine wpAny_getItem_intMap hm hv ?_
  dsimp only
  refine wpAny_bind (wpAny_pure ?_)
  dsimp only
  refine wpAny_bind (wpAny_pure ?_)
  exact wpAny_pure (h _)

theorem tr_keep {d : Addr} {f : Int → Option Value} {c : Nat} {t : Tok} {Q : Value → Shared → Prop} (hm : s.heap.IntMap d f) (hnd : ∀ o, s.heap.get? d = some o → o.dict = none ∧ o.slots = #[]) (hd : (d == sysModules) = false) (hh : A.handled = none) (hc : c < 128) (hv : f c = none)
    (h : ∀ h' tk u, (∀ b o, s.heap.get? b = some o → h'.get? b = some o) → Q (.str ⟨#[c]⟩ u) { s with heap := h', toks := tk }) : wpAny (model prog w) A (call (.builtin "str.translate") [.str ⟨#[c]⟩ t, .ref d]) Q E s := by
  refine wpAny_call_entry F.slot_str_translate (typeIs_str _ _ _) F.entry_str_translate ?_ (F.args_str_translate_2 _ _)
  unfold Builtin.«str.translate»
  have hall : (#[c] : Array Nat).all (fun x => decide (x < 128)) = true := by simp [hc]
  have ht0 : Builtin.Str.tooLong 0 = false := by decide +kernel
  have ht1 : Builtin.Str.tooLong 1 = false := by decide +kernel
  refine wpAny_bind (wpAny_pure ?_)
  show wpAny _ _ (if ((1 : Nat) == 0) = true then _ else _) _ _ _
  rw [if_neg (by decide)]
  dsimp only
  rw [hall]
  refine wpAny_bind ?_
  rw [← Array.forIn_toList]
  simp only [List.forIn_cons, List.forIn_nil, ht0, Bool.false_eq_true, if_false, if_true, List.lookup_nil]
  refine wpAny_bind (wpAny_bind (tl_keep hm hnd hd (by exact hh) hv fun h1 tk kp => ?_))
  dsimp only
  refine wpAny_bind (wpAny_pure ?_)
  dsimp only
  refine wpAny_pure ?_
  dsimp only
  refine wpAny_pure ?_
  dsimp only
  rw [if_neg (by rw [ht1]; decide)]
  refine wpAny_bind (wpAny_mkStr (wpAny_pure ⟨_, rfl, ?_⟩) ?_)
  · exact h h1 _ _ kp
  · show 1 ≤ sizeLine
    exact nat_len' (by decide)
theorem tr_text {d : Addr} {f : Int → Option Value} {c : Nat} {t : Tok} {y : Str} {u : Tok} {Q : Value → Shared → Prop} (hm : s.heap.IntMap d f) (hc : c < 128) (hv : f c = some (.str y u)) (hy : y.length = 2)
    (h : ∀ tk u, Q (.str y u) { s with toks := tk }) : wpAny (model prog w) A (call (.builtin "str.translate") [.str ⟨#[c]⟩ t, .ref d]) Q E s := by
  refine wpAny_call_entry F.slot_str_translate (typeIs_str _ _ _) F.entry_str_translate ?_ (F.args_str_translate_2 _ _)
  unfold Builtin.«str.translate»
  have hall : (#[c] : Array Nat).all (fun x => decide (x < 128)) = true := by simp [hc]
  have ht0 : Builtin.Str.tooLong 0 = false := by decide +kernel
  have ht2 : Builtin.Str.tooLong 2 = false := by decide +kernel
  refine wpAny_bind (wpAny_pure ?_)
  show wpAny _ _ (if ((1 : Nat) == 0) = true then _ else _) _ _ _
  rw [if_neg (by decide)]
  dsimp only
  rw [hall]
  refine wpAny_bind ?_
  rw [← Array.forIn_toList]
  simp only [List.forIn_cons, List.forIn_nil, ht0, Bool.false_eq_true, if_false, if_true, List.lookup_nil]
  refine wpAny_bind (wpAny_bind (tl_text hm hv fun tk => ?_))
  dsimp only
  rw [hy, show ((2 : Nat) == 1 && y.cps.all fun x => decide (x < 128)) = false from rfl]
  simp only [Bool.false_eq_true, if_false]
  refine wpAny_bind (wpAny_pure ?_)
  dsimp only
  refine wpAny_bind (wpAny_rule ?_)
  refine wpAny_bind (tl_text hm hv fun tk => ?_)
  dsimp only
  refine wpAny_pure ?_
  dsimp only
  refine wpAny_pure ?_
  dsimp only
  rw [hy, if_neg (by rw [ht2]; decide)]
  have e : (⟨[y].reverse.foldl (fun acc p => acc ++ p.cps) #[]⟩ : Str) = y := Str.ext' (by simp)
  refine wpAny_bind (wpAny_mkStr (wpAny_pure ⟨_, rfl, ?_⟩) ?_)
  · rw [e]; exact h _ _
  · rw [e, hy]
    exact nat_len' (by decide)
end

section
variable {prog : Program} {w : World} {K : Frag} {G : Gl prog w K} {r : Nat} {sc : Scope} {l : Locs} {k : Kt} {Q : V → Prop}
noncomputable def intKeys (es : Array DictEntry) : Bool := es.toList.all fun e => match e.key with | .int k _ => e.hash == hashInt k | _ => false
theorem intKeys_ok {es : Array DictEntry} (h : intKeys es = true) : ∀ e ∈ es, ∃ k t, e.key = .int k t ∧ e.hash = hashInt k := by
  intro e he
  have := List.all_eq_true.mp h e (by simpa using he)
  cases hk : e.key <;> rw [hk] at this <;> first | (simp at this; done) | skip
  exact ⟨_, _, rfl, by simpa using this⟩
theorem M_tr_keep {d : Addr} {es : Array DictEntry} {ep : Nat} {c : Nat} (ho : K.lookup d = some { cls := .type "dict", data := .dict es ep }) (hk : intKeys es = true) (hd : (d == sysModules) = false) (hc : c < 128) (hv : findBy Value.isInt es (c : Int) = none)
    (h : Q (.str ⟨#[c]⟩)) : CS G r (.builtin "str.translate") [.str ⟨#[c]⟩, .raw (.ref d)] Q := fun A z s xs hh hR zB hsub rl => by
  obtain ⟨x1, _, rfl, ⟨t, rfl⟩, x2, _, rfl, hx, rfl⟩ := rl
  have hx : x2 = .ref d := hx
  subst hx
  have hod : s.heap.get? d = some { cls := .type "dict", data := .dict es ep } := hsub _ _ (zB.zz _ _ (G.inK _ _ ho))
  exact tr_keep (f := fun i => findBy Value.isInt es i) ⟨_, es, ep, hod, rfl, rfl, intKeys_ok hk, fun _ => rfl⟩ (fun o e => by rw [hod] at e; cases e; exact ⟨rfl, rfl⟩) hd hh hc hv fun h' tk u kp => ⟨z, .str ⟨#[c]⟩, Ext.grow hsub kp, ⟨u, rfl⟩, h⟩
theorem M_tr_text {d : Addr} {es : Array DictEntry} {ep : Nat} {c : Nat} {y : Str} {u : Tok} (ho : K.lookup d = some { cls := .type "dict", data := .dict es ep }) (hk : intKeys es = true) (hc : c < 128) (hv : findBy Value.isInt es (c : Int) = some (.str y u)) (hy : y.length = 2)
    (h : Q (.str y)) : CS G r (.builtin "str.translate") [.str ⟨#[c]⟩, .raw (.ref d)] Q := fun A z s xs hh hR zB hsub rl => by
  obtain ⟨x1, _, rfl, ⟨t, rfl⟩, x2, _, rfl, hx, rfl⟩ := rl
  have hx : x2 = .ref d := hx
  subst hx
  have hod : s.heap.get? d = some { cls := .type "dict", data := .dict es ep } := hsub _ _ (zB.zz _ _ (G.inK _ _ ho))
  exact tr_text (f := fun i => findBy Value.isInt es i) ⟨_, es, ep, hod, rfl, rfl, intKeys_ok hk, fun _ => rfl⟩ hc hv hy fun tk u => ⟨z, .str y, Ext.toks hsub _, ⟨u, rfl⟩, h⟩
theorem WE_neg {e : Expr} {p : Pos} (h : WE G r sc l e fun v => ∃ i, v = .int i ∧ Q (.int (-i))) : WE G r sc l (.UnaryOp .USub e p) Q := fun F z s R =>
  wpAny_UnaryOp (noE (h F z s R) fun xa s₁ ⟨z₁, v, e₁, ra, i, hv, q⟩ => by
    subst hv
    obtain ⟨t, rfl⟩ := ra
    exact PySem.P.neg_int ⟨z₁, .int (-i), e₁.trans (Ext.toks e₁.sub _), ⟨_, rfl⟩, q⟩)
end
end Mine

end
section
open PySem PySem.W PySem.Calls PyProof.Rows
set_option linter.unusedVariables false
set_option maxRecDepth 100000
namespace Mine
section
variable {prog : Program} {w : World} {K : Frag} {G : Gl prog w K} {r : Nat} {sc : Scope} {l : Locs} {k : Kt} {Q : V → Prop}

/-- own things that a call has made -/
noncomputable def NewL (C : Addr) (z : Zp) (s : Shared) (z' : Zp) (s' : Shared) (l : Locs) : Prop :=
  Ext z s z' s' ∧ ∃ am : Str → Addr, (∀ x u, l.lookup x = some u → u.mine = true → s.heap.get? (am x) = none ∧ z' (am x) = none ∧ Cont C z' s'.heap (am x) u ∧ (∀ b xs, u = .gl b xs → am x = b) ∧ (∀ b ks vs, u = .gd b ks vs → am x = b)) ∧
    (∀ x y u u', l.lookup x = some u → l.lookup y = some u' → u.mine = true → u'.mine = true → am x = am y → x = y)

/-- an object of a class of the top is made by its __init__ -/
theorem new_inst {C fI : Addr} {name qual : Str} {params : Arguments} {body : List Stmt} {dV kV doc pm cdv ct oc : Value} {an od : Option Addr} {osl : Array (Option Value)} (hC : G.C = C) (hm : makesIn K C = true) (hi : findIn K (.ref C) "__init__" = some (some (.ref fI))) (hf : typeIn K (.ref fI) = some (.type "function"))
    (ho : K.lookup fI = some ⟨oc, od, .func (fnOf name qual params body sc dV kV doc pm an cdv ct), osl⟩) (hcd : codeIn K cdv qual = true)
    (J : Addr → Addr → Locs → Prop) (h : ∀ p d, WS G r sc [("self", .v (.obj p d)), ("#d", .gd d [] [])] body { nx := J p d })
    (hb : ∀ x : Value, bindArgs (fnOf name qual params body sc dV kV doc pm an cdv ct) ⟨[x], []⟩ = pure [(Str.ofString "self", x)]) (hloc : (sc.names.lookup (Str.ofString "self") == some .local) = true := by decide +kernel) (hgh : sc.names.lookup (Str.ofString "#d") = none := by decide +kernel)
    (hcell : (sc.names.all fun x => x.2 != .cell) = true := by decide +kernel) (hco : sc.isCoroutine = false := by rfl) (hgen : sc.isGenerator = false := by rfl) (hk : sc.kind = .function := by rfl)
    {A : Around} {z : Zp} {s : Shared} (hh : A.handled = none) (hR : Room (r + 2) A) (zB : Bd G z s.heap) (hs : Sub z s.heap) :
    wpAny (model prog w) A (call (.ref C) []) (fun x s' => ∃ z' p d l, x = .ref p ∧ z' p = some (instObj C d) ∧ NewL G.C z s z' s' l ∧ J p d l) (fun _ _ => False) s := by
  have X : K.In s.heap := fun b o e => hs _ _ (zB.zz _ _ (G.inK b o e))
  have hnk : ∀ x, sc.names.lookup x ≠ some .cell := fun x e => by
    have := List.all_eq_true.mp hcell _ (lookup_some_mem e)
    simp at this
  obtain ⟨hp, g, dd, t, os⟩ := s
  refine wpAny_call (make_core (makes_of X hm) (looks_findIn X hi) (fun self => bind_fn X self hf) (.inl rfl) ?_)
  have kp0 : ∀ b o, hp.get? b = some o → ((hp.push emptyDict).push (instObj C hp.objs.size)).get? b = some o := fun b o e => Heap.get?_push_of_some _ (Heap.get?_push_of_some _ e)
  have hinst : ((hp.push emptyDict).push (instObj C hp.objs.size)).get? (hp.objs.size + 1) = some (instObj C hp.objs.size) := by
    have := Heap.get?_push_size (hp.push emptyDict) (o := instObj C hp.objs.size) rfl
    rw [Heap.size_push] at this; exact this
  have hdict : ((hp.push emptyDict).push (instObj C hp.objs.size)).get? hp.objs.size = some emptyDict := Heap.get?_push_of_some _ (Heap.get?_push_size _ rfl)
  have hsz : ((hp.push emptyDict).push (instObj C hp.objs.size)).objs.size = hp.objs.size + 2 := by rw [Heap.size_push, Heap.size_push]
  have n0 : hp.get? hp.objs.size = none := get_fresh _
  have n1 : hp.get? (hp.objs.size + 1) = none := by
    cases q : hp.get? (hp.objs.size + 1) with
    | none => rfl
    | some o => exact absurd (Heap.lt_size q) (Nat.not_lt_of_le (Nat.le_add_right _ _))
  have zn0 : z hp.objs.size = none := hs.fresh
  have zn1 : z (hp.objs.size + 1) = none := by
    cases q : z (hp.objs.size + 1) with
    | none => rfl
    | some o => have := hs _ _ q; rw [n1] at this; cases this
  generalize (hp.push emptyDict).push (instObj C hp.objs.size) = h1 at kp0 hinst hdict hsz ⊢
  have hs1 : Sub (z.put (hp.objs.size + 1) (instObj C hp.objs.size)) h1 := fun b o e => by
    by_cases hbb : b = hp.objs.size + 1
    · subst hbb; rw [Zp.put_self] at e; cases e; exact hinst
    · exact kp0 b o (hs b o (by simpa [Zp.put, hbb] using e))
  have zz1 := Zp.put_old (z := z) (o := instObj C hp.objs.size) zn1
  have X1 : K.In h1 := fun b o e => kp0 _ _ (X _ _ e)
  refine codeAny_call_def (fd := fnOf name qual params body sc dV kV doc pm an cdv ct) (body := body) (binds := [(Str.ofString "self", .ref (hp.objs.size + 1))]) ?_ (X1 _ _ ho) rfl (G.nolim _ fun b o e => kp0 _ _ (hs _ _ (zB.zz _ _ e))) (codeRec_of X1 hcd) rfl (.of_eq (hb _))
    (fun x hx e => by
      have := List.all_eq_true.mp hcell _ hx
      simp [e] at this) (fun x hx => ?_) (fun h₀ ns kp => ?_) hco hgen hk
  · have := hR; unfold Room at this; show A.depth + 1 < _; omega
  · rw [List.mem_singleton.mp hx]; exact beq_iff_eq.mp hloc
  · have hR1 : Room (r + 1) (A.under (.builtin "type.__call__" ⟨[.ref C], []⟩)) := by
      have := hR; unfold Room at this ⊢
      show A.depth + 1 + (r + 1) < _ ∧ A.units + 1 + 60 * (r + 1) + 60 < _
      omega
    let F : Frm G r sc := Frm.mk h1.objs.size [] (qual ++ ".<locals>.") (some fI) cdv (some h1.objs.size) ((A.under (.builtin "type.__call__" ⟨[.ref C], []⟩)).deeper (callEnv (fnOf name qual params body sc dV kV doc pm an cdv ct) h1.objs.size fI))
      (fun b => if b = hp.objs.size then none else ntab h1 b) (z.put (hp.objs.size + 1) (instObj C hp.objs.size)) hp g dd os hk (fun b o e => zz1 b o (zB.zz b o e)) (fun b o e => by
        split at e
        · cases e
        · exact (ntab_some e).2) hh hR1.deeper (Tabs z hp) zB.tabs (Ztab z) (fun h => h.mono zz1)
    have hself : (Str.ofString "self") ≠ (Str.ofString "#d") := by decide
    have L0 : F.LocOk [("self", .v (.obj (hp.objs.size + 1) hp.objs.size)), ("#d", .gd hp.objs.size [] [])] (z.put (hp.objs.size + 1) (instObj C hp.objs.size)) h₀ (fun x => [(Str.ofString "self", Value.ref (hp.objs.size + 1))].reverse.lookup x) (fun _ => hp.objs.size) := by
      have hf1 : h1.get? h1.objs.size = none := get_fresh _
      refine ⟨ndB_nodup rfl, ns, ⟨hs1.fresh, ?_⟩, fun x hx => absurd hx (hnk x), fun x y c hx => absurd hx (hnk x), fun x c _ e => (by cases e), fun x lv e => ?_, fun x y u u' hx hy hu hu' _ => ?_⟩
      · refine Frm.Bs_of ?_ ?_
        · show (if h1.objs.size = hp.objs.size then none else ntab h1 h1.objs.size) = none
          unfold ntab
          rw [hf1]; simp
        · show hp.get? h1.objs.size = none
          cases q : hp.get? h1.objs.size with
          | none => rfl
          | some o => rw [kp0 _ _ q] at hf1; cases hf1
      · rw [List.lookup_cons] at e
        cases q : x == Str.ofString "self" with
        | true =>
          rw [q] at e
          cases e
          rw [eq_of_beq q]
          refine ⟨.ref (hp.objs.size + 1), .inl ⟨beq_iff_eq.mp hloc, by simp⟩, rfl, ?_⟩
          rw [hC]; exact Zp.put_self
        | false =>
          rw [q, List.lookup_cons] at e
          cases q2 : x == Str.ofString "#d" with
          | false => rw [q2] at e; cases e
          | true =>
            rw [q2] at e
            cases e
            refine ⟨⟨⟨?_, ?_⟩, ?_, fun y c hy => absurd hy (hnk y)⟩, ⟨[], 0, [], kp _ _ hdict, trivial, rfl⟩, rfl⟩
            · simp [Zp.put, zn0]
            · exact Frm.Bs_of (if_pos rfl) n0
            · show hp.objs.size ≠ h1.objs.size
              rw [hsz]; exact Nat.ne_of_lt (Nat.lt_add_of_pos_right (by decide))
      · have only : ∀ {x : Str} {u : LV}, List.lookup x [((Str.ofString "self" : Str), LV.v (.obj (hp.objs.size + 1) hp.objs.size)), (Str.ofString "#d", LV.gd hp.objs.size [] [])] = some u → u.mine = true → x = Str.ofString "#d" := by
          intro x u e hu
          rw [List.lookup_cons] at e
          cases q : x == Str.ofString "self" with
          | true => rw [q] at e; cases e; cases hu
          | false =>
            rw [q, List.lookup_cons] at e
            cases q2 : x == Str.ofString "#d" with
            | false => rw [q2] at e; cases e
            | true => exact eq_of_beq q2
        rw [only hx hu, only hy hu']
    have R0 : Rep F [("self", .v (.obj (hp.objs.size + 1) hp.objs.size)), ("#d", .gd hp.objs.size [] [])] (z.put (hp.objs.size + 1) (instObj C hp.objs.size)) ⟨h₀, g, dd, t + 1, os⟩ := by
      have kk : ∀ b o, hp.get? b = some o → h₀.get? b = some o := fun b o e => kp b o (kp0 b o e)
      refine ⟨fun b o e => kp b o (hs1 b o e), fun _ _ e => e, fun b o e => ?_, fun b o e n => ?_, ⟨fun b o e _ => ⟨o, kk b o e⟩, .refl _, fun _ => rfl, .of_keep kk, fun t => t.move zz1 (fun c hc hz ⟨o, ho⟩ => ?_) fun c _ => ⟨fun o => kk _ o, fun o => kk _ o⟩, fun t => t.alive⟩, rfl, rfl, _, _, L0⟩
      · have e : (if b = hp.objs.size then none else ntab h1 b) = some o := e
        split at e
        · cases e
        · exact kp b o (ntab_some e).1
      · have n : z.put (hp.objs.size + 1) (instObj C hp.objs.size) b = none := n
        rw [n] at e; cases e
      · have ne : c.2 ≠ hp.objs.size + 1 := fun q => by
          rw [q, n1] at ho; cases ho
        simp [Zp.put, ne, hz]
    refine noE (h _ _ F _ _ R0) fun fl s' p => ?_
    cases fl with
    | next =>
      obtain ⟨z', l', R', q⟩ := p
      refine ⟨rfl, z', hp.objs.size + 1, hp.objs.size, l', rfl, R'.zz _ _ Zp.put_self, ⟨⟨fun b o e => R'.zz _ _ (zz1 b o e), R'.sub, ⟨fun b o e => ?_⟩, fun b o e n => ?_, ⟨R'.gens.g0, R'.gens.gq⟩, R'.gens.tabs, R'.dr, R'.os⟩, ?_⟩, q⟩
      · cases t : tabLike o with
        | true => exact R'.gens.gr.at_ b o e t
        | false =>
          refine .inl (R'.base b o ?_)
          show (if b = hp.objs.size then none else ntab h1 b) = some o
          rw [if_neg (fun q => by subst q; rw [n0] at e; cases e)]
          exact ntab_of (kp0 b o e) t
      · by_cases hb1 : b = hp.objs.size + 1
        · subst hb1; exact n1
        · have hz : z.put (hp.objs.size + 1) (instObj C hp.objs.size) b = none := by simp [Zp.put, hb1, n]
          exact (Frm.Bs_none (R'.new b o e hz)).2
      · obtain ⟨m, am, L⟩ := R'.loc
        refine ⟨am, fun x u hx hu => ?_, L.ds⟩
        obtain ⟨mi, c, tg⟩ := (L.ok x u hx).of hu
        exact ⟨(Frm.Bs_none mi.fr.2).2, mi.fr.1, c, fun b xs e => by subst e; exact tg, fun b ks vs e => by subst e; exact tg⟩
    | brk => obtain ⟨_, _, _, q⟩ := p; exact q.elim
    | cont => obtain ⟨_, _, _, q⟩ := p; exact q.elim
    | ret x => obtain ⟨z', v, R', rz, q⟩ := p; exact q.elim
end
end Mine

end
section
open PySem PySem.W PySem.Calls PyProof.Rows
set_option linter.unusedVariables false
set_option maxRecDepth 100000
namespace Mine
section
variable {prog : Program} {w : World} {K : Frag} {G : Gl prog w K} {r : Nat} {sc : Scope} {l : Locs} {k : Kt} {Q : V → Prop}
noncomputable def Made2 (ks : List Str) (f : Addr → Addr → List V) (p d : Addr) (l : Locs) : Prop := ∃ a1 a2, Has l [("#d", .gd d ks (f a1 a2)), ("#1", .gl a1 []), ("#2", .gl a2 [])]
/-- x = C(), where the object is made with two lists -/
theorem WX_new {x cn : Str} {p p' pn : Pos} {C : Addr} {ks : List Str} {f : Addr → Addr → List V} (hn : nsIn K mainGlobals cn = some (some (.ref C))) (hk : keepIn K (.ref C) = true)
    (new : ∀ A z s, A.handled = none → Room r A → Bd G z s.heap → Sub z s.heap →
      wpAny (model prog w) A (call (.ref C) []) (fun x s' => ∃ z' p d l, x = .ref p ∧ z' p = some (instObj C d) ∧ NewL G.C z s z' s' l ∧ Made2 ks f p d l) (fun _ _ => False) s) (hC : G.C = C)
    (h : ∀ p d a1 a2, k.nx (put (put (put (put l "#2" (.gl a2 [])) "#1" (.gl a1 [])) "#d" (.gd d ks (f a1 a2))) x (.v (.obj p d)))) (hx : stored sc x = true := by rfl)
    (hg : sc.names.lookup cn = some .globalImplicit := by rfl) (hd : (cn == ("__debug__" : Str)) = false := by decide) : WX G r sc l (.Assign [.Name x p'] (.Call (.Name cn pn) [] [] p) p) k := fun F z s R => by
  have hw : WEs G r sc l [] (fun us => us = []) := rfl
  refine wpAny_Assign_Name (wpAny_Call_ofName (wpAny_Name (Frm.global R.sB hg (.inl (G.gK _ _ hn)) ?_) hd)) (swaps_no rfl _ _ _)
  refine WEs.callWith (f := .ref C) (first := []) hk rfl R hw fun xs s₁ z₁ us e₁ rl hu => ?_
  subst hu
  have rl : xs = [] := rl
  subst rl
  have R₁ := R.ext e₁
  refine noE (new F.A z₁ s₁ F.hh F.room R₁.bd e₁.sub) ?_
  rintro v s₂ ⟨z₂, pa, d, l', rfl, hp, ⟨ex, am, hal, hds⟩, a1, a2, h0, h1, h2, _⟩
  obtain ⟨n0, m0, c0, _, t0⟩ := hal _ _ h0 rfl
  obtain ⟨n1, m1, c1, t1, _⟩ := hal _ _ h1 rfl
  obtain ⟨n2, m2, c2, t2, _⟩ := hal _ _ h2 rfl
  have t0 := t0 _ _ _ rfl
  have t1 := t1 _ _ rfl
  have t2 := t2 _ _ rfl
  have d01 : d ≠ a1 := fun e => absurd (hds _ _ _ _ h0 h1 rfl rfl (by rw [t0, t1, e])) (show Str.ofString "#d" ≠ Str.ofString "#1" by decide)
  have d02 : d ≠ a2 := fun e => absurd (hds _ _ _ _ h0 h2 rfl rfl (by rw [t0, t2, e])) (show Str.ofString "#d" ≠ Str.ofString "#2" by decide)
  have d12 : a1 ≠ a2 := fun e => absurd (hds _ _ _ _ h1 h2 rfl rfl (by rw [t1, t2, e])) (show Str.ofString "#1" ≠ Str.ofString "#2" by decide)
  rw [t0] at n0 m0 c0
  rw [t1] at n1 m1 c1
  rw [t2] at n2 m2 c2
  have RO : RepO F l z₂ s₂ [a2, a1, d] := R₁.beside ex fun b hb => by
    simp at hb
    rcases hb with rfl | rfl | rfl
    · exact ⟨n2, m2⟩
    · exact ⟨n1, m1⟩
    · exact ⟨n0, m0⟩
  have RO := RO.adopt (y := "#2") (u := .gl a2 []) (by simp; exact ⟨Ne.symm d12, Ne.symm d02⟩) rfl (fun _ _ _ e => e) c2
  have RO := RO.adopt (y := "#1") (u := .gl a1 []) (by simp; exact Ne.symm d01) rfl (fun _ _ _ e => e) c1
  have RO := RO.adopt (y := "#d") (u := .gd d ks (f a1 a2)) (by simp) rfl (fun _ _ _ e => e) c0
  exact RO.rep.storeV (v := .obj pa d) (stored_or hx) ⟨rfl, by rw [hC]; exact hp⟩ fun s₃ R₃ => ⟨z₂, _, R₃, h pa d a1 a2⟩
end
end Mine

end
section
open PySem PySem.W PySem.Calls PyProof.Rows
set_option linter.unusedVariables false
set_option maxRecDepth 100000
namespace Mine
section
variable {prog : Program} {w : World} {K : Frag} {G : Gl prog w K} {r : Nat} {sc : Scope} {l : Locs} {k : Kt} {Q : V → Prop}
/-- an expression whose value holds one new empty list -/
noncomputable def WEn (G : Gl prog w K) (r : Nat) (sc : Scope) (l : Locs) (e : Expr) (Q : Addr → V → Prop) : Prop :=
  ∀ (F : Frm G r sc) z s, Rep F l z s → wpAny (model prog w) F.A (eval e F.env) (fun x s' => ∃ z' a v, Ext z s z' s' ∧ s.heap.get? a = none ∧ z' a = none ∧ s'.heap.PlainList a #[] ∧ Rz G.C z' v x ∧ Q a v) (fun _ _ => False) s
theorem WEn_pair {p q : Pos} {n : Nat} {e : Expr} {Q : Addr → V → Prop} (h : WE G r sc l e fun v => ∀ a, Q a (.tup [.raw (.ref a), v])) (hp : plainEs [.List [] q, e] = true := by rfl) : WEn G r sc l (.Tuple [.List [] q, e] n p) Q := fun F z s R => by
  refine wpAny_Tuple ?_
  rw [backTo_plain hp]
  refine Calls.spliced_cons (wpAny_List (wpAny_pure ⟨Nat.zero_le _, ?_⟩))
  have e1 : Ext z s z { s with heap := s.heap.push { cls := .type "list", data := .seq ([] : List Value).toArray } } := Ext.grow (t := s.toks) R.sub fun b o e => Heap.get?_push_of_some _ e
  have hz : z s.heap.objs.size = none := R.sub.fresh
  have hl1 : (s.heap.push { cls := .type "list", data := .seq ([] : List Value).toArray }).get? s.heap.objs.size = some { cls := .type "list", data := .seq ([] : List Value).toArray } := Heap.get?_push_size _ rfl
  refine Calls.spliced_cons (noE (h F z _ (R.ext e1)) fun x s₂ ⟨z₂, v, e₂, rz, q⟩ => Calls.spliced_nil ⟨by show 2 ≤ sizeLine; rw [sizeLine_eq]; omega, ?_⟩)
  have hz2 : z₂ s.heap.objs.size = none := stays_none e₂ hl1 hz
  have hn : s₂.heap.objs.size ≠ s.heap.objs.size := fun q => by
    have := e₂.keep _ _ hl1
    rw [← q, get_fresh] at this; cases this
  have ex := Ext.push e₂.sub (o := { cls := .type "tuple", data := .seq ([.ref s.heap.objs.size, x] : List Value).toArray }) rfl
  refine ⟨_, s.heap.objs.size, _, (e1.trans e₂).trans ex, get_fresh _, ?_, ⟨0, ex.keep _ _ (e₂.keep _ _ hl1)⟩, ?_, q _⟩
  · simp [Zp.put, Ne.symm hn, hz2]
  · exact pair_rz Zp.put_self rfl (rz.mono (Zp.put_old e₂.sub.fresh))

theorem adopt1 {F : Frm G r sc} {z z' : Zp} {s s' : Shared} {a : Addr} {y : Str} (R : Rep F l z s) (ex : Ext z s z' s') (hn : s.heap.get? a = none) (hz : z' a = none) (hp : s'.heap.PlainList a #[]) : Rep F (put l y (.gl a [])) z' s' := by
  have RO : RepO F l z' s' [a] := R.beside ex fun b hb => by rw [List.mem_singleton.mp hb]; exact ⟨hn, hz⟩
  exact (RO.adopt (y := y) (u := .gl a []) (by simp) rfl (fun _ _ _ e => e) ⟨[], hp, rfl⟩).rep


end
end Mine

end
section
open PySem PySem.W PySem.Calls PyProof.Rows
set_option linter.unusedVariables false
set_option maxRecDepth 100000
namespace Mine
section
variable {prog : Program} {w : World} {A : Around} {E : Value → Shared → Prop} {R : Result → Shared → Prop} {s : Shared}
/-- a list comprehension's loop, its iterator of any kind -/
theorem compLoop_any {elt target iter : Expr} {ifs : List Expr} {scope : Scope} {pos : Pos} {it acc : Value} {env : Env} (I : Nat → Shared → Prop)
    (turn : ∀ n s, I n s → wpAny (model prog w) A (pyNext it) (fun r s₁ => match r with
      | none => R (.ok .next) s₁
      | some v => wpAny (model prog w) A (letOwnedTupleGo target it v) (fun _ s₁ => wpAny (model prog w) A (assign target env v) (fun _ s₂ =>
          wpAny (model prog w) A (forIn ifs true fun c r => if r = true then do let ok ← isTrue c env (eval c env); pure (ForInStep.yield ok) else pure (ForInStep.yield r)) (fun ok s₃ =>
            if ok = true then wpAny (model prog w) A (eval elt env) (fun x s₄ =>
              wpAny (model prog w) A (call (.builtin "list.append") [acc, x]) (fun _ s₅ => ∃ m, m < n ∧ I m s₅) (fun _ _ => False) s₄) (fun _ _ => False) s₃
            else ∃ m, m < n ∧ I m s₃) (fun _ _ => False) s₂) (fun _ _ => False) s₁) (fun _ _ => False) s₁) (fun _ _ => False) s)
    (n : Nat) (h : I n s) : codeAny (model prog w) A (.compLoop (.ListComp elt [⟨target, iter, ifs, 0⟩] scope pos) 0 it acc env) R s := by
  refine codeAny_loop rfl I (fun n s hI => ?_) n h
  show wpAny _ A ((compTurn (.ListComp elt [⟨target, iter, ifs, 0⟩] scope pos) 0 it acc env).onRaise (fun x => do noteFrame x env; theTreesLotGoes x)) _ _ s
  refine wpAny_noted ?_
  rw [compTurn_list]
  refine wpAny_bind (wpAny_standAt (wpAny_bind (noE (turn n s hI) fun r s₁ h₁ => ?_)))
  cases r with
  | none => exact wpAny_pure h₁
  | some v =>
    refine wpAny_bind (noE h₁ fun _ s₁ h₁ => ?_)
    refine wpAny_bind (noE h₁ fun _ s₂ h₂ => wpAny_bind (noE h₂ fun ok s₃ h₃ => ?_))
    cases ok with
    | false => exact wpAny_pure ⟨rfl, h₃⟩
    | true =>
      exact wpAny_bind (wpAny_bind (noE h₃ fun x s₄ h₄ => wpAny_bind (noE h₄ fun _ s₅ h₅ => wpAny_pure (wpAny_pure ⟨rfl, h₅⟩))))
end
section
variable {prog : Program} {w : World} {K : Frag} {G : Gl prog w K} {r : Nat} {sc : Scope} {l : Locs} {k : Kt} {Q : V → Prop}
/-- the tests of a comprehension -/
noncomputable def WTs (G : Gl prog w K) (r : Nat) (sc : Scope) (l : Locs) : List Expr → (Bool → Prop) → Prop
  | [], P => P true
  | [e], P => WT G r sc l e P
  | _, _ => False
theorem WTs.run {F : Frm G r sc} {ifs : List Expr} {P : Bool → Prop} (h : WTs G r sc l ifs P) {z : Zp} {s : Shared} (R : Rep F l z s) :
    wpAny (model prog w) F.A (forIn ifs true fun c r => if r = true then do let ok ← isTrue c F.env (eval c F.env); pure (ForInStep.yield ok) else pure (ForInStep.yield r)) (fun b s' => ∃ z', Ext z s z' s' ∧ P b) (fun _ _ => False) s := by
  match ifs, h with
  | [], h => exact wpAny_tests_nil ⟨z, Ext.refl R.sub, h⟩
  | [e], h => exact wpAny_tests_one (h F z s R)
end
end Mine

end
section
open PySem PySem.W PySem.Calls PyProof.Rows
set_option linter.unusedVariables false
set_option maxRecDepth 100000
namespace Mine
section
variable {prog : Program} {w : World} {K : Frag} {G : Gl prog w K} {r : Nat} {sc : Scope} {l : Locs} {k : Kt} {Q : V → Prop}
/-- the scope of a comprehension within a frame of scope sc -/
noncomputable def relab (scope sc : Scope) : Scope :=
  { scope with names := scope.names.map fun (n, k) => if (k == .free && sc.kind == .function && sc.names.lookup n == some .cell) then (n, .cell) else (n, k) }

/-- the cells that a comprehension closes over -/
noncomputable def cellsOf (cells : List (Str × Addr)) : List (Str × NameKind) → List (Str × Addr) → List (Str × Addr)
  | [], cs => cs
  | (n, k) :: r, cs => if k == .free then cellsOf cells r ((n, (cells.lookup n).getD 0) :: cs) else cellsOf cells r cs
theorem cellsOf_cons {cells : List (Str × Addr)} {n : Str} {k : NameKind} {r : List (Str × NameKind)} {cs : List (Str × Addr)} :
    cellsOf cells ((n, k) :: r) cs = if (k == .free) = true then cellsOf cells r ((n, (cells.lookup n).getD 0) :: cs) else cellsOf cells r cs := rfl
theorem closure_go {env : Env} : ∀ {names : List (Str × NameKind)} {cs : List (Str × Addr)}, (∀ x ∈ names, x.2 = .free → ∃ c, env.cells.lookup x.1 = some c) →
    (forIn names cs (fun x cs => match x with
      | (name, kind) => if (kind == NameKind.free) = true then (do let c ← cellOf env name; pure (ForInStep.yield ((name, c) :: cs))) else pure (ForInStep.yield cs)) : Sem (List (Str × Addr))) = pure (cellsOf env.cells names cs)
  | [], cs, _ => by rw [List.forIn_nil]; rfl
  | (n, kd) :: r, cs, h => by
    rw [List.forIn_cons]
    dsimp only
    cases hk : kd == NameKind.free with
    | true =>
      obtain ⟨c, hc⟩ := h (n, kd) List.mem_cons_self (by simpa using hk)
      have e : cellOf env n = pure c := by unfold cellOf; rw [show env.cells.lookup n = some c from hc]
      rw [if_pos rfl, e]
      show (forIn r _ _ : Sem _) = _
      rw [closure_go fun x hx => h x (List.mem_cons_of_mem _ hx)]
      rw [cellsOf_cons, hk, if_pos rfl, show env.cells.lookup n = some c from hc]
      rfl
    | false =>
      rw [if_neg (by simp)]
      show (forIn r _ _ : Sem _) = _
      rw [closure_go fun x hx => h x (List.mem_cons_of_mem _ hx)]
      rw [cellsOf_cons, hk, if_neg (by simp)]
theorem closure_eq {env : Env} {scope : Scope} (h : ∀ x ∈ scope.names, x.2 = .free → ∃ c, env.cells.lookup x.1 = some c) : closureFor scope env = pure (cellsOf env.cells scope.names []) := by
  unfold closureFor
  show ((forIn scope.names [] fun x cs => match x with
      | (name, kind) => if (kind == NameKind.free) = true then (do let c ← cellOf env name; pure (ForInStep.yield ((name, c) :: cs))) else pure (ForInStep.yield cs)) >>= fun cs => (pure cs : Sem _)) = _
  rw [closure_go h]
  rfl
end
end Mine

end
section
open PySem PySem.W PySem.Calls PyProof.Rows
set_option linter.unusedVariables false
set_option maxRecDepth 100000
namespace Mine
section
variable {prog : Program} {w : World} {A : Around} {E : Value → Shared → Prop}
/-- names bound by values -/
inductive NB : List Expr → List V → List (Str × V) → Prop where
  | nil : NB [] [] []
  | cons {x : Str} {p : Pos} {es : List Expr} {v : V} {vs : List V} {bs : List (Str × V)} : NB es vs bs → NB (.Name x p :: es) (v :: vs) ((x, v) :: bs)
/-- what a target of names binds -/
inductive TB : Expr → V → List (Str × V) → Prop where
  | name {x : Str} {p : Pos} {v : V} : TB (.Name x p) v [(x, v)]
  | tup {es : List Expr} {x1} {p : Pos} {vs : List V} {bs : List (Str × V)} : NB es vs bs → TB (.Tuple es x1 p) (.tup vs) bs

theorem assign_names {env : Env} {C : Addr} {z : Zp} (hp : (env.scope.kind == .class || (env.scope.kind == .module && env.locals != env.globals)) = false) {P : Unit → Shared → Prop}
    {es : List Expr} {vs : List V} {bs : List (Str × V)} (hb : NB es vs bs) : ∀ {xs : List Value} {s : Shared} {m : Str → Option Value}, RzL C z vs xs → (∀ p ∈ bs, env.kindOf p.1 = some .local) → (bs.map (·.1)).Nodup → s.heap.Ns env.locals m →
    (∀ h' t m', h'.Ns env.locals m' → Heap.SameBut env.locals s.heap h' → (∀ y, y ∉ bs.map (·.1) → m' y = m y) → (∀ p ∈ bs, ∃ val, m' p.1 = some val ∧ Rz C z p.2 val) → P () { s with heap := h', toks := t }) →
    wpAny (model prog w) A (assignInOrder (es.map fun t => assign t env) xs) P E s := by
  induction hb with
  | nil =>
    intro xs s m rl hl nd ns k
    have rl : xs = [] := rl
    subst rl
    exact wpAny_assignInOrder_none (k s.heap s.toks m ns (Heap.SameBut.refl ..) (fun _ _ => rfl) (fun _ h => nomatch h))
  | @cons x p es v vs bs hb ih =>
    intro xs s m rl hl nd ns k
    obtain ⟨y, r, rfl, h1, h2⟩ := rl
    rw [List.map_cons, List.nodup_cons] at nd
    refine wpAny_assignInOrder_more (wpAny_assign_Name (wpAny_storeName_local (hl (x, v) List.mem_cons_self) ns (fun h₁ ns₁ sb₁ => ?_) hp))
    refine ih h2 (fun p hp => hl p (List.mem_cons_of_mem _ hp)) nd.2 ns₁ fun h' t m' ns' sb' old new => ?_
    refine k h' t m' ns' (sb₁.trans sb') (fun y hy => ?_) fun q hq => ?_
    · rw [List.map_cons, List.mem_cons, not_or] at hy
      rw [old y hy.2, if_neg hy.1]
    · rcases List.mem_cons.mp hq with rfl | hq
      · exact ⟨y, by rw [old x nd.1, if_pos rfl], h1⟩
      · exact new q hq
theorem NB.plain {es : List Expr} {vs : List V} {bs : List (Str × V)} (h : NB es vs bs) : plainEs es = true ∧ es.length = vs.length := by
  induction h with
  | nil => exact ⟨rfl, rfl⟩
  | cons _ ih =>
    refine ⟨?_, by rw [List.length_cons, List.length_cons, ih.2]⟩
    have := ih.1
    unfold plainEs at this ⊢
    rw [List.all_cons, this]
    rfl
theorem assign_TB {env : Env} {C : Addr} {z : Zp} (hp : (env.scope.kind == .class || (env.scope.kind == .module && env.locals != env.globals)) = false) {P : Unit → Shared → Prop}
    {tgt : Expr} {v : V} {bs : List (Str × V)} (hb : TB tgt v bs) {x : Value} {s : Shared} {m : Str → Option Value} (hh : A.handled = none) (hz : Sub z s.heap) (rz : Rz C z v x) (hl : ∀ p ∈ bs, env.kindOf p.1 = some .local) (nd : (bs.map (·.1)).Nodup) (ns : s.heap.Ns env.locals m)
    (k : ∀ h' t m', h'.Ns env.locals m' → (∀ b o, b ≠ env.locals → s.heap.get? b = some o → h'.get? b = some o) → (∀ p ∈ bs, ∃ val, m' p.1 = some val ∧ Rz C z p.2 val) → P () { s with heap := h', toks := t }) :
    wpAny (model prog w) A (assign tgt env x) P E s := by
  cases hb with
  | name =>
    refine wpAny_assign_Name (wpAny_storeName_local (hl (_, v) List.mem_cons_self) ns (fun h₁ ns₁ sb₁ => ?_) hp)
    refine k h₁ _ _ ns₁ (fun b o hb e => sb₁.extBut b o hb e) fun p hp => ?_
    rw [List.mem_singleton.mp hp]
    exact ⟨x, by rw [if_pos rfl], rz⟩
  | @tup es x1 p vs bs hn =>
    obtain ⟨a, xs, rfl, sq, rl⟩ := rz
    have hl' := rl.length
    have pl := hn.plain
    have he : (assignEach es env).map (·.2) = es.map fun t => assign t env := by rw [assignEach_plain pl.1, List.map_map]; rfl
    refine wpAny_assign_Tuple hh (isTuple_of (sq.mono fun o e => hz _ _ e)) (by rw [assignEach_plain pl.1, List.length_map, List.size_toArray]; omega) (by
      rw [assignEach_plain pl.1, List.findIdx?_eq_none_iff]
      intro y hy
      obtain ⟨t, _, rfl⟩ := List.mem_map.mp hy
      rfl) fun h' e => ?_
    rw [he]
    have up : ∀ b o, s.heap.get? b = some o → h'.get? b = some o := fun b o q => e b o (Nat.ne_of_lt (Heap.lt_size q)) q
    exact assign_names hp hn rl hl nd (ns.keeps up) fun h₂ t m' ns' sb _ new => k h₂ t m' ns' (fun b o hb q => sb.extBut b o hb (up b o q)) new
end
end Mine

end
section
open PySem PySem.W PySem.Calls PyProof.Rows
set_option linter.unusedVariables false
set_option maxRecDepth 100000
namespace Mine
section
variable {prog : Program} {w : World} {K : Frag} {G : Gl prog w K} {r : Nat} {sc : Scope} {l : Locs} {k : Kt} {Q : V → Prop}
theorem cellsOf_lookup {cells : List (Str × Addr)} {y : Str} : ∀ {names : List (Str × NameKind)} {cs : List (Str × Addr)}, ((y, NameKind.free) ∈ names ∨ cs.lookup y = some ((cells.lookup y).getD 0)) → (cellsOf cells names cs).lookup y = some ((cells.lookup y).getD 0)
  | [], cs, h => h.elim (fun h => nomatch h) fun h => h
  | (n, kd) :: r, cs, h => by
    rw [cellsOf_cons]
    cases hk : kd == NameKind.free with
    | true =>
      rw [if_pos rfl]
      refine cellsOf_lookup ?_
      by_cases hy : y = n
      · subst hy; right; rw [List.lookup_cons]; simp
      · rcases h with h | h
        · rcases List.mem_cons.mp h with h | h
          · cases h; exact absurd rfl hy
          · exact .inl h
        · right
          rw [List.lookup_cons]
          have : (y == n) = false := by simpa using hy
          rw [this]; exact h
    | false =>
      rw [if_neg (by simp)]
      refine cellsOf_lookup ?_
      rcases h with h | h
      · rcases List.mem_cons.mp h with h | h
        · cases h; simp at hk
        · exact .inl h
      · exact .inr h
theorem relab_cell {y : Str} {kd : NameKind} (hkd : kd = .cell ∨ kd = .free) : ∀ {names : List (Str × NameKind)}, (∀ x ∈ names, x.2 ≠ .cell) →
    (names.map fun (n, k) => if (k == NameKind.free && sc.kind == .function && sc.names.lookup n == some .cell) then (n, NameKind.cell) else (n, k)).lookup y = some kd → (y, NameKind.free) ∈ names ∧ (kd = .cell → sc.names.lookup y = some .cell) ∧ (kd = .free → sc.kind = .function → sc.names.lookup y ≠ some .cell)
  | [], _, h => by cases h
  | (n, k') :: r, hc, h => by
    rw [List.map_cons] at h
    dsimp only at h
    have next : (List.map (fun (n, k) => if (k == NameKind.free && sc.kind == .function && sc.names.lookup n == some .cell) then (n, NameKind.cell) else (n, k)) r).lookup y = some kd → (y, NameKind.free) ∈ (n, k') :: r ∧ (kd = .cell → sc.names.lookup y = some .cell) ∧ (kd = .free → sc.kind = .function → sc.names.lookup y ≠ some .cell) := fun h => by
      obtain ⟨a, b⟩ := relab_cell hkd (fun x hx => hc x (List.mem_cons_of_mem _ hx)) h
      exact ⟨List.mem_cons_of_mem _ a, b⟩
    by_cases ht : (k' == NameKind.free && sc.kind == .function && sc.names.lookup n == some .cell) = true
    · rw [if_pos ht, List.lookup_cons] at h
      cases hy : y == n with
      | true =>
        rw [hy] at h
        have e : y = n := by simpa using hy
        subst e
        cases h
        simp at ht
        obtain ⟨⟨rfl, _⟩, h3⟩ := ht
        exact ⟨List.mem_cons_self, fun _ => h3, fun h => by cases h⟩
      | false => rw [hy] at h; exact next h
    · rw [if_neg ht, List.lookup_cons] at h
      cases hy : y == n with
      | true =>
        rw [hy] at h
        have e : y = n := by simpa using hy
        subst e
        cases h
        rcases hkd with rfl | rfl
        · exact absurd rfl (hc _ List.mem_cons_self)
        · exact ⟨List.mem_cons_self, (fun h => by cases h), fun _ hk e => by simp [hk, e] at ht⟩
      | false => rw [hy] at h; exact next h
end
end Mine

end
section
open PySem PySem.W PySem.Calls PyProof.Rows
set_option linter.unusedVariables false
set_option maxRecDepth 100000
namespace Mine
section
variable {prog : Program} {w : World} {K : Frag} {G : Gl prog w K} {r : Nat} {sc : Scope} {l : Locs} {k : Kt} {Q : V → Prop}
/-- a comprehension's scope can stand in a frame of scope sc -/
structure CompOk (sc scope : Scope) : Prop where
  fn : scope.kind = .function
  nc : ∀ x ∈ scope.names, x.2 ≠ .cell
  cap : ∀ x ∈ scope.names, x.2 = .free → sc.names.lookup x.1 = some .cell
  loc : ∀ x ∈ scope.names, x.2 = .local → scope.names.lookup x.1 = some .local
/-- the captured names, their values -/
noncomputable def Capt (scope sc : Scope) (l : Locs) : Locs → Prop
  | [] => True
  | p :: q => (l.lookup p.1 = some p.2 ∧ (∃ v, p.2 = .v v) ∧ (relab scope sc).names.lookup p.1 = some .cell) ∧ Capt scope sc l q
theorem Capt.mem {scope : Scope} : ∀ {c : Locs}, Capt scope sc l c → ∀ p ∈ c, l.lookup p.1 = some p.2 ∧ (∃ v, p.2 = .v v) ∧ (relab scope sc).names.lookup p.1 = some .cell
  | _ :: _, ⟨h, t⟩, p, hp => by
    rcases List.mem_cons.mp hp with rfl | hp
    · exact h
    · exact t.mem p hp
open Classical in
noncomputable def compFrm (F : Frm G r sc) (scope : Scope) (C : Addr) (z : Zp) (h : Heap) (hk : scope.kind = .function) (zB : ∀ b o, G.zB b = some o → z b = some o) : Frm G r (relab scope sc) :=
  Frm.mk C (cellsOf F.cells scope.names []) F.qual none F.code F.frame F.A
    (fun b => if b = C ∨ (∃ x, sc.names.lookup x = some .cell ∧ F.cells.lookup x = some b) then none else ntab h b) z F.h0 F.g F.dr F.os hk zB (fun b o e => by
      split at e
      · cases e
      · exact (ntab_some e).2) F.hh F.room F.tq F.hq (F.zq ∧ Ztab z) (·.2)

theorem comp_rep {F : Frm G r sc} {scope : Scope} (ok : CompOk sc scope) {z₀ z : Zp} {s₀ s : Shared} {m : Str → Option Value} {am : Str → Addr} {C : Addr} {m' : Str → Option Value} {bs : List (Str × V)} {cp : Locs}
    (E : RepE F z₀ s₀) (L : F.LocOk l z₀ s₀.heap m am) (ex : Ext z₀ s₀ z s) (hk : scope.kind = .function) (zB : ∀ b o, G.zB b = some o → z b = some o)
    (hC₀ : s₀.heap.get? C = none) (hC : z C = none) (ns : s.heap.Ns C m') (hcp : Capt scope sc l cp) (hbs : ∀ p ∈ bs, (relab scope sc).names.lookup p.1 = some .local) (hv : ∀ p ∈ bs, ∃ val, m' p.1 = some val ∧ Rz G.C z p.2 val)
    (nd : ((bs.map (fun p => (p.1, LV.v p.2)) ++ cp).map (·.1)).Nodup) : Rep (compFrm F scope C z s.heap hk zB) (bs.map (fun p => (p.1, LV.v p.2)) ++ cp) z s := by
  have cellz : ∀ {x c}, sc.names.lookup x = some .cell → F.cells.lookup x = some c → z c = none ∧ (compFrm F scope C z s.heap hk zB).Bs c = none ∧ c ≠ C ∧ ∃ v, s.heap.IsCell c v := fun {x c} hx hc => by
    obtain ⟨c', v, e, ic, f, n⟩ := L.ce x hx
    rw [hc] at e; cases e
    obtain ⟨o, ho, hd⟩ := id ic
    refine ⟨stays_none ex ho f.1, Frm.Bs_of ?_ (F.Bs_none f.2).2, ?_, v, ex.cell ic⟩
    · unfold compFrm; dsimp only; rw [if_pos (.inr ⟨x, hx, hc⟩)]
    · rintro rfl; rw [hC₀] at ho; cases ho
  have look : ∀ {y}, (relab scope sc).names.lookup y = some .cell → sc.names.lookup y = some .cell ∧ ∃ c, F.cells.lookup y = some c ∧ (cellsOf F.cells scope.names []).lookup y = some c := fun {y} hy => by
    obtain ⟨a, b, _⟩ := relab_cell (.inl rfl) ok.nc hy
    obtain ⟨c, v, e, _⟩ := L.ce y (b rfl)
    exact ⟨b rfl, c, e, by rw [cellsOf_lookup (.inl a), e]; rfl⟩
  have lv : ∀ {x u}, (bs.map (fun p => (p.1, LV.v p.2)) ++ cp).lookup x = some u → ∃ v, u = .v v ∧ ∃ val, (compFrm F scope C z s.heap hk zB).Nm m' s.heap x val ∧ Rz G.C z v val := fun {x u} e => by
    rcases List.mem_append.mp (lookup_mem e) with q | q
    · obtain ⟨p, hp, e⟩ := List.mem_map.mp q
      cases e
      obtain ⟨val, h1, h2⟩ := hv p hp
      exact ⟨_, rfl, val, .inl ⟨hbs p hp, h1⟩, h2⟩
    · obtain ⟨h1, ⟨v, h2⟩, h3⟩ := hcp.mem _ q
      have h2 : u = .v v := h2
      subst h2
      obtain ⟨hx, c, e1, e2⟩ := look h3
      obtain ⟨val, n, rz⟩ := L.ok x _ h1
      refine ⟨v, rfl, val, .inr ⟨.inl h3, c, e2, ?_⟩, rz.mono ex.zz⟩
      rcases n with ⟨n, _⟩ | ⟨_, c', e', ic⟩
      · rw [hx] at n; cases n
      · rw [e1] at e'; cases e'
        exact ex.cell ic
  have S := E.gens.ext E.zz ex
  refine ⟨ex.sub, fun _ _ e => e, fun b o e => ?_, fun b o e n => ?_, ⟨S.was, S.g0, fun h => S.gq h.1, S.gr, S.tabs, S.t0⟩, ex.dr.trans E.dr, ex.os.trans E.os, m', am, nd, ns, ⟨hC, ?_⟩, fun y hy => ?_, fun x y c hx hy e e' => ?_, fun x c hx e => ?_, fun x u e => ?_, fun x y u u' e _ hu => ?_⟩
  · unfold compFrm at e; dsimp only at e
    split at e
    · cases e
    · exact (ntab_some e).1
  · have n : z b = none := n
    rw [n] at e; cases e
  · refine Frm.Bs_of ?_ (F.Bs_none (E.bs_none hC₀)).2
    unfold compFrm; dsimp only; rw [if_pos (.inl rfl)]
  · obtain ⟨hx, c, e1, e2⟩ := look hy
    obtain ⟨a1, a2, a3, v, a4⟩ := cellz hx e1
    exact ⟨c, v, e2, a4, ⟨a1, a2⟩, a3⟩
  · obtain ⟨hx', c1, e1, e2⟩ := look hx
    obtain ⟨hy', c2, e3, e4⟩ := look hy
    have e : (cellsOf F.cells scope.names []).lookup x = some c := e
    have e' : (cellsOf F.cells scope.names []).lookup y = some c := e'
    rw [e] at e2; cases e2
    rw [e'] at e4; cases e4
    exact L.cd x y c hx' hy' e1 e3
  · obtain ⟨a, _, b⟩ := relab_cell (.inr rfl) ok.nc hx
    exact absurd (ok.cap _ a rfl) (b rfl F.hk)
  · obtain ⟨v, rfl, h⟩ := lv e
    exact h
  · obtain ⟨v, rfl, h⟩ := lv e
    cases hu
end
end Mine

end
section
open PySem PySem.W PySem.Calls PyProof.Rows
set_option linter.unusedVariables false
set_option maxRecDepth 100000
namespace Mine
section
variable {prog : Program} {w : World} {K : Frag} {G : Gl prog w K} {r : Nat} {sc : Scope} {l : Locs} {k : Kt} {Q : V → Prop}
/-- an iterable whose iterator gives itself -/
noncomputable def WIc (G : Gl prog w K) (r : Nat) (sc : Scope) (l : Locs) (tgt iter : Expr) (Q : List V → Prop) : Prop :=
  ∀ (F : Frm G r sc) z s, Rep F l z s → wpAny (model prog w) F.A (eval iter F.env) (fun x s₁ => wpAny (model prog w) F.A (pyIter x) (fun I s₂ => ∃ ad z₂ vs St, DIt G F.A tgt I ad z₂ vs St ∧ Ext z s z₂ s₂ ∧
    (∀ b ∈ ad, s.heap.get? b = none ∧ z₂ b = none) ∧ St 0 s₂.heap ∧ (∀ (s' : Shared) (P : Value → Shared → Prop) (E : Value → Shared → Prop), St 0 s'.heap → P I s' → wpAny (model prog w) F.A (pyIter I) P E s') ∧ Q vs) (fun _ _ => False) s₁) (fun _ _ => False) s

theorem WIc_list {tgt iter : Expr} {Q : List V → Prop} (h : WE G r sc l iter fun v => ∃ vs, v = .lst vs ∧ Q vs) : WIc G r sc l tgt iter Q := fun F z s R =>
  noE (h F z s R) fun x s₁ ⟨z₁, v, e₁, rz, vs, hv, q⟩ => by
    have sub₁ := e₁.sub
    subst hv
    obtain ⟨a, xs, rfl, sq, rl⟩ := rz
    have hl : s₁.heap.IsList a xs.toArray := isList_of (sq.mono fun o e => sub₁ _ _ e)
    refine wpAny_pyIter_list hl ?_
    refine ⟨_, z₁, vs, _, DIt.list F.hh sq rl sub₁.fresh, e₁.trans (Ext.grow (t := s₁.toks) e₁.sub fun b o e => Heap.get?_push_of_some _ e), fun b hb => ?_, ⟨⟨_, Heap.get?_push_size _ rfl, rfl, rfl⟩, hl.push _⟩, fun s' P E st hP => wpAny_pyIter_listiter st.1 hP, q⟩
    rw [List.mem_singleton.mp hb]
    exact none_before e₁ (Nat.le_refl _)

/-- a comprehension over these items -/
noncomputable def CompT (G : Gl prog w K) (r : Nat) (sc : Scope) (cp : Locs) (tgt : Expr) (ifs : List Expr) (elt : Expr) (P : List V → Prop) : List V → List V → Prop
  | [], done => P done
  | v :: vs, done => ∃ bs, TB tgt v bs ∧ (∀ p ∈ bs, sc.names.lookup p.1 = some .local) ∧ ((bs.map (fun p => (p.1, LV.v p.2)) ++ cp).map (·.1)).Nodup ∧
      WTs G r sc (bs.map (fun p => (p.1, LV.v p.2)) ++ cp) ifs fun c => (c = false → CompT G r sc cp tgt ifs elt P vs done) ∧
        (c = true → WE G r sc (bs.map (fun p => (p.1, LV.v p.2)) ++ cp) elt fun u => CompT G r sc cp tgt ifs elt P vs (done ++ [u]))
end
end Mine

end
section
open PySem PySem.W PySem.Calls PyProof.Rows
set_option linter.unusedVariables false
set_option maxRecDepth 100000
namespace Mine
section
variable {prog : Program} {w : World} {K : Frag} {G : Gl prog w K} {r : Nat} {sc : Scope} {l : Locs} {k : Kt} {Q : V → Prop}
theorem Was.but {h₀ h h' : Heap} (w : Was h₀ h) (k : ∀ b, (∃ o, h₀.get? b = some o) → ∀ o, h.get? b = some o → h'.get? b = some o) : Was h₀ h' := by
  refine ⟨fun b o e => ?_⟩
  rcases w.at_ b o e with e' | ⟨t, hc, vs, more, hd, e'⟩
  · exact .inl (k b ⟨o, e⟩ _ e')
  · exact .inr ⟨t, hc, vs, more, hd, k b ⟨o, e⟩ _ e'⟩
/-- growth, some fresh things apart -/
theorem Ext.thenI {z₀ z z' : Zp} {s₀ s s' : Shared} {ad : List Addr} (x : Ext z₀ s₀ z s) (y : ExtI ad z s z' s') (h : ∀ b ∈ ad, s₀.heap.get? b = none) : Ext z₀ s₀ z' s' where
  zz b o e := y.zz b o (x.zz b o e)
  sub := y.sub
  was := x.was.but fun b ⟨o, e⟩ o' e' => y.keep b o' (fun hb => by rw [h b hb] at e; cases e) e'
  new b o e n := by
    cases q : z b with
    | some o' => exact x.new b o' q n
    | none =>
      have := y.new b o e q
      cases q2 : s₀.heap.get? b with
      | none => rfl
      | some o2 =>
        obtain ⟨o3, h3, _⟩ := x.was.there q2
        rw [h3] at this; cases this
  gens := x.gens.trans x.zz (.of_eq y.gens)
  tabs t := t.move1 (x.tabs t) y.zz (fun b _ ⟨o, ho⟩ e => by
    cases q : z' b with
    | none => rfl
    | some o' => rw [y.new b o' q e] at ho; cases ho) fun b ⟨o, ho⟩ o' e => y.keep b o' (fun hb => by rw [h b hb] at ho; cases ho) e
  dr := y.dr.trans x.dr
  os := y.os.trans x.os
theorem ExtI.none {z z' : Zp} {s s' : Shared} {ad : List Addr} (y : ExtI ad z s z' s') {b : Addr} {o : Obj} (h : s.heap.get? b = some o) (hz : z b = none) : z' b = none := by
  cases q : z' b with
  | none => rfl
  | some o' => rw [y.new b o' q hz] at h; cases h
/-- a heap in which one fresh thing turned -/
theorem Ext.but {z₀ z : Zp} {s₀ s : Shared} {C : Addr} {h' : Heap} {t : Nat} (x : Ext z₀ s₀ z s) (hC : s₀.heap.get? C = none) (hz : z C = none) (k : ∀ b o, b ≠ C → s.heap.get? b = some o → h'.get? b = some o) : Ext z₀ s₀ z { s with heap := h', toks := t } where
  zz := x.zz
  sub b o e := k b o (fun q => by rw [q, hz] at e; cases e) (x.sub b o e)
  was := x.was.but fun b ⟨o, e⟩ o' e' => k b o' (fun q => by rw [q, hC] at e; cases e) e'
  new := x.new
  gens := x.gens
  tabs t := t.move1 (x.tabs t) (fun _ _ e => e) (fun _ _ _ e => e) fun b ⟨o, ho⟩ o' e => k b o' (fun q => by rw [q, hC] at ho; cases ho) e
  dr := x.dr
  os := x.os
end
end Mine

end
section
open PySem PySem.W PySem.Calls PyProof.Rows
set_option linter.unusedVariables false
set_option maxRecDepth 100000
namespace Mine
section
variable {prog : Program} {w : World} {K : Frag} {G : Gl prog w K} {r : Nat} {sc : Scope} {l : Locs} {k : Kt} {Q : V → Prop}
noncomputable abbrev lstO (vals : List Value) : Obj := { cls := .type "list", data := .seq vals.toArray vals.length }
/-- the state within a comprehension's loop -/
structure CInv (G : Gl prog w K) (sc' : Scope) (cp : Locs) (tgt : Expr) (ifs : List Expr) (elt : Expr) (r : Nat) (P : List V → Prop) (St : Nat → Heap → Prop) (vs : List V) (ad : List Addr) (C D : Addr) (z₂ z₀ : Zp) (s₀ : Shared) (i : Nat) (s : Shared) : Prop where
  ex : ∃ z m' done vals, (∀ b o, z₂ b = some o → z b = some o) ∧ Ext z₀ s₀ z s ∧ z C = none ∧ z D = none ∧ (∀ b ∈ ad, z b = none) ∧ s.heap.Ns C m' ∧ s.heap.get? D = some (lstO vals) ∧ RzL G.C z done vals ∧ vals.length ≤ i ∧
    St i s.heap ∧ i ≤ vs.length ∧ CompT G r sc' cp tgt ifs elt P (vs.drop i) done

theorem comp_loop {F : Frm G r sc} {scope : Scope} (ok : CompOk sc scope) {tgt iter elt : Expr} {ifs : List Expr} {pos : Pos} {I : Value} {ad : List Addr} {z₂ z₀ : Zp} {vs : List V} {St : Nat → Heap → Prop} (Dt : DIt G F.A tgt I ad z₂ vs St)
    {s₀ : Shared} {m : Str → Option Value} {am : Str → Addr} (E : RepE F z₀ s₀) (L : F.LocOk l z₀ s₀.heap m am) {cp : Locs} (hcp : Capt scope sc l cp) {P : List V → Prop} {C D : Addr} {R : Result → Shared → Prop}
    (hC : s₀.heap.get? C = none) (hD : s₀.heap.get? D = none) (hCD : C ≠ D) (had : ∀ b ∈ ad, s₀.heap.get? b = none ∧ b ≠ C ∧ b ≠ D) (hsz : vs.length ≤ sizeLine)
    (fin : ∀ s z m' done vals, Ext z₀ s₀ z s → z C = none → z D = none → s.heap.Ns C m' → s.heap.get? D = some (lstO vals) → RzL G.C z done vals → P done → R (.ok .next) s)
    (s : Shared) (h : CInv G (relab scope sc) cp tgt ifs elt r P St vs ad C D z₂ z₀ s₀ 0 s) :
    codeAny (model prog w) F.A (.compLoop (.ListComp elt [⟨tgt, iter, ifs, 0⟩] scope pos) 0 I (.ref D) (compEnvC scope (cellsOf F.cells scope.names []) C F.env)) R s := by
  refine compLoop_any (fun n s => ∃ i, n = vs.length + 1 - i ∧ i ≤ vs.length ∧ CInv G (relab scope sc) cp tgt ifs elt r P St vs ad C D z₂ z₀ s₀ i s) ?_ (vs.length + 1) ⟨0, rfl, Nat.zero_le _, h⟩
  rintro n s ⟨i, hn, hi, ⟨z, m', done, vals, hz₂, ex, zC, zD, zad, ns, hDl, rl, hlen, st, _, ct⟩⟩
  have zB : ∀ {z' : Zp}, (∀ b o, z b = some o → z' b = some o) → ∀ b o, G.zB b = some o → z' b = some o := fun h b o e => h b o (ex.zz b o (E.zz b o (F.zB b o e)))
  obtain ⟨oC, _, _, hoC, _⟩ := id ns
  have adC : C ∉ ad := fun h => (had C h).2.1 rfl
  have adD : D ∉ ad := fun h => (had D h).2.2 rfl
  cases hv : vs[i]? with
  | none =>
    have hi' : i = vs.length := Nat.le_antisymm hi (by simpa using hv)
    subst hi'
    rw [List.drop_length] at ct
    refine noE (Dt.done z s hz₂ ex.sub st zad) fun o s₁ ⟨ho, ei⟩ => ?_
    subst ho
    exact fin s₁ z m' done vals (ex.thenI ei fun b hb => (had b hb).1) zC zD (ns.at' fun o e => ei.keep _ o adC e) (ei.keep _ _ adD hDl) rl ct
  | some v =>
    have hlt : i < vs.length := (List.getElem?_eq_some_iff.mp hv).1
    have hd : vs.drop i = v :: vs.drop (i + 1) := by
      rw [List.drop_eq_getElem_cons hlt]
      congr 1
      rw [List.getElem?_eq_getElem hlt] at hv
      exact Option.some.inj hv
    rw [hd] at ct
    obtain ⟨bs, tb, hbs, nd, wt⟩ := ct
    refine noE (Dt.item i v hv z s hz₂ ex.sub st zad) fun o s₁ ⟨x, ho, hgo⟩ => ?_
    subst ho
    dsimp only
    refine noE hgo fun _ s₂ ⟨z₃, ei, rz, st₂⟩ => ?_
    have ex₂ := ex.thenI ei fun b hb => (had b hb).1
    have ns₂ := ns.at' fun o e => ei.keep _ o adC e
    have hD₂ := ei.keep _ _ adD hDl
    have zC₂ := ei.none hoC zC
    have zD₂ := ei.none hDl zD
    have zad₂ : ∀ b ∈ ad, z₃ b = none := fun b hb => let ⟨o, ho, _⟩ := Dt.alive _ _ st b hb; ei.none ho (zad b hb)
    have hz₃ : ∀ b o, z₂ b = some o → z₃ b = some o := fun b o e => ei.zz b o (hz₂ b o e)
    have nd' : (bs.map (·.1)).Nodup := by
      rw [List.map_append] at nd
      have := (List.nodup_append.mp nd).1
      rw [List.map_map] at this
      exact this
    refine assign_TB (env := compEnvC scope (cellsOf F.cells scope.names []) C F.env) (C := G.C) (z := z₃) (by simp [compEnvC, relabel, ok.fn]) tb F.hh ex₂.sub rz hbs nd' ns₂ fun h₃ t₃ m₃ ns₃ kp₃ new₃ => ?_
    have ex₃ := ex₂.but (t := t₃) hC zC₂ kp₃
    have st₃ : St (i + 1) h₃ := Dt.keep _ _ _ st₂ (fun b hb o e => kp₃ b o (fun q => adC (by have q : b = C := q; rw [← q]; exact hb)) e) fun b o e => ex₃.sub b o (hz₃ b o e)
    have hD₃ := kp₃ _ _ (Ne.symm hCD) hD₂
    have zB₃ := zB (z' := z₃) ei.zz
    have R₃ := comp_rep (s := { s₂ with heap := h₃, toks := t₃ }) ok E L ex₃ ok.fn zB₃ hC zC₂ ns₃ hcp hbs new₃ nd
    refine noE (WTs.run wt R₃) fun c s₄ ⟨z₄, e₄, wc⟩ => ?_
    have nn : ∀ {b o} {s' : Shared} {z' : Zp}, Ext z₃ { s₂ with heap := h₃, toks := t₃ } z' s' → h₃.get? b = some o → z₃ b = none → z' b = none := fun x h hz => stays_none x h hz
    obtain ⟨oC₃, _, _, hoC₃, _⟩ := id ns₃
    have al₃ := Dt.alive _ _ st₃
    have alk : ∀ {z' : Zp} {s' : Shared}, Ext z₃ { s₂ with heap := h₃, toks := t₃ } z' s' → ∀ b ∈ ad, ∀ o, h₃.get? b = some o → s'.heap.get? b = some o := fun x b hb o e => by
      obtain ⟨o', e', t⟩ := al₃ b hb
      rw [e] at e'; cases e'
      exact x.was.keep e t
    cases c with
    | false =>
      refine ⟨vs.length + 1 - (i + 1), by omega, i + 1, rfl, hlt, z₄, m₃, done, vals, fun b o e => e₄.zz b o (hz₃ b o e), ex₃.trans e₄, nn e₄ hoC₃ zC₂, nn e₄ hD₃ zD₂, fun b hb => let ⟨o, ho, _⟩ := al₃ b hb; nn e₄ ho (zad₂ b hb),
        e₄.ns ns₃, e₄.keep _ _ hD₃, RzL.mono (fun b o e => e₄.zz b o (ei.zz b o e)) rl, Nat.le_succ_of_le hlen, Dt.keep _ _ _ st₃ (fun b hb o e => alk e₄ b hb o e) (fun b o e => e₄.sub b o (e₄.zz b o (hz₃ b o e))), hlt, wc.1 rfl⟩
    | true =>
      refine noE (wc.2 rfl _ _ _ (R₃.ext e₄)) fun y s₅ ⟨z₅, u, e₅, ru, cu⟩ => ?_
      have e' := e₄.trans e₅
      refine append_at (hsz := by rw [List.size_toArray]; omega) (e'.keep _ _ hD₃) fun h₆ sb hD₆ => ?_
      have zD₅ := nn e' hD₃ zD₂
      have kp₆ : ∀ b o, b ≠ D → s₅.heap.get? b = some o → h₆.get? b = some o := fun b o hb e => sb.extBut b o hb e
      have ex₆ := (ex₃.trans e').but (t := s₅.toks) hD zD₅ kp₆
      have zz₆ : ∀ b o, z b = some o → z₅ b = some o := fun b o e => e'.zz b o (ei.zz b o e)
      refine ⟨vs.length + 1 - (i + 1), by omega, i + 1, rfl, hlt, z₅, m₃, done ++ [u], vals ++ [y], fun b o e => zz₆ b o (hz₂ b o e), ex₆, nn e' hoC₃ zC₂, zD₅, fun b hb => let ⟨o, ho, _⟩ := al₃ b hb; nn e' ho (zad₂ b hb),
        (e'.ns ns₃).sameBut sb hCD, ?_, RzL.append (RzL.one ru) (RzL.mono zz₆ rl), by rw [List.length_append, List.length_singleton]; omega, ?_, hlt, cu⟩
      · refine hD₆.trans (congrArg some ?_)
        show ({ cls := .type "list", data := .seq (vals.toArray.push y) (vals.length + 1) } : Obj) = lstO (vals ++ [y])
        rw [lstO, List.length_append, List.length_singleton, List.push_toArray]
      · exact Dt.keep _ _ _ st₃ (fun b hb o e => kp₆ b o (fun q => adD (q ▸ hb)) (alk e' b hb o e)) (fun b o e => ex₆.sub b o (zz₆ b o (hz₂ b o e)))
end
end Mine

end
section
open PySem PySem.W PySem.Calls PyProof.Rows
set_option linter.unusedVariables false
set_option maxRecDepth 100000
namespace Mine
section
variable {prog : Program} {w : World} {K : Frag} {G : Gl prog w K} {r : Nat} {sc : Scope} {l : Locs} {k : Kt} {Q : V → Prop}
theorem comp_block {F : Frm G r sc} {scope : Scope} (ok : CompOk sc scope) {tgt iter elt : Expr} {ifs : List Expr} {pos : Pos} {cp : Locs} (hcp : Capt scope sc l cp) {P : List V → Prop}
    {z : Zp} {s : Shared} (R : Rep F l z s) {RR : Value → Addr → Result → Shared → Prop} (hi : WIc G r sc l tgt iter fun vs => vs.length ≤ sizeLine ∧ CompT G r (relab scope sc) cp tgt ifs elt P vs [])
    (fin : ∀ C D z' s' m' done vals, s.heap.get? C = none → s.heap.get? D = none → C ≠ D → Ext z s z' s' → z' C = none → z' D = none → s'.heap.Ns C m' → s'.heap.get? D = some (lstO vals) → RzL G.C z' done vals → P done → RR (.ref D) C (.ok .next) s') :
    wpAny (model prog w) F.A (eval iter F.env) (fun xv s₁ => wpAny (model prog w) F.A (pyIter xv) (fun it s₂ =>
      wpAny (model prog w) F.A (newList []) (fun acc s₃ => wpAny (model prog w) F.A (newFunctionEnv scope F.env.globals (cellsOf F.cells scope.names []) [] F.env.qual none .none (some F.env)) (fun cenv s₄ =>
        codeAny (model prog w) F.A (.compStart (.ListComp elt [⟨tgt, iter, ifs, 0⟩] scope pos) 0 it acc { cenv with scope := relabel scope F.env }) (RR acc cenv.locals) s₄) (fun _ _ => False) s₃) (fun _ _ => False) s₂) (fun _ _ => False) s₁) (fun _ _ => False) s := by
  refine noE (hi F z s R) fun x s₁ h₁ => noE h₁ fun it s₂ ⟨ad, z₂, vs, St, Dt, ex, had, st, self, hsz, ct⟩ => ?_
  obtain ⟨m, am, L⟩ := R.loc
  refine wpAny_newObj_type (wpAny_newFunctionEnv ok.nc (by intro y hy; simp at hy) (fun h₁ hns₁ hsb₁ => ?_) ok.fn)
  dsimp only at hns₁ hsb₁ ⊢
  generalize hH2 : s₂.heap.push { cls := .type "list", dict := none, data := .seq ([] : List Value).toArray } = H2 at hns₁ hsb₁ ⊢
  have hC : H2.objs.size = s₂.heap.objs.size + 1 := by rw [← hH2, Heap.size_push]
  obtain ⟨D0, zD⟩ := none_before ex (Nat.le_refl s₂.heap.objs.size)
  obtain ⟨C0, zC⟩ := none_before ex (show s₂.heap.objs.size ≤ H2.objs.size by rw [hC]; exact Nat.le_succ _)
  have hCD : H2.objs.size ≠ s₂.heap.objs.size := by rw [hC]; exact Nat.succ_ne_self _
  have old : ∀ b o, s₂.heap.get? b = some o → h₁.get? b = some o := fun b o e => by
    have lt := Heap.lt_size e
    exact hsb₁.extBut b o (by rw [hC]; exact Nat.ne_of_lt (Nat.lt_succ_of_lt lt)) (Heap.get?_push_of_some _ (hH2 ▸ Heap.get?_push_of_some _ e))
  have ex₃ : Ext z s z₂ { s₂ with heap := h₁, toks := s₂.toks + ([] : List (Str × Value)).length } := ex.trans (Ext.grow ex.sub old)
  have hD : h₁.get? s₂.heap.objs.size = some (lstO []) := hsb₁.extBut _ _ (Ne.symm hCD) (Heap.get?_push_of_some _ (hH2 ▸ Heap.get?_push_size _ rfl))
  have st₁ : St 0 h₁ := Dt.keep _ _ _ st (fun b _ o e => old b o e) ex₃.sub
  have adlt : ∀ b ∈ ad, b < s₂.heap.objs.size := fun b hb => let ⟨o, ho, _⟩ := Dt.alive _ _ st b hb; Heap.lt_size ho
  have loop : ∀ s₃ : Shared, s₃ = { s₂ with heap := h₁, toks := s₂.toks + ([] : List (Str × Value)).length } → codeAny (model prog w) F.A (.compLoop (.ListComp elt [⟨tgt, iter, ifs, 0⟩] scope pos) 0 it (.ref s₂.heap.objs.size) (compEnvC scope (cellsOf F.cells scope.names []) H2.objs.size F.env)) (RR (.ref s₂.heap.objs.size) H2.objs.size) s₃ := by
    rintro s₃ rfl
    exact comp_loop ok Dt R.end L hcp C0 D0 hCD (fun b hb => ⟨(had b hb).1, by rw [hC]; exact Nat.ne_of_lt (Nat.lt_succ_of_lt (adlt b hb)), Nat.ne_of_lt (adlt b hb)⟩) hsz
      (fun s' z' m' done vals => fin _ _ z' s' m' done vals C0 D0 hCD) _ ⟨z₂, _, [], [], fun _ _ e => e, ex₃, zC, zD, fun b hb => (had b hb).2, hns₁, hD, rfl, Nat.zero_le _, st₁, Nat.zero_le _, ct⟩
  exact codeAny_compStart_list (loop _ rfl) (self _ _ _ st₁ (loop _ rfl))

/-- a list comprehension's value -/
theorem WE_comp {scope : Scope} (ok : CompOk sc scope) {tgt iter elt : Expr} {ifs : List Expr} {pos : Pos} (cp : Locs) (hcp : Capt scope sc l cp)
    (hi : WIc G r sc l tgt iter fun vs => vs.length ≤ sizeLine ∧ CompT G r (relab scope sc) cp tgt ifs elt (fun done => Q (.lst done)) vs [])
    (hs : ∀ (F : Frm G r sc) x, foldedSetIterable iter F.env x = pure x := by intro _ _; rfl) : WE G r sc l (.ListComp elt [⟨tgt, iter, ifs, 0⟩] scope pos) Q := fun F z s R => by
  obtain ⟨m, am, L⟩ := R.loc
  rw [eval_ListComp]
  refine wpAny_comprehension_free (use := none) rfl (hs F) (closure_eq fun x hx hf => ?_) ok.fn ok.loc ?_
  · obtain ⟨c, v, e, _⟩ := L.ce x.1 (ok.cap x hx hf)
    exact ⟨c, e⟩
  · refine comp_block (RR := fun acc C => compPost (model prog w) F.A _ none _ acc C) ok hcp R hi ?_
    intro C D z' s' m' done vals hC hD hCD ex zC zD ns hDl rl q
    refine ⟨m', ns, fun h' sb => ?_⟩
    have kp : ∀ b o, b ≠ C → s'.heap.get? b = some o → h'.get? b = some o := fun b o hb e => sb.extBut b o hb e
    have ex' := ex.but (t := s'.toks) hC zC kp
    refine ⟨z'.put D (lstO vals), .lst done, ex'.put hD zD (kp _ _ (Ne.symm hCD) hDl), ⟨D, vals, rfl, ⟨_, _, Zp.put_self, rfl, rfl, rfl⟩, RzL.mono (Zp.put_old zD) rl⟩, q⟩

/-- a frame on another base -/
@[reducible] noncomputable def Frm.reb (F : Frm G r sc) (B : Zp) (hB : ∀ b o, B b = some o → tabLike o = false) : Frm G r sc := { F with base := B, bT := hB }
theorem Frm.LocOk.reb {F : Frm G r sc} {B : Zp} {hB : ∀ b o, B b = some o → tabLike o = false} {z : Zp} {h h' : Heap} {m : Str → Option Value} {am : Str → Addr} (L : F.LocOk l z h m am)
    (fr : ∀ a o, h.get? a = some o → F.Fresh z a → (F.reb B hB).Bs a = none ∧ h'.get? a = some o)
    (fe : ∀ x c, sc.names.lookup x = some .free → F.cells.lookup x = some c → (∃ o, (F.reb B hB).Bs c = some o) ∧ ∀ o, h.get? c = some o → h'.get? c = some o) : (F.reb B hB).LocOk l z h' m am := by
  have kc : ∀ {x c}, sc.names.lookup x = some .cell ∨ sc.names.lookup x = some .free → F.cells.lookup x = some c → ∀ o, h.get? c = some o → h'.get? c = some o := fun {x c} hx e => by
    rcases hx with hx | hx
    · obtain ⟨c', v, e', ⟨o, ho, hd⟩, f, n⟩ := L.ce x hx
      rw [e] at e'; cases e'
      intro o' ho'
      exact (fr c o' ho' f).2
    · exact (fe x c hx e).2
  have nm : ∀ {x val}, F.Nm m h x val → (F.reb B hB).Nm m h' x val := fun {x val} n => by
    rcases n with n | ⟨n, c, e, ⟨o, ho, hd⟩⟩
    · exact .inl n
    · exact .inr ⟨n, c, e, o, kc n e o ho, hd⟩
  have f1 : ∀ {a o}, h.get? a = some o → F.Fresh z a → (F.reb B hB).Fresh z a := fun ha f => ⟨f.1, (fr _ _ ha f).1⟩
  refine ⟨L.nd, ?_, ?_, fun y hy => ?_, L.cd, fun x c hx e => (fe x c hx e).1, fun y lv hy => ?_, L.ds⟩
  · obtain ⟨o, _, _, ho, _⟩ := id L.ns
    exact L.ns.at' fun o' e => (fr _ o' e L.fr).2
  · obtain ⟨o, _, _, ho, _⟩ := L.ns
    exact f1 ho L.fr
  · obtain ⟨c, v, e, ⟨o, ho, hd⟩, f, n⟩ := L.ce y hy
    exact ⟨c, v, e, ⟨o, (fr c o ho f).2, hd⟩, f1 ho f, n⟩
  · have k := L.ok y lv hy
    cases hu : lv.mine with
    | true =>
      obtain ⟨mi, c, t⟩ := k.of hu
      obtain ⟨o, ho⟩ := c.alive hu
      refine .to hu ⟨⟨f1 ho mi.fr, mi.nl, mi.nc⟩, c.mono (fun _ _ e => e) fun o' e _ => (fr _ o' e mi.fr).2, ?_⟩
      cases lv with
      | own xs => exact nm t
      | gl a xs => exact t
      | gd a ks vs => exact t
      | v _ => trivial
      | app _ => trivial
      | ca _ _ => trivial
    | false =>
      cases lv with
      | v v =>
        obtain ⟨val, n, rz⟩ := k
        exact ⟨val, nm n, rz⟩
      | app y' =>
        obtain ⟨q, o, n, zq, ap⟩ := k
        exact ⟨q, o, nm n, zq, ap⟩
      | ca _ _ => exact k
      | _ => cases hu

/-- a comprehension that is assigned to a local name -/
theorem WX_assignComp {x : Str} {p p' : Pos} {scope : Scope} (ok : CompOk sc scope) {tgt iter elt : Expr} {ifs : List Expr} {pos : Pos} (cp : Locs) (hcp : Capt scope sc l cp)
    (hi : WIc G r sc l tgt iter fun vs => vs.length ≤ sizeLine ∧ CompT G r (relab scope sc) cp tgt ifs elt (fun done => k.nx (put l x (.v (.lst done)))) vs [])
    (hsw : ∀ (F : Frm G r sc), swapsWith (.ListComp elt [⟨tgt, iter, ifs, 0⟩] scope pos) (some (.Name x p')) p.line F.env = pure true)
    (hx : stored sc x = true := by rfl)
    (hs : ∀ (F : Frm G r sc) x, foldedSetIterable iter F.env x = pure x := by intro _ _; rfl) : WX G r sc l (.Assign [.Name x p'] (.ListComp elt [⟨tgt, iter, ifs, 0⟩] scope pos) p) k := fun F z s R => by
  obtain ⟨m, am, L⟩ := R.loc
  rw [exec_Assign_Name_used _ _ _ _ (hsw F)]
  refine wpAny_bind (wpAny_standAt (wpAny_bind ?_))
  show wpAny _ F.A (do let _ ← comprehension (.ListComp elt [⟨tgt, iter, ifs, 0⟩] scope pos) scope F.env _ (newList []) false (eval iter F.env) (some (assign (.Name x p') F.env))) _ _ s
  refine wpAny_bind (noE (wpAny_comprehension_free (use := some (assign (.Name x p') F.env)) (Q := fun _ s' => ∃ z' l', Rep F l' z' s' ∧ k.nx l') rfl (hs F) (closure_eq fun x hx hf => ?_) ok.fn ok.loc ?_) fun _ s' hq => wpAny_pure (wpAny_pure hq))
  · obtain ⟨c, v, e, _⟩ := L.ce x.1 (ok.cap x hx hf)
    exact ⟨c, e⟩
  · refine comp_block (RR := fun acc C => compPost (model prog w) F.A _ (some (assign (.Name x p') F.env)) _ acc C) ok hcp R hi ?_
    intro C D z' s' m' done vals hC hD hCD ex zC zD ns hDl rl q
    show wpAny _ F.A (assign (.Name x p') F.env (.ref D)) _ _ _
    have ex' : Ext z s (z'.put D (lstO vals)) s' := ex.put hD zD hDl
    have rz : Rz G.C (z'.put D (lstO vals)) (.lst done) (.ref D) := ⟨D, vals, rfl, ⟨_, _, Zp.put_self, rfl, rfl, rfl⟩, RzL.mono (Zp.put_old zD) rl⟩
    have zC' : (z'.put D (lstO vals)) C = none := by simp [Zp.put, hCD, zC]
    generalize z'.put D (lstO vals) = z₂ at ex' rz zC'
    obtain ⟨oC, _, _, hoC, _⟩ := id ns
    have bsC : F.Bs C = none := R.end.bs_none hC
    have bC : F.base C = none := (F.Bs_none bsC).1
    have nfC : NoFields s'.heap C := ns_noFields ns
    have tC : tabLike oC = false := by
      obtain ⟨o', e', n'⟩ := nfC
      rw [hoC] at e'; cases e'
      exact notTab_data n'
    let B : Zp := fun b => if b = C then some oC else F.base b
    have hB : ∀ b o, B b = some o → tabLike o = false := fun b o e => by
      have e : (if b = C then some oC else F.base b) = some o := e
      by_cases hb : b = C
      · rw [if_pos hb] at e; cases e; exact tC
      · rw [if_neg hb] at e; exact F.bT b o e
    have bsB : ∀ {a}, a ≠ C → (F.reb B hB).Bs a = F.Bs a := fun {a} ha => by
      show (match (if a = C then some oC else F.base a) with | some o => some o | none => F.h0.get? a) = _
      rw [if_neg ha]; rfl
    have fe' : ∀ x c, sc.names.lookup x = some .free → F.cells.lookup x = some c → c ≠ C := fun x c hx e h => by
      obtain ⟨o, ho⟩ := L.fe x c hx e
      rw [h, bsC] at ho; cases ho
    have L₁ : (F.reb B hB).LocOk l z₂ s'.heap m am := Frm.LocOk.ext (F := F.reb B hB) (L.reb (B := B) (hB := hB) (h' := s.heap) (fun a o ho f => ⟨by
        have : a ≠ C := fun h => by rw [h, hC] at ho; cases ho
        rw [bsB this]; exact f.2, ho⟩) fun x c hx e => ⟨by
        obtain ⟨o, ho⟩ := L.fe x c hx e
        exact ⟨o, by rw [bsB (fe' x c hx e)]; exact ho⟩, fun _ e => e⟩) ex'
    have R₀ := R.ext ex'
    have R₁ : Rep (F.reb B hB) l z₂ s' := ⟨R₀.sub, R₀.zz, fun b o e => by
        by_cases hb : b = C
        · subst hb
          have e : (if b = b then some oC else F.base b) = some o := e
          rw [if_pos rfl] at e; cases e; exact hoC
        · have e : (if b = C then some oC else F.base b) = some o := e
          rw [if_neg hb] at e; exact R₀.base b o e, fun b o e n => by
        have hb : b ≠ C := fun h => by rw [h, zC'] at e; cases e
        rw [bsB hb]; exact R₀.new b o e n, ⟨R₀.gens.was, R₀.gens.g0, R₀.gens.gq, R₀.gens.gr, R₀.gens.tabs, R₀.gens.t0⟩, R₀.dr, R₀.os, m, am, L₁⟩
    refine wpAny_assign_Name (Rep.storeV (F := F.reb B hB) R₁ (stored_or hx) rz fun s₂ R₂ => ?_)
    have C₂ : s₂.heap.get? C = some oC := R₂.base C oC (if_pos rfl)
    refine ⟨m', ns.at' fun o e => by rw [hoC] at e; cases e; exact C₂, fun h' sb => ?_⟩
    obtain ⟨m₂, am₂, L₂⟩ := R₂.loc
    have kp : ∀ b o, b ≠ C → s₂.heap.get? b = some o → h'.get? b = some o := fun b o hb e => sb.extBut b o hb e
    have fC : ∀ {a}, (F.reb B hB).Fresh z₂ a → a ≠ C ∧ F.Bs a = none := fun {a} f => by
      have ha : a ≠ C := fun q => by
        have e := (Frm.Bs_none f.2).1
        have e : (if a = C then some oC else F.base a) = none := e
        rw [if_pos q] at e; cases e
      exact ⟨ha, (bsB ha).symm.trans f.2⟩
    have nf₂ : NoFields s₂.heap C := ⟨oC, C₂, fun vs q => by
      obtain ⟨o', e', n'⟩ := nfC
      rw [hoC] at e'; cases e'
      exact n' vs q⟩
    refine ⟨z₂, _, ⟨fun b o e => kp b o (fun h => by rw [h, zC'] at e; cases e) (R₂.sub b o e), R₂.zz, fun b o e => ?_, R₀.new, ?_, R₂.dr, R₂.os, m₂, am₂, ?_⟩, q⟩
    · have hb : b ≠ C := fun h => by rw [h, bC] at e; cases e
      exact kp b o hb (R₂.base b o (by show (if b = C then _ else _) = _; rw [if_neg hb]; exact e))
    · have S : Side F z₂ s₂ := ⟨R₂.gens.was, R₂.gens.g0, R₂.gens.gq, R₂.gens.gr, R₂.gens.tabs, R₂.gens.t0⟩
      exact S.same nf₂ sb bsC
    · have := Frm.LocOk.reb (F := F.reb B hB) (B := F.base) (hB := F.bT) (h' := h') L₂ (fun a o ho f => ⟨(fC f).2, kp a o (fC f).1 ho⟩) fun x c hx e => ⟨L.fe x c hx e, fun o ho => kp c o (fe' x c hx e) ho⟩
      exact this
end
end Mine

end
section
open PySem PySem.W PySem.Calls PyProof.Rows
set_option linter.unusedVariables false
set_option maxRecDepth 100000
namespace Mine
section
variable {prog : Program} {w : World} {K : Frag} {G : Gl prog w K} {r : Nat} {sc : Scope} {l : Locs} {k : Kt} {Q : V → Prop}
theorem cellsFrom_has {x : Str} : ∀ {names : List (Str × NameKind)} {n : Nat} {acc : List (Str × Addr)}, ((x, NameKind.cell) ∈ names ∨ (acc.lookup x).isSome = true) → ((cellsFrom n names acc).lookup x).isSome = true
  | [], n, acc, h => h.elim (fun h => nomatch h) fun h => h
  | (y, kd) :: r, n, acc, h => by
    unfold cellsFrom
    split
    · rename_i hk
      refine cellsFrom_has ?_
      by_cases hy : x = y
      · subst hy; right; rw [List.lookup_cons]; simp
      · rcases h with h | h
        · rcases List.mem_cons.mp h with h | h
          · cases h; exact absurd rfl hy
          · exact .inl h
        · right
          rw [List.lookup_cons]
          have : (x == y) = false := by simpa using hy
          rw [this]; exact h
    · rename_i hk
      refine cellsFrom_has ?_
      rcases h with h | h
      · rcases List.mem_cons.mp h with h | h
        · cases h; simp at hk
        · exact .inl h
      · exact .inr h

end
end Mine

end
section
open PySem PySem.W PySem.Calls PyProof.Rows
set_option linter.unusedVariables false
set_option maxRecDepth 100000
namespace Mine
section
variable {prog : Program} {w : World} {K : Frag} {G : Gl prog w K} {r : Nat} {sc : Scope} {l : Locs} {k : Kt} {Q : V → Prop}
noncomputable def compOkB (sc scope : Scope) : Bool := scope.kind == .function && (scope.names.all fun x => x.2 != .cell) && (scope.names.all fun x => x.2 != .free || sc.names.lookup x.1 == some .cell) && (scope.names.all fun x => x.2 != .local || scope.names.lookup x.1 == some .local)
theorem CompOk.of {scope : Scope} (h : compOkB sc scope = true) : CompOk sc scope := by
  unfold compOkB at h
  rw [Bool.and_eq_true, Bool.and_eq_true, Bool.and_eq_true] at h
  obtain ⟨⟨⟨h1, h2⟩, h3⟩, h4⟩ := h
  refine ⟨by simpa using h1, fun x hx => by simpa using List.all_eq_true.mp h2 x hx, fun x hx e => ?_, fun x hx e => ?_⟩
  · have := List.all_eq_true.mp h3 x hx
    simpa [e] using this
  · have := List.all_eq_true.mp h4 x hx
    simpa [e] using this
theorem WTs.mono {ifs : List Expr} {P P' : Bool → Prop} (h : WTs G r sc l ifs P) (k : ∀ c, P c → P' c) : WTs G r sc l ifs P' := by
  match ifs, h with
  | [], h => exact k _ h
  | [e], h => exact WT.mono h k
/-- a comprehension over images: those that pass, mapped -/
theorem CompT.map {α : Type} {cp : Locs} {tgt elt : Expr} {ifs : List Expr} {P : List V → Prop} (e : α → V) (p : α → Bool) (g : α → V) : ∀ (xs : List α) (done : List V),
    (∀ x ∈ xs, ∃ bs, TB tgt (e x) bs ∧ (∀ q ∈ bs, sc.names.lookup q.1 = some .local) ∧ ((bs.map (fun q => (q.1, LV.v q.2)) ++ cp).map (·.1)).Nodup ∧
      WTs G r sc (bs.map (fun q => (q.1, LV.v q.2)) ++ cp) ifs fun c => c = p x ∧ (c = true → WE G r sc (bs.map (fun q => (q.1, LV.v q.2)) ++ cp) elt (· = g x))) →
    P (done ++ (xs.filter p).map g) → CompT G r sc cp tgt ifs elt P (xs.map e) done
  | [], done, _, h => by simpa [CompT] using h
  | x :: xs, done, step, h => by
    obtain ⟨bs, h1, h2, h3, h4⟩ := step x List.mem_cons_self
    refine ⟨bs, h1, h2, h3, h4.mono fun c ⟨hc, he⟩ => ⟨fun c0 => ?_, fun c0 => ?_⟩⟩
    · refine CompT.map e p g xs done (fun y hy => step y (List.mem_cons_of_mem _ hy)) ?_
      rw [List.filter_cons, ← hc, c0] at h
      simpa using h
    · refine (he c0).mono fun u hu => ?_
      subst hu
      refine CompT.map e p g xs _ (fun y hy => step y (List.mem_cons_of_mem _ hy)) ?_
      rw [List.filter_cons, ← hc, c0] at h
      simpa using h


theorem turn_v {C : Addr} {z : Zp} {a : Addr} {ys : List V} (hz : Rz C z (.lst ys) (.ref a)) : Turns C z (.v (.raw (.ref a))) (.v (.lst ys)) := fun x hx => (show x = .ref a from hx) ▸ hz

/-! lists compared -/
theorem C_neSelf {v : V} (hv : v.isDat = true) (cv : v.dat.canLay0 = true) (hd : v.dat.depth ≤ 50) (h : Q (.bool false)) : Act2 G (compareOp .NotEq) v v Q := by
  refine C_neD hv hv cv cv hd ?_
  rw [SeqAt.eqv_refl _ cv]; exact h
end
end Mine

end
section
open PySem PySem.W PySem.Calls PyProof.Rows
set_option linter.unusedVariables false
set_option maxRecDepth 100000
namespace Mine
section
variable {prog : Program} {w : World} {K : Frag} {G : Gl prog w K} {r : Nat} {sc : Scope} {l : Locs} {k : Kt} {Q : V → Prop}

/-! the tables grow -/
theorem tbc_ne {c c' : Addr × Addr} (h : c ∈ TBC) (h' : c' ∈ TBC) : c'.1 ≠ c.2 ∧ (c'.2 = c.2 → c' = c) := by
  have : (TBC.all fun c => TBC.all fun c' => c'.1 != c.2 && (c'.2 != c.2 || c' == c)) = true := by decide
  have h1 := List.all_eq_true.mp (List.all_eq_true.mp this c h) c' h'
  simp only [Bool.and_eq_true, bne_iff_ne, Bool.or_eq_true, beq_iff_eq] at h1
  exact ⟨h1.1, fun e => h1.2.resolve_left fun n => n e⟩
theorem tbc_ad {c : Addr × Addr} (h : c ∈ TBC) : c.2 ∈ TAd := by
  have : (TBC.all fun c => TAd.elem c.2) = true := by decide
  simpa using List.all_eq_true.mp this c h
theorem ad_tbc {t : Addr} (h : t ∈ TAd) : ∃ c ∈ TBC, c.2 = t := by
  have : (TAd.all fun t => TBC.any fun c => c.2 == t) = true := by decide
  have h1 := List.all_eq_true.mp this t h
  obtain ⟨c, h2, h3⟩ := List.any_eq_true.mp h1
  exact ⟨c, h2, beq_iff_eq.mp h3⟩
theorem ztab_no {z : Zp} {h : Heap} (t : Tabs z h) : ¬ Ztab z := fun ⟨a, ha, o, e⟩ => by
  obtain ⟨c, hc, rfl⟩ := ad_tbc ha
  rw [(t c hc).hz] at e; cases e
theorem tab_grow {z z' : Zp} {s : Shared} {h' : Heap} {tk : Tok} {c : Addr × Addr} {ps more : Array Value} (hc : c ∈ TBC) (t : Tabs z s.heap) (hps : s.heap.TableAt c.1 c.2 ps) (hx : Heap.ExtBut c.2 s.heap h')
    (hi : h'.IsCode c.1 c.2 (ps ++ more)) (ht : h'.TableAt c.1 c.2 (ps ++ more)) (zz : ∀ b o, z b = some o → z' b = some o) (sub : Sub z' h') (new : ∀ b o, z' b = some o → z b = none → s.heap.get? b = none)
    (hr : ∀ q, qualIn c.1 = some q → ∀ pos cv, codeAmong pos (ps ++ more).toList = some cv → Recd z' q cv) : Ext z s z' { s with heap := h', toks := tk } := by
  have zn : ∀ c' ∈ TBC, z' c'.2 = none := fun c' hc' => by
    obtain ⟨hz, ps', _, y, _⟩ := t c' hc'
    cases q : z' c'.2 with
    | none => rfl
    | some o => have := new _ _ q hz; rw [y.2] at this; cases this
  refine ⟨zz, sub, ⟨fun b o e => ?_⟩, new, .of_eq rfl, fun _ c' hc' => ?_, rfl, rfl⟩
  · by_cases hb : b = c.2
    · subst hb
      have e' := hps.2
      rw [e] at e'; cases e'
      exact .inr ⟨tbc_ad hc, rfl, ps, more, rfl, ht.2⟩
    · exact .inl (hx b o hb e)
  · by_cases e : c' = c
    · subst e
      exact ⟨zn c' hc', _, hi, ht, hr⟩
    · obtain ⟨hz, ps', x, y, rr⟩ := t c' hc'
      obtain ⟨n1, n2⟩ := tbc_ne hc hc'
      have n2 : c'.2 ≠ c.2 := fun q => e (n2 q)
      exact ⟨zn c' hc', ps', x.extBut hx n1 n2, y.extBut hx n1 n2, fun q hq pos cv hv => (rr q hq pos cv hv).mono zz⟩

theorem gcode {M : Model} {A : Around} {env : Env} {c : Addr × Addr} {pos : Pos} {qn : Str} {scope : Scope} {z : Zp} {s : Shared} {P : Value → Shared → Prop} {E : Value → Shared → Prop} (hc : c ∈ TBC) (hq : qualIn c.1 = none) (he : env.code = .ref c.1)
    (hs : Sub z s.heap) (t : Tabs z s.heap) (h : ∀ cv s', Ext z s z s' → P cv s') : wpAny M A (genexprCode env pos qn scope) P E s := by
  obtain ⟨hz, ps, x, y, _⟩ := t c hc
  cases hf : codeAmong pos ps.toList with
  | some c' => exact wpAny_genexprCode_hit he x hf (h _ _ (Ext.refl hs))
  | none =>
    refine wpAny_genexprCodeX he x y hf fun c' h' tk hx _ _ hi _ ht _ => h _ _ ?_
    exact tab_grow hc t y hx hi ht (fun _ _ e => e) (fun b o e => hx b o (fun q => by rw [q, hz] at e; cases e) (hs b o e)) (fun b o e n => by rw [n] at e; cases e) fun q e => by rw [hq] at e; cases e

/-! generators -/
/-- an iterable that the kit can walk over -/
noncomputable def WIg (G : Gl prog w K) (r : Nat) (sc : Scope) (l : Locs) (iter : Expr) (Q : List V → Prop) : Prop :=
  ∀ (F : Frm G r sc) z s, Rep F l z s → wpAny (model prog w) F.A (eval iter F.env) (fun x s₁ => wpAny (model prog w) F.A (pyIter x) (fun it s₂ => ∃ z₂ vs I fp P St, Ext z s z₂ s₂ ∧ it = .ref I ∧ s.heap.get? I = none ∧ z₂ I = none ∧
    (∀ A' : Around, A'.handled = none → Walks prog w A' I fp [I] vs.length P St) ∧ St 0 s₂.heap ∧ (∀ b ∈ fp, ∃ o, s₂.heap.get? b = some o ∧ tabLike o = false) ∧ (∀ i v, P i v → ∃ u, vs[i]? = some u ∧ Rz G.C z₂ u v) ∧ Q vs) (fun _ _ => False) s₁) (fun _ _ => False) s
theorem WIg_list {iter : Expr} {Q : List V → Prop} (h : WE G r sc l iter fun v => ∃ vs, v = .lst vs ∧ Q vs) : WIg G r sc l iter Q := fun F z s R =>
  noE (h F z s R) fun x s₁ ⟨z₁, v, e₁, rz, vs, hv, q⟩ => by
    have sub₁ := e₁.sub
    subst hv
    obtain ⟨a, xs, rfl, sq, rl⟩ := rz
    obtain ⟨o, n, zo, oc, od, odt⟩ := id sq
    have hl : s₁.heap.IsList a xs.toArray := isList_of (sq.mono fun o e => sub₁ _ _ e)
    have hne : a ≠ s₁.heap.objs.size := fun q => by rw [q] at zo; rw [sub₁.fresh] at zo; cases zo
    refine wpAny_pyIter_list hl ?_
    have hsz : xs.toArray.size = vs.length := by rw [List.size_toArray]; exact rl.length
    have gI := Heap.get?_push_size s₁.heap (o := { cls := .type "list_iterator", data := .fields #[.ref a, .int 0 0] }) rfl
    refine ⟨z₁, vs, s₁.heap.objs.size, [s₁.heap.objs.size, a], fun i v => xs.toArray[i]? = some v, fun i h => h.IsListIter s₁.heap.objs.size a i ∧ h.IsList a xs.toArray, e₁.trans (Ext.grow (t := s₁.toks) e₁.sub fun b o e => Heap.get?_push_of_some _ e), rfl, ?_, ?_, fun A' hA => by have W := Walks.list (prog := prog) (w := w) hA s₁.heap.objs.size a hne xs.toArray; rw [hsz] at W; exact W, ⟨⟨_, Heap.get?_push_size _ rfl, rfl, rfl⟩, hl.push _⟩, fun b hb => ?_, fun i v hv => ?_, q⟩
    · exact (none_before e₁ (Nat.le_refl _)).1
    · exact sub₁.fresh
    · simp only [List.mem_cons, List.not_mem_nil, or_false] at hb
      rcases hb with rfl | rfl
      · exact ⟨_, Heap.get?_push_size _ rfl, rfl⟩
      · exact ⟨o, Heap.get?_push_of_some _ (sub₁ _ _ zo), notTab_data fun vs q => by rw [odt] at q; cases q⟩
    · have hv : xs.toArray[i]? = some v := hv
      have hv' : xs[i]? = some v := by simpa using hv
      have hi : i < vs.length := by
        rw [← rl.length]
        exact (List.getElem?_eq_some_iff.mp hv').1
      obtain ⟨u, hu⟩ : ∃ u, vs[i]? = some u := ⟨_, List.getElem?_eq_getElem hi⟩
      obtain ⟨x, hx, rx⟩ := rl.get i u hu
      rw [hv'] at hx; cases hx
      exact ⟨u, hu, rx⟩

/-- captured names -/
noncomputable def CaptG (scope : Scope) (l : Locs) : Locs → Prop
  | [] => True
  | p :: q => (l.lookup p.1 = some p.2 ∧ (∃ v, p.2 = .v v) ∧ scope.names.lookup p.1 = some .free) ∧ CaptG scope l q
theorem CaptG.mem {scope : Scope} : ∀ {c : Locs}, CaptG scope l c → ∀ p ∈ c, l.lookup p.1 = some p.2 ∧ (∃ v, p.2 = .v v) ∧ scope.names.lookup p.1 = some .free
  | _ :: _, ⟨h, t⟩, p, hp => by
    rcases List.mem_cons.mp hp with rfl | hp
    · exact h
    · exact t.mem p hp

theorem keeps_of {z₀ z' : Zp} {s s' : Shared} {C : Addr} (e : Ext z₀ s z' s') (hz : ∀ b o, b ≠ C → s.heap.get? b = some o → z₀ b = some o) (hC : ∀ o, s.heap.get? C = some o → tabLike o = false) (ht : Ztab z₀) : Keeps s s' := by
  have hg := e.gens.q ht
  have hd := e.dr
  have ho := e.os
  refine ⟨s'.heap, s'.toks, ?_, fun b o h => ?_⟩
  · obtain ⟨h', g', d', t', o'⟩ := s'
    subst hg hd ho
    rfl
  · by_cases hb : b = C
    · subst hb; exact e.was.keep h (hC o h)
    · exact e.sub b o (e.zz b o (hz b o hb h))
/-- no heap at all -/
noncomputable def noHeap : Heap := { objs := #[] }
theorem quiet_elt {F : Frm G (r + 1) sc} {scope : Scope} (ok : CompOk sc scope) {z : Zp} {s : Shared} {m : Str → Option Value} {am : Str → Addr} (E : RepE F z s) (L : F.LocOk l z s.heap m am) (t : Tabs z s.heap) {I : Addr} (zI : z I = none)
    (cI : ∀ y c, sc.names.lookup y = some .cell → F.cells.lookup y = some c → c ≠ I) (tI : ∀ c ∈ TBC, c.2 ≠ I) {A' : Around} (hA : A'.handled = none) (hR : Room r A') {cv : Value} {u : Shared}
    (hk : ∀ b, b < s.heap.objs.size → b ≠ I → ∀ o, s.heap.get? b = some o → u.heap.get? b = some o) {m₂ : Str → Option Value} (ns : u.heap.Ns s.heap.objs.size m₂) {x : Str} {v : Value} {uv wv : V} (hv : m₂ x = some v) (rz : Rz G.C z uv v) (hx : scope.names.lookup x = some .local)
    {cp : Locs} (hcp : CaptG scope l cp) (nd : (x :: cp.map (·.1)).Nodup) {elt : Expr} (h : WE G.quiet r scope ((x, .v uv) :: cp) elt (· = wv)) (hi : wv.imm = true) {E' : Value → Shared → Prop} :
    wpAny (model prog w) A' (eval elt (genEnv scope (cellsOf F.cells scope.names []) s.heap.objs.size cv builtinsNs F.env)) (fun y s₃ => Rz G.C (fun _ => none) wv y ∧ Keeps u s₃) E' u := by
  have zk : ∀ b o, z b = some o → u.heap.get? b = some o := fun b o e => hk b (Heap.lt_size (E.sub b o e)) (fun q => by rw [q, zI] at e; cases e) o (E.sub b o e)
  have zC : z s.heap.objs.size = none := E.sub.fresh
  let z₀ : Zp := fun b => if b = s.heap.objs.size then none else u.heap.get? b
  have z0 : ∀ b o, z b = some o → z₀ b = some o := fun b o e => by
    have : b ≠ s.heap.objs.size := fun q => by rw [q, zC] at e; cases e
    show (if b = s.heap.objs.size then none else _) = _
    rw [if_neg this]; exact zk b o e
  have zt : Ztab z₀ := by
    have hc : ((178, 174) : Addr × Addr) ∈ TBC := by decide
    obtain ⟨_, ps, _, y, _⟩ := t _ hc
    refine ⟨174, by decide, { cls := .none, data := .fields ps }, ?_⟩
    have lt := Heap.lt_size y.2
    show (if 174 = s.heap.objs.size then none else _) = _
    rw [if_neg (Nat.ne_of_lt lt)]
    exact hk _ lt (tI _ hc) _ y.2
  let F' : Frm G.quiet r scope := Frm.mk s.heap.objs.size (cellsOf F.cells scope.names []) (F.qual ++ "<genexpr>.") none cv (some s.heap.objs.size) A'
    (fun b => if b = s.heap.objs.size then none else ntab u.heap b) z₀ noHeap u.gens u.drawn u.os ok.fn (fun b o e => z0 b o (E.zz b o (F.zB b o e))) (fun b o e => by
      split at e
      · cases e
      · exact (ntab_some e).2) hA hR False (fun e => by cases e) (Ztab z₀) id
  have hn0 : ∀ b, noHeap.get? b = none := fun b => by
    cases q : noHeap.get? b with
    | none => rfl
    | some o => exact absurd (Heap.lt_size q) (Nat.not_lt_zero _)
  have cell : ∀ y, scope.names.lookup y = some .free → ∃ c v, F.cells.lookup y = some c ∧ (cellsOf F.cells scope.names []).lookup y = some c ∧ s.heap.IsCell c v ∧ u.heap.IsCell c v ∧ c ≠ s.heap.objs.size := fun y hy => by
    have hm := lookup_mem hy
    have hcl := ok.cap _ hm rfl
    obtain ⟨c, v, e, ⟨o, ho, hd⟩, f, n⟩ := L.ce y hcl
    exact ⟨c, v, e, by rw [cellsOf_lookup (.inl hm), e]; rfl, ⟨o, ho, hd⟩, ⟨o, hk c (Heap.lt_size ho) (cI y c hcl e) o ho, hd⟩, Nat.ne_of_lt (Heap.lt_size ho)⟩
  have ncl : ∀ y, scope.names.lookup y ≠ some .cell := fun y hy => ok.nc _ (lookup_mem hy) rfl
  have lv : ∀ {y lv}, ((x, LV.v uv) :: cp).lookup y = some lv → ∃ v', lv = .v v' ∧ ∃ val, F'.Nm m₂ u.heap y val ∧ Rz G.C z₀ v' val := fun {y lv} e => by
    rw [List.lookup_cons] at e
    cases q : y == x with
    | true =>
      rw [q] at e; cases e
      have := eq_of_beq q
      subst this
      exact ⟨uv, rfl, v, .inl ⟨hx, hv⟩, rz.mono z0⟩
    | false =>
      rw [q] at e
      obtain ⟨h1, ⟨v', h2⟩, h3⟩ := hcp.mem _ (lookup_mem e)
      have h2 : lv = .v v' := h2
      subst h2
      obtain ⟨val, n, rz'⟩ := L.ok y _ h1
      refine ⟨v', rfl, val, .inr ⟨.inr h3, ?_⟩, rz'.mono z0⟩
      obtain ⟨c, _, e1, e2, _, ⟨o', ho', hd'⟩, _⟩ := cell y h3
      have hcl := ok.cap _ (lookup_mem h3) rfl
      rcases n with ⟨n, _⟩ | ⟨_, c', e', ⟨o, ho, hd⟩⟩
      · rw [hcl] at n; cases n
      · rw [e1] at e'; cases e'
        exact ⟨c, e2, o, hk c (Heap.lt_size ho) (cI y c hcl e1) o ho, hd⟩
  have R' : Rep F' ((x, .v uv) :: cp) z₀ u := by
    refine ⟨fun b o e => ?_, fun _ _ e => e, fun b o e => ?_, fun b o e n => ?_, ⟨fun b o e => ?_, .refl _, fun _ => rfl, ⟨fun b o e => ?_⟩, fun e => e.elim, fun e => e.elim⟩, rfl, rfl, m₂, fun _ => 0, nd, ns, ⟨?_, Frm.Bs_of ?_ (hn0 _)⟩, fun y hy => absurd hy (ncl y), fun y _ _ hy => absurd hy (ncl y), fun y c hy e => ?_, fun y lv' e => ?_, fun y y' a b e _ hu => ?_⟩
    · have e : (if b = s.heap.objs.size then none else u.heap.get? b) = some o := e
      split at e
      · cases e
      · exact e
    · have e : (if b = s.heap.objs.size then none else ntab u.heap b) = some o := e
      split at e
      · cases e
      · exact (ntab_some e).1
    · have n : z₀ b = none := n
      rw [n] at e; cases e
    · have e : noHeap.get? b = some o := e
      rw [hn0] at e; cases e
    · have e : noHeap.get? b = some o := e
      rw [hn0] at e; cases e
    · exact if_pos rfl
    · exact if_pos rfl
    · obtain ⟨c', v', _, e2, _, ⟨o, ho, hd⟩, hne⟩ := cell y hy
      have e : (cellsOf F.cells scope.names []).lookup y = some c := e
      have hcc : c' = c := Option.some.inj (e2.symm.trans e)
      subst hcc
      refine ⟨o, ?_⟩
      unfold Frm.Bs
      have : F'.base c' = some o := by
        show (if c' = s.heap.objs.size then none else ntab u.heap c') = _
        rw [if_neg hne]
        exact ntab_of ho (notTab_data fun vs q => by rw [hd] at q; cases q)
      rw [this]
    · obtain ⟨v', rfl, val, n, rz'⟩ := lv e
      exact ⟨val, n, rz'⟩
    · obtain ⟨v', rfl, _⟩ := lv e
      cases hu
  refine wpAny_mono (h F' z₀ u R') (fun y s₃ ⟨z', w', e, rz', hw⟩ => ?_) fun _ _ h => h.elim
  subst hw
  refine ⟨rz'.imm hi, keeps_of (C := s.heap.objs.size) e (fun b o hb e => ?_) (fun o ho => ?_) zt⟩
  · show (if b = s.heap.objs.size then none else _) = _
    rw [if_neg hb]; exact e
  · obtain ⟨o', e', n'⟩ := ns_noFields ns
    rw [ho] at e'; cases e'
    exact notTab_data n'
end
end Mine

end
section
open PySem PySem.W PySem.Calls PyProof.Rows
set_option linter.unusedVariables false
set_option maxRecDepth 100000
namespace Mine
section
variable {prog : Program} {w : World} {K : Frag} {G : Gl prog w K} {r : Nat} {sc : Scope} {l : Locs} {k : Kt} {Q : V → Prop}

/-- a generator that gives these plain values, made since s₀ -/
noncomputable def GenV (G : Gl prog w K) (A : Around) (z₀ : Zp) (s₀ : Shared) (ws : List V) (y : Value) (s' : Shared) : Prop :=
  ∃ a z' wr fp g St, y = .ref a ∧ Ext z₀ s₀ z' s' ∧ WalksS prog w A.in4 a fp wr (GenOnlyQ g) ws.length (fun j v => ∃ u, ws[j]? = some u ∧ Rz G.C (fun _ => none) u v) St ∧ St 0 s' ∧
    (∀ i s', St i s' → s'.TypeIs (.ref a) "generator") ∧ a ∈ fp ∧ (∀ b ∈ fp, b < s'.heap.objs.size) ∧ (∀ b ∈ wr, s₀.heap.get? b = none ∧ z' b = none) ∧ s₀.gens.size ≤ g
/-- what is handed out -/
noncomputable def GenR (G : Gl prog w K) (r : Nat) (scope : Scope) (x : Str) (cp : Locs) (elt : Expr) : List V → List V → Prop
  | [], [] => True
  | u :: us, v :: vs => (WE G.quiet r scope ((x, .v u) :: cp) elt (· = v) ∧ v.imm = true) ∧ GenR G r scope x cp elt us vs
  | _, _ => False
theorem GenR.get {scope : Scope} {x : Str} {cp : Locs} {elt : Expr} : ∀ {us vs : List V}, GenR G r scope x cp elt us vs → us.length = vs.length ∧ ∀ (i : Nat) (u : V), us[i]? = some u → ∃ v, vs[i]? = some v ∧ WE G.quiet r scope ((x, .v u) :: cp) elt (· = v) ∧ v.imm = true
  | [], [], _ => ⟨rfl, fun i u h => by cases h⟩
  | [], _ :: _, h => h.elim
  | _ :: _, [], h => h.elim
  | u :: us, v :: vs, ⟨h, t⟩ => by
    obtain ⟨e, f⟩ := GenR.get t
    refine ⟨by simp [e], fun i q hq => ?_⟩
    cases i with
    | zero => cases hq; exact ⟨v, rfl, h⟩
    | succ i => obtain ⟨v', e', h'⟩ := f i q (by simpa using hq); exact ⟨v', by simpa using e', h'⟩
theorem GenR.map {α : Type} {scope : Scope} {x : Str} {cp : Locs} {elt : Expr} (f g : α → V) (hi : ∀ a, (g a).imm = true) : ∀ {xs : List α}, (∀ a ∈ xs, WE G.quiet r scope ((x, .v (f a)) :: cp) elt (· = g a)) → GenR G r scope x cp elt (xs.map f) (xs.map g)
  | [], _ => trivial
  | a :: xs, h => ⟨⟨h a (.head _), hi a⟩, GenR.map f g hi fun b hb => h b (.tail _ hb)⟩

theorem eval_gen {F : Frm G (r + 1) sc} {z : Zp} {s : Shared} (R : Rep F l z s) (hG : G.q = true) {c : Addr × Addr} (hc : c ∈ TBC) (hq : qualIn c.1 = none) (hcd : F.code = .ref c.1) {scope : Scope} (ok : CompOk sc scope)
    (hco : scope.isCoroutine = false) (h0 : scope.names.lookup (".0" : Str) = some NameKind.local) {x : Str} {px : Pos} (hx : scope.names.lookup x = some .local) {cp : Locs} (hcp : CaptG scope l cp) (nd : (x :: cp.map (·.1)).Nodup)
    {elt iter : Expr} {pos : Pos} {P0 : List V → Prop} (hi : WIg G (r + 1) sc l iter fun vs => ∃ ws, GenR G r scope x cp elt vs ws ∧ P0 ws) (hs : ∀ env x, genFold iter env x = pure x) :
    wpAny (model prog w) F.A (eval (.GeneratorExp elt [⟨.Name x px, iter, [], 0⟩] scope pos) F.env) (fun y s' => ∃ ws, P0 ws ∧ GenV G F.A z s ws y s') (fun _ _ => False) s := by
  obtain ⟨m₀, am₀, L₀⟩ := R.loc
  have cl : closureFor scope F.env = pure (cellsOf F.cells scope.names []) := closure_eq fun y hy hk => by
    obtain ⟨c, v, e, _⟩ := L₀.ce y.1 (ok.cap y hy hk)
    exact ⟨c, e⟩
  refine wpAny_GeneratorExp_walksQD F.hh hco cl (fun y hy => ok.nc y hy) h0 hx ok.fn F.room.lt (noE (hi F z s R) fun xv s₁ h₁ => noE h₁ fun it s₂ h₂ => ?_) (hs F.env)
  obtain ⟨z₂, vs, I, fp, P, St, e₂, rfl, hI, zI, W, st, hfp, hP, ws, gr, p0⟩ := h₂
  have R₂ := R.ext e₂
  have zB₂ : Sub G.zB s₂.heap := R₂.sB
  refine ⟨G.nolim _ zB₂, gcode hc hq hcd e₂.sub (R₂.gens.tabs (F.hq hG)) fun cv s₃ e₃ => ?_⟩
  have R₃ := R₂.ext e₃
  obtain ⟨bm, ob, b1, b2, b3, b4, b5, b6⟩ := G.bt
  refine wpAny_builtinsFor (G.gNs _ R₃.sB) b1 b2 (R₃.sB _ _ b3) b4 b5 b6 ?_
  have ex : Ext z s z₂ s₃ := e₂.trans e₃
  have t₃ : Tabs z₂ s₃.heap := R₃.gens.tabs (F.hq hG)
  have t₀ : Tabs z s.heap := R.gens.tabs (F.hq hG)
  have L₃ := L₀.ext ex
  have kfp : ∀ b ∈ fp, ∀ o, s₂.heap.get? b = some o → s₃.heap.get? b = some o := fun b hb o e => by
    obtain ⟨o', e', t'⟩ := hfp b hb
    rw [e] at e'; cases e'
    exact e₃.keep b o e t'
  have cI : ∀ y c, sc.names.lookup y = some .cell → F.cells.lookup y = some c → c ≠ I := fun y c hy e q => by
    obtain ⟨c', v, e', ⟨o, ho, _⟩, _⟩ := L₀.ce y hy
    rw [e] at e'; cases e'
    rw [q, hI] at ho; cases ho
  have tI : ∀ c ∈ TBC, c.2 ≠ I := fun c hc q => by
    obtain ⟨_, ps, _, y, _⟩ := t₀ c hc
    have := y.2
    rw [q, hI] at this; cases this
  obtain ⟨glen, gget⟩ := gr.get
  refine ⟨I, fp, [I], vs.length, P, St, fun _ => true, fun i v => ∃ u, ws[i]? = some u ∧ Rz G.C (fun _ => none) u v, rfl, W, (W _ F.hh).frame _ _ _ st kfp, fun b hb => let ⟨o, e, t⟩ := hfp b hb; Heap.lt_size (e₃.keep b o e t), G.nolim _ R₃.sB, ?_, fun href hh => ⟨?_, ?_⟩, ?_⟩
  · intro hm
    obtain ⟨_, n, _⟩ := G.nolim _ R.sB
    obtain ⟨o, _, _, ho, _⟩ := n
    rw [List.mem_singleton.mp hm, hI] at ho; cases ho
  · intro A' E' i v u m₂ hA _ _ _ _ _ _
    exact wpAny_tests_nil ⟨rfl, u.heap, u.toks, rfl, fun _ _ e => e⟩
  · intro A' E' i v u m₂ hA hD hU hPv _ ns hm hk
    obtain ⟨uv, hu, rz⟩ := hP i v hPv
    obtain ⟨wv, hw, we, im⟩ := gget i uv hu
    have hR : Room r A' := by
      have := F.room
      unfold Room at this ⊢
      omega
    refine wpAny_mono (quiet_elt ok R₃.end L₃ t₃ zI cI tI hA hR (fun b hb hbI o e => hk b (List.mem_range.mpr hb) (fun q => hbI (List.mem_singleton.mp q)) o (hh b o e)) ns hm (rz.mono fun _ _ e => e) hx hcp nd we im) (fun y s₅ ⟨h1, h2⟩ => ⟨⟨wv, hw, h1⟩, h2⟩) fun _ _ e => e
  · intro a h₅ tk gs hgb hlt hsz hk W' hA
    have pe : passing (fun _ => true) vs.length 0 = List.range vs.length := by simp [passing]
    rw [glen] at pe W' hA
    rw [pe, List.length_range] at W'
    have kp : ∀ b o, s₃.heap.get? b = some o → h₅.get? b = some o := hk
    have e₅ : Ext z₂ s₃ z₂ { s₃ with gens := s₃.gens.push gs, toks := tk, heap := h₅ } := by
      refine ⟨fun _ _ e => e, fun b o e => kp b o (ex.sub b o e), .of_keep kp, fun b o e n => (by rw [n] at e; cases e), ⟨⟨?_, fun i hi => ?_, fun i q hi e => ?_⟩, fun q => absurd q (ztab_no t₃)⟩, fun t => t.keeps kp, rfl, rfl⟩
      · simp
      · exact Array.getElem?_push_lt hi |>.trans (Array.getElem?_eq_getElem hi).symm
      · have e : (s₃.gens.push gs)[i]? = some q := e
        rw [Array.getElem?_push] at e
        split at e
        · cases e; exact hgb
        · rw [Array.getElem?_eq_none hi] at e; cases e
    have hC : s.heap.get? s₃.heap.objs.size = none := (none_before ex (Nat.le_refl _)).1
    have zC : z₂ s₃.heap.objs.size = none := ex.sub.fresh
    refine ⟨ws, p0, a, z₂, _, _, _, _, rfl, ex.trans e₅, W'.imp fun j v ⟨i, hij, u, hu, rz⟩ => ?_, hA, fun i s' st => st.1.typeIs, List.mem_cons_self .., fun b hb => ?_, fun b hb => ?_, Nat.le_trans e₂.gens.g0.sz e₃.gens.g0.sz⟩
    · rw [List.getElem?_range] at hij
      · cases hij; exact ⟨u, hu, rz⟩
      · rcases Nat.lt_or_ge j ws.length with h | h
        · exact h
        · rw [List.getElem?_eq_none (by simpa using h)] at hij; cases hij
    · show b < h₅.objs.size
      rw [hsz]
      rcases List.mem_cons.mp hb with rfl | hb
      · exact Nat.lt_succ_self _
      · rcases List.mem_cons.mp hb with rfl | hb
        · exact Nat.lt_succ_of_lt hlt
        · exact Nat.lt_succ_of_lt (Nat.lt_trans (List.mem_range.mp hb) hlt)
    · rcases List.mem_cons.mp hb with rfl | hb
      · exact ⟨hC, zC⟩
      · rw [List.mem_singleton.mp hb]; exact ⟨hI, zI⟩

theorem Ext.moved {z z' : Zp} {s s' s'' : Shared} (e : Ext z s z' s') {wr : List Addr} {g : Nat} (t₀ : Tabs z s.heap) (m : Moved wr (GenOnlyQ g) s' s'') (hw : ∀ b ∈ wr, s.heap.get? b = none ∧ z' b = none) (hg : s.gens.size ≤ g) : Ext z s z' s'' := by
  have kp : ∀ b, (∃ o, s.heap.get? b = some o) → ∀ o, s'.heap.get? b = some o → s''.heap.get? b = some o := fun b ⟨o, h⟩ o' h' => m.heap b o' (fun q => by rw [(hw b q).1] at h; cases h) h'
  refine ⟨e.zz, fun b o h => m.heap b o (fun q => by rw [(hw b q).2] at h; cases h) (e.sub b o h), e.was.but kp, e.new, ⟨?_, fun q => absurd q (ztab_no t₀)⟩, fun t => t.move1 (e.tabs t) (fun _ _ e => e) (fun _ _ _ e => e) kp, m.drawn.trans e.dr, m.os.trans e.os⟩
  rcases m.gens with h | ⟨⟨h1, h2⟩, h3⟩
  · rw [h]; exact e.gens.g0
  · refine ⟨by rw [h1]; exact e.gens.g0.sz, fun i hi => (h2 i (by omega)).trans (e.gens.g0.old i hi), fun i q hi hq => ?_⟩
    by_cases hig : i = g
    · subst hig; exact h3 q hq
    · rw [h2 i hig] at hq
      exact e.gens.g0.new i q hi hq

/-- a call of a built-in with a generator -/
noncomputable def CSg (G : Gl prog w K) (r : Nat) (f : Value) (ws : List V) (Q : V → Prop) : Prop :=
  ∀ A z s y s', A.handled = none → Tabs z s.heap → GenV G A z s ws y s' → wpAny (model prog w) A (call f [y]) (fun x s'' => ∃ z' v, Ext z s z' s'' ∧ Rz G.C z' v x ∧ Q v) (fun _ _ => False) s'
theorem WE_genCall {fx : Str} {p1 p : Pos} {val : Value} (e : nsIn K mainGlobals fx = some none) (hv : bootBuiltins fx = some val) (hf : Cal K val = true) {c : Addr} (hl : l.lookup ("#code" : Str) = some (LV.ca "#code" c)) (hG : G.q = true) (P : Addr) (hc : (c, P) ∈ TBC) (hq : qualIn c = none) {scope : Scope} (ok : CompOk sc scope)
    {x : Str} {px : Pos} {cp : Locs} (hcp : CaptG scope l cp) {elt iter : Expr} {pos : Pos} (hi : WIg G (r + 1) sc l iter fun vs => ∃ ws, GenR G r scope x cp elt vs ws ∧ CSg G r val ws Q)
    (hs : ∀ env x, genFold iter env x = pure x := by intro _ _; rfl) (nd : (x :: cp.map (·.1)).Nodup := by decide) (hx : scope.names.lookup x = some .local := by decide +kernel) (hco : scope.isCoroutine = false := by rfl) (h0 : scope.names.lookup (".0" : Str) = some NameKind.local := by decide +kernel)
    (hn : fx ≠ "__name__" := by decide) (hfx : sc.names.lookup fx = some .globalImplicit := by rfl) (hd : (fx == ("__debug__" : Str)) = false := by decide) :
    WE G (r + 1) sc l (.Call (.Name fx p1) [.GeneratorExp elt [⟨.Name x px, iter, [], 0⟩] scope pos] [] p) Q := fun F z s R => by
  have hcd : F.code = .ref c := by
    obtain ⟨m, am, L⟩ := R.loc
    have h : F.Ca "#code" c := L.ok _ _ hl
    unfold Frm.Ca at h
    rw [if_pos rfl] at h
    exact h.1
  refine wpAny_Call_ofName (noE (WE_b (Q := fun v => v = .raw val) e hv rfl hn hfx hd F z s R) fun f s₁ ⟨z₁, v, e₁, rz, hv'⟩ => ?_)
  subst hv'
  have : f = val := rz
  subst this
  have R₁ := R.ext e₁
  rw [backTo_plain (by rfl)]
  refine callWith_of (P := K.In) rfl (fun hp X => keeps_any hf hp X) ?_
  refine Calls.evalArgs_plain (Calls.spliced_cons (noE (eval_gen R₁ hG (c := (c, P)) hc hq hcd ok hco h0 hx hcp nd hi hs) fun y s₂ ⟨ws, q, gv⟩ => Calls.spliced_nil ?_))
  have ge := gv
  obtain ⟨a, z', wr, fp, g, St, _, e', _⟩ := ge
  exact ⟨((R₁.ext e')).inK, noE (q F.A z₁ s₁ y s₂ F.hh (R₁.gens.tabs (F.hq hG)) gv) fun _ _ q => ret_trans e₁ q⟩
end
end Mine

end
section
open PySem PySem.W PySem.Calls PyProof.Rows
set_option linter.unusedVariables false
set_option maxRecDepth 100000
namespace Mine
section
variable {prog : Program} {w : World} {K : Frag} {G : Gl prog w K} {r : Nat} {sc : Scope} {l : Locs} {k : Kt} {Q : V → Prop}

theorem CSg_sum {is : List Int} (hf : PyProof.Rows.SumFits is) (h : Q (.int is.sum)) : CSg G r (.builtin "sum") (is.map .int) Q := fun A z s y s' hh t gv => by
  obtain ⟨a, z', wr, fp, g, St, rfl, e, W, st, hT, ha, hfp, hw, hg⟩ := gv
  refine call_sum_walkS (W.of_in1.of_in1.of_in1.self 0 s' _ _ st ⟨a, fp, wr, GenOnlyQ g, _, _, St, fun j => is.getD j 0, rfl, W.of_in1.of_in1.of_in1, st, hfp, fun i v ⟨u, hu, rz⟩ => ?_, fun j hj => ?_, fun s'' t' m => ?_⟩)
  · rw [List.getElem?_map] at hu
    obtain ⟨q, hq, rfl⟩ := Option.map_eq_some_iff.mp hu
    obtain ⟨t, rfl⟩ := rz
    exact ⟨t, by simp [List.getD_eq_getElem?_getD, hq]⟩
  · rw [List.length_map] at hj
    rw [preSum_getD]
    exact hf j hj
  · have e1 := preSum_getD is is.length
    rw [List.take_length] at e1
    rw [List.length_map, e1]
    exact ⟨z', .int is.sum, e.moved t m hw hg, ⟨t', rfl⟩, h⟩
theorem CSg_all {bs : List Bool} (h : Q (.bool (bs.all id))) : CSg G r (.builtin "all") (bs.map .bool) Q := fun A z s y s' hh t gv => by
  obtain ⟨a, z', wr, fp, g, St, rfl, e, W, st, hT, ha, hfp, hw, hg⟩ := gv
  refine call_all_walkS (W.of_in1.of_in1.of_in1.self 0 s' _ _ st ⟨a, fp, wr, GenOnlyQ g, _, _, St, fun j => bs.getD j true, rfl, W.of_in1.of_in1.of_in1, st, fun j v s Q E ⟨u, hu, rz⟩ hQ => ?_, fun s'' m => ?_⟩)
  · rw [List.getElem?_map] at hu
    obtain ⟨q, hq, rfl⟩ := Option.map_eq_some_iff.mp hu
    have rz : v = .bool q := rz
    subst rz
    dsimp only at hQ
    rw [List.getD_eq_getElem?_getD, hq] at hQ
    exact wpAny_truthy_bool hQ
  · have : (List.range (bs.map V.bool).length).all (fun j => bs.getD j true) = bs.all id := by
      rw [List.length_map]
      have := all_rangeD bs id
      rw [← this]
      congr 1
    rw [this]
    exact ⟨z', .bool (bs.all id), e.moved t m hw hg, rfl, h⟩

/-- ''.join of a generator -/
theorem WE_genJoin {x : Str} {kd : Nat} {pq pa p : Pos} {c : Addr} (hl : l.lookup ("#code" : Str) = some (LV.ca "#code" c)) (hG : G.q = true) (P : Addr) (hc : (c, P) ∈ TBC) (hq : qualIn c = none) {scope : Scope} (ok : CompOk sc scope)
    {y : Str} {px : Pos} {cp : Locs} (hcp : CaptG scope l cp) {elt iter : Expr} {pos : Pos} (hi : WIg G (r + 1) sc l iter fun vs => ∃ ts : List Str, GenR G r scope y cp elt vs (ts.map .str) ∧ ts.length ≤ 1000 ∧ (ts.map (·.length)).sum + ts.length * x.length ≤ 16777216 ∧ Q (.str (Txt.join x ts)))
    (hs : ∀ env x, genFold iter env x = pure x := by intro _ _; rfl) (nd : (y :: cp.map (·.1)).Nodup := by decide) (hx : scope.names.lookup y = some .local := by decide +kernel) (hco : scope.isCoroutine = false := by rfl) (h0 : scope.names.lookup (".0" : Str) = some NameKind.local := by decide +kernel)
    (hline : (pa.endLine == p.line) = true := by rfl) :
    WE G (r + 1) sc l (.Call (.Attribute (.Constant (.str x) kd pq) "join" pa) [.GeneratorExp elt [⟨.Name y px, iter, [], 0⟩] scope pos] [] p) Q := fun F z s R => by
  have hcd : F.code = .ref c := by
    obtain ⟨m, am, L⟩ := R.loc
    have h : F.Ca "#code" c := L.ok _ _ hl
    unfold Frm.Ca at h
    rw [if_pos rfl] at h
    exact h.1
  rw [arm_eval_Call, show attributeBase (.Constant (.str x) kd pq) "join" F.env (eval (.Constant (.str x) kd pq) F.env) = eval (.Constant (.str x) kd pq) F.env from rfl]
  refine wpAny_bind (noE (WE_str (Q := fun v => v = .str x) rfl F z s R) fun xa s₁ ⟨z₁, v, e₁, rz, hv⟩ => wpAny_bind (wpAny_standAt ?_))
  subst hv
  have R₁ := R.ext e₁
  have hform : methodCallForm (1 + 0) (backTo p (starEach [.GeneratorExp elt [⟨.Name y px, iter, [], 0⟩] scope pos] F.env)) (backToKw p (keywordEach [] F.env)) = true := by
    rw [backTo_plain rfl]; rfl
  have hpos : methodCallPos true (.Constant (.str x) kd pq) F.env pa p = pure p := by unfold methodCallPos; simp [hline]
  unfold methodCall
  rw [show ([Expr.GeneratorExp elt [⟨.Name y px, iter, [], 0⟩] scope pos] : List Expr).length + ([] : List Keyword).length = 1 + 0 from rfl, hform]
  refine wpAny_bind (wpAny_holding ?_)
  show wpAny _ _ (getMethod xa "join" _) _ _ _
  refine noE (GM_str (P := fun f => f = .builtin "str.join") PySem.F.slot_str_join PySem.F.type_str_join rfl F.A z₁ s₁ xa _ F.hh R₁.zBsub e₁.sub rz) fun ⟨f, fs⟩ s₂ ⟨hs2, hfs, hf⟩ => ?_
  dsimp only at hfs hf ⊢
  subst hfs hf hs2
  refine wpAny_bind (wpAny_of_eq hpos ?_)
  rw [backTo_plain rfl]
  refine callWith_of (P := K.In) rfl (fun hp X => keeps_any (K := K) (f := .builtin "str.join") rfl hp X) ?_
  refine Calls.evalArgs_plain (Calls.spliced_cons (noE (eval_gen (P0 := fun ws => ∃ ts : List Str, ws = ts.map .str ∧ ts.length ≤ 1000 ∧ (ts.map (·.length)).sum + ts.length * x.length ≤ 16777216 ∧ Q (.str (Txt.join x ts))) R₁ hG (c := (c, P)) hc hq hcd ok hco h0 hx hcp nd (fun F z s R => noE (hi F z s R) fun a s h => noE h fun b s hE => by
    obtain ⟨z₂, vs, I, fp, Pp, St, h1, h2, h3, h4, h5, h6, h7, h8, ts, h9, h10⟩ := hE
    exact ⟨z₂, vs, I, fp, Pp, St, h1, h2, h3, h4, h5, h6, h7, h8, _, h9, ts, rfl, h10⟩) hs) fun yv s₂ ⟨ws, ⟨ts, hws, hlen, hsum, q⟩, gv⟩ => Calls.spliced_nil ?_))
  subst hws
  obtain ⟨a, z', wr, fp, g, St, rfl, e, W, st, hT, ha, hfp, hw, hg⟩ := gv
  refine ⟨(R₁.ext e).inK, ?_⟩
  obtain ⟨tx, rfl⟩ := rz
  refine SC.joinGen W.of_in1.of_in1 hT st hfp ha (fun i v ⟨u, hu, rz⟩ => ?_) (fun s'' ls m it => ?_) ?_
  · rw [List.getElem?_map] at hu
    obtain ⟨q, hq, rfl⟩ := Option.map_eq_some_iff.mp hu
    obtain ⟨t, rfl⟩ := rz
    exact ⟨q, t, rfl⟩
  · have hls : ls.map (·.1) = ts := by
      obtain ⟨h1, h2⟩ := it
      have hl2 : ls.length = ts.length := by simpa [strValues] using h1
      apply List.ext_getElem?
      intro i
      rcases Nat.lt_or_ge i ls.length with hi | hi
      · have hv : (strValues ls).toArray[i]? = some (.str ls[i].1 ls[i].2) := by simp [strValues, hi]
        obtain ⟨u, hu, rz⟩ := h2 i _ hv
        rw [List.getElem?_map] at hu
        obtain ⟨q, hq, rfl⟩ := Option.map_eq_some_iff.mp hu
        obtain ⟨t, ht⟩ := rz
        cases ht
        rw [hq, List.getElem?_map, List.getElem?_eq_getElem hi]; rfl
      · rw [List.getElem?_eq_none (by simpa using hi), List.getElem?_eq_none (by omega)]
    rw [hls]
    refine ⟨joinOk_of hsum, fun t' kk => ?_⟩
    exact ⟨z', .str (Txt.join x ts), (e₁.trans (e.moved (R₁.gens.tabs (F.hq hG)) m hw (by exact hg))).trans (Ext.toks (e.moved (R₁.gens.tabs (F.hq hG)) m hw hg).sub _), ⟨_, rfl⟩, q⟩
  · rw [List.length_map]; exact nat_len' hlen

/-! ranges -/
noncomputable def rngV (a b : Int) : List Int := (List.range (b - a).toNat).map fun i : Nat => a + (i : Int)
theorem B_range1 {n : Int} (h : Q (.rng 0 n)) : CS G r (.type "range") [.int n] Q := fun A z s xs hh hR zB hsub rl => by
  obtain ⟨x1, _, rfl, ⟨t, rfl⟩, rfl⟩ := rl
  refine call_range_1 ?_
  have ex := ext_list (D := s.heap.objs.size) (xs := []) (k := s.toks + 1 + 1) hsub (fun b o e => Heap.get?_push_of_some (rngObj 0 n s.toks t (s.toks + 1)) e) (get_fresh _) (Heap.get?_push_size _ rfl)
  exact ⟨_, .rng 0 n, ex, ⟨_, _, _, _, rfl, Zp.put_self⟩, h⟩
theorem B_range2 {a b : Int} (h : Q (.rng a b)) : CS G r (.type "range") [.int a, .int b] Q := fun A z s xs hh hR zB hsub rl => by
  obtain ⟨x1, _, rfl, ⟨t, rfl⟩, x2, _, rfl, ⟨u, rfl⟩, rfl⟩ := rl
  refine call_range_2 ?_
  have ex := ext_list (D := s.heap.objs.size) (xs := []) (k := s.toks + 1) hsub (fun q o e => Heap.get?_push_of_some (rngObj a b t u s.toks) e) (get_fresh _) (Heap.get?_push_size _ rfl)
  exact ⟨_, .rng a b, ex, ⟨_, _, _, _, rfl, Zp.put_self⟩, h⟩
noncomputable def okR (a b : Int) : Prop := -(2 ^ 62) ≤ a ∧ a < 2 ^ 62 ∧ -(2 ^ 62) ≤ b ∧ b < 2 ^ 62
theorem okR.small {a b : Int} (h : okR a b) : Builtin.Range.small a b 1 = true := small_one h.1 h.2.1 h.2.2.1 h.2.2.2
theorem rsize (a b : Int) : Builtin.Range.rangeSize a b 1 = ((b - a).toNat : Int) := by rw [rangeSize_one]; split <;> omega
theorem rngV_len (a b : Int) : (rngV a b).length = (b - a).toNat := by unfold rngV; simp
theorem rngV_get {a b : Int} {i : Nat} (h : i < (b - a).toNat) : (rngV a b)[i]? = some (a + i) := by unfold rngV; simp [h]
theorem B_listRng {a b : Int} (ok : okR a b) (hl : (b - a).toNat ≤ 1000) (h : Q (.lst ((rngV a b).map .int))) : CS G r (.type "list") [.rng a b] Q := fun A z s xs hh hR zB hsub rl => by
  obtain ⟨x1, _, rfl, ⟨p, t, u, v, rfl, zp⟩, rfl⟩ := rl
  refine call_list_range hh (hsub _ _ zp) ok.small (rsize a b) (by omega) fun h' tk acc c' kp ho it => ?_
  refine ⟨_, .lst ((rngV a b).map .int), ext_list (D := s.heap.objs.size) (xs := []) (k := tk) hsub kp (get_fresh _) ho, ⟨_, acc.toList, rfl, ⟨_, c', Zp.put_self, rfl, rfl, by simp⟩, ?_⟩, h⟩
  obtain ⟨i1, i2⟩ := it
  have : ∀ (n : Nat) (xs : List Value), xs.length = n → ∀ k : Nat, (∀ j v, xs[j]? = some v → ∃ t, v = Value.int (a + ((k + j : Nat) : Int)) t) → RzL G.C (z.put s.heap.objs.size { cls := .type "list", dict := none, data := .seq acc c', slots := #[] }) ((List.range' k n).map fun i : Nat => V.int (a + (i : Int))) xs := by
    intro n
    induction n with
    | zero => intro xs hx k _; exact List.length_eq_zero_iff.mp hx
    | succ n ih =>
      intro xs hx k hv
      cases xs with
      | nil => cases hx
      | cons y ys =>
        obtain ⟨t, ht⟩ := hv 0 y rfl
        refine ⟨y, ys, rfl, ⟨t, by simpa using ht⟩, ih ys (by simpa using hx) (k + 1) fun j v hj => ?_⟩
        obtain ⟨t, ht⟩ := hv (j + 1) v (by simpa using hj)
        exact ⟨t, by rw [ht]; have : k + (j + 1) = k + 1 + j := by omega
                     rw [this]⟩
  have e : (rngV a b).map V.int = (List.range' 0 (b - a).toNat).map fun i : Nat => V.int (a + (i : Int)) := by
    unfold rngV; rw [List.map_map, List.range_eq_range']; rfl
  rw [e]
  refine this _ acc.toList (by simpa using i1) 0 fun j v hj => ?_
  obtain ⟨t, ht⟩ := i2 j v (by simpa using hj)
  exact ⟨t, by rw [ht]; have : (j : Int) * 1 = ((0 + j : Nat) : Int) := by omega
               rw [this]⟩

theorem DIt.range {A : Around} (hh : A.handled = none) {tgt : Expr} {it : Addr} {a b : Int} {z : Zp} (hne : z it = none) :
    DIt G A tgt (.ref it) [it] z ((rngV a b).map .int) (fun i h => IsRangeIter h it (a + (i : Nat) * 1) (((b - a).toNat : Int) - (i : Nat)) 1) := by
  refine ⟨fun i h st q hq => ?_, fun i h h' st kp sub => kp it (by simp) _ st, fun i v hv z' s hz hs st had => ?_, fun z' s hz hs st had => ?_⟩
  · rw [List.mem_singleton.mp hq]; exact ⟨_, st, rfl⟩
  · have hi : i < (b - a).toNat := by
      have := (List.getElem?_eq_some_iff.mp hv).1
      rw [List.length_map, rngV_len] at this; exact this
    rw [List.getElem?_map, rngV_get hi] at hv
    cases hv
    refine wpAny_pyNext_range_item st (by omega) fun h' hit' sb => ⟨_, rfl, ?_⟩
    have kp : ∀ b o, b ∉ [it] → s.heap.get? b = some o → h'.get? b = some o := fun b o nb e => (sb.2 b (by simpa using nb)).trans e
    refine letOwned_plain hit' rfl (by decide) ⟨z', ⟨fun _ _ e => e, fun b o e => kp b o (fun q => by rw [had b q] at e; cases e) (hs b o e), kp, fun b o e n => (by rw [n] at e; cases e), rfl, rfl, rfl⟩, ⟨_, by rw [Int.mul_one]⟩, ?_⟩
    have e1 : a + ((i + 1 : Nat) : Int) * 1 = a + (i : Int) * 1 + 1 := by omega
    have e2 : ((b - a).toNat : Int) - ((i + 1 : Nat) : Int) = ((b - a).toNat : Int) - (i : Int) - 1 := by omega
    show IsRangeIter _ _ (a + ((i + 1 : Nat) : Int) * 1) (((b - a).toNat : Int) - ((i + 1 : Nat) : Int)) 1
    rw [e1, e2]; exact hit'
  · rw [List.length_map, rngV_len] at st
    refine wpAny_pyNext_range_end hh st (by omega) fun h' eb => ⟨rfl, ?_⟩
    have kp : ∀ b o, b ∉ [it] → s.heap.get? b = some o → h'.get? b = some o := fun b o nb e => eb b o (by simpa using nb) e
    exact ⟨fun _ _ e => e, fun b o e => kp b o (fun q => by rw [had b q] at e; cases e) (hs b o e), kp, fun b o e n => (by rw [n] at e; cases e), rfl, rfl, rfl⟩
theorem st_range {s : Heap} {a b : Int} : IsRangeIter (s.push { cls := .type "range_iterator", data := .fields #[rawInt a, rawInt (Builtin.Range.rangeSize a b 1), rawInt 1] }) s.objs.size (a + ((0 : Nat) : Int) * 1) (((b - a).toNat : Int) - ((0 : Nat) : Int)) 1 := by
  have e1 : (a + ((0 : Nat) : Int) * 1) = a := by simp
  have e2 : (((b - a).toNat : Int) - ((0 : Nat) : Int)) = Builtin.Range.rangeSize a b 1 := by rw [rsize]; simp
  rw [e1, e2]
  exact Heap.get?_push_size _ rfl
theorem WIc_rng {tgt iter : Expr} {Q : List V → Prop} (h : WE G r sc l iter fun v => ∃ a b, v = .rng a b ∧ okR a b ∧ Q ((rngV a b).map .int)) : WIc G r sc l tgt iter Q := fun F z s R =>
  noE (h F z s R) fun x s₁ ⟨z₁, v, e₁, rz, a, b, hv, ok, q⟩ => by
    have sub₁ := e₁.sub
    subst hv
    obtain ⟨p, t, u, v, rfl, zp⟩ := rz
    refine wpAny_pyIter_range (sub₁ _ _ zp) ok.small ?_
    refine ⟨_, z₁, _, _, DIt.range (a := a) (b := b) F.hh sub₁.fresh, e₁.trans (Ext.grow (t := s₁.toks) e₁.sub fun b o e => Heap.get?_push_of_some _ e), fun b hb => ?_, st_range, fun s' P E st hP => wpAny_pyIter_rangeiter st hP, q⟩
    rw [List.mem_singleton.mp hb]
    exact none_before e₁ (Nat.le_refl _)
theorem WIc.toWI {tgt iter : Expr} {Q : List V → Prop} (h : WIc G r sc l tgt iter Q) : WI G r sc l tgt iter Q := fun F z s R =>
  noE (h F z s R) fun x s₁ h => noE h fun I s₂ hE => by
    obtain ⟨ad, z₂, vs, St, h1, h2, h3, h4, h5, h6⟩ := hE
    exact ⟨ad, z₂, vs, St, h1, h2, h3, h4, h6⟩
theorem walks_lt {A : Around} {I : Addr} {fp wr : List Addr} {n : Nat} {P : Nat → Value → Prop} {St : Nat → Heap → Prop} (W : Walks prog w A I fp wr n P St) : Walks prog w A I fp wr n (fun i v => i < n ∧ P i v) St where
  sub := W.sub
  frame := W.frame
  item := fun i s Q E hi st hQ => W.item i s Q E hi st fun v h' tk hP => hQ v h' tk ⟨hi, hP⟩
  done := W.done
  self := W.self
theorem WIg_rng {iter : Expr} {Q : List V → Prop} (h : WE G r sc l iter fun v => ∃ a b, v = .rng a b ∧ okR a b ∧ Q ((rngV a b).map .int)) : WIg G r sc l iter Q := fun F z s R =>
  noE (h F z s R) fun x s₁ ⟨z₁, v, e₁, rz, a, b, hv, ok, q⟩ => by
    have sub₁ := e₁.sub
    subst hv
    obtain ⟨p, t, u, v, rfl, zp⟩ := rz
    refine wpAny_pyIter_range (sub₁ _ _ zp) ok.small ?_
    refine ⟨z₁, (rngV a b).map .int, s₁.heap.objs.size, [s₁.heap.objs.size], fun i v => i < ((rngV a b).map V.int).length ∧ ∃ t, v = .int (a + i * 1) t, fun i h => IsRangeIter h s₁.heap.objs.size (a + (i : Nat) * 1) (((((rngV a b).map V.int).length : Nat) : Int) - (i : Nat)) 1, e₁.trans (Ext.grow (t := s₁.toks) e₁.sub fun b o e => Heap.get?_push_of_some _ e), rfl, ?_, ?_, fun A' hA => by have W := Walks.range (prog := prog) (w := w) hA s₁.heap.objs.size a 1 (b - a).toNat; rw [← rngV_len a b, ← List.length_map (f := V.int)] at W; exact walks_lt W, ?_, fun b hb => ?_, fun i v ⟨hi, hv⟩ => ?_, q⟩
    · exact (none_before e₁ (Nat.le_refl _)).1
    · exact sub₁.fresh
    · have := st_range (s := s₁.heap) (a := a) (b := b)
      show IsRangeIter _ _ _ _ _
      rw [List.length_map, rngV_len]
      exact this
    · rw [List.mem_singleton.mp hb]
      exact ⟨_, Heap.get?_push_size _ rfl, rfl⟩
    · rw [List.length_map, rngV_len] at hi
      obtain ⟨t, rfl⟩ := hv
      exact ⟨.int (a + i), by rw [List.getElem?_map, rngV_get hi]; rfl, t, by rw [Int.mul_one]⟩
end
end Mine

end
section
open PySem PySem.W PySem.Calls PyProof.Rows
set_option linter.unusedVariables false
set_option maxRecDepth 100000
namespace Mine
section
variable {prog : Program} {w : World} {K : Frag} {G : Gl prog w K} {r : Nat} {sc : Scope} {l : Locs} {k : Kt} {Q : V → Prop}

/-! a lambda -/
theorem codeAmong_app {pos : Pos} {a b : Int} {c cv : Value} (l : List Value) (h : TriplesOk l) (hn : codeAmong pos (l ++ [rawInt a, rawInt b, c]) = some cv) : codeAmong pos l = some cv ∨ cv = c := by
  fun_induction TriplesOk l with
  | case1 =>
    simp only [List.nil_append, rawInt, codeAmong] at hn
    split at hn
    · cases hn; exact .inr rfl
    · cases hn
  | case2 a t b u x rest ih =>
    simp only [List.cons_append, codeAmong] at hn ⊢
    split at hn
    · rename_i hc; rw [if_pos hc]; exact .inl hn
    · rename_i hc; rw [if_neg hc]; exact ih h hn
  | case3 l h1 h2 => exact h.elim
theorem builtins_at {z : Zp} {h : Heap} {P : Addr} {ps : Array Value} (hB : Sub G.zB h) (hP : h.get? P = some (tabObj ps)) : h.BuiltinsAt G.mg P := by
  obtain ⟨bm, ob, b1, b2, b3, b4, b5, b6⟩ := G.bt
  refine ⟨bm, ob, b1, b2, fun q => ?_, fun q => ?_, hB _ _ b3, b4, b5, b6⟩
  · obtain ⟨o, es, ep, e, hd, _⟩ := G.gNs h hB
    have := hB _ _ b3
    rw [q, e] at this; cases this
    rw [hd] at b6; cases b6
  · have := hB _ _ b3
    rw [q, hP] at this; cases this
    cases b4
theorem WE_lam {params : Arguments} {body : Expr} {scope : Scope} {pos : Pos} {nm xa : Str} {c : Addr} (hl : l.lookup ("#code" : Str) = some (LV.ca "#code" 178)) (hG : G.q = true) (ha : l.lookup xa = some (LV.ca nm c)) (h : Q (.lam ⟨"_law_rule.<locals>.<lambda>", params, body, scope, nm⟩ c))
    (hcl : ∀ cells : List (Str × Addr), cells.lookup nm = some c → cellsOf cells scope.names [] = [(nm, c)]) (hfr : (scope.names.all fun x => x.2 != .free || x.1 == nm) = true := by decide +kernel) (hnm : nm ≠ "#code" := by decide) (hdef : ∀ env, defaultsOf params env = ([], []) := by intro _; rfl) :
    WE G r sc l (.Lambda params body scope pos) Q := fun F z s R => by
  obtain ⟨m, am, L⟩ := R.loc
  have hcd : F.code = .ref 178 ∧ F.qual = "_law_rule.<locals>." := by
    have h : F.Ca "#code" 178 := L.ok _ _ hl
    unfold Frm.Ca at h
    rw [if_pos rfl] at h
    exact ⟨h.1, h.2 rfl⟩
  have hce : F.cells.lookup nm = some c := by
    have h : F.Ca nm c := L.ok _ _ ha
    unfold Frm.Ca at h
    rwa [if_neg hnm] at h
  have hclo : closureFor scope F.env = pure [(nm, c)] := by
    rw [closure_eq fun x hx hk => ?_]
    · exact congrArg pure (hcl F.cells hce)
    · have := List.all_eq_true.mp hfr x hx
      rw [hk] at this
      have : x.1 = nm := by simpa using this
      exact ⟨c, by rw [this]; exact hce⟩
  have hq : F.env.qual ++ "<lambda>" = ("_law_rule.<locals>.<lambda>" : Str) := by
    show F.qual ++ _ = _
    rw [hcd.2]; rfl
  obtain ⟨hz, ps, x, y, rr⟩ := R.gens.tabs (F.hq hG) (178, 174) (by decide)
  dsimp only at hz x y rr
  have htr : TriplesOk ps.toList := by
    obtain ⟨_, _, _, _, _, _, _, _, _, _, _, _, _, _, _, _, _, hop, hpd, htr, _⟩ := x
    rw [y.2] at hop; cases hop; cases hpd
    exact htr
  refine kla_eval (hdef _) ?_
  rw [hq]
  have hb := builtins_at (G := G) (z := z) R.sB y.2
  cases hf : codeAmong pos ps.toList with
  | some cv =>
    obtain ⟨c', oc, vs, t, rfl, zc, hdc, hv⟩ := rr _ rfl pos cv hf
    refine kla_makeFunctionHit hclo rfl (G.gNs _ R.sB) hcd.1 (CodeHd.of x y) y.2 htr hf hb fun ctv h' tk kp hsz => ?_
    have hn : s.heap.get? h'.objs.size = none := Heap.get?_none_of_le hsz
    have ex := ext_list (D := h'.objs.size) (xs := []) (k := tk) R.sub (fun b o e => Heap.get?_push_of_some _ (kp b o e)) hn (Heap.get?_push_size h' (o := lamObj ⟨"_law_rule.<locals>.<lambda>", params, body, scope, nm⟩ c ((G.mg "__name__").getD .none) c' ctv) rfl)
    exact ⟨_, .lam ⟨"_law_rule.<locals>.<lambda>", params, body, scope, nm⟩ c, ex, ⟨_, _, c', ctv, rfl, Zp.put_self, Recd.mono ex.zz ⟨c', oc, vs, t, rfl, zc, hdc, hv⟩⟩, h⟩
  | none =>
    refine kla_makeFunction hclo rfl (G.gNs _ R.sB) hcd.1 (CodeHd.of x y) y.2 htr hf (by decide) hb fun c' ctv h' tk hx hge hlt hrec htb => ?_
    obtain ⟨c₂, oc, vs, t, e2, hoc, hdc, hv⟩ := hrec
    cases e2
    have zc' : z c' = none := by
      cases q : z c' with
      | none => rfl
      | some o => exact absurd (Heap.lt_size (R.sub _ _ q)) (Nat.not_lt_of_le hge)
    have sc' : s.heap.get? c' = none := Heap.get?_none_of_le hge
    have hsz : s.heap.objs.size ≤ h'.objs.size := Nat.le_trans hge (Nat.le_of_lt hlt)
    have sf : s.heap.get? h'.objs.size = none := Heap.get?_none_of_le hsz
    have zf : z h'.objs.size = none := by
      cases q : z h'.objs.size with
      | none => rfl
      | some o => exact absurd (Heap.lt_size (R.sub _ _ q)) (Nat.not_lt_of_le hsz)
    have z1 : ∀ b o, z b = some o → (z.put c' oc) b = some o := Zp.put_old zc'
    have z2 : ∀ b o, (z.put c' oc) b = some o → ((z.put c' oc).put h'.objs.size (lamObj ⟨"_law_rule.<locals>.<lambda>", params, body, scope, nm⟩ c ((G.mg "__name__").getD .none) c' ctv)) b = some o :=
      Zp.put_old (by simp [Zp.put, Nat.ne_of_gt hlt, zf])
    have ch : CodeHd (h'.push (lamObj ⟨"_law_rule.<locals>.<lambda>", params, body, scope, nm⟩ c ((G.mg "__name__").getD .none) c' ctv)) 178 174 := by
      obtain ⟨o, vs, file, tf, flags, tg, inF, text, tt, e, r⟩ := CodeHd.of x y
      exact ⟨o, vs, file, tf, flags, tg, inF, text, tt, Heap.get?_push_of_some _ (hx _ _ (by decide) e), r⟩
    have htb' : (h'.push (lamObj ⟨"_law_rule.<locals>.<lambda>", params, body, scope, nm⟩ c ((G.mg "__name__").getD .none) c' ctv)).get? 174 = some (tabObj (ps ++ #[rawInt pos.line, rawInt pos.col, .ref c'])) := Heap.get?_push_of_some _ htb
    have hl2 : (ps ++ #[rawInt pos.line, rawInt pos.col, Value.ref c']).toList = ps.toList ++ [rawInt pos.line, rawInt pos.col, .ref c'] := by simp
    have htr' : TriplesOk (ps ++ #[rawInt pos.line, rawInt pos.col, Value.ref c']).toList := by rw [hl2]; exact TriplesOk_snoc _ _ _ _ htr
    have rc : Recd ((z.put c' oc).put h'.objs.size (lamObj ⟨"_law_rule.<locals>.<lambda>", params, body, scope, nm⟩ c ((G.mg "__name__").getD .none) c' ctv)) "_law_rule.<locals>.<lambda>" (.ref c') := ⟨c', oc, vs, t, rfl, z2 _ _ Zp.put_self, hdc, hv⟩
    have ex := tab_grow (c := (178, 174)) (tk := tk) (z' := (z.put c' oc).put h'.objs.size (lamObj ⟨"_law_rule.<locals>.<lambda>", params, body, scope, nm⟩ c ((G.mg "__name__").getD .none) c' ctv)) (by decide) (R.gens.tabs (F.hq hG)) y (h' := h'.push (lamObj ⟨"_law_rule.<locals>.<lambda>", params, body, scope, nm⟩ c ((G.mg "__name__").getD .none) c' ctv)) (more := #[rawInt pos.line, rawInt pos.col, Value.ref c'])
      (fun b o hb e => Heap.get?_push_of_some _ (hx b o hb e)) (ch.code htb' htr') (ch.tab htb') (fun b o e => z2 b o (z1 b o e)) (fun b o e => by
        by_cases h1 : b = h'.objs.size
        · subst h1; rw [Zp.put_self] at e; cases e; exact Heap.get?_push_size _ rfl
        · have e : z.put c' oc b = some o := by simpa [Zp.put, h1] using e
          by_cases h2 : b = c'
          · subst h2; rw [Zp.put_self] at e; cases e; exact Heap.get?_push_of_some _ hoc
          · have e : z b = some o := by simpa [Zp.put, h2] using e
            exact Heap.get?_push_of_some _ (hx b o (fun q => by rw [q, hz] at e; cases e) (R.sub b o e))) (fun b o e n => by
        by_cases h1 : b = h'.objs.size
        · subst h1; exact sf
        · have e : z.put c' oc b = some o := by simpa [Zp.put, h1] using e
          by_cases h2 : b = c'
          · subst h2; exact sc'
          · have e : z b = some o := by simpa [Zp.put, h2] using e
            rw [n] at e; cases e) fun q e pos' cv hcv => by
        cases e
        rw [hl2] at hcv
        rcases codeAmong_app _ htr hcv with e | rfl
        · exact (rr _ rfl pos' cv e).mono fun b o e => z2 b o (z1 b o e)
        · exact rc
    exact ⟨_, .lam ⟨"_law_rule.<locals>.<lambda>", params, body, scope, nm⟩ c, ex, ⟨_, _, c', ctv, rfl, Zp.put_self, rc⟩, h⟩

/-- the place of a cell is taken note of -/
theorem WS_ca {st : List Stmt} (x y : Str) (h : ∀ c, WS G r sc ((x, .ca y c) :: l) st k) (hy : sc.names.lookup y = some .cell := by rfl) (hx : (l.map (·.1)).elem x = false := by rfl) (hn : y ≠ "#code" := by decide) : WS G r sc l st k := fun F z s R => by
  obtain ⟨m, am, L⟩ := R.loc
  obtain ⟨c, v, e, _⟩ := L.ce y hy
  have hxl : l.lookup x = none := by
    cases q : l.lookup x with
    | none => rfl
    | some u =>
      have := List.mem_map_of_mem (f := Prod.fst) (lookup_mem q)
      exact absurd (List.elem_eq_true_of_mem this) (by rw [hx]; decide)
  refine h c F z s (R.end.at (m := m) (am := am) ⟨?_, L.ns, L.fr, L.ce, L.cd, L.fe, fun y' lv e' => ?_, fun y1 y2 u u' h1 h2 hu hu' => ?_⟩)
  · rw [List.map_cons, List.nodup_cons]
    exact ⟨fun this => absurd (List.elem_eq_true_of_mem this) (by rw [hx]; decide), L.nd⟩
  · rw [List.lookup_cons] at e'
    cases q : y' == x with
    | true =>
      rw [q] at e'; cases e'
      show F.Ca y c
      unfold Frm.Ca
      rw [if_neg hn]; exact e
    | false => rw [q] at e'; exact L.ok y' lv e'
  · rw [List.lookup_cons] at h1 h2
    cases q1 : y1 == x with
    | true => rw [q1] at h1; cases h1; cases hu
    | false =>
      cases q2 : y2 == x with
      | true => rw [q2] at h2; cases h2; cases hu'
      | false => rw [q1] at h1; rw [q2] at h2; exact L.ds y1 y2 u u' h1 h2 hu hu'

/-- the lambdas get their closed value -/
noncomputable def V.closed (c : Addr) (v : V) : V → V
  | .lam d c' => if c' = c then .fn d v else .lam d c'
  | u => u
theorem rzL_closed {C : Addr} {z z' : Zp} {c : Addr} {v : V} {o : Obj} {y : Value} (hz : ∀ b q, z b = some q → z' b = some q) (ho : z' c = some o) (hd : o.data = .cell (some y)) (ry : Rz C z' v y) : ∀ {vs : List V} {xs : List Value}, RzL C z vs xs → RzL C z' (vs.map (V.closed c v)) xs
  | [], _, h => h
  | u :: us, _, ⟨x, xs, e, h1, h2⟩ => by
    refine ⟨x, xs, e, ?_, rzL_closed hz ho hd ry h2⟩
    cases u with
    | lam d c' =>
      show Rz C z' (if c' = c then .fn d v else .lam d c') x
      by_cases hc : c' = c
      · rw [if_pos hc]
        subst hc
        exact ⟨c', o, y, LamAt.mono hz h1, ho, hd, ry⟩
      · rw [if_neg hc]; exact h1.mono hz
    | _ => exact h1.mono hz
/-- return of an object whose lambda closes over a cell of this frame -/
theorem WX_retLam {x nm xa : Str} {p p' : Pos} {c : Addr} {ks : List Str} {vs : List V} {v : V} (hx : l.lookup x = some (.v (.ins ks vs))) (ha : l.lookup xa = some (.ca nm c)) (hv : l.lookup nm = some (.v v)) (h : k.rt (.ins ks (vs.map (V.closed c v))))
    (hcn : sc.names.lookup nm = some .cell := by rfl) (hn : nm ≠ "#code" := by decide) (hd : (x == ("__debug__" : Str)) = false := by decide) (hc : (x == ("__classdict__" : Str)) = false := by decide) : WX G r sc l (.Return (some (.Name x p')) p) k := fun F z s R =>
  wpAny_Return_some (noE (WE_v (Q := fun u => u = .ins ks vs) hx rfl hd hc F z s R) fun xr s₁ ⟨z₁, u, e₁, rz, hu⟩ => by
    subst hu
    have R₁ := R.ext e₁
    obtain ⟨m, am, L⟩ := R₁.loc
    have hce : F.cells.lookup nm = some c := by
      have h : F.Ca nm c := L.ok _ _ ha
      unfold Frm.Ca at h
      rwa [if_neg hn] at h
    obtain ⟨c', cv, e', ic, f, ne⟩ := L.ce nm hcn
    rw [hce] at e'; cases e'
    obtain ⟨val, n, rv⟩ := L.ok nm _ hv
    have hcell : ∃ o, s₁.heap.get? c = some o ∧ o.data = .cell (some val) := by
      rcases n with ⟨n, _⟩ | ⟨_, c', e', o, ho, hd⟩
      · rw [hcn] at n; cases n
      · rw [hce] at e'; cases e'
        exact ⟨o, ho, hd⟩
    obtain ⟨o, ho, hdt⟩ := hcell
    have nf := cell_noFields ic
    have zz : ∀ b q, z₁ b = some q → z₁.put c o b = some q := Zp.put_old f.1
    obtain ⟨a, dd, es, n, xs, rfl, o1, o2, fo, rl⟩ := rz
    refine ⟨z₁.put c o, .ins ks (vs.map (V.closed c v)), ⟨fun b q e => ?_, fun b q e => zz b q (R₁.zz b q e), R₁.base, fun b q e n => ?_, ⟨R₁.gens.was, R₁.gens.g0, R₁.gens.gq, R₁.gens.gr, fun h => (R₁.gens.tabs h).zmove zz fun c' hc hz => ?_, R₁.gens.t0⟩, R₁.dr, R₁.os⟩, ⟨a, dd, es, n, xs, rfl, zz _ _ o1, zz _ _ o2, fo, rzL_closed zz Zp.put_self hdt (rv.mono zz) rl⟩, h⟩
    · by_cases hb : b = c
      · subst hb; rw [Zp.put_self] at e; cases e; exact ho
      · exact R₁.sub b q (by simpa [Zp.put, hb] using e)
    · by_cases hb : b = c
      · subst hb; exact f.2
      · exact R₁.new b q (by simpa [Zp.put, hb] using e) n
    · have := ((R₁.gens.tabs h).ne nf hc).2
      simp [Zp.put, this, hz])
end
end Mine

end
section
open PySem PySem.W PySem.Calls PyProof.Rows
set_option linter.unusedVariables false
set_option maxRecDepth 100000
namespace Mine
section
variable {prog : Program} {w : World} {A : Around} {E : Value → Shared → Prop} {s : Shared} {K : Frag} {x C : Addr} {ox : Obj} {od : Option Obj} {name : Str} {pl : Sem Bool} {Q : Value × List Value → Shared → Prop}
/-- the class has a function of this name, the object a thing of its own -/
theorem method_own {f : Addr} (X : K.In s.heap) (I : InstAt s.heap x ox C od) (hga : findIn K (.ref C) "__getattribute__" = some (some (.builtin "object.__getattribute__"))) (hk : findIn K (.ref C) "__getattr__" = some none)
    (hf : findIn K (.ref C) name = some (some (.ref f))) (ht : typeIn K (.ref f) = some (.type "function")) (hs : shadowIn od name = some true) (h : wpAny (model prog w) A (getAttr (.ref x) name) (fun v => Q (v, [])) E s) :
    wpAny (model prog w) A (getMethod (.ref x) name pl) Q E s := by
  have hcan := PySem.F.canon_object_ga
  have u : wpAny (model prog w) A (do return (← getAttr (.ref x) name, ([] : List Value))) Q E s := wpAny_bind (wpAny_mono h (fun _ _ z => wpAny_pure z) fun _ _ z => z)
  unfold getMethod specialOf
  refine wpAny_bind (wpAny_bind (I.type.here ((looks_findIn X hga).here ?_)))
  dsimp only
  rw [hcan, if_neg (by decide)]
  refine wpAny_bind (wpAny_bind (I.type.here ((looks_findIn X hk).here ?_)))
  refine wpAny_bind (wpAny_bind (I.type.here ((looks_findIn X hf).here (wpAny_bind ((looks_typeIn X ht).here ?_)))))
  rw [if_neg (by decide +kernel)]
  refine wpAny_bind (wpAny_loadPart I.at_ ?_)
  have hd := I.dict
  cases e : ox.dict with
  | none =>
    cases od with
    | none => cases hs
    | some o => rw [e] at hd; exact hd.elim
  | some dx =>
    cases od with
    | none => cases hs
    | some o =>
      rw [e] at hd
      obtain ⟨r, a, b⟩ := Option.map_eq_some_iff.mp hs
      refine wpAny_bind (wpAny_bind (wpAny_loadPart hd ?_))
      rw [nsLook_of a]
      refine wpAny_pure ?_
      rw [b]
      exact u
end
section
variable {prog : Program} {w : World} {K : Frag} {G : Gl prog w K} {r : Nat} {sc : Scope} {l : Locs} {k : Kt} {Q : V → Prop}
/-- an object's own attribute comes before the class's -/
noncomputable def valFirst (K : Frag) (C : Addr) (nm : Str) : Bool := plainGet K C nm && hasDictIn K C && (match findIn K (.ref C) nm with
  | some none => true
  | some (some a) => (match specialIn K a "__get__" with
    | some none => true
    | some (some _) => takesIn K a == some false
    | none => false)
  | none => false)
theorem findObj_val {C : Addr} {nm : Str} {od : Obj} {v : Value} (h : valFirst K C nm = true) (hl : lookIn nm od = some (some v)) : findObj K C (some od) nm = some (.value v) := by
  unfold valFirst at h
  simp only [Bool.and_eq_true] at h
  obtain ⟨⟨_, hh⟩, h⟩ := h
  obtain ⟨cd, hc, hd⟩ := any_some hh
  have ho : PySem.W.ownOf cd (some od) nm = some (some v) := by unfold PySem.W.ownOf; rw [if_pos hd]; exact hl
  cases ha : findIn K (.ref C) nm with
  | none => rw [ha] at h; cases h
  | some attr =>
    rw [ha] at h
    unfold findObj
    rw [hc, Option.bind_some, ha, Option.bind_some]
    cases attr with
    | none => simp [ho]
    | some a =>
      dsimp only at h ⊢
      cases hg : specialIn K a "__get__" with
      | none => rw [hg] at h; cases h
      | some g =>
        rw [hg] at h
        cases g with
        | none => simp [ho]
        | some g =>
          have ht : takesIn K a = some false := beq_iff_eq.mp h
          simp [ht, ho]
theorem WE_ia {e : Expr} {nm : Str} {p : Pos} (hg : valFirst K G.C nm = true)
    (h : WE G r sc l e fun v => ∃ ks vs u, v = .ins ks vs ∧ fieldOf nm ks vs = some u ∧ (∀ q, u = .raw q → handedIn q = true) ∧ Q u)
    (he : ∀ env, eval (.Attribute e nm p) env = (do let o ← eval e env; standAt p.atName; let r ← holding [o] (getAttr o nm true); letTemporaryGo e o r; pure r) := by intro _; with_unfolding_all rfl) :
    WE G r sc l (.Attribute e nm p) Q := fun F z s R =>
  Attribute_any_ (noE (h F z s R) fun xa s₁ ⟨z₁, v, e₁, rz, ks, vs, u, hv, hf, hu, q⟩ => by
    subst hv
    obtain ⟨a, d, es, n, xs, rfl, o1, o2, fo, rl⟩ := rz
    obtain ⟨x, gx, rx⟩ := getL_some fo rl hf
    have I : InstAt s₁.heap a (instObj G.C d) G.C (some (dictOf es n)) := ⟨e₁.sub _ _ o1, rfl, rfl, e₁.sub _ _ o2⟩
    have hp : plainGet K G.C nm = true := by unfold valFirst at hg; simp only [Bool.and_eq_true] at hg; exact hg.1.1
    exact get_value (R.ext e₁).inK I (plainGet_of hp).1 (findObj_val hg gx) (handed_rz rx hu) ⟨z₁, u, e₁.trans (Ext.toks e₁.sub _), rx, q⟩) (he _)
/-- a lambda of one name is called -/
theorem call_lam {d : Lam} {u v : V} (pn : Str) (h : WE G r d.scope [(pn, .v u), (d.nm, .v v)] d.body Q)
    (hb : ∀ c pm c' ctv y, bindArgs { name := "<lambda>", qualname := d.qual, params := d.params, body := .expr d.body, scope := d.scope, globals := mainGlobals, closure := [(d.nm, c)], defaults := .none, kwdefaults := .none, doc := .none, pyModule := pm, annotations := none, code := .ref c', closureTuple := ctv, builtins := builtinsNs } ⟨[y], []⟩ = pure [(pn, y)])
    (hpn : d.scope.names.lookup pn = some .local) (hnm : d.scope.names.lookup d.nm = some .free) (hcell : (d.scope.names.all fun x => x.2 != .cell) = true) (hco : d.scope.isCoroutine = false) (hgen : d.scope.isGenerator = false) (hk : d.scope.kind = .function)
    {A : Around} {z : Zp} {s : Shared} {x y : Value} (hh : A.handled = none) (hR : Room (r + 1) A) (zB : Bd G z s.heap) (hs : Sub z s.heap) (rx : Rz G.C z (.fn d v) x) (ry : Rz G.C z u y) :
    wpAny (model prog w) A (call x [y]) (Ret G z s Q) (fun _ _ => False) s := by
  obtain ⟨c, o, yv, ⟨a, pm, c', ctv, rfl, zf, c2, oc, vs, t, e2, zc, hdc, hv⟩, zcell, hcd, rv⟩ := rx
  cases e2
  have hnk : ∀ x ∈ d.scope.names, x.2 ≠ .cell := fun x hx => by simpa using List.all_eq_true.mp hcell x hx
  have hne : pn ≠ d.nm := fun q => by rw [q, hnm] at hpn; cases hpn
  refine wpAny_call (kla_callFunE hR.lt (hs _ _ zf) rfl hco hgen rfl ⟨c', oc, vs, t, rfl, hs _ _ zc, hdc, hv⟩ ?_)
  rw [hb c pm c' ctv y]
  refine wpAny_pure (wpAny_newFunctionEnv hnk (fun q hq => by rw [List.mem_singleton.mp hq]; exact hpn) (fun h₁ hns hsb => ⟨(G.nolim _ fun b o e => hs _ _ (zB.zz _ _ e)).fresh _ hsb, ?_⟩) hk)
  show codeAny _ _ (.expr d.body (envX d.qual d.scope s.heap.objs.size a (.ref c') [(d.nm, c)])) _ _
  have kp : ∀ b o, s.heap.get? b = some o → h₁.get? b = some o := fun b o e => hsb.extBut b o (Nat.ne_of_lt (Heap.lt_size e)) (Heap.get?_push_of_some _ e)
  let F : Frm G r d.scope := Frm.mk s.heap.objs.size [(d.nm, c)] (d.qual ++ ".<locals>.") (some a) (.ref c') (some s.heap.objs.size) (A.deeper (envX d.qual d.scope s.heap.objs.size a (.ref c') [(d.nm, c)]))
    (ntab s.heap) z s.heap s.gens s.drawn s.os hk zB.zz (fun _ _ e => (ntab_some e).2) hh hR.deeper (Tabs z s.heap) zB.tabs (Ztab z) id
  have L0 : F.LocOk [(pn, .v u), (d.nm, .v v)] z h₁ (fun q => [(pn, y)].reverse.lookup q) (fun _ => 0) := by
    refine ⟨by simp [hne], hns, ⟨hs.fresh, Frm.Bs_of (by show ntab s.heap s.heap.objs.size = none; unfold ntab; rw [get_fresh]) (get_fresh _)⟩, fun q hq => absurd rfl (hnk _ (lookup_mem hq)), fun q _ _ hq => absurd rfl (hnk _ (lookup_mem hq)), fun q c₀ hq e => ?_, fun q lv e => ?_, fun q q' lv lv' e _ hu => ?_⟩
    · have e : List.lookup q [(d.nm, c)] = some c₀ := e
      rw [List.lookup_cons] at e
      cases hq2 : q == d.nm with
      | false => rw [hq2] at e; cases e
      | true =>
        rw [hq2] at e; cases e
        refine ⟨o, ?_⟩
        unfold Frm.Bs
        have : F.base c = some o := ntab_of (hs _ _ zcell) (notTab_data fun vs q => by rw [hcd] at q; cases q)
        rw [this]
    · rw [List.lookup_cons] at e
      cases h1 : q == pn with
      | true =>
        rw [h1] at e; cases e
        have := eq_of_beq h1
        subst this
        exact ⟨y, .inl ⟨hpn, by simp⟩, ry⟩
      | false =>
        rw [h1, List.lookup_cons] at e
        cases h2 : q == d.nm with
        | false => rw [h2] at e; cases e
        | true =>
          rw [h2] at e; cases e
          have := eq_of_beq h2
          subst this
          exact ⟨yv, .inr ⟨.inr hnm, c, by show List.lookup _ [(_, c)] = _; simp, o, kp _ _ (hs _ _ zcell), hcd⟩, rv⟩
    · rw [List.lookup_cons] at e
      cases h1 : q == pn with
      | true => rw [h1] at e; cases e; cases hu
      | false =>
        rw [h1, List.lookup_cons] at e
        cases h2 : q == d.nm with
        | false => rw [h2] at e; cases e
        | true => rw [h2] at e; cases e; cases hu
  have R0 : Rep F [(pn, .v u), (d.nm, .v v)] z { s with heap := h₁, toks := s.toks + ([(pn, y)] : List (Str × Value)).length } :=
    ⟨fun b o e => kp b o (hs b o e), fun _ _ e => e, fun b o e => kp b o (ntab_some e).1, fun b o e n => (by have n' : z b = none := n; rw [n'] at e; cases e), ⟨fun b o e _ => ⟨o, kp b o e⟩, .refl _, fun _ => rfl, .of_keep kp, fun t => Tabs.keeps t kp, fun t => Tabs.alive t⟩, rfl, rfl, _, _, L0⟩
  refine kla_codeExpr (wpAny_mono (h F z _ R0) (fun v' s' ⟨z', w', e, rz, q⟩ => ?_) fun _ _ h => h.elim)
  exact ⟨z', w', (Rep.end (R0.ext e)).done rfl rfl rfl rfl rfl id id, rz, q⟩

/-- o.nm(e), where the object has a lambda nm of its own -/
theorem WE_methFn {o e : Expr} {nm : Str} {pa p : Pos} {f : Addr} (pn : Str) (hvf : valFirst K G.C nm = true) (hf : findIn K (.ref G.C) nm = some (some (.ref f))) (ht : isFn K (.ref f) = true)
    (h : WE G (r + 1) sc l o fun x => ∃ ks vs d v, x = .ins ks vs ∧ fieldOf nm ks vs = some (.fn d v) ∧
      (∀ c pm c' ctv y, bindArgs { name := "<lambda>", qualname := d.qual, params := d.params, body := .expr d.body, scope := d.scope, globals := mainGlobals, closure := [(d.nm, c)], defaults := .none, kwdefaults := .none, doc := .none, pyModule := pm, annotations := none, code := .ref c', closureTuple := ctv, builtins := builtinsNs } ⟨[y], []⟩ = pure [(pn, y)]) ∧
      d.scope.names.lookup pn = some .local ∧ d.scope.names.lookup d.nm = some .free ∧ (d.scope.names.all fun x => x.2 != .cell) = true ∧ d.scope.isCoroutine = false ∧ d.scope.isGenerator = false ∧ d.scope.kind = .function ∧
      WE G (r + 1) sc l e fun u => WE G r d.scope [(pn, .v u), (d.nm, .v v)] d.body Q)
    (hp : plainEs [e] = true := by rfl) (hline : (pa.endLine == p.line) = true := by rfl) (hb : ∀ env whole, attributeBase o nm env whole = whole := by intro _ _; rfl) :
    WE G (r + 1) sc l (.Call (.Attribute o nm pa) [e] [] p) Q := fun F z s R => by
  have hg : plainGet K G.C nm = true := by unfold valFirst at hvf; simp only [Bool.and_eq_true] at hvf; exact hvf.1.1
  rw [arm_eval_Call, hb]
  refine wpAny_bind (noE (h F z s R) fun xa s₁ hE => wpAny_bind (wpAny_standAt ?_))
  obtain ⟨z₁, w₁, e₁, rz, ks, vs, d, v, hv, hfi, hbd, c1, c2, c3, c4, c5, c6, q⟩ := hE
  subst hv
  have R₁ := R.ext e₁
  have hform : methodCallForm ([e].length + ([] : List Keyword).length) (backTo p (starEach [e] F.env)) (backToKw p (keywordEach [] F.env)) = true := by
    rw [backTo_plain hp]; rfl
  have hpos : methodCallPos true o F.env pa p = pure p := by unfold methodCallPos; simp [hline]
  obtain ⟨a, dd, es, n, xs, rfl, o1, o2, fo, rl⟩ := rz
  obtain ⟨xf, gx, rx⟩ := getL_some fo rl hfi
  have I : InstAt s₁.heap a (instObj G.C dd) G.C (some (dictOf es n)) := ⟨e₁.sub _ _ o1, rfl, rfl, e₁.sub _ _ o2⟩
  have gl : lookIn nm (dictOf es n) = some (some xf) := by rw [lookIn_dict]; exact gx
  unfold methodCall
  rw [hform]
  refine wpAny_bind (wpAny_holding ?_)
  show wpAny _ _ (getMethod (.ref a) nm _) _ _ _
  refine method_own R₁.inK I (plainGet_of hg).1 (plainGet_of hg).2 hf (beq_iff_eq.mp ht) ?_ ?_
  · show (lookIn nm (dictOf es n)).map _ = _
    rw [gl]; rfl
  have hhand : handedIn xf = true := handed_rz rx fun u hu => by cases hu
  refine get_value R₁.inK I (plainGet_of hg).1 (findObj_val hvf gx) hhand ?_
  refine wpAny_bind (wpAny_of_eq hpos ?_)
  have e₂ : Ext z₁ s₁ z₁ { s₁ with toks := s₁.toks + 1 } := Ext.toks e₁.sub _
  have R₂ := R₁.ext e₂
  have rx0 := rx
  obtain ⟨c, oo, yv, ⟨af, pm, c', ctv, rfl, zf, _⟩, _⟩ := rx0
  rw [backTo_plain hp]
  refine callWith_of (P := fun hp => hp.get? af = some (lamObj d c pm c' ctv)) rfl (fun hp X => ⟨.frame, .inl rfl, fun A Q E s ke hq => ?_⟩) ?_
  · unfold keeperOf
    refine wpAny_bind (wpAny_load (ke _ _ X) ?_)
    exact wpAny_pure hq
  refine Calls.evalArgs_plain (Calls.spliced_cons (noE (q F z₁ _ R₂) fun y s₃ ⟨z₃, u, e₃, ry, q⟩ => Calls.spliced_nil ⟨e₃.sub _ _ (e₃.zz _ _ zf), ?_⟩))
  have R₃ := R₂.ext e₃
  exact noE (call_lam pn q hbd c1 c2 c3 c4 c5 c6 F.hh F.room R₃.bd e₃.sub (rx.mono e₃.zz) ry) fun _ _ q => ret_trans ((e₁.trans e₂).trans e₃) q

/-- x, y = [], e : the new list is a ghost -/
theorem WX_swap2N {x y : Str} {px py : Pos} {n1 n2 : Nat} {p1 p2 p q : Pos} {b : Expr} (g : Str) (h : WE G r sc l b fun v => ∀ a, k.nx (put (put (put l g (.gl a [])) y (.v v)) x (.v (.raw (.ref a)))))
    (hs : ∀ env, swapsWithSole [.Tuple [.Name x px, .Name y py] n1 p1] (.Tuple [.List [] q, b] n2 p2) p.line env = pure false) (hw : ∀ F : Frm G r sc, swappedStores [.Tuple [.Name x px, .Name y py] n1 p1] (.Tuple [.List [] q, b] n2 p2) F.env = pure (some [x, y]))
    (hx : stored sc x = true := by rfl) (hy : stored sc y = true := by rfl) (hp : plainEs [.List [] q, b] = true := by rfl) : WX G r sc l (.Assign [.Tuple [.Name x px, .Name y py] n1 p1] (.Tuple [.List [] q, b] n2 p2) p) k := fun F z s R => by
  have ht : WEn G r sc l (.Tuple [.List [] q, b] n2 p2) fun a t => ∃ v, t = .tup [.raw (.ref a), v] ∧ k.nx (put (put (put l g (.gl a [])) y (.v v)) x (.v (.raw (.ref a)))) := WEn_pair (h.mono fun v q a => ⟨v, rfl, q a⟩) hp
  rw [exec_Assign_arm]
  refine wpAny_bind (wpAny_standAt ?_)
  rw [hs]
  refine wpAny_bind (wpAny_pure ?_)
  rw [if_neg (by decide)]
  refine wpAny_bind (noE (ht F z s R) fun t s₁ hE => ?_)
  obtain ⟨z₁, a, vt, e₁, hn, hz, pl, rz, v, hv, q⟩ := hE
  subst hv
  rw [hw]
  refine wpAny_bind (wpAny_pure ?_)
  unfold assignStores
  refine wpAny_bind (wpAny_rule ?_)
  have R₁ := adopt1 (y := g) R e₁ hn hz pl
  obtain ⟨at', xs, rfl, sq, xu, rr, rfl, ru, xv, rr', rfl, rv, rfl⟩ := rz
  have hu := wpAny_unpackItems_tuple (prog := prog) (w := w) (E := fun _ _ => False) (Q := fun items s' => ∃ h', items = [xu, xv] ∧ Heap.ExtBut s₁.heap.objs.size s₁.heap h' ∧ s' = { s₁ with heap := h' }) F.hh (isTuple_of (sq.mono fun o e => e₁.sub _ _ e)) (fun h' e => ⟨h', rfl, e, rfl⟩)
  refine wpAny_bind (noE hu ?_)
  rintro items s₂ ⟨h', rfl, e, rfl⟩
  have R₂ := R₁.ext (ext_kept (t := s₁.toks) R₁.sub e)
  refine wpAny_bind ?_
  show wpAny _ _ (assignInOrder [bindName F.env y, bindName F.env x] [xv, xu]) _ _ _
  refine wpAny_assignInOrder_more (wpAny_bindName (R₂.storeV (stored_or hy) rv fun s₃ R₃ => ?_))
  refine wpAny_assignInOrder_more (wpAny_bindName (R₃.storeV (v := .raw (.ref a)) (stored_or hx) ru fun s₄ R₄ => ?_))
  exact wpAny_assignInOrder_none (wpAny_pure ⟨_, _, R₄, q⟩)
end
end Mine

end
section
open PySem PySem.W PySem.Calls PyProof.Rows
set_option linter.unusedVariables false
set_option maxRecDepth 100000
namespace Mine
section
variable {prog : Program} {w : World} {K : Frag} {G : Gl prog w K} {r : Nat} {sc : Scope} {l : Locs} {k : Kt} {Q : V → Prop}
theorem bindL_out {f : Str → Option NameKind} {x : Str} : ∀ {bs : List (Str × Value)} {m : Str → Option Value}, x ∉ bs.map (·.1) → bindL f bs m x = m x
  | [], _, _ => rfl
  | (n, v) :: bs, m, h => by
    rw [List.map_cons, List.mem_cons, not_or] at h
    unfold bindL
    rw [bindL_out h.2]
    split
    · exact if_neg h.1
    · rfl
theorem bindC_out {f : Str → Option NameKind} {x : Str} : ∀ {bs : List (Str × Value)} {m : Str → Option Value}, x ∉ bs.map (·.1) → bindC f bs m x = m x
  | [], _, _ => rfl
  | (n, v) :: bs, m, h => by
    rw [List.map_cons, List.mem_cons, not_or] at h
    unfold bindC
    rw [bindC_out h.2]
    split
    · rfl
    · exact if_neg h.1
theorem bindL_at {f : Str → Option NameKind} {x : Str} {v : Value} (hx : f x = some .local) : ∀ {bs : List (Str × Value)} {m : Str → Option Value}, (bs.map (·.1)).Nodup → bs.lookup x = some v → bindL f bs m x = some v
  | [], _, _, h => by cases h
  | (n, u) :: bs, m, nd, h => by
    rw [List.map_cons, List.nodup_cons] at nd
    rw [List.lookup_cons] at h
    unfold bindL
    cases q : x == n with
    | true =>
      rw [q] at h; cases h
      have := eq_of_beq q
      subst this
      rw [bindL_out nd.1, if_pos hx]; exact if_pos rfl
    | false => rw [q] at h; exact bindL_at hx nd.2 h
theorem bindC_at {f : Str → Option NameKind} {x : Str} {v : Value} (hx : f x ≠ some .local) : ∀ {bs : List (Str × Value)} {m : Str → Option Value}, (bs.map (·.1)).Nodup → bs.lookup x = some v → bindC f bs m x = some v
  | [], _, _, h => by cases h
  | (n, u) :: bs, m, nd, h => by
    rw [List.map_cons, List.nodup_cons] at nd
    rw [List.lookup_cons] at h
    unfold bindC
    cases q : x == n with
    | true =>
      rw [q] at h; cases h
      have := eq_of_beq q
      subst this
      rw [bindC_out nd.1, if_neg hx]; exact if_pos rfl
    | false => rw [q] at h; exact bindC_at hx nd.2 h
theorem lookup_mem_keys {x : Str} {v : Value} {l : List (Str × Value)} (h : l.lookup x = some v) : x ∈ l.map (·.1) := List.mem_map_of_mem (f := Prod.fst) (lookup_mem h)

/-- a def of the top with cells of its own is called -/
theorem CS_defC {f : Addr} {name qual : Str} {params : Arguments} {body : List Stmt} {dV kV doc pm ct oc : Value} {an od : Option Addr} {osl : Array (Option Value)} {vs : List V} {c : Addr} (nms : List Str)
    (ho : K.lookup f = some ⟨oc, od, .func (fnOf name qual params body sc dV kV doc pm an (.ref c) ct), osl⟩) (hcd : codeIn K (.ref c) qual = true)
    (h : WS G r sc (("#code", .ca "#code" c) :: nms.zip (vs.map LV.v)) body { nx := fun _ => Q .nil, rt := Q })
    (hb : ∀ xs : List Value, xs.length = nms.length → bindArgs (fnOf name qual params body sc dV kV doc pm an (.ref c) ct) ⟨xs, []⟩ = pure (nms.zip xs))
    (hq : c = 178 → qual = "_law_rule" := by decide)
    (hl : nms.length = vs.length := by rfl) (hnd : (("#code" : Str) :: nms).Nodup := by decide) (hloc : (nms.all fun x => sc.names.lookup x == some .local || sc.names.lookup x == some .cell) = true := by decide +kernel)
    (hfree : (sc.names.all fun x => x.2 != .free) = true := by decide +kernel) (hco : sc.isCoroutine = false := by rfl) (hgen : sc.isGenerator = false := by rfl) (hk : sc.kind = .function := by rfl) :
    CS G (r + 1) (.ref f) vs Q := fun A z s xs hh hR zB hs rl => by
  have X : K.In s.heap := fun b o e => hs _ _ (zB.zz _ _ (G.inK b o e))
  have hlen : xs.length = nms.length := by rw [rl.length, hl]
  rw [List.nodup_cons] at hnd
  have hkeys : ((nms.zip xs).map (·.1)) = nms := by
    have : (nms.zip xs).map Prod.fst = nms := List.map_fst_zip (by omega)
    exact this
  have hnf : ∀ x, sc.names.lookup x ≠ some .free := fun x e => by
    have := List.all_eq_true.mp hfree _ (lookup_some_mem e)
    simp at this
  have kd : ∀ x ∈ nms, sc.names.lookup x = some .local ∨ sc.names.lookup x = some .cell := fun x hx => by
    have := List.all_eq_true.mp hloc _ hx
    simpa using this
  refine wpAny_call (codeAny_call_cells (fd := fnOf name qual params body sc dV kV doc pm an (.ref c) ct) (body := body) (binds := nms.zip xs) hR.lt (X _ _ ho) rfl (G.nolim _ fun b o e => hs _ _ (zB.zz _ _ e)) (codeRec_of X hcd) rfl (hb xs hlen) rfl
    (fun y hy => ?_) (fun s₁ ic => ?_) hco hgen hk)
  · have : y.1 ∈ nms := by rw [← hkeys]; exact List.mem_map_of_mem hy
    rcases kd y.1 this with e | e
    · exact .inl e
    · exact .inr ⟨e, cellsFrom_has (.inl (lookup_some_mem e))⟩
  let F : Frm G r sc := Frm.mk s.heap.objs.size (cellsFrom (s.heap.objs.size + 1) sc.names []) (qual ++ ".<locals>.") (some f) (.ref c) (some s.heap.objs.size) (A.deeper (callEnvC (fnOf name qual params body sc dV kV doc pm an (.ref c) ct) s.heap.objs.size f))
      (ntab s.heap) z s.heap s.gens s.drawn s.os hk zB.zz (fun _ _ e => (ntab_some e).2) hh hR.deeper (Tabs z s.heap) zB.tabs (Ztab z) id
  have above : ∀ {b}, s.heap.objs.size ≤ b → z b = none ∧ F.Bs b = none := fun {b} hb => by
    have g : s.heap.get? b = none := by
      cases q : s.heap.get? b with
      | none => rfl
      | some o => exact absurd (Heap.lt_size q) (Nat.not_lt_of_le hb)
    refine ⟨?_, Frm.Bs_of (by show ntab s.heap b = none; unfold ntab; rw [g]) g⟩
    cases q : z b with
    | none => rfl
    | some o => rw [hs b o q] at g; cases g
  obtain ⟨h₁, tk, rfl⟩ := ic.toInCall.same
  have lv : ∀ {y lv}, List.lookup y ((("#code" : Str), LV.ca "#code" c) :: nms.zip (vs.map LV.v)) = some lv → (y = "#code" ∧ lv = .ca "#code" c) ∨ ∃ v val, lv = .v v ∧ (nms.zip xs).lookup y = some val ∧ Rz G.C z v val := fun {y lv} e => by
    rw [List.lookup_cons] at e
    cases q : y == ("#code" : Str) with
    | true => rw [q] at e; cases e; exact .inl ⟨eq_of_beq q, rfl⟩
    | false => rw [q] at e; exact .inr (zip_bears rl e)
  have L0 : F.LocOk (("#code", .ca "#code" c) :: nms.zip (vs.map LV.v)) z h₁ (bindL (callEnvC (fnOf name qual params body sc dV kV doc pm an (.ref c) ct) s.heap.objs.size f).kindOf (nms.zip xs) fun _ => none) (fun _ => 0) := by
    refine ⟨?_, ic.toInCall.ns, above (Nat.le_refl _), fun y hy => ?_, fun y y' c hy hy' e e' => ?_, fun y c e => absurd e (hnf y), fun y lv' e => ?_, fun y y' u u' hy _ hu => ?_⟩
    · have : (nms.zip (vs.map LV.v)).map (·.1) = nms := List.map_fst_zip (by rw [List.length_map]; omega)
      rw [List.map_cons, this, List.nodup_cons]; exact hnd
    · obtain ⟨c, hc⟩ := Option.isSome_iff_exists.mp (cellsFrom_has (n := s.heap.objs.size + 1) (acc := []) (.inl (lookup_some_mem hy)))
      have hgt : s.heap.objs.size < c := ic.above y c (mem_of_lookup hc)
      exact ⟨c, _, hc, ic.cell y c hc, above (Nat.le_of_lt hgt), Nat.ne_of_gt hgt⟩
    · exact name_of_addr ic.apart (mem_of_lookup e) (mem_of_lookup e')
    · rcases lv e with ⟨rfl, rfl⟩ | ⟨v, val, rfl, e2, rz⟩
      · show F.Ca "#code" c
        unfold Frm.Ca
        rw [if_pos rfl]
        exact ⟨rfl, fun h => by show qual ++ ".<locals>." = _; rw [hq h]; rfl⟩
      · have hm : y ∈ nms := by have := lookup_mem_keys e2; rwa [hkeys] at this
        refine ⟨val, ?_, rz⟩
        rcases kd y hm with e3 | e3
        · exact .inl ⟨e3, bindL_at (f := (callEnvC (fnOf name qual params body sc dV kV doc pm an (.ref c) ct) s.heap.objs.size f).kindOf) e3 (by rw [hkeys]; exact hnd.2) e2⟩
        · obtain ⟨c', hc⟩ := Option.isSome_iff_exists.mp (cellsFrom_has (n := s.heap.objs.size + 1) (acc := []) (.inl (lookup_some_mem e3)))
          have := ic.cell y c' hc
          rw [bindC_at (f := (callEnvC (fnOf name qual params body sc dV kV doc pm an (.ref c) ct) s.heap.objs.size f).kindOf) (show sc.names.lookup y ≠ some .local by rw [e3]; simp) (by rw [hkeys]; exact hnd.2) e2] at this
          exact .inr ⟨.inl e3, c', hc, this⟩
    · rcases lv hy with ⟨_, rfl⟩ | ⟨v, val, rfl, _⟩ <;> cases hu
  have R0 : Rep F (("#code", .ca "#code" c) :: nms.zip (vs.map LV.v)) z { s with heap := h₁, toks := tk } :=
      ⟨fun b o e => ic.toInCall.keep b o (hs b o e), fun _ _ e => e, fun b o e => ic.toInCall.keep b o (ntab_some e).1, fun b o e n => (by have n' : z b = none := n; rw [n'] at e; cases e),
       ⟨fun b o e _ => ⟨o, ic.toInCall.keep b o e⟩, .refl _, fun _ => rfl, .of_keep ic.toInCall.keep, fun t => Tabs.keeps t ic.toInCall.keep, fun t => Tabs.alive t⟩, rfl, rfl, _, _, L0⟩
  have ex : ∀ {z' : Zp} {s' : Shared}, RepE F z' s' → Ext z s z' s' := fun R => R.done rfl rfl rfl rfl rfl id id
  refine noE (h F z _ R0) fun fl s' p => ?_
  cases fl with
  | next => obtain ⟨z', l', R', q⟩ := p; exact ⟨z', .nil, ex R'.end, rfl, q⟩
  | brk => obtain ⟨_, _, _, q⟩ := p; exact q.elim
  | cont => obtain ⟨_, _, _, q⟩ := p; exact q.elim
  | ret x => obtain ⟨z', v, R', rz, q⟩ := p; exact ⟨z', v, ex R', rz, q⟩

/-- a chained comparison -/
theorem WT_cmp2 {a b c : Expr} {o1 o2 : CmpOp} {p : Pos} {P : Bool → Prop} (h : WE G r sc l a fun x => WE G r sc l b fun y => Act2 G (compareOp o1) x y (IsB fun t => (t = false → P false) ∧ (t = true → WE G r sc l c fun z => Act2 G (compareOp o2) y z (IsB P))))
    (hm : behindInMarks o2 c = false := by with_unfolding_all rfl) : WT G r sc l (.Compare a [o1, o2] [b, c] p) P := fun F z s R => by
  show wpAny _ _ (do testChain p (← eval a F.env) [o1, o2] [eval b F.env, markedBehindIn o2 c (eval c F.env)]) _ _ _
  rw [markedBehindIn_of_false hm]
  refine wpAny_bind (noE (h F z s R) fun xa s₁ ⟨z₁, va, e₁, ra, h₁⟩ => ?_)
  refine wpAny_bind (wpAny_holding (noE (h₁ F z₁ s₁ (R.ext e₁)) fun xb s₂ ⟨z₂, vb, e₂, rb, h₂⟩ => ?_))
  refine wpAny_bind (wpAny_standAt ?_)
  have R₂ := R.ext (e₁.trans e₂)
  refine wpAny_bind (wpAny_holding (noE (h₂ F.A z₂ s₂ xa xb F.hh F.room0 R₂.zBsub e₂.sub (ra.mono e₂.zz) rb) fun t s₃ ⟨z₃, vt, e₃, rt, h₃⟩ => ?_))
  refine wpAny_bind (wpAny_release ?_)
  have R₃ := R₂.ext e₃
  obtain ⟨bt, rfl⟩ : ∃ bt, vt = .bool bt := by cases vt <;> first | exact h₃.elim | exact ⟨_, rfl⟩
  have rt : t = .bool bt := rt
  subst rt
  refine wpAny_bind (wpAny_holding (wpAny_truthy_bool ?_))
  cases bt with
  | false => exact wpAny_pure ⟨z₃, (e₁.trans e₂).trans e₃, h₃.1 rfl⟩
  | true =>
    refine wpAny_bind (wpAny_holding (noE (h₃.2 rfl F z₃ s₃ R₃) fun xc s₄ ⟨z₄, vc, e₄, rc, h₄⟩ => ?_))
    refine wpAny_bind (wpAny_standAt ?_)
    unfold operate
    refine wpAny_bind (wpAny_bind (wpAny_holding (noE (h₄ F.A z₄ s₄ xb xc F.hh F.room0 (R₃.ext e₄).zBsub e₄.sub ((rb.mono e₃.zz).mono e₄.zz) rc) fun t s₅ ⟨z₅, vt, e₅, rt, h₅⟩ => wpAny_bind (wpAny_release (wpAny_pure ?_)))))
    exact wpAny_holding (IsB.truthy (((e₁.trans e₂).trans e₃).trans (e₄.trans e₅)) rt h₅)
end
end Mine

end
section
open PySem PySem.W PySem.Calls PyProof.Rows
set_option linter.unusedVariables false
set_option maxRecDepth 100000
namespace Mine
section
variable {prog : Program} {w : World} {K : Frag} {G : Gl prog w K} {r : Nat} {sc : Scope} {l : Locs} {k : Kt} {Q : V → Prop}
/-- a list display of the frame's own -/
theorem WX_ownL {x : Str} {p p' q : Pos} {es : List Expr} (h : WEs G r sc l es fun vs => vs.length ≤ sizeLine ∧ k.nx (put l x (.own vs))) (hx : stored sc x = true := by rfl) (hp : plainEs es = true := by rfl) : WX G r sc l (.Assign [.Name x p'] (.List es q) p) k := fun F z s R =>
  wpAny_Assign_Name (wpAny_List (by
    rw [backTo_plain hp]
    refine noE (h.run z s R) fun xs s₁ ⟨z₁, vs, e₁, rl, hs, hk⟩ => ⟨by rw [rl.length]; exact hs, ?_⟩
    exact (R.ext e₁).storeOwn (Ext.grow (t := s₁.toks) e₁.sub fun b o e => Heap.get?_push_of_some { cls := .type "list", data := .seq xs.toArray } e) (xs := vs) (vals := xs) (stored_or hx) e₁.sub.fresh ⟨0, Heap.get?_push_size _ rfl⟩ rl fun s₂ R₂ => ⟨z₁, _, R₂, hk⟩)) (swaps_no rfl _ _ _)

theorem ints_get {C : Addr} {z : Zp} : ∀ {ys : List Int} {xs : List Value}, RzL C z (ys.map V.int) xs → ∀ (i : Nat) (y : Int), ys[i]? = some y → ∃ t, xs[i]? = some (.int y t)
  | _, xs, h, i, y, hy => by
    obtain ⟨x, hx, ⟨t, rfl⟩⟩ := h.get i (.int y) (by rw [List.getElem?_map, hy]; rfl)
    exact ⟨t, hx⟩
theorem map_erase {α β : Type} (f : α → β) : ∀ (xs : List α) (i : Nat), (xs.eraseIdx i).map f = (xs.map f).eraseIdx i
  | [], _ => rfl
  | _ :: _, 0 => rfl
  | x :: xs, i + 1 => by simp [map_erase f xs i]
theorem rzL_erase {C : Addr} {z : Zp} : ∀ {vs : List V} {xs : List Value} (i : Nat), RzL C z vs xs → RzL C z (vs.eraseIdx i) (xs.eraseIdx i)
  | [], _, i, h => by cases h; exact rfl
  | v :: vs, _, 0, ⟨x, r, e, h, t⟩ => by subst e; exact t
  | v :: vs, _, i + 1, ⟨x, r, e, h, t⟩ => by subst e; exact ⟨x, _, rfl, h, rzL_erase i t⟩

/-- c.pop(e), c an own list of ints -/
theorem pop_run {F : Frm G r sc} {c : Str} {xs : List Int} {e : Expr} {pn pa pc : Pos} {P : Nat → Int → Prop} {z : Zp} {s : Shared} (R : Rep F l z s) (hl : l.lookup c = some (.own (xs.map .int))) (hsz : xs.length ≤ 1000)
    (h : WE G r sc l e fun v => ∃ (i : Nat) (y : Int), v = .int (i : Nat) ∧ xs[i]? = some y ∧ P i y) (hp : plainEs [e] = true := by rfl) (hline : (pa.endLine == pc.line) = true := by rfl) (hd : (c == ("__debug__" : Str)) = false := by decide) (hc : (c == ("__classdict__" : Str)) = false := by decide) :
    wpAny (model prog w) F.A (eval (.Call (.Attribute (.Name c pn) "pop" pa) [e] [] pc) F.env) (fun x s' => ∃ z' i y, xs[i]? = some y ∧ P i y ∧ (∀ b o, z b = some o → z' b = some o) ∧ Rep F (upd l c (.own ((xs.eraseIdx i).map .int))) z' s' ∧ ∃ t, x = .int y t) (fun _ _ => False) s := by
  obtain ⟨m, am, L⟩ := R.loc
  obtain ⟨_, ⟨vals, ⟨n0, hpl⟩, rl⟩, n⟩ := (L.ok c _ hl).of rfl
  have hform : methodCallForm ([e].length + ([] : List Keyword).length) (backTo pc (starEach [e] F.env)) (backToKw pc (keywordEach [] F.env)) = true := by
    rw [backTo_plain hp]; rfl
  have hpos : methodCallPos true (.Name c pn) F.env pa pc = pure pc := by unfold methodCallPos; simp [hline]
  rw [arm_eval_Call, show attributeBase (.Name c pn) "pop" F.env (eval (.Name c pn) F.env) = eval (.Name c pn) F.env from rfl]
  refine wpAny_bind (wpAny_Name (Frm.load L.ns n hc (wpAny_bind (wpAny_standAt ?_))) hd)
  unfold methodCall
  rw [hform]
  refine wpAny_bind (wpAny_holding ?_)
  show wpAny _ _ (getMethod (.ref (am c)) "pop" _) _ _ _
  refine getMethod_builtin (T := "list") ⟨_, hpl, rfl⟩ PySem.F.plainAttrs_list PySem.F.slot_list_pop PySem.F.type_list_pop (fun a e => by cases e; exact ⟨_, hpl, rfl⟩) ?_
  refine wpAny_bind (wpAny_of_eq hpos ?_)
  rw [backTo_plain hp]
  refine PySem.P.pop_at_list (noE (h F z s R) fun v s₁ ⟨z₁, vv, e₁, rz, i, y, hv, hy, q⟩ => ?_)
  subst hv
  obtain ⟨ti, rfl⟩ := rz
  have L₁ := L.ext e₁
  have hpl₁ : s₁.heap.get? (am c) = some { cls := .type "list", dict := none, data := .seq vals.toArray n0, slots := #[] } := e₁.keep _ _ hpl rfl
  obtain ⟨ty, hvy⟩ := ints_get (rl.mono e₁.zz) i y hy
  have hi : i < vals.length := (List.getElem?_eq_some_iff.mp hvy).1
  have hvl : vals.length = xs.length := by rw [rl.length, List.length_map]
  have hk : seqIndex? (i : Int) vals.toArray.size = some i := by
    rw [List.size_toArray]; unfold seqIndex?; simp; omega
  have hfit : Builtin.List.listFitsIndex (i : Int) = true := by unfold Builtin.List.listFitsIndex; simp; omega
  have hs1 : vals.toArray.size ≤ sizeLine := by rw [List.size_toArray]; exact nat_len' (by omega)
  have hvy' : vals.toArray[i]? = some (Value.int y ty) := by rw [List.getElem?_toArray]; exact hvy
  refine ⟨vals.toArray, n0, (i : Int), ti, i, .int y ty, hs1, rfl, hpl₁, hfit, hk, hvy', ?_⟩
  have hu := Heap.get?_update_self (h := s₁.heap) (Obj.mapSeq fun xs => xs.eraseIdxIfInBounds i) hpl₁ rfl
  have Rt := (R.end.ext e₁).turn (u' := .own ((xs.eraseIdx i).map .int)) (t := s₁.toks) L₁ hl rfl rfl (fun _ t => t) (Heap.SameBut.update ..) ⟨vals.eraseIdx i, ⟨_, by rw [hu]; exact congrArg some (by
      show ({ cls := .type "list", dict := none, data := .seq (vals.toArray.eraseIdxIfInBounds i) _, slots := #[] } : Obj) = _
      rw [show vals.toArray.eraseIdxIfInBounds i = (vals.eraseIdx i).toArray by simp])⟩, by
    have := rzL_erase i (rl.mono e₁.zz)
    rw [map_erase]
    exact this⟩
  exact ⟨z₁, i, y, hy, q, e₁.zz, Rt, ty, rfl⟩

/-- x = [c.pop(e1), c.pop(e2), c.pop(e3)] -/
theorem WX_pops3 {x c : Str} {xs : List Int} {e1 e2 e3 : Expr} {p p' q n1 n2 n3 a1 a2 a3 c1 c2 c3 : Pos} (hl : l.lookup c = some (.own (xs.map .int))) (hsz : xs.length ≤ 1000)
    (h : WE G r sc l e1 fun v => ∃ (i : Nat) (y : Int), v = .int (i : Nat) ∧ xs[i]? = some y ∧
      WE G r sc (upd l c (.own ((xs.eraseIdx i).map .int))) e2 fun v => ∃ (i' : Nat) (y' : Int), v = .int (i' : Nat) ∧ (xs.eraseIdx i)[i']? = some y' ∧
      WE G r sc (upd (upd l c (.own ((xs.eraseIdx i).map .int))) c (.own (((xs.eraseIdx i).eraseIdx i').map .int))) e3 fun v => ∃ (i'' : Nat) (y'' : Int), v = .int (i'' : Nat) ∧ ((xs.eraseIdx i).eraseIdx i')[i'']? = some y'' ∧
      k.nx (put (upd (upd (upd l c (.own ((xs.eraseIdx i).map .int))) c (.own (((xs.eraseIdx i).eraseIdx i').map .int))) c (.own ((((xs.eraseIdx i).eraseIdx i').eraseIdx i'').map .int))) x (.v (.lst [.int y, .int y', .int y'']))))
    (hx : stored sc x = true := by rfl) (hp1 : plainEs [e1] = true := by rfl) (hp2 : plainEs [e2] = true := by rfl) (hp3 : plainEs [e3] = true := by rfl)
    (l1 : (a1.endLine == c1.line) = true := by rfl) (l2 : (a2.endLine == c2.line) = true := by rfl) (l3 : (a3.endLine == c3.line) = true := by rfl)
    (hd : (c == ("__debug__" : Str)) = false := by decide) (hc : (c == ("__classdict__" : Str)) = false := by decide) :
    WX G r sc l (.Assign [.Name x p'] (.List [.Call (.Attribute (.Name c n1) "pop" a1) [e1] [] c1, .Call (.Attribute (.Name c n2) "pop" a2) [e2] [] c2, .Call (.Attribute (.Name c n3) "pop" a3) [e3] [] c3] q) p) k := fun F z s R => by
  have er : ∀ (xs : List Int) (i : Nat), (xs.eraseIdx i).length ≤ xs.length := fun xs i => List.length_eraseIdx_le ..
  refine wpAny_Assign_Name (wpAny_List ?_) (swaps_no rfl _ _ _)
  rw [backTo_plain rfl]
  refine Calls.spliced_cons (noE (pop_run R hl hsz h hp1 l1 hd hc) fun x1 s₁ hE => ?_)
  obtain ⟨z₁, i1, y1, hy1, q1, zz1, R₁, t1, hx1⟩ := hE
  have hl1 : (upd l c (.own ((xs.eraseIdx i1).map .int))).lookup c = some (.own ((xs.eraseIdx i1).map .int)) := by rw [upd_lookup, if_pos rfl, hl]; rfl
  refine Calls.spliced_cons (noE (pop_run R₁ hl1 (Nat.le_trans (er _ _) hsz) q1 hp2 l2 hd hc) fun x2 s₂ hE => ?_)
  obtain ⟨z₂, i2, y2, hy2, q2, zz2, R₂, t2, hx2⟩ := hE
  have hl2 : (upd (upd l c (.own ((xs.eraseIdx i1).map .int))) c (.own (((xs.eraseIdx i1).eraseIdx i2).map .int))).lookup c = some (.own (((xs.eraseIdx i1).eraseIdx i2).map .int)) := by rw [upd_lookup, if_pos rfl, hl1]; rfl
  refine Calls.spliced_cons (noE (pop_run R₂ hl2 (Nat.le_trans (er _ _) (Nat.le_trans (er _ _) hsz)) q2 hp3 l3 hd hc) fun x3 s₃ hE => Calls.spliced_nil ⟨by show 3 ≤ _; rw [sizeLine_eq]; omega, ?_⟩)
  obtain ⟨z₃, i3, y3, hy3, q3, zz3, R₃, t3, hx3⟩ := hE
  subst hx1 hx2 hx3
  have hz := R₃.sub.fresh
  have ex : Ext z₃ s₃ _ _ := Ext.push R₃.sub (o := { cls := .type "list", data := .seq ([.int y1 t1, .int y2 t2, .int y3 t3] : List Value).toArray }) rfl
  refine (R₃.ext ex).storeV (v := .lst [.int y1, .int y2, .int y3]) (stored_or hx) ⟨_, [.int y1 t1, .int y2 t2, .int y3 t3], rfl, ⟨_, 0, Zp.put_self, rfl, rfl, rfl⟩, _, _, rfl, ⟨_, rfl⟩, _, _, rfl, ⟨_, rfl⟩, _, _, rfl, ⟨_, rfl⟩, rfl⟩ fun s₄ R₄ => ⟨_, _, R₄, q3⟩

/-- enumerate, in a comprehension -/
theorem WIc_enum {tgt e : Expr} {p1 p : Pos} {Q : List V → Prop} (hn : nsIn K mainGlobals "enumerate" = some none) (h : WE G r sc l e fun v => ∃ vs, (v = .lst vs ∨ v = .tup vs) ∧ Q (enumV 0 vs)) (ht : isTup tgt = true := by rfl)
    (hx : sc.names.lookup (Str.ofString "enumerate") = some .globalImplicit := by rfl) (hp : plainEs [e] = true := by rfl) : WIc G r sc l tgt (.Call (.Name "enumerate" p1) [e] [] p) Q := fun F z s R => by
  have hw : WEs G r sc l [e] (fun us => ∃ v vs, us = [v] ∧ (v = .lst vs ∨ v = .tup vs) ∧ Q (enumV 0 vs)) := h.mono fun v ⟨vs, hv, q⟩ => ⟨v, vs, rfl, hv, q⟩
  refine wpAny_Call_ofName (wpAny_Name (Frm.global R.sB hx (.inr (G.gB _ _ hn bootEnum (by decide))) ?_) (by decide))
  refine WEs.callWith (f := .type "enumerate") (first := []) rfl hp R hw fun xs s₁ z₁ us e₁ rl ⟨v, vs, hu, hv, q⟩ => ?_
  subst hu
  obtain ⟨x, r0, rfl, rz, rfl⟩ := rl
  obtain ⟨T, a, xs, hT, rfl, sq, rl⟩ := seq_rz hv rz
  refine call_enum hT (sq.mono fun o e => e₁.sub _ _ e) fun h' he hit hsz kp => ?_
  refine wpAny_pyIter_enum he ?_
  have n0 := none_before e₁ (n := s₁.heap.objs.size) (Nat.le_refl _)
  have n1 := none_before e₁ (n := s₁.heap.objs.size + 1) (Nat.le_add_right _ _)
  refine ⟨_, z₁, _, _, DIt.enum F.hh ht hT sq rl n0.2 n1.2 (Nat.succ_ne_self _), e₁.trans (Ext.grow (t := s₁.toks) e₁.sub kp), fun b hb => ?_, ⟨⟨_, he⟩, hit, sq.mono fun o e => kp _ _ (e₁.sub _ _ e)⟩, fun s' P E st hP => let ⟨⟨_, he'⟩, _⟩ := st; wpAny_pyIter_enum he' hP, q⟩
  simp at hb
  rcases hb with rfl | rfl
  · exact n1
  · exact n0
end
end Mine

end
section
open PySem PySem.W PySem.Calls PyProof.Rows
set_option linter.unusedVariables false
set_option maxRecDepth 100000
namespace Mine
theorem ifmt {w : World} (G : Gl PySem.Challenge.rw_in0278_02.prog w (Mine.K0 w.params)) {m : Int} {Q : V → Prop} (h : Q (.int (Builtin.bitAnd m 61440))) : CS G 1 (.ref 118) [.int m] Q := by
  k_fill
  refine CS_def [Str.ofString "mode"] (by k_is) (by k_is) ?_ (fun xs hx => ?_)
  · refine WS_cons (WX_ret (WE_bin (WE_v (by rfl) (WE_int (A_and h)))))
  · obtain ⟨x1, rfl⟩ := xl1 hx
    rfl

noncomputable def modeTab : List (List (Int × Str)) :=
  [[(40960, "l"), (49152, "s"), (32768, "-"), (24576, "b"), (16384, "d"), (8192, "c"), (4096, "p")], [(256, "r")], [(128, "w")], [(2112, "s"), (2048, "S"), (64, "x")],
   [(32, "r")], [(16, "w")], [(1032, "s"), (1024, "S"), (8, "x")], [(4, "r")], [(2, "w")], [(513, "t"), (512, "T"), (1, "x")]]
noncomputable def rowV (t : List (Int × Str)) : V := .tup (t.map fun p => .tup [.int p.1, .str p.2])
noncomputable def hit (first : Bool) (m b : Int) : Bool := if first then Builtin.bitAnd m 61440 == b else Builtin.bitAnd m b == b
noncomputable def pick (first : Bool) (m : Int) : List (Int × Str) → Str
  | [] => if first then "?" else "-"
  | p :: r => if hit first m p.1 then p.2 else pick first m r
noncomputable def picks (m : Int) : Nat → List (List (Int × Str)) → List Str
  | _, [] => []
  | i, t :: ts => pick (i == 0) m t :: picks m (i + 1) ts

theorem drop_eq {α : Type} {xs : List α} {i : Nat} {x : α} (h : xs[i]? = some x) : xs.drop i = x :: xs.drop (i + 1) := by
  have hlt : i < xs.length := by
    rcases Nat.lt_or_ge i xs.length with h' | h'
    · exact h'
    · rw [List.getElem?_eq_none h'] at h; cases h
  rw [List.drop_eq_getElem_cons hlt]
  rw [List.getElem?_eq_getElem hlt] at h
  rw [Option.some.inj h]
theorem int_beq_zero (i : Nat) : (((i : Int)) == 0) = (i == 0) := by
  rw [Bool.eq_iff_iff, beq_iff_eq, beq_iff_eq]; omega
theorem filemode_s {w : World} (G : Gl PySem.Challenge.rw_in0278_02.prog w (Mine.K0 w.params)) {m : Int} {Q : V → Prop} (h : Q (.str (Txt.join "" (picks m 0 modeTab)))) : CS G 3 (.ref 158) [.int m] Q := by
  k_fill
  refine CS_def [Str.ofString "mode"] (by k_is) (by k_is) ?_ (fun xs hx => ?_)
  · refine WS_cons (WX_own ?_)
    refine WS_cons ?_
    refine WX_forI (WI_enum (by k_is) (WE_gk (v := .tup (modeTab.map rowV)) (by k_is) (by kernel_rfl) ⟨_, .inr rfl, ?_⟩))
    refine WF.ind _ (fun i l => ∃ acc, Has l [("mode", .v (.int m)), ("perm", .own (acc.map V.str))] ∧ acc ++ picks m i (modeTab.drop i) = picks m 0 modeTab ∧ acc.length ≤ i) ⟨[], ⟨rfl, rfl, trivial⟩, rfl, Nat.le_refl _⟩ (fun i v l hv ⟨acc, hl, ha, hn⟩ => ?_) (fun l ⟨acc, hl, ha, hn⟩ => ?_)
    · obtain ⟨u, hu, rfl⟩ := enumV_get hv
      rw [List.getElem?_map] at hu
      obtain ⟨t, ht, rfl⟩ := Option.map_eq_some_iff.mp hu
      have hi : i < 10 := by
        rcases Nat.lt_or_ge i 10 with h | h
        · exact h
        · have : modeTab.length ≤ i := h
          rw [List.getElem?_eq_none this] at ht; cases ht
      rw [Nat.zero_add]
      refine WAs.wk _ hl (WAs_tup (WAs_name (WAs_name ?_)))
      refine WS_cons ?_
      refine WX_forI (WI_seq (WE_v (by rfl) ⟨_, .inr rfl, ?_⟩))
      refine WF.ind _ (fun j l => Has l [("mode", .v (.int m)), ("perm", .own (acc.map V.str)), ("index", .v (.int i))] ∧ pick (i == 0) m t = pick (i == 0) m (t.drop j)) ⟨⟨rfl, rfl, rfl, trivial⟩, rfl⟩ (fun j v l hv ⟨hl, hp⟩ => ?_) (fun l ⟨hl, hp⟩ => ?_)
      · rw [List.getElem?_map] at hv
        obtain ⟨⟨b, c⟩, hb, rfl⟩ := Option.map_eq_some_iff.mp hv
        refine WAs.wk _ hl (WAs_tup (WAs_name (WAs_name ?_)))
        have hd : pick (i == 0) m (t.drop j) = if hit (i == 0) m b then c else pick (i == 0) m (t.drop (j + 1)) := by rw [drop_eq hb]; rfl
        have yes : hit (i == 0) m b = true → (acc ++ [c]) ++ picks m (i + 1) (modeTab.drop (i + 1)) = picks m 0 modeTab := fun hh => by
          rw [hd, if_pos hh] at hp
          rw [← ha, drop_eq ht, picks, hp, List.append_assoc]; rfl
        have no : hit (i == 0) m b = false → pick (i == 0) m t = pick (i == 0) m (t.drop (j + 1)) := fun hh => by
          rw [hp, hd, hh]; rfl
        have hsz : (acc.map V.str).length ≤ sizeLine := by rw [List.length_map, sizeLine_eq]; omega
        refine WS_cons (WX_if (WT_cmp (WE_v (by rfl) (WE_int (C_eqI ?_)))))
        refine ⟨fun c0 => ?_, fun c0 => ?_⟩
        · rw [int_beq_zero] at c0
          refine WS_cons (WX_if (WT_cmp (WE_def (by k_is) (by k_is) (WE_v (by rfl) ((ifmt G ?_).room (by omega))))))
          refine WE_v (by rfl) (C_eqI ?_)
          refine ⟨fun c1 => ?_, fun c1 => ?_⟩
          · refine WS_cons (WX_append (by rfl) (WE_v (by rfl) ⟨hsz, ?_⟩))
            refine WS_cons (WX_break (WS_nil ?_))
            exact ⟨acc ++ [c], ⟨rfl, by rw [List.map_append]; rfl, trivial⟩, yes (by unfold hit; rw [c0]; exact c1), by simpa using hn⟩
          · repeat refine WS_nil ?_
            exact ⟨⟨rfl, rfl, rfl, trivial⟩, no (by unfold hit; rw [c0]; exact c1)⟩
        · rw [int_beq_zero] at c0
          refine WS_cons (WX_if (WT_cmp (WE_bin (WE_v (by rfl) (WE_v (by rfl) (A_and (WE_v (by rfl) (C_eqI ?_))))))))
          refine ⟨fun c1 => ?_, fun c1 => ?_⟩
          · refine WS_cons (WX_append (by rfl) (WE_v (by rfl) ⟨hsz, ?_⟩))
            refine WS_cons (WX_break (WS_nil ?_))
            exact ⟨acc ++ [c], ⟨rfl, by rw [List.map_append]; rfl, trivial⟩, yes (by unfold hit; rw [c0]; exact c1), by simpa using hn⟩
          · repeat refine WS_nil ?_
            exact ⟨⟨rfl, rfl, rfl, trivial⟩, no (by unfold hit; rw [c0]; exact c1)⟩
      · rw [List.length_map, List.drop_length] at hp
        have hsz : (acc.map V.str).length ≤ sizeLine := by rw [List.length_map, sizeLine_eq]; omega
        have fin : (acc ++ [pick (i == 0) m []]) ++ picks m (i + 1) (modeTab.drop (i + 1)) = picks m 0 modeTab := by
          rw [← ha, drop_eq ht, picks, hp, List.append_assoc]; rfl
        refine WS.wk _ hl (WS_cons (WX_if (WT_cmp (WE_v (by rfl) (WE_int (C_eqI ?_))))))
        refine ⟨fun c0 => ?_, fun c0 => ?_⟩
        · rw [int_beq_zero] at c0
          refine WS_cons (WX_append (by rfl) (WE_str ⟨hsz, ?_⟩))
          repeat refine WS_nil ?_
          exact ⟨acc ++ [pick (i == 0) m []], ⟨rfl, by rw [List.map_append, c0]; rfl, trivial⟩, fin, by simpa using hn⟩
        · rw [int_beq_zero] at c0
          refine WS_cons (WX_append (by rfl) (WE_str ⟨hsz, ?_⟩))
          repeat refine WS_nil ?_
          exact ⟨acc ++ [pick (i == 0) m []], ⟨rfl, by rw [List.map_append, c0]; rfl, trivial⟩, fin, by simpa using hn⟩
    · have e : acc = picks m 0 modeTab := by rw [← ha, enumV_length, List.length_map, List.drop_length]; simp [picks]
      have hlen : ∀ x ∈ picks m 0 modeTab, x.length = 1 := by
        have hp : ∀ (f : Bool) (t : List (Int × Str)), (∀ p ∈ t, p.2.length = 1) → (pick f m t).length = 1 := by
          intro f t
          induction t with
          | nil => intro _; unfold pick; cases f <;> rfl
          | cons p t ih =>
            intro h
            unfold pick
            split
            · exact h p (.head _)
            · exact ih fun q hq => h q (.tail _ hq)
        have hps : ∀ (ts : List (List (Int × Str))) (i : Nat), (∀ t ∈ ts, ∀ p ∈ t, p.2.length = 1) → ∀ x ∈ picks m i ts, x.length = 1 := by
          intro ts
          induction ts with
          | nil => intro i _ x hx; simp [picks] at hx
          | cons t ts ih =>
            intro i h x hx
            unfold picks at hx
            rcases List.mem_cons.mp hx with rfl | hx
            · exact hp _ t (h t (.head _))
            · exact ih (i + 1) (fun t ht => h t (.tail _ ht)) x hx
        exact hps modeTab 0 (by decide +kernel)
      have hl2 : (picks m 0 modeTab).map (·.length) = (picks m 0 modeTab).map fun _ => 1 := List.map_congr_left hlen
      have hl3 : (picks m 0 modeTab).length = 10 := by simp [picks, modeTab]
      rw [← e] at h hl2 hl3
      clear hlen ha hn e
      refine WS_nil (WS.wk _ hl (WS_freeze (fun _ => true) ?_))
      refine WS_cons (WX_ret ?_)
      refine WE_meth ?_
      refine WE_str ?_
      refine GM_str F.slot_str_join F.type_str_join ?_
      refine And.intro ?_ ?_
      exact rfl
      refine WE_v (by rfl) (M_join ?_ h)
      rw [hl2, List.map_const', hl3]
      decide
  · obtain ⟨x1, rfl⟩ := xl1 hx
    rfl
end Mine

end
section
open PySem PySem.W PySem.Calls PyProof.Rows
set_option linter.unusedVariables false
set_option maxRecDepth 100000
namespace Mine
theorem bootIsi : bootBuiltins "isinstance" = some (.builtin "isinstance") := by decide +kernel
theorem bootStr : bootBuiltins "str" = some (.type "str") := by decide +kernel
theorem bootObject : bootBuiltins "object" = some (.type "object") := by decide +kernel
theorem bootLen : bootBuiltins "len" = some (.builtin "len") := by decide +kernel
theorem bootBool : bootBuiltins "bool" = some (.type "bool") := by decide +kernel
theorem bootSum : bootBuiltins "sum" = some (.builtin "sum") := by decide +kernel
theorem fits_small {i : Int} (h0 : 0 ≤ i) (h1 : i < 1000) : fitsSsize i = true := by
  unfold fitsSsize; simp; omega
theorem nat_len {n : Nat} (h : n ≤ 1000) : n ≤ sizeLine := by rw [sizeLine_eq]; omega
noncomputable def escS (c : Nat) : Str := if (c == 45) = true then "\\-" else ⟨#[c]⟩
noncomputable def signs : List Nat := [45, 114, 115, 116, 119, 120, 83, 84]
theorem escape_s {w : World} (G : Gl PySem.Challenge.rw_in0278_02.prog w (Mine.K0 w.params)) {c : Nat} (hc : c ∈ signs) {Q : V → Prop} (h : Q (.str (escS c))) : CS G 2 (.ref 97) [.str ⟨#[c]⟩] Q := by
  k_fill
  refine CS_def [Str.ofString "pattern"] (by k_is) (by k_is) ?_ (fun xs hx => ?_)
  · refine WS_cons (WX_if (WT_val ?_))
    refine WE_bi (by k_is) bootIsi rfl (WE_v (by rfl) ?_)
    refine WE_b (by k_is) bootStr (B_isi_str (T_bool ⟨fun _ => ?_, fun e => by cases e⟩))
    refine WS_cons (WX_ret ?_)
    refine WE_meth (WE_v (by rfl) ?_)
    refine GM_str F.slot_str_translate F.type_str_translate ?_
    refine And.intro ?_ ?_
    · exact rfl
    refine WE_g (by k_is) ?_
    by_cases hd : c = 45
    · subst hd
      exact M_tr_text (by k_is) (by decide +kernel) (by decide) (by rfl) (by rfl) h
    · have e : escS c = ⟨#[c]⟩ := by unfold escS; rw [if_neg (by simpa using hd)]
      rw [e] at h
      have hcc : c = 114 ∨ c = 115 ∨ c = 116 ∨ c = 119 ∨ c = 120 ∨ c = 83 ∨ c = 84 := by simpa [signs, hd] using hc
      refine M_tr_keep (by k_is) (by decide +kernel) (by decide) ?_ ?_ h
      · omega
      · rcases hcc with rfl | rfl | rfl | rfl | rfl | rfl | rfl <;> rfl
  · obtain ⟨x1, rfl⟩ := xl1 hx
    rfl
end Mine

end
section
open PySem PySem.W PySem.Calls PyProof.Rows
set_option linter.unusedVariables false
set_option maxRecDepth 100000
namespace Mine
noncomputable def stepP (acc : List (Option Str)) (c : Nat) : List (Option Str) :=
  if c = 42 then (if acc.getLast? = some none then acc else acc ++ [none]) else if c = 63 then acc ++ [some (Str.ofString ".")] else acc ++ [some (escS c)]
noncomputable def partsP (cs : List Nat) : List (Option Str) := cs.foldl stepP []
noncomputable def pv (a : Addr) : Option Str → V
  | none => .raw (.ref a)
  | some x => .str x
theorem partsP_len : ∀ (cs : List Nat) (acc : List (Option Str)), (cs.foldl stepP acc).length ≤ acc.length + cs.length
  | [], acc => by simp
  | c :: cs, acc => by
    rw [List.foldl_cons]
    have := partsP_len cs (stepP acc c)
    have h2 : (stepP acc c).length ≤ acc.length + 1 := by unfold stepP; (repeat' split) <;> simp
    simp only [List.length_cons]; omega
theorem one_beq (c d : Nat) : ((⟨#[c]⟩ : Str) == (⟨#[d]⟩ : Str)) = (c == d) := by
  rw [Bool.eq_iff_iff, beq_iff_eq, beq_iff_eq]
  exact ⟨fun h => by injection h with h; injection h with h; injection h, fun h => by rw [h]⟩
theorem item_at {cs : List Nat} {i : Nat} {c : Nat} (h : cs[i]? = some c) : Txt.item ⟨cs.toArray⟩ (i : Int) = ⟨#[c]⟩ ∧ (Txt.charAt ⟨cs.toArray⟩ (i : Int)).isSome = true := by
  have hlt : i < cs.length := by
    rcases Nat.lt_or_ge i cs.length with h' | h'
    · exact h'
    · rw [List.getElem?_eq_none h'] at h; cases h
  have e : Txt.charAt ⟨cs.toArray⟩ (i : Int) = some c := by
    unfold Txt.charAt
    have : seqIndex? (i : Int) (Str.length ⟨cs.toArray⟩) = some i := by
      show seqIndex? (i : Int) cs.toArray.size = some i
      unfold seqIndex?; simp; omega
    rw [this]
    show cs.toArray[i]? = some c
    simpa using h
  unfold Txt.item
  rw [e]
  exact ⟨rfl, rfl⟩
theorem trans_s {w : World} (G : Gl PySem.Challenge.rw_in0278_02.prog w (Mine.K0 w.params)) {cs : List Nat} (hcs : ∀ c ∈ cs, c = 42 ∨ c = 63 ∨ c ∈ signs) (hlen : cs.length ≤ 500) {a : Addr} {Q : V → Prop} (h : Q (.lst ((partsP cs).map (pv a)))) :
    CS G 3 (.ref 104) [.str ⟨cs.toArray⟩, .raw (.ref a), .str "."] Q := by
  k_fill
  refine CS_def [Str.ofString "pat", Str.ofString "STAR", Str.ofString "QUESTION_MARK"] (by k_is) (by k_is) ?_ (fun xs hx => ?_)
  · refine WS_cons (WX_own ?_)
    refine WS_cons (WX_app (by rfl) ?_)
    refine WS_cons (WX_swap2 ?_ (fun _ => rfl) (fun _ => rfl))
    refine WE_int ?_
    refine WE_bi (by k_is) bootLen rfl (WE_v (by rfl) (B_len_str ?_ ?_))
    · show cs.toArray.size ≤ _; rw [List.size_toArray]; exact nat_len (by omega)
    refine WS_cons ?_
    refine WX_while (fun m l => ∃ i, m = cs.length - i ∧ i ≤ cs.length ∧ Has l [("pat", .v (.str ⟨cs.toArray⟩)), ("STAR", .v (.raw (.ref a))), ("QUESTION_MARK", .v (.str ".")), ("res", .own ((partsP (cs.take i)).map (pv a))), ("add", .app "res"), ("i", .v (.int i)), ("n", .v (.int cs.length))]) cs.length ⟨0, rfl, Nat.zero_le _, rfl, rfl, rfl, rfl, rfl, rfl, rfl, trivial⟩ (fun m l ⟨i, hm, hi, hl⟩ => ?_)
    refine WT.wk _ hl (WT_cmp (WE_v (by rfl) (WE_v (by rfl) (C_ltI ?_))))
    have plen : (partsP (cs.take i)).length ≤ i := by
      have := partsP_len (cs.take i) []
      rw [List.length_take] at this; simp at this; unfold partsP; omega
    refine ⟨?_, ?_⟩ <;> intro hc
    · have hlt : i < cs.length := by simpa using hc
      obtain ⟨c, hci⟩ : ∃ c, cs[i]? = some c := ⟨cs[i], List.getElem?_eq_getElem hlt⟩
      have hcm : c ∈ cs := List.mem_of_getElem? hci
      have htake : partsP (cs.take (i + 1)) = stepP (partsP (cs.take i)) c := by
        unfold partsP
        rw [List.take_add_one, hci, List.foldl_append]; rfl
      have hsz : ((partsP (cs.take i)).map (pv a)).length ≤ sizeLine := by rw [List.length_map]; exact nat_len (by omega)
      obtain ⟨it1, it2⟩ := item_at hci
      generalize partsP (cs.take i) = ps at hl htake hsz plen
      refine WS.wk _ hl ?_
      refine WS_cons (WX_assign ?_)
      refine WE_sub (WE_v (by rfl) (WE_v (by rfl) (S_str (fits_small (by omega) (by omega)) it2 ?_)))
      rw [it1]
      refine WS_cons (WX_assign (WE_bin (WE_v (by rfl) (WE_int (A_add ?_)))))
      have fin : ∀ l', Has l' [("pat", .v (.str ⟨cs.toArray⟩)), ("STAR", .v (.raw (.ref a))), ("QUESTION_MARK", .v (.str ".")), ("res", .own ((stepP ps c).map (pv a))), ("add", .app "res"), ("i", .v (.int (i + 1))), ("n", .v (.int cs.length))] → ∃ m', m' < m ∧ ∃ i, m' = cs.length - i ∧ i ≤ cs.length ∧ Has l' [("pat", .v (.str ⟨cs.toArray⟩)), ("STAR", .v (.raw (.ref a))), ("QUESTION_MARK", .v (.str ".")), ("res", .own ((partsP (cs.take i)).map (pv a))), ("add", .app "res"), ("i", .v (.int i)), ("n", .v (.int cs.length))] := by
        intro l' h'
        refine ⟨cs.length - (i + 1), by omega, i + 1, rfl, hlt, ?_⟩
        rw [htake]; exact h'
      refine WS_cons (WX_if (WT_cmp (WE_v (by rfl) (WE_str (C_eqS ?_)))))
      refine ⟨fun c0 => ?_, fun c0 => ?_⟩
      · have c0 : c = 42 := by rw [show (Str.ofString "*") = ⟨#[42]⟩ from rfl, one_beq] at c0; simpa using c0
        have hst : stepP ps c = if ps.getLast? = some none then ps else ps ++ [none] := by unfold stepP; rw [if_pos c0]
        refine WS_cons (WX_if (WT_peek (WT_or2 (WT_not (WT_val (WE_v (by rfl) (T_lst hsz ?_)))))))
        cases hps : ps with
        | nil =>
          subst hps
          refine ⟨fun _ => ?_, fun e => by cases e⟩
          refine ⟨fun _ => ?_, fun e => by cases e⟩
          refine WS_cons (WX_callApp (by rfl) (by rfl) (WE_v (by rfl) ⟨hsz, ?_⟩))
          repeat refine WS_nil ?_
          exact fin _ ⟨rfl, rfl, rfl, by rw [hst]; rfl, rfl, rfl, rfl, trivial⟩
        | cons p0 ps0 =>
          rw [← hps]
          have hne : ((ps.map (pv a)).isEmpty) = false := by rw [hps]; rfl
          rw [hne]
          refine ⟨fun e => (by cases e), fun _ => ?_⟩
          obtain ⟨q, hq⟩ : ∃ q, ps.getLast? = some q := by rw [hps]; exact ⟨_, List.getLast?_cons⟩
          have hq' : (ps.map (pv a)).getLast? = some (pv a q) := by rw [List.getLast?_map, hq]; rfl
          refine WT_cmp (WE_sub (WE_v (by rfl) (WE_neg (WE_int ⟨_, rfl, S_last hsz hq' ?_⟩))))
          refine WE_v (by rfl) ?_
          cases q with
          | none =>
            refine C_isNRR ⟨fun e => (by cases e), fun _ => ?_⟩
            repeat refine WS_nil ?_
            exact fin _ ⟨rfl, rfl, rfl, by rw [hst, if_pos hq]; rfl, rfl, rfl, rfl, trivial⟩
          | some y =>
            refine C_isRS ⟨fun _ => ?_, fun e => by cases e⟩
            refine WS_cons (WX_callApp (by rfl) (by rfl) (WE_v (by rfl) ⟨hsz, ?_⟩))
            repeat refine WS_nil ?_
            exact fin _ ⟨rfl, rfl, rfl, by rw [hst, if_neg (by rw [hq]; simp), List.map_append]; rfl, rfl, rfl, rfl, trivial⟩
      · have c0 : c ≠ 42 := by rw [show (Str.ofString "*") = ⟨#[42]⟩ from rfl, one_beq] at c0; simpa using c0
        refine WS_cons (WX_if (WT_cmp (WE_v (by rfl) (WE_str (C_eqS ?_)))))
        refine ⟨fun c1 => ?_, fun c1 => ?_⟩
        · have c1 : c = 63 := by rw [show (Str.ofString "?") = ⟨#[63]⟩ from rfl, one_beq] at c1; simpa using c1
          have hst : stepP ps c = ps ++ [some (Str.ofString ".")] := by unfold stepP; rw [if_neg c0, if_pos c1]
          refine WS_cons (WX_callApp (by rfl) (by rfl) (WE_v (by rfl) ⟨hsz, ?_⟩))
          repeat refine WS_nil ?_
          exact fin _ ⟨rfl, rfl, rfl, by rw [hst, List.map_append]; rfl, rfl, rfl, rfl, trivial⟩
        · have c1 : c ≠ 63 := by rw [show (Str.ofString "?") = ⟨#[63]⟩ from rfl, one_beq] at c1; simpa using c1
          have hcs' : c ∈ signs := by rcases hcs c hcm with h | h | h; exact absurd h c0; exact absurd h c1; exact h
          have hst : stepP ps c = ps ++ [some (escS c)] := by unfold stepP; rw [if_neg c0, if_neg c1]
          refine WS_cons (WX_if (WT_cmp (WE_v (by rfl) (WE_str (C_eqS ?_)))))
          refine ⟨fun c2 => ?_, fun c2 => ?_⟩
          · exfalso
            have c2 : c = 91 := by rw [show (Str.ofString "[") = ⟨#[91]⟩ from rfl, one_beq] at c2; simpa using c2
            subst c2
            exact absurd hcs' (by decide)
          · refine WS_cons (WX_callApp (by rfl) (by rfl) (WE_def (by k_is) (by k_is) (WE_v (by rfl) ((escape_s G hcs' ?_).room (by omega)))))
            refine ⟨hsz, ?_⟩
            repeat refine WS_nil ?_
            exact fin _ ⟨rfl, rfl, rfl, by rw [hst, List.map_append]; rfl, rfl, rfl, rfl, trivial⟩
    · have he : i = cs.length := by simp at hc; omega
      subst he
      refine WS_nil (WS.wk _ hl ?_)
      refine WS_cons (WX_assert (WT_cmp (WE_v (by rfl) (WE_v (by rfl) (C_eqI ?_)))))
      refine ⟨by simp, ?_⟩
      rw [List.take_length] at *
      refine WS_freeze (fun _ => true) ?_
      refine WS_cons (WX_ret (WE_v (by rfl) h))
  · obtain ⟨x1, x2, x3, rfl⟩ := xl3 hx
    rfl
end Mine

end
section
open PySem PySem.W PySem.Calls PyProof.Rows
set_option linter.unusedVariables false
set_option maxRecDepth 100000
namespace Mine
noncomputable def patS (c : Nat) : Str := if c = 63 then Str.ofString "." else escS c
noncomputable def allT (x : Str) : Str := Str.empty ++ "(?s:" ++ x ++ ")\\Z"
theorem catb {x y : Str} {n m : Nat} (hx : x.length ≤ n) (hy : y.length ≤ m) : (x ++ y).length ≤ n + m := by rw [cat_len]; omega
theorem big {n m : Nat} (h : n ≤ m) (hm : m ≤ 100000) : n ≤ sizeLine := by rw [sizeLine_eq]; omega
theorem len2 : (Str.empty ++ "(?s:" : Str).length ≤ 7 := by decide
theorem esc_len (c : Nat) : (escS c).length ≤ 2 := by unfold escS; split; decide; exact (by decide : 1 ≤ 2)
theorem pat_len (c : Nat) : (patS c).length ≤ 2 := by unfold patS; split; decide; exact esc_len c
theorem sum_le : ∀ (xs : List Str) {n : Nat}, (∀ x ∈ xs, x.length ≤ n) → (xs.map (·.length)).sum ≤ n * xs.length
  | [], n, _ => by simp
  | x :: xs, n, h => by
    have h1 := h x (.head _)
    have h2 := sum_le xs fun y hy => h y (.tail _ hy)
    simp only [List.map_cons, List.sum_cons, List.length_cons, Nat.mul_add]; omega
theorem glued_len (xs : List Str) {n : Nat} (h : ∀ x ∈ xs, x.length ≤ n) : (Txt.join "" xs).length ≤ n * xs.length := by
  have h1 : (Txt.join "" xs).length = (xs.map (·.length)).sum + (xs.length - 1) * 0 := PySem.size_glued "" xs
  have := sum_le xs h
  omega
theorem partsW : ∀ (cs : List Nat) (acc : List (Option Str)), (∀ c ∈ cs, c ≠ 42) → cs.foldl stepP acc = acc ++ (cs.map patS).map some
  | [], acc, _ => by simp
  | c :: cs, acc, h => by
    have e : stepP acc c = acc ++ [some (patS c)] := by
      unfold stepP patS
      rw [if_neg (h c (.head _))]
      split <;> rfl
    rw [List.foldl_cons, e, partsW cs _ fun d hd => h d (.tail _ hd)]
    simp
theorem joinW_s {w : World} (G : Gl PySem.Challenge.rw_in0278_02.prog w (Mine.K0 w.params)) {ps : List Str} (h1 : ∀ x ∈ ps, x.length ≤ 10) (h2 : ps.length ≤ 90) {a : Addr} {Q : V → Prop}
    (h : Q (.str (allT (Txt.join "" ps)))) : CS G 2 (.ref 111) [.lst (ps.map .str), .raw (.ref a)] Q := by
  k_fill
  have hR : (Txt.join "" ps).length ≤ 900 := Nat.le_trans (glued_len ps h1) (by omega)
  have hsum : (ps.map (·.length)).sum ≤ 900 := Nat.le_trans (sum_le ps h1) (by omega)
  refine CS_def [Str.ofString "inp", Str.ofString "STAR"] (by k_is) (by k_is) ?_ (fun xs hx => ?_)
  · have hn : (ps.map V.str).length = ps.length := List.length_map _
    have hsz : (ps.map V.str).length ≤ sizeLine := nat_len (by omega)
    have geti : ∀ (i : Nat) (hi : i < ps.length) (Q : V → Prop), Q (.str ps[i]) → Item G (.lst (ps.map V.str)) (.int i) Q := fun i hi Q q => S_lst (v := .str ps[i]) (by omega) (by omega) (by simp [hi]) q
    refine WS_cons (WX_own ?_)
    refine WS_cons (WX_app (by rfl) ?_)
    refine WS_cons (WX_swap2 ?_ (fun _ => rfl) (fun _ => rfl))
    refine WE_int ?_
    refine WE_bi (by k_is) bootLen rfl (WE_v (by rfl) (B_len_lst hsz ?_))
    rw [hn]
    refine WS_cons ?_
    refine WX_while (fun m l => ∃ j, m = ps.length - j ∧ j ≤ ps.length ∧ Has l [("inp", .v (.lst (ps.map V.str))), ("STAR", .v (.raw (.ref a))), ("res", .own ((ps.take j).map .str)), ("add", .app "res"), ("i", .v (.int j)), ("n", .v (.int ps.length))]) ps.length ⟨0, rfl, Nat.zero_le _, rfl, rfl, rfl, rfl, rfl, rfl, trivial⟩ (fun m l ⟨j, hm, hj, hl⟩ => ?_)
    refine WT.wk _ hl (WT_and2 (WT_cmp (WE_v (by rfl) (WE_v (by rfl) (C_ltI ?_)))))
    by_cases hjm : j < ps.length
    · refine ⟨fun e => absurd e (by simp <;> omega), fun _ => ?_⟩
      refine WT_cmp (WE_sub (WE_v (by rfl) (WE_v (by rfl) (geti j hjm _ ?_))))
      refine WE_v (by rfl) (C_isRS ⟨fun _ => ?_, fun e => (by cases e)⟩)
      refine WS.wk _ hl ?_
      refine WS_cons (WX_callApp (by rfl) (by rfl) (WE_sub (WE_v (by rfl) (WE_v (by rfl) (geti j hjm _ ?_)))))
      refine ⟨by rw [List.length_map, List.length_take]; exact nat_len (by omega), ?_⟩
      refine WS_cons (WX_aug (by rfl) (WE_int (I_add ?_)))
      refine WS_nil ⟨ps.length - (j + 1), by omega, j + 1, rfl, hjm, rfl, rfl, ?_, rfl, rfl, rfl, trivial⟩
      rw [List.take_add_one, List.getElem?_eq_getElem hjm, List.map_append]; rfl
    · have hje : j = ps.length := by omega
      subst hje
      refine ⟨fun _ => ⟨fun e => (by cases e), fun _ => ?_⟩, fun e => absurd e (by simp)⟩
      rw [List.take_length] at hl
      refine WS_nil (WS.wk _ hl ?_)
      refine WS_cons ?_
      refine WX_while (fun m l => Has l [("inp", .v (.lst (ps.map V.str))), ("STAR", .v (.raw (.ref a))), ("res", .own (ps.map .str)), ("add", .app "res"), ("i", .v (.int ps.length)), ("n", .v (.int ps.length))]) 0 ⟨rfl, rfl, rfl, rfl, rfl, rfl, trivial⟩ (fun m l hl => ?_)
      refine WT.wk _ hl (WT_cmp (WE_v (by rfl) (WE_v (by rfl) (C_ltI ?_))))
      refine ⟨fun e => absurd e (by simp), fun _ => ?_⟩
      refine WS_nil (WS.wk [("res", .own (ps.map .str)), ("i", .v (.int ps.length)), ("n", .v (.int ps.length))] ⟨hl.2.2.1, hl.2.2.2.2.1, hl.2.2.2.2.2.1, trivial⟩ ?_)
      refine WS_cons (WX_assert (WT_cmp (WE_v (by rfl) (WE_v (by rfl) (C_eqI ?_)))))
      refine ⟨by simp, ?_⟩
      refine WS_cons (WX_assign (WE_peek (WE_meth ?_)))
      refine WE_str ?_
      refine GM_str F.slot_str_join F.type_str_join ?_
      refine And.intro ?_ ?_
      · exact rfl
      refine WE_v (by rfl) (M_join ?_ ⟨rfl, ?_⟩)
      · show _ + _ * 0 ≤ _
        omega
      refine WS_cons (WX_ret ?_)
      refine WE_joined (WE_str ⟨_, rfl, nat_len (by decide), ?_⟩)
      refine WE_fmt (WE_v (by rfl) (Fmt_str (big hR (by decide)) ⟨_, rfl, ?_, ?_⟩))
      · exact big (catb len2 hR) (by decide)
      refine WE_str ⟨_, rfl, ?_, ?_, h⟩
      · exact big (catb (catb len2 hR) (show (Str.ofString ")\\Z").length ≤ 3 by decide)) (by decide)
      · exact big (catb (catb len2 hR) (show (Str.ofString ")\\Z").length ≤ 3 by decide)) (by decide)
  · obtain ⟨x1, x2, rfl⟩ := xl2 hx
    rfl
/-- translate's text for a pattern without stars -/
noncomputable def tranT (cs : List Nat) : Str := allT (Txt.join "" (cs.map patS))
theorem translate_s {w : World} (G : Gl PySem.Challenge.rw_in0278_02.prog w (Mine.K0 w.params)) {cs : List Nat} (hcs : ∀ c ∈ cs, c = 63 ∨ c ∈ signs) (hl : cs.length ≤ 20) {Q : V → Prop} (h : Q (.str (tranT cs))) :
    CS G 4 (.ref 85) [.str ⟨cs.toArray⟩] Q := by
  k_fill
  refine CS_def [Str.ofString "pat"] (by k_is) (by k_is) ?_ (fun xs hx => ?_)
  · refine WS_cons (WX_assign (WE_bi (by k_is) bootObject rfl (B_object fun st => ?_)))
    refine WS_cons (WX_assign (WE_def (by k_is) (by k_is) (WE_v (by rfl) ?_)))
    refine WE_v (by rfl) (WE_str ?_)
    refine (trans_s (cs := cs) G (fun x hx => .inr (hcs x hx)) (by omega) ?_).room (by omega)
    have hs : ∀ x ∈ signs, x ≠ 42 := by decide
    have e : (partsP cs).map (pv st) = (cs.map patS).map .str := by
      unfold partsP
      rw [partsW cs [] fun c hc => (hcs c hc).elim (fun e => by omega) (hs c), List.nil_append, List.map_map]; rfl
    rw [e]
    refine WS_cons (WX_ret (WE_def (by k_is) (by k_is) (WE_v (by rfl) (WE_v (by rfl) ?_))))
    refine (joinW_s G (fun x hx => ?_) (by rw [List.length_map]; omega) h).room (by omega)
    obtain ⟨c, _, rfl⟩ := List.mem_map.mp hx
    exact Nat.le_trans (pat_len c) (by decide)
  · obtain ⟨x1, rfl⟩ := xl1 hx
    rfl
end Mine

end
section
open PySem PySem.W PySem.Calls PyProof.Rows
set_option linter.unusedVariables false
set_option maxRecDepth 100000
namespace Mine
noncomputable def entK : List Str := ["useragents", "rulelines", "delay", "req_rate"]
noncomputable def entF (a1 a2 : Addr) : List V := [.raw (.ref a1), .raw (.ref a2), .nil, .nil]
theorem entry_s {w : World} (G : Gl PySem.Challenge.rw_in0278_02.prog w (Mine.K0 w.params)) (hC : G.C = 69) {A : Around} {z : Zp} {s : Shared} (hh : A.handled = none) (hR : Room 3 A) (zB : Bd G z s.heap) (hs : Sub z s.heap) :
    wpAny (model PySem.Challenge.rw_in0278_02.prog w) A (call (.ref 69) []) (fun x s' => ∃ z' p d l, x = .ref p ∧ z' p = some (instObj 69 d) ∧ NewL G.C z s z' s' l ∧ Made2 entK entF p d l) (fun _ _ => False) s := by
  k_fill
  refine new_inst (r := 1) (J := Made2 entK entF) (fI := 45) hC (by k_is) (by k_is) (by k_is) (by k_is) (by k_is) (fun p d => ?_) (fun x => rfl) (hh := hh) (hR := hR) (zB := zB) (hs := hs)
  have sf : ∀ nm, SetFacts (Mine.K0 w.params) 69 nm = true → SetFacts (Mine.K0 w.params) G.C nm = true := fun nm h => hC ▸ h
  refine WS_cons (WX_gsetNew (y := "#d") (yn := "#1") (sf _ (by kernel_rfl)) (by rfl) (by decide) (by decide) fun a1 => ⟨WE_v (by rfl) rfl, ?_⟩)
  refine WS_cons (WX_gsetNew (y := "#d") (yn := "#2") (sf _ (by kernel_rfl)) (by rfl) (by decide) (by decide) fun a2 => ⟨WE_v (by rfl) rfl, ?_⟩)
  refine WS_cons (WX_gset (y := "#d") (sf _ (by kernel_rfl)) (by rfl) (by decide) (WE_none ⟨WE_v (by rfl) rfl, ?_⟩))
  refine WS_cons (WX_gset (y := "#d") (sf _ (by kernel_rfl)) (by rfl) (by decide) (WE_none ⟨WE_v (by rfl) rfl, ?_⟩))
  exact WS_nil ⟨a1, a2, rfl, rfl, rfl, trivial⟩
end Mine

end
section
open PySem PySem.W PySem.Calls PyProof.Rows
set_option linter.unusedVariables false
set_option maxRecDepth 100000
namespace Mine
open PySem.StrLaws
/-! texts as lists of signs -/
noncomputable def tx (cs : List Nat) : Str := ⟨cs.toArray⟩
theorem join_eq (s : Str) (xs : List Str) : Txt.join s xs = Str.join s xs := glued_eq_join s xs
theorem join0 : ∀ (ls : List (List Nat)), Str.join "" (ls.map tx) = tx ls.flatten
  | [] => rfl
  | [x] => by simp [Str.join, tx]
  | x :: y :: r => by
    have ih := join0 (y :: r)
    show tx x ++ "" ++ Str.join "" ((y :: r).map tx) = _
    rw [ih]
    show (⟨_⟩ : Str) = ⟨_⟩
    congr 1
    apply Array.ext'
    simp only [Str.cps_append, Array.toList_append, tx, List.flatten_cons]
    simp
    rfl
theorem tx_app (a b : List Nat) : tx a ++ tx b = tx (a ++ b) := by
  show (⟨_⟩ : Str) = ⟨_⟩
  congr 1
  apply Array.ext'
  simp [tx]
noncomputable def piece (c : Nat) : List Nat := if c = 63 then [46] else if c = 45 then [92, 45] else [c]
theorem patS_tx (c : Nat) : patS c = tx (piece c) := by
  unfold patS piece
  by_cases h : c = 63
  · rw [if_pos h, if_pos h]; rfl
  · rw [if_neg h, if_neg h]
    unfold escS
    by_cases h2 : c = 45
    · rw [if_pos (by simpa using h2), if_pos h2]; rfl
    · rw [if_neg (by simpa using h2), if_neg h2]; rfl
noncomputable def tranL (cs : List Nat) : List Nat := [40, 63, 115, 58] ++ cs.flatMap piece ++ [41, 92, 90]
theorem tranT_tx (cs : List Nat) : tranT cs = tx (tranL cs) := by
  unfold tranT allT
  have : cs.map patS = (cs.map piece).map tx := by rw [List.map_map]; exact List.map_congr_left fun c _ => patS_tx c
  rw [this, join_eq, join0]
  show tx [] ++ tx [40, 63, 115, 58] ++ tx _ ++ tx [41, 92, 90] = _
  rw [tx_app, tx_app, tx_app, List.nil_append]
  rfl
noncomputable def asksFrom : Nat → List Nat → List (Nat × Nat)
  | _, [] => []
  | i, c :: cs => if c = 63 then asksFrom (i + 1) cs else (i, c) :: asksFrom (i + 1) cs
noncomputable def askV (p : Nat × Nat) : V := .tup [.int (p.1 : Nat), .str (tx [p.2])]
theorem asksFrom_snoc : ∀ (i : Nat) (cs : List Nat) (c : Nat), asksFrom i (cs ++ [c]) = asksFrom i cs ++ if c = 63 then [] else [(i + cs.length, c)]
  | i, [], c => by simp [asksFrom]
  | i, d :: cs, c => by
    have ih := asksFrom_snoc (i + 1) cs c
    simp only [List.cons_append, asksFrom, ih]
    split <;> simp [Nat.add_assoc, Nat.add_comm 1]
theorem asks_len : ∀ (i : Nat) (cs : List Nat), (asksFrom i cs).length ≤ cs.length
  | i, [] => Nat.le_refl _
  | i, d :: cs => by
    have := asks_len (i + 1) cs
    unfold asksFrom; split <;> simp <;> omega
theorem item_tx {cs : List Nat} {i c : Nat} (h : cs[i]? = some c) : Txt.item (tx cs) (i : Int) = tx [c] ∧ (Txt.charAt (tx cs) (i : Int)).isSome = true := item_at h
theorem tx_beq (c d : Nat) : (tx [c] == tx [d]) = (c == d) := one_beq c d
theorem at_piece (cs : List Nat) (i c : Nat) (h : cs[i]? = some c) : ∃ a b, tranL cs = a ++ piece c ++ b ∧ a.length = 4 + ((cs.take i).flatMap piece).length ∧ tranL cs = [40, 63, 115, 58] ++ (cs.take i).flatMap piece ++ (piece c ++ b) := by
  have e : cs = cs.take i ++ c :: cs.drop (i + 1) := by
    rw [← drop_eq h, List.take_append_drop]
  refine ⟨[40, 63, 115, 58] ++ (cs.take i).flatMap piece, (cs.drop (i + 1)).flatMap piece ++ [41, 92, 90], ?_, by rw [List.length_append]; rfl, ?_⟩
  · conv => lhs; unfold tranL; rw [e]
    simp
  · conv => lhs; unfold tranL; rw [e]
    simp
theorem get_app {a b : List Nat} {n k c : Nat} (hn : n = a.length + k) (h : b[k]? = some c) : (a ++ b)[n]? = some c := by
  rw [hn, List.getElem?_append_right (by omega), Nat.add_sub_cancel_left]; exact h
theorem bootRange : bootBuiltins "range" = some (.type "range") := by decide +kernel
theorem tranL_len (cs : List Nat) : (tranL cs).length ≤ 7 + 2 * cs.length := by
  unfold tranL
  have : (cs.flatMap piece).length ≤ 2 * cs.length := by
    induction cs with
    | nil => simp
    | cons c cs ih =>
      rw [List.flatMap_cons, List.length_append, List.length_cons]
      have : (piece c).length ≤ 2 := by
        unfold piece; split
        · exact (by decide : 1 ≤ 2)
        · split
          · exact (by decide : 2 ≤ 2)
          · exact (by decide : 1 ≤ 2)
      omega
  rw [List.length_append, List.length_append]
  show 4 + _ + 3 ≤ _
  omega
theorem piece_flat_snoc (cs : List Nat) (i c : Nat) (h : cs[i]? = some c) : ((cs.take (i + 1)).flatMap piece).length = ((cs.take i).flatMap piece).length + (piece c).length := by
  rw [List.take_add_one, h]; simp
theorem slice_end (cs : List Nat) : Txt.slice (tx (tranL cs)) (some (((4 + (cs.flatMap piece).length : Nat)) : Int)) none = tx [41, 92, 90] ∧ Txt.slice (tx (tranL cs)) none (some 4) = tx [40, 63, 115, 58] := by
  have hn : (tx (tranL cs)).cps.toList = tranL cs := by simp [tx]
  have hl : (tranL cs).length = 4 + (cs.flatMap piece).length + 3 := by unfold tranL; rw [List.length_append, List.length_append]; rfl
  constructor
  · have := sliceText_from (x := tx (tranL cs)) (i := ((4 + (cs.flatMap piece).length : Nat) : Int)) ⟨by omega, by rw [hn, hl]; omega⟩
    refine (show Txt.slice _ _ _ = _ from this).trans ?_
    rw [hn, hl]
    unfold tx
    congr 2
    have e1 : ((4 + (cs.flatMap piece).length : Nat) : Int).toNat = ([40, 63, 115, 58] ++ cs.flatMap piece).length := by rw [List.length_append]; rfl
    rw [e1]
    unfold tranL
    rw [List.drop_left, List.take_of_length_le]
    show 3 ≤ _
    omega
  · have := sliceText_to (x := tx (tranL cs)) (j := 4) ⟨by omega, by rw [hn, hl]; omega⟩
    refine (show Txt.slice _ _ _ = _ from this).trans ?_
    rw [hn]
    rfl
theorem asks_s {w : World} (G : Gl PySem.Challenge.rw_in0278_02.prog w (Mine.K0 w.params)) {cs : List Nat} (hcs : ∀ c ∈ cs, c = 63 ∨ c ∈ signs) (hlen : cs.length = 10) {Q : V → Prop} (h : Q (.lst ((asksFrom 0 cs).map askV))) :
    CS G 2 (.ref 165) [.str (tx (tranL cs))] Q := by
  k_fill
  refine CS_def [Str.ofString "text"] (by k_is) (by k_is) ?_ (fun xs hx => ?_)
  · refine WS_cons (WX_swap2N "#a" ?_ (fun _ => rfl) (fun _ => rfl))
    refine WE_int (fun a => ?_)
    refine WS_cons ?_
    refine WX_forI (WIc.toWI (WIc_rng (WE_bi (by k_is) bootRange rfl (WE_int (B_range1 ⟨0, 10, rfl, by unfold okR; decide, ?_⟩)))))
    have tl := tranL_len cs
    refine WF.ind _ (fun i l => i ≤ 10 ∧ Has l [("text", .v (.str (tx (tranL cs)))), ("asks", .v (.raw (.ref a))), ("#a", .gl a ((asksFrom 0 (cs.take i)).map askV)), ("place", .v (.int (4 + ((cs.take i).flatMap piece).length : Nat)))]) ⟨Nat.zero_le _, rfl, rfl, rfl, rfl, trivial⟩ (fun i v l hv ⟨hi10, hl⟩ => ?_) (fun l ⟨_, hl⟩ => ?_)
    · have hi : i < 10 := by
        have := (List.getElem?_eq_some_iff.mp hv).1
        rw [List.length_map, rngV_len] at this; exact this
      rw [List.getElem?_map, rngV_get hi] at hv
      cases hv
      rw [Int.zero_add]
      obtain ⟨c, hc⟩ : ∃ c, cs[i]? = some c := ⟨cs[i], List.getElem?_eq_getElem (by omega)⟩
      have hcm := hcs c (List.mem_of_getElem? hc)
      obtain ⟨pa, pb, e1, e2, _⟩ := at_piece cs i c hc
      have hpl := piece_flat_snoc cs i c hc
      have htk : (asksFrom 0 (cs.take (i + 1))).map askV = (asksFrom 0 (cs.take i)).map askV ++ if c = 63 then [] else [askV (i, c)] := by
        rw [List.take_add_one, hc]
        show (asksFrom 0 (cs.take i ++ [c])).map askV = _
        rw [asksFrom_snoc, List.map_append, List.length_take, Nat.zero_add, Nat.min_eq_left (by omega)]
        split <;> rfl
      have al : ((asksFrom 0 (cs.take i)).map askV).length ≤ sizeLine := by
        have := asks_len 0 (cs.take i)
        rw [List.length_take] at this
        rw [List.length_map]; exact nat_len (by omega)
      have hT : ∀ k d, (piece c)[k]? = some d → (tranL cs)[4 + ((cs.take i).flatMap piece).length + k]? = some d := fun k d hd => by
        rw [e1, List.append_assoc]
        refine get_app (b := piece c ++ pb) (by rw [e2]) ?_
        rw [List.getElem?_append_left (List.getElem?_eq_some_iff.mp hd).1]; exact hd
      generalize hP : 4 + ((cs.take i).flatMap piece).length = P at hl hT
      have hPl : ∀ k d, (piece c)[k]? = some d → P + k < 1000 := fun k d hd => by
        have := (List.getElem?_eq_some_iff.mp (hT k d hd)).1
        omega
      have hnext : 4 + ((cs.take (i + 1)).flatMap piece).length = P + (piece c).length := by omega
      rw [htk, hnext]
      have itm : ∀ (k d : Nat) (Q : V → Prop), (piece c)[k]? = some d → Q (.str (tx [d])) → Item G (.str (tx (tranL cs))) (.int ((P + k : Nat) : Int)) Q := fun k d Q hd q => by
        obtain ⟨i1, i2⟩ := item_tx (hT k d hd)
        exact S_str (fits_small (by omega) (by have := hPl k d hd; omega)) i2 (by rw [i1]; exact q)
      refine WAs.wk _ hl (WAs_name ?_)
      by_cases h63 : c = 63
      · have hp : piece c = [46] := by unfold piece; rw [if_pos h63]
        refine WS_cons (WX_if (WT_cmp (WE_sub (WE_v (by rfl) (WE_v (by rfl) (itm 0 46 _ (by rw [hp]; rfl) ?_))))))
        refine WE_str (C_neS ⟨fun e => absurd e (by decide), fun _ => ?_⟩)
        refine WS_nil (WS_cons (WX_aug (by rfl) (WE_int (I_add ?_))))
        refine WS_nil ⟨hi, rfl, rfl, ?_, ?_, trivial⟩
        · rw [if_pos h63, List.append_nil]; rfl
        · rw [hp]; rfl
      · have hs : c ∈ signs := hcm.resolve_left h63
        have hs2 : ∀ x ∈ signs, x ≠ 46 ∧ x ≠ 92 := by decide
        by_cases h45 : c = 45
        · have hp : piece c = [92, 45] := by unfold piece; rw [if_neg h63, if_pos h45]
          refine WS_cons (WX_if (WT_cmp (WE_sub (WE_v (by rfl) (WE_v (by rfl) (itm 0 92 _ (by rw [hp]; rfl) ?_))))))
          refine WE_str (C_neS ⟨fun _ => ?_, fun e => absurd e (by decide)⟩)
          refine WS_cons (WX_if (WT_cmp (WE_sub (WE_v (by rfl) (WE_v (by rfl) (itm 0 92 _ (by rw [hp]; rfl) ?_))))))
          refine WE_str (C_eqS ⟨fun _ => ?_, fun e => absurd e (by decide)⟩)
          refine WS_cons (WX_aug (by rfl) (WE_int (I_add ?_)))
          refine WS_nil (WS_cons (WX_appendG "#a" (by rfl) (WE_v (by rfl) rfl) (WE_tuple (WE_v (by rfl) (WE_sub (WE_v (by rfl) (WE_v (by rfl) ?_)))))))
          refine itm 1 45 _ (by rw [hp]; rfl) ⟨by show 2 ≤ sizeLine; rw [sizeLine_eq]; omega, al, ?_⟩
          refine WS_nil (WS_cons (WX_aug (by rfl) (WE_int (I_add ?_))))
          refine WS_nil ⟨hi, rfl, rfl, ?_, ?_, trivial⟩
          · rw [if_neg h63, h45]; rfl
          · rw [hp]; rfl
        · have hp : piece c = [c] := by unfold piece; rw [if_neg h63, if_neg h45]
          refine WS_cons (WX_if (WT_cmp (WE_sub (WE_v (by rfl) (WE_v (by rfl) (itm 0 c _ (by rw [hp]; rfl) ?_))))))
          refine WE_str (C_neS ?_)
          rw [show Str.ofString "." = tx [46] from rfl, show (tx [c] != tx [46]) = !(tx [c] == tx [46]) from rfl, tx_beq, show (c == 46) = false by simpa using (hs2 c hs).1]
          refine ⟨fun _ => ?_, fun e => absurd e (by decide)⟩
          refine WS_cons (WX_if (WT_cmp (WE_sub (WE_v (by rfl) (WE_v (by rfl) (itm 0 c _ (by rw [hp]; rfl) ?_))))))
          refine WE_str (C_eqS ?_)
          rw [show Str.ofString "\\" = tx [92] from rfl, tx_beq, show (c == 92) = false by simpa using (hs2 c hs).2]
          refine ⟨fun e => (by cases e), fun _ => ?_⟩
          refine WS_nil (WS_cons (WX_appendG "#a" (by rfl) (WE_v (by rfl) rfl) (WE_tuple (WE_v (by rfl) (WE_sub (WE_v (by rfl) (WE_v (by rfl) ?_)))))))
          refine itm 0 c _ (by rw [hp]; rfl) ⟨by show 2 ≤ sizeLine; rw [sizeLine_eq]; omega, al, ?_⟩
          refine WS_nil (WS_cons (WX_aug (by rfl) (WE_int (I_add ?_))))
          refine WS_nil ⟨hi, rfl, rfl, ?_, ?_, trivial⟩
          · rw [if_neg h63]; rfl
          · rw [hp]; rfl
    · have e10 : cs.take ((rngV 0 10).map V.int).length = cs := by rw [List.length_map, rngV_len]; exact List.take_of_length_le (by rw [hlen]; decide)
      rw [e10] at hl
      refine WS_nil (WS.wk _ hl ?_)
      refine WS_fill "#a" "asks" (.v (.lst ((asksFrom 0 cs).map askV))) (by rfl) (by rfl) (fun z hz => turn_v hz) ?_
      obtain ⟨s1, s2⟩ := slice_end cs
      have tls : (tx (tranL cs)).length ≤ sizeLine := by
        show (tranL cs).toArray.size ≤ _
        rw [List.size_toArray]; exact nat_len (by omega)
      refine WS_cons (WX_ret (WE_ite (WT_and2 (WT_cmp (WE_slc (WE_v (by rfl) ?_))))))
      refine WE_int ⟨_, rfl, SL_str tls ?_⟩
      rw [s2]
      refine WE_str (C_eqS ⟨fun e => absurd e (by decide), fun _ => ?_⟩)
      refine WT_cmp (WE_slc (WE_v (by rfl) ?_))
      refine WE_v (by rfl) ⟨_, rfl, SL_str tls ?_⟩
      rw [s1]
      refine WE_str (C_eqS ⟨fun _ => WE_v (by rfl) h, fun e => absurd e (by decide)⟩)
  · obtain ⟨x1, rfl⟩ := xl1 hx
    rfl
end Mine

end
section
open PySem PySem.W PySem.Calls PyProof.Rows
set_option linter.unusedVariables false
set_option maxRecDepth 100000
namespace Mine
/-! what a rule asks of a row -/
noncomputable def meets (p : Nat × Nat) (row : List Nat) : Bool := row[p.1]? == some p.2
noncomputable def reachI (asks : List (Nat × Nat)) (row : List Nat) : Int := if asks.all (fun p => meets p row) = true then (asks.length + 1 : Nat) else 0
theorem reach_s {w : World} (G : Gl PySem.Challenge.rw_in0278_02.prog w (Mine.K0 w.params)) {asks : List (Nat × Nat)} {row : List Nat} (h1 : asks.length ≤ 100) (h2 : row.length = 10) (h3 : ∀ p ∈ asks, p.1 < 10) {Q : V → Prop} (h : Q (.int (reachI asks row))) :
    CS G 2 (.ref 172) [.lst (asks.map askV), .str (tx row)] Q := by
  k_fill
  refine CS_def [Str.ofString "asks", Str.ofString "row"] (by k_is) (by k_is) ?_ (fun xs hx => ?_)
  · refine WS_cons ?_
    refine WX_forI (WI_seq (WE_v (by rfl) ⟨_, .inl rfl, ?_⟩))
    refine WF.ind _ (fun i l => Has l [("asks", .v (.lst (asks.map askV))), ("row", .v (.str (tx row)))] ∧ (asks.take i).all (fun p => meets p row) = true) ⟨⟨rfl, rfl, trivial⟩, by simp⟩ (fun i v l hv ⟨hl, ha⟩ => ?_) (fun l ⟨hl, ha⟩ => ?_)
    · rw [List.getElem?_map] at hv
      obtain ⟨p, hp, rfl⟩ := Option.map_eq_some_iff.mp hv
      have hpm := h3 p (List.mem_of_getElem? hp)
      obtain ⟨d, hd⟩ : ∃ d, row[p.1]? = some d := ⟨_, List.getElem?_eq_getElem (by omega)⟩
      obtain ⟨i1, i2⟩ := item_tx hd
      refine WAs.wk _ hl (WAs_tup (WAs_name (WAs_name ?_)))
      refine WS_cons (WX_if (WT_cmp (WE_sub (WE_v (by rfl) (WE_v (by rfl) (S_str (fits_small (by omega) (by omega)) i2 ?_))))))
      rw [i1]
      refine WE_v (by rfl) (C_neS ?_)
      rw [show (tx [d] != tx [p.2]) = !(tx [d] == tx [p.2]) from rfl, tx_beq]
      have hm : meets p row = (d == p.2) := by unfold meets; rw [hd]; rfl
      refine ⟨fun c => ?_, fun c => ?_⟩
      · refine WS_cons (WX_ret (WE_int ?_))
        have : reachI asks row = 0 := by
          unfold reachI
          rw [if_neg]
          intro hall
          have := List.all_eq_true.mp hall p (List.mem_of_getElem? hp)
          rw [hm] at this; rw [this] at c; cases c
        rw [this] at h; exact h
      · refine WS_nil (WS_nil ⟨⟨rfl, rfl, trivial⟩, ?_⟩)
        rw [List.take_add_one, hp, List.all_append, ha, Bool.true_and]
        show (meets p row && true) = true
        rw [hm, Bool.and_true]
        simpa using c
    · rw [List.length_map, List.take_length] at ha
      refine WS_nil (WS.wk _ hl ?_)
      refine WS_cons (WX_ret (WE_bin (WE_bi (by k_is) bootLen rfl (WE_v (by rfl) (B_len_lst (by rw [List.length_map]; exact nat_len (by omega)) ?_)))))
      refine WE_int (A_add ?_)
      have : reachI asks row = (((asks.map askV).length : Nat) : Int) + 1 := by unfold reachI; rw [if_pos ha, List.length_map]; rfl
      rw [this] at h; exact h
  · obtain ⟨x1, x2, rfl⟩ := xl2 hx
    rfl

/-! a rule -/
noncomputable def lamE : Expr → Lam
  | Expr.Lambda a b s _ => ⟨"_law_rule.<locals>.<lambda>", a, b, s, "asks"⟩
  | e => ⟨"", default, e, default, ""⟩
noncomputable def lamS : Option Stmt → Lam
  | some (Stmt.Assign _ e _) => lamE e
  | _ => ⟨"", default, Expr.Constant Const.none 0 default, default, ""⟩
noncomputable def lamD : Lam := lamS (dB (dT 38))[2]?
noncomputable def ruleK : List Str := ["useragents", "rulelines", "delay", "req_rate", "applies_to", "allowance"]
noncomputable def ruleV (asks : List (Nat × Nat)) (v : Bool) : V := .ins ruleK [.lst [], .lst [], .nil, .nil, .fn lamD (.lst (asks.map askV)), .bool v]
theorem turn_gd1 {C : Addr} {z : Zp} {d a : Addr} {ks : List Str} {ys rest : List V} (hz : Rz C z (.lst ys) (.ref a)) : Turns C z (.gd d ks (.raw (.ref a) :: rest)) (.gd d ks (.lst ys :: rest)) :=
  ⟨rfl, rfl, fun xs ⟨x, r, e, hx, rr⟩ => ⟨x, r, e, (show x = .ref a from hx) ▸ hz, rr⟩⟩
theorem turn_gd2 {C : Addr} {z : Zp} {d a : Addr} {ks : List Str} {v : V} {ys rest : List V} (hz : Rz C z (.lst ys) (.ref a)) : Turns C z (.gd d ks (v :: .raw (.ref a) :: rest)) (.gd d ks (v :: .lst ys :: rest)) :=
  ⟨rfl, rfl, fun xs ⟨x, r, e, hx, x', r', e', hx', rr⟩ => ⟨x, r, e, hx, x', r', e', (show x' = .ref a from hx') ▸ hz, rr⟩⟩
theorem rule_s {w : World} (G : Gl PySem.Challenge.rw_in0278_02.prog w (Mine.K0 w.params)) (hC : G.C = 69) (hG : G.q = true) {cs : List Nat} (hcs : ∀ c ∈ cs, c = 63 ∨ c ∈ signs) (hlen : cs.length = 10) {v : Bool} {Q : V → Prop} (h : Q (ruleV (asksFrom 0 cs) v)) :
    CS G 4 (.ref 179) [.str (tx (tranL cs)), .bool v] Q := by
  k_fill
  have sf : ∀ nm, SetFacts (Mine.K0 w.params) 69 nm = true → SetFacts (Mine.K0 w.params) G.C nm = true := fun nm h => hC ▸ h
  refine CS_defC (c := 178) [Str.ofString "text", Str.ofString "verdict"] (by k_is) (by k_is) ?_ (fun xs hx => ?_) (fun _ => rfl)
  · refine WS_cons (WX_assign (WE_def (by k_is) (by k_is) (WE_v (by rfl) ((asks_s G hcs hlen ?_).room (by omega)))))
    refine WS_ca "#asks" "asks" (fun c => ?_)
    refine WS_cons (WX_new (ks := entK) (f := entF) (by k_is) (by k_is) (fun A z s hh hR zB hs => entry_s G hC hh hR zB hs) hC fun p d a1 a2 => ?_)
    refine WS_cons (WX_gset (y := "#d") (sf _ (by kernel_rfl)) (by rfl) (by decide) (WE_lam (nm := "asks") (xa := "#asks") (by rfl) hG (by rfl) ⟨WE_v (by rfl) rfl, ?_⟩ ?_))
    · refine WS_cons (WX_gset (y := "#d") (sf _ (by kernel_rfl)) (by rfl) (by decide) (WE_v (by rfl) ⟨WE_v (by rfl) rfl, ?_⟩))
      refine WS_fill "#1" "#d" (.gd d ruleK [.lst [], .raw (.ref a2), .nil, .nil, .lam lamD c, .bool v]) (by rfl) (by rfl) (fun z hz => turn_gd1 hz) ?_
      refine WS_fill "#2" "#d" (.gd d ruleK [.lst [], .lst [], .nil, .nil, .lam lamD c, .bool v]) (by rfl) (by rfl) (fun z hz => turn_gd2 hz) ?_
      refine WS_fillObj "#d" "rule" (by rfl) (by rfl) ?_
      refine WS_cons (WX_retLam (xa := "#asks") (nm := "asks") (c := c) (by rfl) (by rfl) (by rfl) ?_)
      have e : ([.lst [], .lst [], .nil, .nil, .lam lamD c, .bool v] : List V).map (V.closed c (.lst ((asksFrom 0 cs).map askV))) = [.lst [], .lst [], .nil, .nil, .fn lamD (.lst ((asksFrom 0 cs).map askV)), .bool v] := by
        simp [V.closed]
      rw [e]
      exact h
    · intro cells hc
      simp [cellsOf, hc]
  · obtain ⟨x1, x2, rfl⟩ := xl2 hx
    rfl
end Mine

end
section
open PySem PySem.W PySem.Calls PyProof.Rows
set_option linter.unusedVariables false
set_option maxRecDepth 100000
namespace Mine
noncomputable abbrev Rul := List (Nat × Nat) × Bool
noncomputable def rulV (r : Rul) : V := ruleV r.1 r.2
noncomputable def recV (rs : List Rul) : V := .ins entK [.lst [], .lst (rs.map rulV), .nil, .nil]
noncomputable def stepA (row : List Nat) (st : Int × Bool) (r : Rul) : Int × Bool :=
  if reachI r.1 row = 0 then st else if reachI r.1 row > st.1 then (reachI r.1 row, r.2) else if reachI r.1 row = st.1 then (if st.2 = true then st else (st.1, r.2)) else st
noncomputable def allowF (rs : List Rul) (row : List Nat) : Bool := (rs.foldl (stepA row) (-1, true)).2
theorem allow_s {w : World} (G : Gl PySem.Challenge.rw_in0278_02.prog w (Mine.K0 w.params)) (hC : G.C = 69) {rs : List Rul} {row : List Nat} (h1 : ∀ p ∈ rs, p.1.length ≤ 100) (h2 : row.length = 10) (h3 : ∀ r ∈ rs, ∀ p ∈ r.1, p.1 < 10) {Q : V → Prop} (h : Q (.bool (allowF rs row))) :
    CS G 4 (.ref 66) [recV rs, .str (tx row)] Q := by
  k_fill
  have vf : ∀ nm, valFirst (Mine.K0 w.params) 69 nm = true → valFirst (Mine.K0 w.params) G.C nm = true := fun nm h => hC ▸ h
  have f2 : findIn (Mine.K0 w.params) (.ref G.C) "applies_to" = some (some (.ref 59)) := by rw [hC]; k_is
  have f3 : isFn (Mine.K0 w.params) (.ref 59) = true := by k_is
  refine CS_def [Str.ofString "self", Str.ofString "filename"] (by k_is) (by k_is) ?_ (fun xs hx => ?_)
  · refine WS_cons (WX_assign (WE_neg (WE_int ⟨_, rfl, ?_⟩)))
    refine WS_cons (WX_assign (WE_bool ?_))
    refine WS_cons ?_
    refine WX_forI (WI_seq (WE_ia (vf _ (by kernel_rfl)) (WE_v (by rfl) ⟨_, _, _, rfl, by rfl, (fun q e => by cases e), _, .inl rfl, ?_⟩)))
    refine WF.ind _ (fun i l => ∃ st, (rs.take i).foldl (stepA row) (-1, true) = st ∧ Has l [("filename", .v (.str (tx row))), ("best_match", .v (.int st.1)), ("allowance", .v (.bool st.2))]) ⟨_, rfl, rfl, rfl, rfl, trivial⟩ (fun i u l hu ⟨st, hst, hl⟩ => ?_) (fun l ⟨st, hst, hl⟩ => ?_)
    · rw [List.getElem?_map] at hu
      obtain ⟨p, hp, rfl⟩ := Option.map_eq_some_iff.mp hu
      have hpm : p ∈ rs := List.mem_of_getElem? hp
      have htk : (rs.take (i + 1)).foldl (stepA row) (-1, true) = stepA row st p := by
        rw [List.take_add_one, hp, List.foldl_append, hst]; rfl
      rw [htk]
      obtain ⟨b, a⟩ := st
      dsimp only at hl
      refine WAs.wk _ hl (WAs_name ?_)
      refine WS_cons (WX_assign (WE_methFn "row" (vf _ (by kernel_rfl)) f2 f3 (WE_v (by rfl) ⟨_, _, _, _, rfl, by rfl, fun _ _ _ _ _ => rfl, by rfl, by rfl, by rfl, by rfl, by rfl, by rfl, ?_⟩)))
      refine WE_v (by rfl) (WE_def (f := 172) (by k_is) (by k_is) (WE_v (by rfl) (WE_v (by rfl) ((reach_s G (h1 p hpm) h2 (h3 p hpm) ?_).room (by omega)))))
      have hs : stepA row (b, a) p = if reachI p.1 row = 0 then (b, a) else if reachI p.1 row > b then (reachI p.1 row, p.2) else if reachI p.1 row = b then (if a = true then (b, a) else (b, p.2)) else (b, a) := rfl
      rw [hs]
      generalize reachI p.1 row = m
      refine WS_cons (WX_if (WT_val (WE_v (by rfl) (T_int ?_))))
      refine ⟨fun c0 => ?_, fun c0 => ?_⟩
      · have c0 : m ≠ 0 := by simpa using c0
        rw [if_neg c0]
        refine WS_cons (WX_if (WT_cmp (WE_v (by rfl) (WE_v (by rfl) (C_gtI ?_)))))
        refine ⟨fun c1 => ?_, fun c1 => ?_⟩
        · have c1 : m > b := by simpa using c1
          rw [if_pos c1]
          refine WS_cons (WX_assign (WE_v (by rfl) ?_))
          refine WS_cons (WX_assign (WE_ia (vf _ (by kernel_rfl)) (WE_v (by rfl) ⟨_, _, _, rfl, by rfl, (fun q e => by cases e), ?_⟩)))
          repeat refine WS_nil ?_
          exact ⟨_, rfl, rfl, rfl, rfl, trivial⟩
        · have c1 : ¬ m > b := by simpa using c1
          rw [if_neg c1]
          refine WS_cons (WX_if (WT_and2 (WT_cmp (WE_v (by rfl) (WE_v (by rfl) (C_eqI ?_))))))
          by_cases c2 : m = b
          · rw [if_pos c2]
            refine ⟨fun e => absurd e (by simp [c2]), fun _ => ?_⟩
            refine WT_not (WT_val (WE_v (by rfl) (T_bool ?_)))
            cases a with
            | true =>
              refine ⟨fun e => (by cases e), fun _ => ?_⟩
              repeat refine WS_nil ?_
              exact ⟨_, rfl, rfl, rfl, rfl, trivial⟩
            | false =>
              refine ⟨fun _ => ?_, fun e => (by cases e)⟩
              refine WS_cons (WX_assign (WE_ia (vf _ (by kernel_rfl)) (WE_v (by rfl) ⟨_, _, _, rfl, by rfl, (fun q e => by cases e), ?_⟩)))
              repeat refine WS_nil ?_
              exact ⟨_, rfl, rfl, rfl, rfl, trivial⟩
          · rw [if_neg c2]
            refine ⟨fun _ => ⟨fun e => (by cases e), fun _ => ?_⟩, fun e => absurd e (by simpa using c2)⟩
            repeat refine WS_nil ?_
            exact ⟨_, rfl, rfl, rfl, rfl, trivial⟩
      · have c0 : m = 0 := by simpa using c0
        rw [if_pos c0]
        repeat refine WS_nil ?_
        exact ⟨_, rfl, rfl, rfl, rfl, trivial⟩
    · rw [List.length_map, List.take_length] at hst
      refine WS_nil (WS.wk _ hl ?_)
      have : st.2 = allowF rs row := by unfold allowF; rw [hst]
      refine WS_cons (WX_ret (WE_v (by rfl) ?_))
      rw [this]; exact h
  · obtain ⟨x1, x2, rfl⟩ := xl2 hx
    rfl
end Mine

end
section
open PySem PySem.W PySem.Calls PyProof.Rows
set_option linter.unusedVariables false
set_option maxRecDepth 100000
namespace Mine
/-! the modes -/
noncomputable def heldI (c : Nat) : Int := 2 ^ (9 - c)
noncomputable def modeStep (leaf : Nat) (m : Int) (p : Nat × Nat) : Int := m - Builtin.bitAnd m (heldI p.2) + heldI p.2 * Builtin.bitAnd (((leaf : Int)).fdiv (2 ^ (2 - p.1))) 1
noncomputable def modeF (m : Int) (chosen : List Nat) (leaf : Nat) : Int := (chosen.zipIdx.map fun p => (p.2, p.1)).foldl (modeStep leaf) m
theorem held_bits : ∀ c : Fin 10, Builtin.Int.intBits (heldI c.val) ≤ 64 := by decide +kernel
theorem mode_s {w : World} (G : Gl PySem.Challenge.rw_in0278_02.prog w (Mine.K0 w.params)) {m : Int} {c0 c1 c2 leaf : Nat} (h0 : c0 ≤ 9) (h1 : c1 ≤ 9) (h2 : c2 ≤ 9) (hl : leaf < 8) {Q : V → Prop} (h : Q (.int (modeF m [c0, c1, c2] leaf))) :
    CS G 2 (.ref 186) [.int m, .lst ([c0, c1, c2].map fun c : Nat => V.int c), .int leaf] Q := by
  k_fill
  refine CS_def [Str.ofString "mode", Str.ofString "chosen", Str.ofString "leaf"] (by k_is) (by k_is) ?_ (fun xs hx => ?_)
  · refine WS_cons ?_
    refine WX_forI (WI_enum (by k_is) (WE_v (by rfl) ⟨_, .inl rfl, ?_⟩))
    have hcol : ∀ c ∈ [c0, c1, c2], c ≤ 9 := by intro c hc; simp at hc; rcases hc with rfl | rfl | rfl <;> assumption
    refine WF.ind _ (fun i l => Has l [("mode", .v (.int ((([c0, c1, c2].zipIdx.map fun p => (p.2, p.1)).take i).foldl (modeStep leaf) m))), ("leaf", .v (.int leaf))]) ⟨rfl, rfl, trivial⟩ (fun i v l hv hl' => ?_) (fun l hl' => ?_)
    · obtain ⟨u, hu, rfl⟩ := enumV_get hv
      rw [List.getElem?_map] at hu
      obtain ⟨c, hc, rfl⟩ := Option.map_eq_some_iff.mp hu
      have hi : i < 3 := (List.getElem?_eq_some_iff.mp hc).1
      have hc9 := hcol c (List.mem_of_getElem? hc)
      have htk : (([c0, c1, c2].zipIdx.map fun p => (p.2, p.1)).take (i + 1)).foldl (modeStep leaf) m = modeStep leaf ((([c0, c1, c2].zipIdx.map fun p => (p.2, p.1)).take i).foldl (modeStep leaf) m) (i, c) := by
        rw [List.take_add_one, List.foldl_append, List.getElem?_map, List.getElem?_zipIdx, hc]; simp
      rw [htk]
      generalize (([c0, c1, c2].zipIdx.map fun p => (p.2, p.1)).take i).foldl (modeStep leaf) m = q at hl'
      rw [Nat.zero_add]
      refine WAs.wk _ hl' (WAs_tup (WAs_name (WAs_name ?_)))
      refine WS_cons (WX_assign (WE_bin (WE_int (WE_bin (WE_int (WE_v (by rfl) (A_sub ?_)))))))
      refine A_shl (by omega) (by omega) (by decide) ?_
      have eh : (1 : Int) * 2 ^ ((9 : Int) - (c : Nat)).toNat = heldI c := by
        unfold heldI
        rw [Int.one_mul, show ((9 : Int) - (c : Nat)).toNat = 9 - c by omega]
      rw [eh]
      refine WS_cons (WX_assign (WE_bin (WE_bin (WE_v (by rfl) (WE_bin (WE_v (by rfl) (WE_v (by rfl) (A_and (A_sub ?_)))))))))
      refine WE_bin (WE_v (by rfl) (WE_bin (WE_bin (WE_v (by rfl) (WE_bin (WE_int (WE_v (by rfl) (A_sub ?_))))))))
      refine A_shr (by omega) ?_
      refine WE_int (A_and (A_mul ?_ (IntMulOk.of_left (held_bits ⟨c, by omega⟩))))
      refine A_add ?_
      refine WS_nil ⟨?_, rfl, trivial⟩
      show some (LV.v (V.int _)) = some (LV.v (V.int _))
      unfold modeStep
      rw [show ((2 : Int) - (i : Nat)).toNat = 2 - i by omega]
    · rw [enumV_length, List.length_map] at hl'
      refine WS_nil (WS.wk _ hl' ?_)
      exact WS_cons (WX_ret (WE_v (by rfl) h))
  · obtain ⟨x1, x2, x3, rfl⟩ := xl3 hx
    rfl
end Mine

end
section
open PySem PySem.W PySem.Calls PyProof.Rows
set_option linter.unusedVariables false
set_option maxRecDepth 100000
namespace Mine
/-! rules and where they lie -/
noncomputable abbrev Tri := Nat × Nat × Rul
noncomputable def triV (t : Tri) : V := .tup [.int (t.1 : Nat), .int (t.2.1 : Nat), rulV t.2.2]
noncomputable def over (t : Tri) (leaf : Nat) : Bool := decide (t.1 ≤ leaf) && decide (leaf < t.1 + t.2.1)
noncomputable def narrow (leaf : Nat) : Nat → Int → List Tri → Int
  | _, f, [] => f
  | i, f, t :: ts => narrow leaf (i + 1) (if over t leaf = true then i else f) ts
theorem narrow_app (leaf : Nat) (t : Tri) : ∀ (ts : List Tri) (i : Nat) (f : Int), narrow leaf i f (ts ++ [t]) = if over t leaf = true then ((i + ts.length : Nat) : Int) else narrow leaf i f ts
  | [], i, f => rfl
  | u :: ts, i, f => by
    show narrow leaf (i + 1) _ (ts ++ [t]) = _
    rw [narrow_app leaf t ts]
    simp only [List.length_cons, narrow]
    rw [show i + 1 + ts.length = i + (ts.length + 1) by omega]
theorem narrow_s {w : World} (G : Gl PySem.Challenge.rw_in0278_02.prog w (Mine.K0 w.params)) {ts : List Tri} {leaf : Nat} {Q : V → Prop} (h : Q (.int (narrow leaf 0 (-1) ts))) :
    CS G 2 (.ref 200) [.lst (ts.map triV), .int leaf] Q := by
  k_fill
  refine CS_def [Str.ofString "rules", Str.ofString "leaf"] (by k_is) (by k_is) ?_ (fun xs hx => ?_)
  · refine WS_cons (WX_assign (WE_neg (WE_int ⟨_, rfl, ?_⟩)))
    refine WS_cons ?_
    refine WX_forI (WI_enum (by k_is) (WE_v (by rfl) ⟨_, .inl rfl, ?_⟩))
    refine WF.ind _ (fun i l => Has l [("rules", .v (.lst (ts.map triV))), ("leaf", .v (.int leaf)), ("found", .v (.int (narrow leaf 0 (-1) (ts.take i))))]) ⟨rfl, rfl, rfl, trivial⟩ (fun i v l hv hl => ?_) (fun l hl => ?_)
    · obtain ⟨u, hu, rfl⟩ := enumV_get hv
      rw [List.getElem?_map] at hu
      obtain ⟨t, ht, rfl⟩ := Option.map_eq_some_iff.mp hu
      have hi : i < ts.length := (List.getElem?_eq_some_iff.mp ht).1
      have htk : narrow leaf 0 (-1) (ts.take (i + 1)) = if over t leaf = true then (i : Int) else narrow leaf 0 (-1) (ts.take i) := by
        rw [List.take_add_one, ht]
        show narrow leaf 0 (-1) (ts.take i ++ [t]) = _
        rw [narrow_app, List.length_take, Nat.min_eq_left (by omega), Nat.zero_add]
      rw [htk]
      generalize narrow leaf 0 (-1) (ts.take i) = f at hl
      rw [Nat.zero_add]
      refine WAs.wk _ hl (WAs_tup (WAs_name (WAs_tup (WAs_name (WAs_name (WAs_name ?_))))))
      have ho : over t leaf = (decide ((t.1 : Int) ≤ (leaf : Int)) && decide ((leaf : Int) < (t.1 : Int) + (t.2.1 : Int))) := by
        unfold over
        congr 1
        · exact decide_eq_decide.mpr (by omega)
        · exact decide_eq_decide.mpr (by omega)
      rw [ho]
      refine WS_cons (WX_if (WT_cmp2 (WE_v (by rfl) (WE_v (by rfl) (C_leI ?_)))))
      refine ⟨fun c => ?_, fun c => ?_⟩
      · rw [c, Bool.false_and]
        refine ⟨fun e => (by cases e), fun _ => ?_⟩
        repeat refine WS_nil ?_
        exact ⟨rfl, rfl, rfl, trivial⟩
      · rw [c, Bool.true_and]
        refine WE_bin (WE_v (by rfl) (WE_v (by rfl) (A_add (C_ltI ?_))))
        refine ⟨fun c => ?_, fun c => ?_⟩
        · rw [c]
          refine WS_cons (WX_assign (WE_v (by rfl) ?_))
          repeat refine WS_nil ?_
          exact ⟨rfl, rfl, rfl, trivial⟩
        · rw [c]
          repeat refine WS_nil ?_
          exact ⟨rfl, rfl, rfl, trivial⟩
    · rw [enumV_length, List.length_map, List.take_length] at hl
      refine WS_nil (WS.wk _ hl ?_)
      exact WS_cons (WX_ret (WE_v (by rfl) h))
  · obtain ⟨x1, x2, rfl⟩ := xl2 hx
    rfl
end Mine

end
section
open PySem PySem.W PySem.Calls PyProof.Rows
set_option linter.unusedVariables false
set_option maxRecDepth 100000
namespace Mine
theorem bootAll : bootBuiltins "all" = some (.builtin "all") := by decide +kernel
noncomputable def pickR (ts : List Tri) (order : List Nat) : List Rul := order.filterMap fun i => (ts[i]?).map fun t => t.2.2
theorem answers_s {w : World} (G : Gl PySem.Challenge.rw_in0278_02.prog w (Mine.K0 w.params)) (hC : G.C = 69) (hG : G.q = true) {ts : List Tri} {order : List Nat} {rows : List (List Nat)} (ho : ∀ i ∈ order, i < ts.length) (hol : order.length ≤ 100) (hrl : rows.length ≤ 100) (hr : ∀ row ∈ rows, row.length = 10)
    (h1 : ∀ t ∈ ts, t.2.2.1.length ≤ 100) (h3 : ∀ t ∈ ts, ∀ p ∈ t.2.2.1, p.1 < 10) (htl : ts.length ≤ 100) {Q : V → Prop} (h : Q (.lst ((rows.map fun row => allowF (pickR ts order) row).map .bool))) :
    CS G 5 (.ref 205) [.lst (ts.map triV), .lst (order.map fun i : Nat => V.int i), .lst (rows.map fun r => V.str (tx r))] Q := by
  k_fill
  have gf : ∀ nm, GetFacts (Mine.K0 w.params) 69 nm = true → GetFacts (Mine.K0 w.params) G.C nm = true := fun nm h => hC ▸ h
  refine CS_defC (c := 204) [Str.ofString "rules", Str.ofString "order", Str.ofString "rows"] (by k_is) (by k_is) ?_ (fun xs hx => ?_)
  · refine WS_cons (WX_new (ks := entK) (f := entF) (by k_is) (by k_is) (fun A z s hh hR zB hs => entry_s G hC hh (hR.less (by omega)) zB hs) hC fun p d a1 a2 => ?_)
    refine WS_cons ?_
    refine WX_forI (WI_seq (WE_v (by rfl) ⟨_, .inl rfl, ?_⟩))
    refine WF.ind _ (fun i l => Has l [("#code", .ca "#code" 204), ("rules", .v (.lst (ts.map triV))), ("rows", .v (.lst (rows.map fun r => V.str (tx r)))), ("record", .v (.obj p d)), ("#d", .gd d entK (entF a1 a2)), ("#1", .gl a1 []), ("#2", .gl a2 ((pickR ts (order.take i)).map rulV))]) ⟨rfl, rfl, rfl, rfl, rfl, rfl, rfl, trivial⟩ (fun i v l hv hl => ?_) (fun l hl => ?_)
    · rw [List.getElem?_map] at hv
      obtain ⟨q, hq, rfl⟩ := Option.map_eq_some_iff.mp hv
      have hqm := List.mem_of_getElem? hq
      have hql := ho q hqm
      obtain ⟨t, ht⟩ : ∃ t, ts[q]? = some t := ⟨_, List.getElem?_eq_getElem hql⟩
      have hi : i < order.length := (List.getElem?_eq_some_iff.mp hq).1
      have htk : pickR ts (order.take (i + 1)) = pickR ts (order.take i) ++ [t.2.2] := by
        unfold pickR
        rw [List.take_add_one, hq, List.filterMap_append]
        congr 1
        show List.filterMap _ [q] = _
        simp [ht]
      have hlen : ((pickR ts (order.take i)).map rulV).length ≤ sizeLine := by
        rw [List.length_map]
        have : (pickR ts (order.take i)).length ≤ (order.take i).length := List.length_filterMap_le ..
        rw [List.length_take] at this
        exact nat_len (by omega)
      rw [htk, List.map_append]
      refine WAs.wk _ hl (WAs_name ?_)
      refine WS_cons (WX_appendG "#2" (by rfl) (WE_gattr (y := "#d") (gf _ (by kernel_rfl)) (by rfl) (WE_v (by rfl) rfl) (by rfl) (fun q e => by cases e; rfl) rfl) (WE_sub (WE_sub (WE_v (by rfl) (WE_v (by rfl) (S_lst (v := triV t) (by omega) (by omega) ?_ ?_))))))
      · rw [Int.toNat_natCast, List.getElem?_map, ht]; rfl
      refine WE_int (S_tup (v := rulV t.2.2) (by decide) (by decide) (by rfl) ⟨hlen, ?_⟩)
      exact WS_nil ⟨rfl, rfl, rfl, rfl, rfl, rfl, rfl, trivial⟩
    · rw [List.length_map, List.take_length] at hl
      refine WS_nil (WS.wk _ hl ?_)
      generalize hrs : pickR ts order = rs at h
      have hrm : ∀ r ∈ rs, ∃ t ∈ ts, t.2.2 = r := by
        intro r hr
        rw [← hrs] at hr
        obtain ⟨i, hi, e⟩ := List.mem_filterMap.mp hr
        obtain ⟨t, ht, rfl⟩ := Option.map_eq_some_iff.mp e
        exact ⟨t, List.mem_of_getElem? ht, rfl⟩
      refine WS_fill "#1" "#d" (.gd d entK [.lst [], .raw (.ref a2), .nil, .nil]) (by rfl) (by rfl) (fun z hz => turn_gd1 hz) ?_
      refine WS_fill "#2" "#d" (.gd d entK [.lst [], .lst (rs.map rulV), .nil, .nil]) (by rfl) (by rfl) (fun z hz => turn_gd2 hz) ?_
      refine WS_fillObj "#d" "record" (by rfl) (by rfl) ?_
      have f1 : plainGet (Mine.K0 w.params) G.C "allowance" = true := by rw [hC]; k_is
      have f2 : findIn (Mine.K0 w.params) (.ref G.C) "allowance" = some (some (.ref 66)) := by rw [hC]; k_is
      have f3 : isFn (Mine.K0 w.params) (.ref 66) = true := by k_is
      refine WS_cons (WX_assignComp (CompOk.of (by kernel_rfl)) [("record", .v (recV rs))] ⟨⟨by rfl, ⟨_, rfl⟩, by kernel_rfl⟩, trivial⟩ (WIc_list (WE_v (by rfl) ⟨_, rfl, ?_, ?_⟩)) (fun F => by rfl))
      · rw [List.length_map]; exact nat_len (by omega)
      refine CompT.map (fun r => V.str (tx r)) (fun _ => true) (fun r => V.bool (allowF rs r)) _ [] (fun row hrow => ⟨_, TB.name, ?_, ?_, rfl, fun _ => ?_⟩) ?_
      · intro q hq; rw [List.mem_singleton.mp hq]; kernel_rfl
      · exact ndB_nodup rfl
      · refine WE_meth (WE_v (by rfl) ?_)
        refine GM_ins f1 f2 f3 (by decide +kernel) ?_
        refine And.intro ?_ ?_
        · show keepIn (Mine.K0 w.params) (.ref 66) = true; k_is
        refine WE_v (by rfl) (allow_s G hC (fun r hr => ?_) (hr row hrow) (fun r hr => ?_) rfl)
        · obtain ⟨t, ht, rfl⟩ := hrm r hr; exact h1 t ht
        · obtain ⟨t, ht, rfl⟩ := hrm r hr; exact h3 t ht
      rw [List.nil_append, show (rows.filter fun _ => true) = rows from List.filter_eq_self.mpr fun _ _ => rfl]
      have e1 : (rows.map fun r => V.bool (allowF rs r)) = (rows.map fun row => allowF rs row).map .bool := by rw [List.map_map]; rfl
      rw [e1]
      generalize (rows.map fun row => allowF rs row) = bs at h
      refine WS_cons (WX_ret (WE_ite (WT_val (WE_genCall (c := 204) (cp := []) (by k_is) bootAll rfl (by rfl) hG 202 (by decide) (by decide) (CompOk.of (by kernel_rfl)) trivial (WIg_list (WE_v (by rfl) ⟨_, rfl, ?_⟩))))))
      refine ⟨(bs.map fun _ => true).map .bool, ?_, CSg_all ?_⟩
      · rw [List.map_map]
        refine GenR.map V.bool _ (fun _ => rfl) fun b hb => ?_
        exact WE_bi (by k_is) bootIsi rfl (WE_v (by rfl) (WE_b (by k_is) bootBool (B_isi_bool rfl)))
      · rw [show ((bs.map fun _ => true).all id) = true by simp]
        exact T_bool ⟨fun _ => WE_v (by rfl) h, fun e => by cases e⟩
  · obtain ⟨x1, x2, x3, rfl⟩ := xl3 hx
    rfl
end Mine

end
section
open PySem PySem.W PySem.Calls PyProof.Rows
set_option linter.unusedVariables false
set_option maxRecDepth 100000
namespace Mine
/-! bits -/
theorem and_pow (x i : Nat) : ((x &&& 2 ^ i) != 0) = x.testBit i := by
  cases h : x.testBit i with
  | true =>
    have : (x &&& 2 ^ i).testBit i = true := by rw [Nat.testBit_and, h, Nat.testBit_two_pow_self]; rfl
    have ne : x &&& 2 ^ i ≠ 0 := fun e => by rw [e] at this; simp at this
    simpa using ne
  | false =>
    have : x &&& 2 ^ i = 0 := Nat.eq_of_testBit_eq fun j => by
      rw [Nat.testBit_and, Nat.testBit_two_pow, Nat.zero_testBit]
      by_cases hj : i = j
      · subst hj; rw [h]; rfl
      · simp [hj]
    rw [this]; rfl
theorem mask_all {n M k : Nat} (hM : M < 2 ^ k) : ((n &&& M) == M) = (List.range k).all fun i => !M.testBit i || n.testBit i := by
  rw [Bool.eq_iff_iff, beq_iff_eq, List.all_eq_true]
  constructor
  · intro h i _
    have := congrArg (·.testBit i) h
    simp only [Nat.testBit_and] at this
    cases hm : M.testBit i with
    | false => rfl
    | true => rw [hm] at this; simpa using this
  · intro h
    refine Nat.eq_of_testBit_eq fun i => ?_
    rw [Nat.testBit_and]
    by_cases hi : i < k
    · have := h i (List.mem_range.mpr hi)
      cases hm : M.testBit i with
      | false => simp
      | true => rw [hm] at this; simpa using this
    · rw [Nat.testBit_lt_two_pow (Nat.lt_of_lt_of_le hM (Nat.pow_le_pow_right (by decide) (Nat.le_of_not_lt hi)))]; simp
theorem bitAnd_nat (n k : Nat) : Builtin.bitAnd (n : Int) (k : Int) = ((n &&& k : Nat) : Int) := by
  rw [bitAnd_pp (Int.natCast_nonneg n) (Int.natCast_nonneg k)]; rfl
theorem hit_nat (n M k : Nat) (hM : M < 2 ^ k) : hit false (n : Int) (M : Int) = (List.range k).all fun i => !M.testBit i || n.testBit i := by
  show (Builtin.bitAnd _ _ == _) = _
  rw [bitAnd_nat, ← mask_all hM, Bool.eq_iff_iff, beq_iff_eq, beq_iff_eq]
  exact Int.ofNat_inj
theorem hit1 (n M k i : Nat) (hM : M < 2 ^ k) (h : ∀ b : Nat → Bool, ((List.range k).all fun i => !M.testBit i || b i) = (b i && true) := by intro b; kernel_rfl) : hit false (n : Int) (M : Int) = n.testBit i := by
  rw [hit_nat n M k hM, h]; exact Bool.and_true _
theorem hit2r {a b : Bool} (x : Bool) (h : x = (a && (b && true))) : x = (a && b) := by rw [h, Bool.and_true]
theorem nine {k : Nat} (h1 : 1 ≤ k) (h2 : k ≤ 9) : k = 1 ∨ k = 2 ∨ k = 3 ∨ k = 4 ∨ k = 5 ∨ k = 6 ∨ k = 7 ∨ k = 8 ∨ k = 9 := by
  have : ∀ k : Fin 10, 1 ≤ k.val → k.val = 1 ∨ k.val = 2 ∨ k.val = 3 ∨ k.val = 4 ∨ k.val = 5 ∨ k.val = 6 ∨ k.val = 7 ∨ k.val = 8 ∨ k.val = 9 := by decide
  exact this ⟨k, Nat.lt_succ_of_le h2⟩ h1
theorem hits (n : Nat) : hit false (n : Int) 256 = n.testBit 8 ∧ hit false (n : Int) 128 = n.testBit 7 ∧ hit false (n : Int) 64 = n.testBit 6 ∧ hit false (n : Int) 32 = n.testBit 5 ∧ hit false (n : Int) 16 = n.testBit 4 ∧ hit false (n : Int) 8 = n.testBit 3 ∧
    hit false (n : Int) 4 = n.testBit 2 ∧ hit false (n : Int) 2 = n.testBit 1 ∧ hit false (n : Int) 1 = n.testBit 0 := by
  refine ⟨hit1 n 256 9 8 (by decide), hit1 n 128 8 7 (by decide), hit1 n 64 7 6 (by decide), hit1 n 32 6 5 (by decide), hit1 n 16 5 4 (by decide), hit1 n 8 4 3 (by decide), hit1 n 4 3 2 (by decide), hit1 n 2 2 1 (by decide), hit1 n 1 1 0 (by decide)⟩
theorem hit2 (n : Nat) : hit false (n : Int) 2112 = (n.testBit 6 && n.testBit 11) ∧ hit false (n : Int) 2048 = n.testBit 11 ∧ hit false (n : Int) 1032 = (n.testBit 3 && n.testBit 10) ∧ hit false (n : Int) 1024 = n.testBit 10 ∧
    hit false (n : Int) 513 = (n.testBit 0 && n.testBit 9) ∧ hit false (n : Int) 512 = n.testBit 9 := by
  refine ⟨?_, hit1 n 2048 12 11 (by decide), ?_, hit1 n 1024 11 10 (by decide), ?_, hit1 n 512 10 9 (by decide)⟩
  · exact (hit_nat n 2112 12 (by decide)).trans (hit2r _ (by kernel_rfl : _ = (n.testBit 6 && (n.testBit 11 && true))))
  · exact (hit_nat n 1032 11 (by decide)).trans (hit2r _ (by kernel_rfl : _ = (n.testBit 3 && (n.testBit 10 && true))))
  · exact (hit_nat n 513 10 (by decide)).trans (hit2r _ (by kernel_rfl : _ = (n.testBit 0 && (n.testBit 9 && true))))
theorem high_bits {n : Nat} (h : n < 65536) : n &&& 61440 = 4096 * (n / 4096) := by
  refine Nat.eq_of_testBit_eq fun i => ?_
  have e : 4096 * (n / 4096) = (n >>> 12) <<< 12 := by rw [Nat.shiftLeft_eq, Nat.shiftRight_eq_div_pow, Nat.mul_comm]
  rw [e, Nat.testBit_and, Nat.testBit_shiftLeft, Nat.testBit_shiftRight]
  by_cases hi : i < 16
  · have : ∀ j : Fin 16, Nat.testBit 61440 j.val = decide (j.val ≥ 12) := by decide +kernel
    rw [this ⟨i, hi⟩]
    by_cases h12 : i ≥ 12
    · rw [show 12 + (i - 12) = i by omega]; simp [h12]
    · simp [h12]
  · have h1 : n.testBit i = false := Nat.testBit_lt_two_pow (Nat.lt_of_lt_of_le h (Nat.pow_le_pow_right (by decide : 0 < 2) (by omega : 16 ≤ i)))
    rw [h1, show 12 + (i - 12) = i by omega, h1]; simp
noncomputable def pickV (v : Int) : List (Int × Str) → Str
  | [] => "?"
  | p :: r => if (v == p.1) = true then p.2 else pickV v r
theorem pick_V (m : Int) : ∀ t, pick true m t = pickV (Builtin.bitAnd m 61440) t
  | [] => rfl
  | p :: r => by
    show (if hit true m p.1 = true then _ else _) = (if _ then _ else _)
    rw [pick_V m r]; rfl

/-! a row as a list of signs -/
noncomputable def kcL : List Nat := [63, 112, 99, 63, 100, 63, 98, 63, 45, 63, 108, 63, 115, 63, 63, 63]
noncomputable def b1 (b : Bool) (c : Nat) : Nat := if b = true then c else 45
noncomputable def b3 (hi lo : Bool) (u v : Nat) : Nat := if (lo && hi) = true then u else if hi = true then v else if lo = true then 120 else 45
noncomputable def rowL (n : Nat) : List Nat := [kcL.getD (n / 4096) 63, b1 (n.testBit 8) 114, b1 (n.testBit 7) 119, b3 (n.testBit 11) (n.testBit 6) 115 83, b1 (n.testBit 5) 114, b1 (n.testBit 4) 119, b3 (n.testBit 10) (n.testBit 3) 115 83, b1 (n.testBit 2) 114, b1 (n.testBit 1) 119, b3 (n.testBit 9) (n.testBit 0) 116 84]
theorem rowL_len (n : Nat) : (rowL n).length = 10 := rfl
theorem kind_fin2 : ∀ k : Fin 16, pickV (((4096 * k.val : Nat) : Int)) [(40960, "l"), (49152, "s"), (32768, "-"), (24576, "b"), (16384, "d"), (8192, "c"), (4096, "p")] = tx [kcL.getD k.val 63] := by decide +kernel
theorem kind_tx {n : Nat} (h : n < 65536) : pick true (n : Int) [(40960, "l"), (49152, "s"), (32768, "-"), (24576, "b"), (16384, "d"), (8192, "c"), (4096, "p")] = tx [kcL.getD (n / 4096) 63] := by
  rw [pick_V, show (61440 : Int) = ((61440 : Nat) : Int) from rfl, bitAnd_nat, high_bits h]
  exact kind_fin2 ⟨n / 4096, by omega⟩
theorem tx_b1 (b : Bool) : (if b = true then ("r" : Str) else "-") = tx [b1 b 114] ∧ (if b = true then ("w" : Str) else "-") = tx [b1 b 119] := by cases b <;> exact ⟨rfl, rfl⟩
theorem tx_b3 (hi lo : Bool) : (if (lo && hi) = true then ("s" : Str) else if hi = true then "S" else if lo = true then "x" else "-") = tx [b3 hi lo 115 83] ∧ (if (lo && hi) = true then ("t" : Str) else if hi = true then "T" else if lo = true then "x" else "-") = tx [b3 hi lo 116 84] := by
  cases hi <;> cases lo <;> exact ⟨rfl, rfl⟩
theorem pick1 (n : Int) (b : Int) (x : Str) : pick false n [(b, x)] = if hit false n b = true then x else "-" := rfl
theorem pick3 (n : Int) (b c d : Int) (x y z : Str) : pick false n [(b, x), (c, y), (d, z)] = if hit false n b = true then x else if hit false n c = true then y else if hit false n d = true then z else "-" := rfl
theorem picks_tx {n : Nat} (h : n < 65536) : picks (n : Int) 0 modeTab = (rowL n).map fun c => tx [c] := by
  obtain ⟨a8, a7, a6, a5, a4, a3, a2, a1, a0⟩ := hits n
  obtain ⟨c1, c2, c3, c4, c5, c6⟩ := hit2 n
  have e : picks (n : Int) 0 modeTab = [pick true (n : Int) [(40960, "l"), (49152, "s"), (32768, "-"), (24576, "b"), (16384, "d"), (8192, "c"), (4096, "p")], pick false n [(256, "r")], pick false n [(128, "w")], pick false n [(2112, "s"), (2048, "S"), (64, "x")],
    pick false n [(32, "r")], pick false n [(16, "w")], pick false n [(1032, "s"), (1024, "S"), (8, "x")], pick false n [(4, "r")], pick false n [(2, "w")], pick false n [(513, "t"), (512, "T"), (1, "x")]] := rfl
  rw [e, kind_tx h]
  simp only [pick1, pick3, a8, a7, a6, a5, a4, a3, a2, a1, a0, c1, c2, c3, c4, c5, c6]
  rw [(tx_b1 _).1, (tx_b1 _).2, (tx_b3 _ _).1, (tx_b1 _).1, (tx_b1 _).2, (tx_b3 _ _).1, (tx_b1 _).1, (tx_b1 _).2, (tx_b3 _ _).2]
  rfl
theorem fm_tx {n : Nat} (h : n < 65536) : Txt.join "" (picks (n : Int) 0 modeTab) = tx (rowL n) := by
  rw [picks_tx h, join_eq]
  have : ((rowL n).map fun c => tx [c]) = ((rowL n).map fun c => [c]).map tx := by rw [List.map_map]; rfl
  rw [this, join0]
  congr 1
theorem fm_s {w : World} (G : Gl PySem.Challenge.rw_in0278_02.prog w (Mine.K0 w.params)) {n : Nat} (hn : n < 65536) {Q : V → Prop} (h : Q (.str (tx (rowL n)))) : CS G 3 (.ref 158) [.int (n : Nat)] Q := filemode_s G (by rw [fm_tx hn]; exact h)
theorem join1 (cs : List Nat) : Txt.join "" (cs.map fun c => tx [c]) = tx cs := by
  rw [join_eq]
  have : (cs.map fun c => tx [c]) = (cs.map fun c => [c]).map tx := by rw [List.map_map]; rfl
  rw [this, join0]
  congr 1
  clear this
  induction cs with
  | nil => rfl
  | cons c cs ih => simpa using ih
theorem row_signs (n : Nat) {k : Nat} (h1 : 1 ≤ k) (h2 : k ≤ 9) : ∃ c, (rowL n)[k]? = some c ∧ c ∈ signs := by
  have hb : ∀ b : Bool, b1 b 114 ∈ signs ∧ b1 b 119 ∈ signs := by decide
  have h3 : ∀ a b : Bool, b3 a b 115 83 ∈ signs ∧ b3 a b 116 84 ∈ signs := by decide
  have := nine h1 h2
  rcases this with rfl | rfl | rfl | rfl | rfl | rfl | rfl | rfl | rfl
  · exact ⟨_, rfl, (hb _).1⟩
  · exact ⟨_, rfl, (hb _).2⟩
  · exact ⟨_, rfl, (h3 _ _).1⟩
  · exact ⟨_, rfl, (hb _).1⟩
  · exact ⟨_, rfl, (hb _).2⟩
  · exact ⟨_, rfl, (h3 _ _).1⟩
  · exact ⟨_, rfl, (hb _).1⟩
  · exact ⟨_, rfl, (hb _).2⟩
  · exact ⟨_, rfl, (h3 _ _).2⟩
end Mine

end
section
open PySem PySem.W PySem.Calls PyProof.Rows
set_option linter.unusedVariables false
set_option maxRecDepth 100000
namespace Mine
section
variable {prog : Program} {w : World} {K : Frag} {G : Gl prog w K} {Q : V → Prop}
theorem ints_are {C : Addr} {z : Zp} : ∀ {ys : List Int} {xs : List Value}, RzL C z (ys.map V.int) xs → IntsAre xs ys
  | [], _, h => by cases h; exact .nil
  | y :: ys, _, ⟨x, r, e, ⟨t, ht⟩, hr⟩ => by subst e ht; exact .cons _ _ (ints_are hr)
theorem C_inInts {x : Int} {ys : List Int} (h : Q (.bool (ys.any (· == x)))) : Act2 G (compareOp .In) (.int x) (.lst (ys.map .int)) Q := fun A z s xa xb hh hr zB hs ⟨t, ra⟩ rb => by
  subst ra
  obtain ⟨a, xs, rfl, sq, rl⟩ := rb
  exact PyProof.Rows.in_list_ints (isList_of (sq.mono fun o e => hs _ _ e)) (ints_are rl) (ret_of h (Ext.refl hs) rfl)
end
/-! the rules -/
noncomputable def patL (m : Nat) (ch : List Nat) (d : Nat) : List Nat := (List.range 10).map fun c => if (ch.take d).any (· == c) = true then (rowL m).getD c 0 else 63
noncomputable def firstN (d p : Nat) : Nat := p * 2 ^ (3 - d)
noncomputable def aboveB (tb : List Bool) (d p : Nat) : Bool := if d = 0 then true else tb.getD (p / 2 * 2 ^ (4 - d)) false
noncomputable def ruleAt (ms ch : List Nat) (tb : List Bool) (d p : Nat) : Option Tri :=
  if (tb.getD (firstN d p) false != aboveB tb d p) = true then some (firstN d p, 8 / 2 ^ d, (asksFrom 0 (patL (ms.getD (firstN d p) 0) ch d), tb.getD (firstN d p) false)) else none
noncomputable def rulesD (ms ch : List Nat) (tb : List Bool) (d : Nat) : List Tri := (List.range (2 ^ d)).filterMap (ruleAt ms ch tb d)
noncomputable def rulesL (ms ch : List Nat) (tb : List Bool) : List Tri := (List.range 4).flatMap (rulesD ms ch tb)
theorem rulesD_len (ms ch : List Nat) (tb : List Bool) (d : Nat) : (rulesD ms ch tb d).length ≤ 2 ^ d := by
  unfold rulesD
  have := List.length_filterMap_le (ruleAt ms ch tb d) (List.range (2 ^ d))
  rw [List.length_range] at this
  exact this
theorem patL_ok {m d : Nat} {ch : List Nat} (hc : ∀ c ∈ ch, 1 ≤ c ∧ c ≤ 9) : (∀ c ∈ patL m ch d, c = 63 ∨ c ∈ signs) ∧ (patL m ch d).length = 10 := by
  refine ⟨fun c hcm => ?_, by unfold patL; simp⟩
  unfold patL at hcm
  obtain ⟨k, hk, rfl⟩ := List.mem_map.mp hcm
  by_cases h : (ch.take d).any (· == k) = true
  · rw [if_pos h]
    obtain ⟨q, hq, e⟩ := List.any_eq_true.mp h
    have : q = k := beq_iff_eq.mp e
    subst this
    have hq2 := hc q (List.mem_of_mem_take hq)
    obtain ⟨s, h1, h2⟩ := row_signs m hq2.1 hq2.2
    right
    rw [List.getD_eq_getElem?_getD, h1]; exact h2
  · rw [if_neg h]; exact .inl rfl
theorem pow_small : ∀ d : Fin 4, 2 ^ d.val ≤ 8 ∧ 2 ^ (3 - d.val) ≤ 8 ∧ 2 ^ d.val * 2 ^ (3 - d.val) = 8 := by decide
theorem first_lt {d p : Nat} (hd : d < 4) (hp : p < 2 ^ d) : firstN d p < 8 := by
  unfold firstN
  have h1 : p * 2 ^ (3 - d) < 2 ^ d * 2 ^ (3 - d) := Nat.mul_lt_mul_of_pos_right hp (Nat.two_pow_pos _)
  exact Nat.lt_of_lt_of_eq h1 (pow_small ⟨d, hd⟩).2.2
theorem above_lt {d p : Nat} (hd : d < 4) (h0 : d ≠ 0) (hp : p < 2 ^ d) : p / 2 * 2 ^ (4 - d) < 8 := by
  have : d = 1 ∨ d = 2 ∨ d = 3 := by omega
  rcases this with rfl | rfl | rfl
  · have : p < 2 := hp
    have : p / 2 = 0 := by omega
    rw [this]; decide
  · have : p < 4 := hp
    show p / 2 * 4 < 8
    omega
  · have : p < 8 := hp
    show p / 2 * 2 < 8
    omega
theorem rules_s {w : World} (G : Gl PySem.Challenge.rw_in0278_02.prog w (Mine.K0 w.params)) (hC : G.C = 69) (hG : G.q = true) {ms ch : List Nat} {tb : List Bool} (hm : ms.length = 8) (hm2 : ∀ m ∈ ms, m < 65536) (hc : ∀ c ∈ ch, 1 ≤ c ∧ c ≤ 9) (hcl : ch.length = 3) (htb : tb.length = 8)
    {Q : V → Prop} (h : Q (.lst ((rulesL ms ch tb).map triV))) :
    CS G 5 (.ref 193) [.lst (ms.map fun m : Nat => V.int m), .lst (ch.map fun c : Nat => V.int c), .lst (tb.map .bool)] Q := by
  k_fill
  refine CS_defC (c := 192) [Str.ofString "modes", Str.ofString "chosen", Str.ofString "table"] (by k_is) (by k_is) ?_ (fun xs hx => ?_)
  · refine WS_cons (WX_own ?_)
    refine WS_cons ?_
    refine WX_forI (WIc.toWI (WIc_rng (WE_bi (by k_is) bootRange rfl (WE_int (B_range1 ⟨0, 4, rfl, by unfold okR; decide, ?_⟩)))))
    refine WF.ind _ (fun i l => Has l [("#code", .ca "#code" 192), ("modes", .v (.lst (ms.map fun m : Nat => V.int m))), ("chosen", .v (.lst (ch.map fun c : Nat => V.int c))), ("table", .v (.lst (tb.map .bool))), ("rules", .own ((((List.range i).flatMap (rulesD ms ch tb))).map triV))] ∧ ((List.range i).flatMap (rulesD ms ch tb)).length ≤ 8 * i) ⟨⟨rfl, rfl, rfl, rfl, rfl, trivial⟩, by simp⟩ (fun i v l hv ⟨hl, hb⟩ => ?_) (fun l ⟨hl, _⟩ => ?_)
    · have hi : i < 4 := by
        have := (List.getElem?_eq_some_iff.mp hv).1
        rw [List.length_map, rngV_len] at this; exact this
      rw [List.getElem?_map, rngV_get hi] at hv
      cases hv
      rw [Int.zero_add]
      have hdl := rulesD_len ms ch tb i
      obtain ⟨p1, p2, p3⟩ := pow_small ⟨i, hi⟩
      dsimp only at p1 p2 p3
      rw [List.range_succ, List.flatMap_append, List.flatMap_singleton]
      generalize (List.range i).flatMap (rulesD ms ch tb) = acc at hl hb
      refine WAs.wk _ hl (WAs_name ?_)
      refine WS_cons ?_
      refine WX_forI (WIc.toWI (WIc_rng (WE_bi (by k_is) bootRange rfl (WE_bin (WE_int (WE_v (by rfl) (A_shl (by omega) (by omega) (by decide) (B_range1 ⟨0, ((2 ^ i : Nat) : Int), ?_, ?_, ?_⟩))))))))
      · rw [Int.one_mul, Int.toNat_natCast]; congr 1
      · unfold okR; omega
      refine WF.ind _ (fun j l => Has l [("#code", .ca "#code" 192), ("modes", .v (.lst (ms.map fun m : Nat => V.int m))), ("chosen", .v (.lst (ch.map fun c : Nat => V.int c))), ("table", .v (.lst (tb.map .bool))), ("depth", .v (.int (i : Nat))), ("rules", .own ((acc ++ (List.range j).filterMap (ruleAt ms ch tb i)).map triV))]) ⟨rfl, rfl, rfl, rfl, rfl, by simp; rfl, trivial⟩ (fun j v l hv hl => ?_) (fun l hl => ?_)
      · have hj : j < 2 ^ i := by
          have := (List.getElem?_eq_some_iff.mp hv).1
          rw [List.length_map, rngV_len] at this; omega
        rw [List.getElem?_map, rngV_get (by omega)] at hv
        cases hv
        rw [Int.zero_add]
        have hjl : ((List.range j).filterMap (ruleAt ms ch tb i)).length ≤ j := by
          have := List.length_filterMap_le (ruleAt ms ch tb i) (List.range j)
          rwa [List.length_range] at this
        have hrl : ((acc ++ (List.range j).filterMap (ruleAt ms ch tb i)).map triV).length ≤ sizeLine := by
          rw [List.length_map, List.length_append]; exact nat_len (by omega)
        have hst : (List.range (j + 1)).filterMap (ruleAt ms ch tb i) = (List.range j).filterMap (ruleAt ms ch tb i) ++ (ruleAt ms ch tb i j).toList := by
          rw [List.range_succ, List.filterMap_append]
          cases hq : ruleAt ms ch tb i j <;> simp [hq]
        rw [hst, ← List.append_assoc]
        generalize acc ++ (List.range j).filterMap (ruleAt ms ch tb i) = rs at hl hrl
        have hf := first_lt hi hj
        obtain ⟨tf, htf⟩ : ∃ t, tb[firstN i j]? = some t := ⟨_, List.getElem?_eq_getElem (by omega)⟩
        obtain ⟨mf, hmf⟩ : ∃ m, ms[firstN i j]? = some m := ⟨_, List.getElem?_eq_getElem (by omega)⟩
        have hmf2 := hm2 mf (List.mem_of_getElem? hmf)
        have etf : tb.getD (firstN i j) false = tf := by rw [List.getD_eq_getElem?_getD, htf]; rfl
        have emf : ms.getD (firstN i j) 0 = mf := by rw [List.getD_eq_getElem?_getD, hmf]; rfl
        refine WAs.wk _ hl (WAs_name ?_)
        refine WS_cons (WX_assign (WE_bin (WE_v (by rfl) (WE_bin (WE_int (WE_v (by rfl) (A_sub ?_)))))))
        refine A_shl (by omega) (by omega) (by omega) ?_
        have ef : ((j : Nat) : Int) * 2 ^ ((3 : Int) - (i : Nat)).toNat = ((firstN i j : Nat) : Int) := by
          unfold firstN
          rw [show ((3 : Int) - (i : Nat)).toNat = 3 - i by omega]; norm_cast
        rw [ef]
        have getT : ∀ (k : Nat) (t : Bool) (Q : V → Prop), tb[k]? = some t → Q (.bool t) → Item G (.lst (tb.map .bool)) (.int (k : Nat)) Q := fun k t Q hk q => S_lst (v := .bool t) (by omega) (by have := (List.getElem?_eq_some_iff.mp hk).1; omega) (by rw [Int.toNat_natCast, List.getElem?_map, hk]; rfl) q
        refine WS_cons (WX_assign (WE.mono (Q := fun v => v = .bool (aboveB tb i j)) (WE_ite (WT_val (WE_v (by rfl) (T_int ⟨fun c => ?_, fun c => ?_⟩)))) fun v hv => ?_))
        · have c : i ≠ 0 := by simpa using c
          have ha := above_lt hi c hj
          obtain ⟨ta, hta⟩ : ∃ t, tb[j / 2 * 2 ^ (4 - i)]? = some t := ⟨_, List.getElem?_eq_getElem (by omega)⟩
          have eta : aboveB tb i j = ta := by unfold aboveB; rw [if_neg c, List.getD_eq_getElem?_getD, hta]; rfl
          refine WE_sub (WE_v (by rfl) (WE_bin (WE_bin (WE_v (by rfl) (WE_int (A_shr (by omega) ?_))))))
          refine WE_bin (WE_int (WE_v (by rfl) (A_sub (A_shl (by omega) (by omega) ?_ ?_))))
          · have : ((j : Nat) : Int).fdiv (2 ^ ((1 : Int)).toNat) = ((j / 2 : Nat) : Int) := by
              rw [Int.fdiv_eq_ediv_of_nonneg _ (by decide)]; rfl
            rw [this]; omega
          · have e1 : ((j : Nat) : Int).fdiv (2 ^ ((1 : Int)).toNat) * 2 ^ ((4 : Int) - (i : Nat)).toNat = ((j / 2 * 2 ^ (4 - i) : Nat) : Int) := by
              rw [Int.fdiv_eq_ediv_of_nonneg _ (by decide), show ((4 : Int) - (i : Nat)).toNat = 4 - i by omega]
              norm_cast
            rw [e1]
            exact getT _ _ _ hta (by rw [eta])
        · have c : i = 0 := by simpa using c
          refine WE_bool ?_
          unfold aboveB; rw [if_pos c]
        subst hv
        refine WS_cons (WX_if (WT_cmp (WE_sub (WE_v (by rfl) (WE_v (by rfl) (getT _ _ _ htf (WE_v (by rfl) (C_neB ⟨fun c => ?_, fun c => ?_⟩))))))))
        · have hra : ruleAt ms ch tb i j = some (firstN i j, 8 / 2 ^ i, (asksFrom 0 (patL mf ch i), tf)) := by
            unfold ruleAt; rw [etf, emf, if_pos c]
          rw [hra]
          refine WS_cons (WX_assign (WE_def (by k_is) (by k_is) (WE_sub (WE_v (by rfl) (WE_v (by rfl) (S_lst (v := .int (mf : Nat)) (by omega) (by omega) (by rw [Int.toNat_natCast, List.getElem?_map, hmf]; rfl) ((fm_s G hmf2 ?_).room (by omega))))))))
          obtain ⟨pok, plen⟩ := patL_ok (m := mf) (d := i) hc
          refine WS_cons (WX_assign (WE_genJoin (c := 192) (cp := [("row", .v (.str (tx (rowL mf)))), ("chosen", .v (.lst (ch.map fun c : Nat => V.int c))), ("depth", .v (.int (i : Nat)))]) (by rfl) hG 188 (by decide) (by decide) (CompOk.of (by kernel_rfl)) ⟨⟨by rfl, ⟨_, rfl⟩, by kernel_rfl⟩, ⟨by rfl, ⟨_, rfl⟩, by kernel_rfl⟩, ⟨by rfl, ⟨_, rfl⟩, by kernel_rfl⟩, trivial⟩
            (WIg_rng (WE_bi (by k_is) bootRange rfl (WE_int (B_range1 ⟨0, 10, rfl, by unfold okR; decide, (patL mf ch i).map fun c => tx [c], ?_, ?_, ?_, ?_⟩)))) (nd := ndB_nodup rfl)))
          · have e1 : (rngV 0 10).map V.int = (List.range 10).map fun k : Nat => V.int (k : Nat) := by
              have : rngV 0 10 = (List.range 10).map fun k : Nat => (k : Int) := by decide
              rw [this, List.map_map]; rfl
            have e2 : ((patL mf ch i).map fun c => tx [c]).map V.str = (List.range 10).map fun k => V.str (tx [if (ch.take i).any (· == k) = true then (rowL mf).getD k 0 else 63]) := by
              unfold patL; rw [List.map_map, List.map_map]; rfl
            rw [e1, e2]
            refine GenR.map _ _ (fun _ => rfl) fun k hk => ?_
            have hk : k < 10 := List.mem_range.mp hk
            obtain ⟨rk, hrk⟩ : ∃ c, (rowL mf)[k]? = some c := ⟨_, List.getElem?_eq_getElem (by rw [rowL_len]; exact hk)⟩
            obtain ⟨i1, i2⟩ := item_tx hrk
            refine WE_ite (WT_cmp (WE_v (by rfl) (WE_slc (WE_v (by rfl) ?_))))
            refine WE_v (by rfl) ⟨_, rfl, SL_upto i (by rw [List.length_map]; exact nat_len (by omega)) ?_⟩
            have e3 : (ch.map fun c : Nat => V.int c).take i = ((ch.take i).map fun c : Nat => (c : Int)).map V.int := by rw [List.map_map, List.map_take]; rfl
            rw [e3]
            refine C_inInts ?_
            have e4 : ((ch.take i).map fun c : Nat => (c : Int)).any (· == (k : Int)) = (ch.take i).any (· == k) := by
              rw [List.any_map]
              congr 1
              funext c
              show ((c : Int) == (k : Int)) = (c == k)
              rw [Bool.eq_iff_iff, beq_iff_eq, beq_iff_eq]; omega
            rw [e4]
            refine ⟨fun c => ?_, fun c => ?_⟩
            · refine WE_sub (WE_v (by rfl) (WE_v (by rfl) (S_str (fits_small (by omega) (by omega)) i2 ?_)))
              rw [i1, if_pos c, List.getD_eq_getElem?_getD, hrk]; rfl
            · refine WE_str ?_
              rw [if_neg (by rw [c]; decide)]; rfl
          · rw [List.length_map, plen]; decide
          · have : ((patL mf ch i).map fun c => tx [c]).map (·.length) = (patL mf ch i).map fun _ => 1 := by rw [List.map_map]; rfl
            rw [this, List.length_map, plen]
            have : ∀ l : List Nat, (l.map fun _ => 1).sum = l.length := fun l => by induction l with
              | nil => rfl
              | cons a l ih => rw [List.map_cons, List.sum_cons, ih, List.length_cons]; omega
            rw [this, plen]; decide
          rw [join1]
          refine WS_cons (WX_append (by rfl) (WE_tuple (WE_v (by rfl) (WE_bin (WE_int (WE_v (by rfl) (A_shr (by omega) ?_)))))))
          have e8 : (8 : Int).fdiv (2 ^ (((i : Nat) : Int)).toNat) = ((8 / 2 ^ i : Nat) : Int) := by
            have : ∀ d : Fin 4, (8 : Int).fdiv (2 ^ (((d.val : Nat) : Int)).toNat) = ((8 / 2 ^ d.val : Nat) : Int) := by decide
            exact this ⟨i, hi⟩
          rw [e8]
          refine WE_def (by k_is) (by k_is) (WE_def (by k_is) (by k_is) (WE_v (by rfl) ((translate_s G (cs := patL mf ch i) pok (by omega) ?_).room (by omega))))
          rw [tranT_tx]
          refine WE_sub (WE_v (by rfl) (WE_v (by rfl) (getT _ _ _ htf ((rule_s G hC hG pok plen ?_).room (by omega)))))
          refine ⟨by show 3 ≤ sizeLine; rw [sizeLine_eq]; omega, hrl, ?_⟩
          repeat refine WS_nil ?_
          exact ⟨rfl, rfl, rfl, rfl, rfl, by rw [List.map_append]; rfl, trivial⟩
        · have hra : ruleAt ms ch tb i j = none := by
            unfold ruleAt; rw [etf, if_neg (by rw [c]; decide)]
          rw [hra]
          repeat refine WS_nil ?_
          exact ⟨rfl, rfl, rfl, rfl, rfl, by simp; rfl, trivial⟩
      · have e2 : (List.map V.int (rngV 0 ((2 ^ i : Nat) : Int))).length = 2 ^ i := by rw [List.length_map, rngV_len]; omega
        rw [e2] at hl
        refine WS_nil (WS_nil ⟨⟨hl.1, hl.2.1, hl.2.2.1, hl.2.2.2.1, hl.2.2.2.2.2.1, trivial⟩, ?_⟩)
        rw [List.length_append]; omega
    · have e2 : (List.map V.int (rngV 0 4)).length = 4 := by rw [List.length_map, rngV_len]; rfl
      rw [e2] at hl
      refine WS_nil (WS.wk [("rules", .own ((rulesL ms ch tb).map triV))] ⟨hl.2.2.2.2.1, trivial⟩ ?_)
      exact WS_cons (WX_freeze (fun _ => true) (WX_ret (WE_v (by rfl) h)))
  · obtain ⟨x1, x2, x3, rfl⟩ := xl3 hx
    rfl
end Mine

end
section
open PySem PySem.W PySem.Calls PyProof.Rows
set_option linter.unusedVariables false
set_option maxRecDepth 100000
namespace Mine
/-! what the law builds, in natural numbers -/
noncomputable def totI (is : List Int) : Int := 79 + ((is.take 24).map fun n => n.fmod 1000000000).sum
theorem fm_range (n : Int) : 0 ≤ n.fmod 1000000000 ∧ n.fmod 1000000000 < 1000000000 := ⟨Int.fmod_nonneg_of_pos _ (by decide), Int.fmod_lt_of_pos _ (by decide)⟩
theorem sum_nonneg : ∀ (l : List Int), (∀ x ∈ l, 0 ≤ x) → 0 ≤ l.sum
  | [], _ => by simp
  | x :: l, h => by
    have := sum_nonneg l fun y hy => h y (.tail _ hy)
    have := h x (.head _)
    rw [List.sum_cons]; omega
noncomputable def totN (is : List Int) : Nat := (totI is).toNat
theorem tot_eq (is : List Int) : totI is = (totN is : Int) := by
  have : 0 ≤ ((is.take 24).map fun n => n.fmod 1000000000).sum := sum_nonneg _ fun x hx => by
    obtain ⟨n, _, rfl⟩ := List.mem_map.mp hx
    exact (fm_range n).1
  unfold totN totI at *
  omega
noncomputable def colsI : List Int := [1, 2, 3, 4, 5, 6, 7, 8, 9]
noncomputable def colsN : List Nat := [1, 2, 3, 4, 5, 6, 7, 8, 9]
noncomputable def popC (a b c : Nat) : Nat × Nat × Nat := (colsN.getD a 0, (colsN.eraseIdx a).getD b 0, ((colsN.eraseIdx a).eraseIdx b).getD c 0)
noncomputable def okC (p : Nat × Nat × Nat) : Bool := decide (1 ≤ p.1 ∧ p.1 ≤ 9 ∧ 1 ≤ p.2.1 ∧ p.2.1 ≤ 9 ∧ 1 ≤ p.2.2 ∧ p.2.2 ≤ 9 ∧ p.1 ≠ p.2.1 ∧ p.1 ≠ p.2.2 ∧ p.2.1 ≠ p.2.2)
theorem pops_fin : ∀ (a : Fin 9) (b : Fin 8) (c : Fin 7), (colsI[a.val]? = some ((popC a.val b.val c.val).1 : Int) ∧ (colsI.eraseIdx a.val)[b.val]? = some ((popC a.val b.val c.val).2.1 : Int) ∧ ((colsI.eraseIdx a.val).eraseIdx b.val)[c.val]? = some ((popC a.val b.val c.val).2.2 : Int)) ∧ okC (popC a.val b.val c.val) = true := by decide +kernel
noncomputable def pOf (T : Nat) : Nat × Nat × Nat := popC (T / 256 % 9) (T / 2304 % 8) (T / 18432 % 7)
noncomputable def chOf (T : Nat) : List Nat := [(pOf T).1, (pOf T).2.1, (pOf T).2.2]
theorem pOf_ok (T : Nat) : (colsI[T / 256 % 9]? = some ((pOf T).1 : Int) ∧ (colsI.eraseIdx (T / 256 % 9))[T / 2304 % 8]? = some ((pOf T).2.1 : Int) ∧ ((colsI.eraseIdx (T / 256 % 9)).eraseIdx (T / 2304 % 8))[T / 18432 % 7]? = some ((pOf T).2.2 : Int)) ∧
    (1 ≤ (pOf T).1 ∧ (pOf T).1 ≤ 9 ∧ 1 ≤ (pOf T).2.1 ∧ (pOf T).2.1 ≤ 9 ∧ 1 ≤ (pOf T).2.2 ∧ (pOf T).2.2 ≤ 9 ∧ (pOf T).1 ≠ (pOf T).2.1 ∧ (pOf T).1 ≠ (pOf T).2.2 ∧ (pOf T).2.1 ≠ (pOf T).2.2) := by
  obtain ⟨h1, h2⟩ := pops_fin ⟨T / 256 % 9, by omega⟩ ⟨T / 2304 % 8, by omega⟩ ⟨T / 18432 % 7, by omega⟩
  exact ⟨h1, of_decide_eq_true h2⟩
noncomputable def mOf (T : Nat) : Nat := (16877 + T) % 65536
noncomputable def oOf (T : Nat) : Nat := 61951 - ((chOf T).map fun c => 2 ^ (9 - c)).sum
noncomputable def tbOf (T : Nat) : List Bool := (List.range 8).map fun i => T.testBit i
noncomputable def stepN (k b m : Nat) : Nat := 2 ^ k * (2 * (m / 2 ^ k / 2) + b) + m % 2 ^ k
theorem and_two (m k : Nat) : m &&& 2 ^ k = 2 ^ k * (m / 2 ^ k % 2) := by
  have h := and_pow m k
  have e : m.testBit k = decide (m / 2 ^ k % 2 = 1) := Nat.testBit_eq_decide_div_mod_eq
  rcases Nat.mod_two_eq_zero_or_one (m / 2 ^ k) with h0 | h0
  · rw [h0] at e ⊢
    rw [e] at h
    simpa using h
  · rw [h0] at e ⊢
    rw [Nat.mul_one]
    refine Nat.eq_of_testBit_eq fun j => ?_
    rw [Nat.testBit_and, Nat.testBit_two_pow]
    by_cases hj : k = j
    · subst hj; rw [e]; simp
    · simp [hj]
theorem step_eq (k b m : Nat) : m - (m &&& 2 ^ k) + 2 ^ k * b = stepN k b m := by
  unfold stepN
  rw [and_two]
  have h1 := Nat.div_add_mod m (2 ^ k)
  have h2 := Nat.div_add_mod (m / 2 ^ k) 2
  have h3 : 2 ^ k * (m / 2 ^ k) = 2 ^ k * (2 * (m / 2 ^ k / 2)) + 2 ^ k * (m / 2 ^ k % 2) := by rw [← Nat.mul_add, h2]
  rw [Nat.mul_add]
  omega
theorem step_bit (k b m : Nat) (hb : b < 2) (j : Nat) : (stepN k b m).testBit j = if j = k then decide (b = 1) else m.testBit j := by
  have lt : m % 2 ^ k < 2 ^ k := Nat.mod_lt _ (Nat.two_pow_pos k)
  have hm : m = 2 ^ k * (m / 2 ^ k) + m % 2 ^ k := (Nat.div_add_mod m (2 ^ k)).symm
  unfold stepN
  rw [Nat.testBit_two_pow_mul_add _ lt]
  by_cases h1 : j < k
  · rw [if_pos h1, if_neg (Nat.ne_of_lt h1)]
    conv => rhs; rw [hm, Nat.testBit_two_pow_mul_add _ lt, if_pos h1]
  · rw [if_neg h1]
    by_cases h2 : j = k
    · subst h2
      rw [if_pos rfl, Nat.sub_self, Nat.testBit_zero]
      congr 1
      simp only [eq_iff_iff]
      omega
    · rw [if_neg h2]
      obtain ⟨t, ht⟩ : ∃ t, j - k = t + 1 := ⟨j - k - 1, by omega⟩
      rw [ht, Nat.testBit_succ]
      conv => rhs; rw [hm, Nat.testBit_two_pow_mul_add _ lt, if_neg h1, ht, Nat.testBit_succ]
      congr 1
      omega
theorem step_lt {k b m : Nat} (hb : b < 2) (hk : k < 16) (hm : m < 65536) : stepN k b m < 65536 := by
  refine Nat.lt_pow_two_of_testBit (n := 16) _ fun j hj => ?_
  rw [step_bit k b m hb, if_neg (by omega)]
  exact Nat.testBit_lt_two_pow (Nat.lt_of_lt_of_le hm (Nat.pow_le_pow_right (by decide : 0 < 2) hj))
noncomputable def bitN (leaf d : Nat) : Nat := leaf / 2 ^ (2 - d) % 2
noncomputable def modeN (m : Nat) (ch : List Nat) (leaf : Nat) : Nat := (ch.zipIdx.map fun p => (p.2, p.1)).foldl (fun m p => stepN (9 - p.2) (bitN leaf p.1) m) m
theorem modeStep_eq (leaf m d c : Nat) : modeStep leaf (m : Int) (d, c) = ((stepN (9 - c) (bitN leaf d) m : Nat) : Int) := by
  unfold modeStep heldI
  dsimp only
  rw [← step_eq]
  have e1 : ((leaf : Int)).fdiv (2 ^ (2 - d)) = ((leaf / 2 ^ (2 - d) : Nat) : Int) := by
    rw [Int.fdiv_eq_ediv_of_nonneg _ (Int.pow_nonneg (by decide))]; norm_cast
  have e2 : (2 : Int) ^ (9 - c) = ((2 ^ (9 - c) : Nat) : Int) := by norm_cast
  rw [e1, e2, bitAnd_nat, show (1 : Int) = ((1 : Nat) : Int) from rfl, bitAnd_nat, Nat.and_one_is_mod]
  have h := Nat.and_le_left (n := m) (m := 2 ^ (9 - c))
  unfold bitN
  push_cast
  omega
theorem modeF_eq (m : Nat) (ch : List Nat) (leaf : Nat) : modeF (m : Int) ch leaf = ((modeN m ch leaf : Nat) : Int) := by
  unfold modeF modeN
  generalize (ch.zipIdx.map fun p => (p.2, p.1)) = ps
  induction ps generalizing m with
  | nil => rfl
  | cons p ps ih =>
    rw [List.foldl_cons, List.foldl_cons, show modeStep leaf (m : Int) p = ((stepN (9 - p.2) (bitN leaf p.1) m : Nat) : Int) from modeStep_eq leaf m p.1 p.2]
    exact ih _
theorem modeN_lt {m : Nat} (ch : List Nat) (leaf : Nat) (hm : m < 65536) : modeN m ch leaf < 65536 := by
  unfold modeN
  generalize (ch.zipIdx.map fun p => (p.2, p.1)) = ps
  induction ps generalizing m with
  | nil => exact hm
  | cons p ps ih => exact ih (step_lt (by unfold bitN; omega) (by omega) hm)
noncomputable def msOf (T : Nat) : List Nat := (List.range 8).map (modeN (mOf T) (chOf T))
noncomputable def tsOf (T : Nat) : List Tri := rulesL (msOf T) (chOf T) (tbOf T)
noncomputable def flipN (T leaf : Nat) : Nat := oOf T * (T / 256 / 2 ^ leaf % 2)
noncomputable def rowsOf (T : Nat) : List (List Nat) := (List.range 8).map fun leaf => rowL ((msOf T).getD leaf 0 ^^^ flipN T leaf)
noncomputable def turnOf (T : Nat) : Nat := T % ((tsOf T).length + 1)
noncomputable def ordOf (T : Nat) : List Nat := List.range' (turnOf T) ((tsOf T).length - turnOf T) ++ List.range (turnOf T)
noncomputable def turnedOf (T out : Nat) : List Bool := (tbOf T).zipIdx.map fun p => p.1 != (narrow p.2 0 (-1) (tsOf T) == (out : Int))
noncomputable def LawOk (T : Nat) : Prop := (rowsOf T).map (allowF (pickR (tsOf T) (ordOf T))) = tbOf T ∧ ∀ out ∈ ordOf T, (rowsOf T).map (allowF (pickR (tsOf T) ((ordOf T).filter fun p => p != out))) = turnedOf T out
end Mine

end
section
open PySem PySem.W PySem.Calls PyProof.Rows
set_option linter.unusedVariables false
set_option maxRecDepth 100000
namespace Mine
/-! the plain law -/
/-! signs and bits -/
theorem getD_some {row : List Nat} {c x : Nat} (h : row[c]? = some x) : row.getD c 0 = x := by rw [List.getD_eq_getElem?_getD, h]; rfl
theorem row_get (n : Nat) {c : Nat} (hc : c < 10) : (rowL n)[c]? = some ((rowL n).getD c 0) := by
  rw [List.getD_eq_getElem?_getD, List.getElem?_eq_getElem (by rw [rowL_len]; exact hc)]; rfl
theorem row_eq {n k : Nat} (h9 : n.testBit 9 = k.testBit 9) (h10 : n.testBit 10 = k.testBit 10) (h11 : n.testBit 11 = k.testBit 11) {c : Nat} (h1 : 1 ≤ c) (h2 : c ≤ 9) :
    ((rowL n).getD c 0 == (rowL k).getD c 0) = (n.testBit (9 - c) == k.testBit (9 - c)) := by
  have f1 : ∀ a b : Bool, (b1 a 114 == b1 b 114) = (a == b) := by decide
  have f2 : ∀ a b : Bool, (b1 a 119 == b1 b 119) = (a == b) := by decide
  have f3 : ∀ x a b : Bool, (b3 x a 115 83 == b3 x b 115 83) = (a == b) := by decide
  have f4 : ∀ x a b : Bool, (b3 x a 116 84 == b3 x b 116 84) = (a == b) := by decide
  have := nine h1 h2
  rcases this with rfl | rfl | rfl | rfl | rfl | rfl | rfl | rfl | rfl
  · exact f1 _ _
  · exact f2 _ _
  · show (b3 _ _ 115 83 == b3 _ _ 115 83) = _
    rw [h11]; exact f3 _ _ _
  · exact f1 _ _
  · exact f2 _ _
  · show (b3 _ _ 115 83 == b3 _ _ 115 83) = _
    rw [h10]; exact f3 _ _ _
  · exact f1 _ _
  · exact f2 _ _
  · show (b3 _ _ 116 84 == b3 _ _ 116 84) = _
    rw [h9]; exact f4 _ _ _
/-! what is asked -/
theorem asks_all (row : List Nat) : ∀ (i : Nat) (cs : List Nat), (asksFrom i cs).all (fun p => meets p row) = true ↔ ∀ k c, cs[k]? = some c → c ≠ 63 → row[i + k]? = some c
  | i, [] => by simp [asksFrom]
  | i, d :: cs => by
    have ih := asks_all row (i + 1) cs
    have key : (∀ k c, (d :: cs)[k]? = some c → c ≠ 63 → row[i + k]? = some c) ↔ (d ≠ 63 → row[i]? = some d) ∧ ∀ k c, cs[k]? = some c → c ≠ 63 → row[i + 1 + k]? = some c := by
      constructor
      · intro h
        refine ⟨fun h6 => h 0 d rfl h6, fun k c hk h6 => ?_⟩
        have := h (k + 1) c (by simpa using hk) h6
        rwa [show i + 1 + k = i + (k + 1) by omega]
      · intro ⟨ha, hb⟩ k c hk h6
        cases k with
        | zero => cases hk; exact ha h6
        | succ k =>
          have := hb k c (by simpa using hk) h6
          rwa [show i + (k + 1) = i + 1 + k by omega]
    rw [key]
    unfold asksFrom
    by_cases h : d = 63
    · rw [if_pos h, ih]
      exact ⟨fun x => ⟨fun y => absurd h y, x⟩, fun x => x.2⟩
    · rw [if_neg h, List.all_cons, Bool.and_eq_true, ih]
      have : meets (i, d) row = true ↔ row[i]? = some d := by
        unfold meets; exact beq_iff_eq
      rw [this]
      exact ⟨fun x => ⟨fun _ => x.1, x.2⟩, fun x => ⟨x.1 h, x.2⟩⟩
theorem asks_count : ∀ (i : Nat) (cs : List Nat), (asksFrom i cs).length = (cs.filter (· != 63)).length
  | i, [] => rfl
  | i, d :: cs => by
    have ih := asks_count (i + 1) cs
    unfold asksFrom
    by_cases h : d = 63
    · rw [if_pos h, ih, List.filter_cons_of_neg (by simp [h])]
    · rw [if_neg h, List.filter_cons_of_pos (by simpa using h), List.length_cons, List.length_cons, ih]
theorem signs63 : ∀ c ∈ signs, c ≠ 63 := by decide
theorem pat_get {m d k : Nat} {ch : List Nat} (hk : k < 10) : (patL m ch d)[k]? = some (if (ch.take d).any (· == k) = true then (rowL m).getD k 0 else 63) := by
  unfold patL; rw [List.getElem?_map, List.getElem?_range hk]; rfl
theorem any_mem {l : List Nat} {k : Nat} : l.any (· == k) = true ↔ k ∈ l := by
  rw [List.any_eq_true]
  constructor
  · rintro ⟨x, hx, e⟩; rw [← beq_iff_eq.mp e]; exact hx
  · intro h; exact ⟨k, h, by simp⟩
theorem row_no63 (n : Nat) {c : Nat} (h1 : 1 ≤ c) (h2 : c ≤ 9) : (rowL n).getD c 0 ≠ 63 := by
  obtain ⟨x, hx, hs⟩ := row_signs n h1 h2
  rw [getD_some hx]; exact signs63 x hs
theorem pat_all {n m d : Nat} {ch : List Nat} (hc : ∀ c ∈ ch, 1 ≤ c ∧ c ≤ 9) : (asksFrom 0 (patL m ch d)).all (fun p => meets p (rowL n)) = (ch.take d).all fun c => (rowL n).getD c 0 == (rowL m).getD c 0 := by
  rw [Bool.eq_iff_iff, asks_all, List.all_eq_true]
  constructor
  · intro h c hcm
    have hb := hc c (List.mem_of_mem_take hcm)
    have := h c _ (pat_get (by omega)) (by rw [if_pos (any_mem.mpr hcm)]; exact row_no63 m hb.1 hb.2)
    rw [Nat.zero_add, if_pos (any_mem.mpr hcm)] at this
    rw [getD_some this]; simp
  · intro h k c hk h6
    have hk10 : k < 10 := by
      have := (List.getElem?_eq_some_iff.mp hk).1
      unfold patL at this; simpa using this
    rw [pat_get hk10] at hk
    cases hk
    by_cases hm : (ch.take d).any (· == k) = true
    · rw [if_pos hm] at h6 ⊢
      rw [Nat.zero_add, row_get n hk10]
      have := h k (any_mem.mp hm)
      rw [beq_iff_eq.mp this]
    · rw [if_neg hm] at h6; exact absurd rfl h6
theorem cnt_fin : ∀ (a b c : Fin 10) (d : Fin 4), a ≠ b → a ≠ c → b ≠ c → ((List.range 10).filter fun k => ([a.val, b.val, c.val].take d.val).any (· == k)).length = d.val := by decide +kernel
theorem patA_len {m a b c d : Nat} (ha : 1 ≤ a ∧ a ≤ 9) (hb : 1 ≤ b ∧ b ≤ 9) (hc : 1 ≤ c ∧ c ≤ 9) (h1 : a ≠ b) (h2 : a ≠ c) (h3 : b ≠ c) (hd : d < 4) : (asksFrom 0 (patL m [a, b, c] d)).length = d := by
  rw [asks_count]
  unfold patL
  rw [List.filter_map, List.length_map]
  have e : (List.range 10).filter ((fun x => x != 63) ∘ fun k => if ([a, b, c].take d).any (· == k) = true then (rowL m).getD k 0 else 63) = (List.range 10).filter fun k => ([a, b, c].take d).any (· == k) := by
    refine List.filter_congr fun k hk => ?_
    show ((if ([a, b, c].take d).any (· == k) = true then (rowL m).getD k 0 else 63) != 63) = _
    by_cases h : ([a, b, c].take d).any (· == k) = true
    · rw [if_pos h, h]
      have : k ∈ [a, b, c] := List.mem_of_mem_take (any_mem.mp h)
      have hk9 : 1 ≤ k ∧ k ≤ 9 := by
        simp only [List.mem_cons, List.not_mem_nil, or_false] at this
        rcases this with rfl | rfl | rfl <;> assumption
      simpa using row_no63 m hk9.1 hk9.2
    · rw [if_neg h, Bool.eq_false_iff.mpr h]; rfl
  rw [e]
  exact cnt_fin ⟨a, by omega⟩ ⟨b, by omega⟩ ⟨c, by omega⟩ ⟨d, hd⟩ (by simpa using h1) (by simpa using h2) (by simpa using h3)
end Mine

end
section
open PySem PySem.W PySem.Calls PyProof.Rows
set_option linter.unusedVariables false
set_option maxRecDepth 100000
namespace Mine
theorem o_bits : ∀ (a b c : Fin 10), 1 ≤ a.val → 1 ≤ b.val → 1 ≤ c.val → a ≠ b → a ≠ c → b ≠ c → ∀ j ∈ [9, 10, 11, 9 - a.val, 9 - b.val, 9 - c.val], (61951 - ([a.val, b.val, c.val].map fun c => 2 ^ (9 - c)).sum).testBit j = false := by decide +kernel
theorem bit_lt {leaf d : Nat} : bitN leaf d < 2 := Nat.mod_lt _ (by decide)
theorem mode_bit {m a b c leaf : Nat} (j : Nat) : (modeN m [a, b, c] leaf).testBit j = if j = 9 - c then decide (bitN leaf 2 = 1) else if j = 9 - b then decide (bitN leaf 1 = 1) else if j = 9 - a then decide (bitN leaf 0 = 1) else m.testBit j := by
  show (stepN (9 - c) (bitN leaf 2) (stepN (9 - b) (bitN leaf 1) (stepN (9 - a) (bitN leaf 0) m))).testBit j = _
  rw [step_bit _ _ _ bit_lt, step_bit _ _ _ bit_lt, step_bit _ _ _ bit_lt]
theorem same_fin : ∀ (d : Fin 4) (p : Fin 8) (leaf : Fin 8), p.val < 2 ^ d.val → (((List.range d.val).all fun j => bitN leaf.val j == bitN (firstN d.val p.val) j) = decide (leaf.val / 2 ^ (3 - d.val) = p.val)) := by decide +kernel
theorem over_fin : ∀ (d : Fin 4) (p : Fin 8) (leaf : Fin 8), p.val < 2 ^ d.val → (decide (firstN d.val p.val ≤ leaf.val) && decide (leaf.val < firstN d.val p.val + 8 / 2 ^ d.val)) = decide (leaf.val / 2 ^ (3 - d.val) = p.val) := by decide +kernel
/-- the row that is asked for -/
noncomputable def askR (T leaf : Nat) : List Nat := rowL ((msOf T).getD leaf 0 ^^^ flipN T leaf)
theorem ms_getD {T i : Nat} (hi : i < 8) : (msOf T).getD i 0 = modeN (mOf T) (chOf T) i := by
  unfold msOf
  rw [List.getD_eq_getElem?_getD, List.getElem?_map, List.getElem?_range hi]; rfl
theorem tb_getD {T i : Nat} (hi : i < 8) : (tbOf T).getD i false = T.testBit i := by
  unfold tbOf
  rw [List.getD_eq_getElem?_getD, List.getElem?_map, List.getElem?_range hi]; rfl
theorem flip_bit {T leaf j : Nat} (h : (oOf T).testBit j = false) : (flipN T leaf).testBit j = false := by
  unfold flipN
  rcases Nat.mod_two_eq_zero_or_one (T / 256 / 2 ^ leaf) with e | e <;> rw [e]
  · simp
  · rw [Nat.mul_one]; exact h
theorem one_bool (x y : Nat) (hx : x < 2) (hy : y < 2) : (decide (x = 1) == decide (y = 1)) = (x == y) := by
  have : x = 0 ∨ x = 1 := by omega
  have : y = 0 ∨ y = 1 := by omega
  rcases ‹x = 0 ∨ x = 1› with rfl | rfl <;> rcases ‹y = 0 ∨ y = 1› with rfl | rfl <;> rfl
theorem take3 {d : Nat} (hd : d < 4) (a b c : Nat) (f : Nat → Nat → Bool) (P : Nat → Bool) (h0 : P a = f 0 a) (h1 : P b = f 1 b) (h2 : P c = f 2 c) (g : Nat → Bool) (e0 : f 0 a = g 0) (e1 : f 1 b = g 1) (e2 : f 2 c = g 2) : ([a, b, c].take d).all P = (List.range d).all g := by
  have : d = 0 ∨ d = 1 ∨ d = 2 ∨ d = 3 := by omega
  rcases this with rfl | rfl | rfl | rfl
  · rfl
  · show (P a && true) = (g 0 && true); rw [h0, e0]
  · show (P a && (P b && true)) = (g 0 && (g 1 && true)); rw [h0, e0, h1, e1]
  · show (P a && (P b && (P c && true))) = (g 0 && (g 1 && (g 2 && true))); rw [h0, e0, h1, e1, h2, e2]
/-- a part's pattern fits just the rows of its leaves -/
theorem fits_row {T d p leaf : Nat} (hd : d < 4) (hp : p < 2 ^ d) (hl : leaf < 8) :
    (asksFrom 0 (patL ((msOf T).getD (firstN d p) 0) (chOf T) d)).all (fun q => meets q (askR T leaf)) = decide (leaf / 2 ^ (3 - d) = p) := by
  obtain ⟨_, b1, b2, b3, b4, b5, b6, n1, n2, n3⟩ := pOf_ok T
  have hch : ∀ c ∈ chOf T, 1 ≤ c ∧ c ≤ 9 := by
    intro c hc
    unfold chOf at hc
    simp only [List.mem_cons, List.not_mem_nil, or_false] at hc
    rcases hc with rfl | rfl | rfl
    · exact ⟨b1, b2⟩
    · exact ⟨b3, b4⟩
    · exact ⟨b5, b6⟩
  have hf := first_lt hd hp
  have hp8 : p < 8 := by
    have := (pow_small ⟨d, hd⟩).1
    dsimp only at this
    omega
  unfold askR
  rw [pat_all hch, ms_getD hf, ms_getD hl, ← same_fin ⟨d, hd⟩ ⟨p, hp8⟩ ⟨leaf, hl⟩ hp]
  have ob := o_bits ⟨(pOf T).1, by omega⟩ ⟨(pOf T).2.1, by omega⟩ ⟨(pOf T).2.2, by omega⟩ b1 b3 b5 (by simpa using n1) (by simpa using n2) (by simpa using n3)
  have ho : ∀ j ∈ [9, 10, 11, 9 - (pOf T).1, 9 - (pOf T).2.1, 9 - (pOf T).2.2], (flipN T leaf).testBit j = false := fun j hj => flip_bit (ob j hj)
  clear ob
  unfold chOf
  generalize (pOf T).1 = a at *
  generalize (pOf T).2.1 = b at *
  generalize (pOf T).2.2 = c at *
  have hx : ∀ j ∈ [9, 10, 11, 9 - a, 9 - b, 9 - c], (modeN (mOf T) [a, b, c] leaf ^^^ flipN T leaf).testBit j = (modeN (mOf T) [a, b, c] leaf).testBit j := fun j hj => by
    rw [Nat.testBit_xor, ho j hj, Bool.xor_false]
  have hsp : ∀ j ∈ [9, 10, 11], (modeN (mOf T) [a, b, c] leaf ^^^ flipN T leaf).testBit j = (modeN (mOf T) [a, b, c] (firstN d p)).testBit j := fun j hj => by
    have h9 : 9 ≤ j := by
      simp only [List.mem_cons, List.not_mem_nil, or_false] at hj
      omega
    rw [hx j (by simp only [List.mem_cons, List.not_mem_nil, or_false] at hj ⊢; omega), mode_bit, mode_bit]
    rw [if_neg (by omega), if_neg (by omega), if_neg (by omega), if_neg (by omega), if_neg (by omega), if_neg (by omega)]
  refine take3 hd a b c (fun i _ => decide (bitN leaf i = 1) == decide (bitN (firstN d p) i = 1)) _ ?_ ?_ ?_ _ (one_bool _ _ bit_lt bit_lt) (one_bool _ _ bit_lt bit_lt) (one_bool _ _ bit_lt bit_lt)
  · rw [row_eq (hsp 9 (by simp)) (hsp 10 (by simp)) (hsp 11 (by simp)) b1 b2, hx _ (by simp), mode_bit, mode_bit]
    rw [if_neg (by omega), if_neg (by omega), if_pos rfl, if_neg (by omega), if_neg (by omega), if_pos rfl]
  · rw [row_eq (hsp 9 (by simp)) (hsp 10 (by simp)) (hsp 11 (by simp)) b3 b4, hx _ (by simp), mode_bit, mode_bit]
    rw [if_neg (by omega), if_pos rfl, if_neg (by omega), if_pos rfl]
  · rw [row_eq (hsp 9 (by simp)) (hsp 10 (by simp)) (hsp 11 (by simp)) b5 b6, hx _ (by simp), mode_bit, mode_bit]
    rw [if_pos rfl, if_pos rfl]
end Mine

end
section
open PySem PySem.W PySem.Calls PyProof.Rows
set_option linter.unusedVariables false
set_option maxRecDepth 100000
namespace Mine
/-! the allowance of rules that lie one above the other -/
theorem fold_zero {row : List Nat} : ∀ (rs : List Rul) (st : Int × Bool), (∀ r ∈ rs, reachI r.1 row = 0) → rs.foldl (stepA row) st = st
  | [], st, _ => rfl
  | r :: rs, st, h => by
    rw [List.foldl_cons]
    have : stepA row st r = st := by unfold stepA; rw [if_pos (h r (.head _))]
    rw [this]
    exact fold_zero rs st fun q hq => h q (.tail _ hq)
theorem fold_max {row : List Nat} {M : Int} {v : Bool} (hM : 0 < M) : ∀ (rs : List Rul) (st : Int × Bool), st.1 ≤ M → (st.1 = M → st.2 = v) → (∀ r ∈ rs, reachI r.1 row ≤ M ∧ (reachI r.1 row = M → r.2 = v)) → (st.1 = M ∨ ∃ r ∈ rs, reachI r.1 row = M) → (rs.foldl (stepA row) st).2 = v
  | [], st, _, h2, _, h4 => by
    rcases h4 with h | ⟨r, hr, _⟩
    · exact h2 h
    · cases hr
  | r :: rs, (b, a), h1, h2, h3, h4 => by
    rw [List.foldl_cons]
    obtain ⟨r1, r2⟩ := h3 r (.head _)
    have rest := fun q hq => h3 q (.tail _ hq)
    dsimp only at h1 h2 h4
    have hs : stepA row (b, a) r = if reachI r.1 row = 0 then (b, a) else if reachI r.1 row > b then (reachI r.1 row, r.2) else if reachI r.1 row = b then (if a = true then (b, a) else (b, r.2)) else (b, a) := rfl
    rw [hs]
    have tail : ∀ (x : b = M ∨ reachI r.1 row ≠ M), b = M ∨ ∃ r ∈ rs, reachI r.1 row = M := fun x => by
      rcases h4 with h | ⟨q, hq, e⟩
      · exact .inl h
      · cases hq with
        | head => rcases x with x | x
                  · exact .inl x
                  · exact absurd e x
        | tail _ hq => exact .inr ⟨q, hq, e⟩
    by_cases c0 : reachI r.1 row = 0
    · rw [if_pos c0]
      exact fold_max hM rs _ h1 h2 rest (tail (.inr (by omega)))
    · rw [if_neg c0]
      by_cases c1 : reachI r.1 row > b
      · rw [if_pos c1]
        refine fold_max hM rs _ r1 r2 rest ?_
        by_cases e : reachI r.1 row = M
        · exact .inl e
        · rcases tail (.inr e) with x | x
          · omega
          · exact .inr x
      · rw [if_neg c1]
        by_cases c2 : reachI r.1 row = b
        · rw [if_pos c2]
          by_cases ca : a = true
          · rw [if_pos ca]
            refine fold_max hM rs _ h1 h2 rest (tail ?_)
            by_cases e : b = M
            · exact .inl e
            · exact .inr (by omega)
          · rw [if_neg ca]
            refine fold_max hM rs _ h1 (fun e => r2 (c2.trans e)) rest (tail ?_)
            by_cases e : b = M
            · exact .inl e
            · exact .inr (by omega)
        · rw [if_neg c2]
          exact fold_max hM rs _ h1 h2 rest (tail (.inr (by omega)))
theorem top_chg (w : Nat → Bool) : ∀ n, ((∀ d, d < n → w (d + 1) = w d) ∧ w n = w 0) ∨ ∃ d, d < n ∧ w (d + 1) ≠ w d ∧ w n = w (d + 1) ∧ ∀ e, d < e → e < n → w (e + 1) = w e
  | 0 => .inl ⟨fun d h => absurd h (Nat.not_lt_zero _), rfl⟩
  | n + 1 => by
    by_cases h : w (n + 1) = w n
    · rcases top_chg w n with ⟨h1, h2⟩ | ⟨d, h1, h2, h3, h4⟩
      · refine .inl ⟨fun d hd => ?_, h.trans h2⟩
        by_cases e : d = n
        · subst e; exact h
        · exact h1 d (by omega)
      · refine .inr ⟨d, by omega, h2, h.trans h3, fun e he1 he2 => ?_⟩
        by_cases q : e = n
        · subst q; exact h
        · exact h4 e he1 (by omega)
    · exact .inr ⟨n, Nat.lt_succ_self _, h, rfl, fun e h1 h2 => by omega⟩
noncomputable abbrev dep (t : Tri) : Nat := t.2.2.1.length
/-- the rules over a leaf, w the verdicts from above -/
structure Lays (ts : List Tri) (row : List Nat) (leaf : Nat) (w : Nat → Bool) : Prop where
  w0 : w 0 = true
  f1 : ∀ t ∈ ts, over t leaf = true → dep t < 4 ∧ w (dep t + 1) ≠ w (dep t) ∧ t.2.2.2 = w (dep t + 1)
  f2 : ∀ d, d < 4 → w (d + 1) ≠ w d → ∃ t ∈ ts, over t leaf = true ∧ dep t = d
  f3 : ts.Pairwise fun t u => over t leaf = true → over u leaf = true → dep t < dep u
  f4 : ∀ t ∈ ts, reachI t.2.2.1 row = if over t leaf = true then ((dep t + 1 : Nat) : Int) else 0
theorem pick_mem {ts : List Tri} {order : List Nat} {r : Rul} : r ∈ pickR ts order ↔ ∃ j ∈ order, ∃ t, ts[j]? = some t ∧ t.2.2 = r := by
  unfold pickR
  rw [List.mem_filterMap]
  constructor
  · rintro ⟨j, hj, e⟩
    obtain ⟨t, ht, e⟩ := Option.map_eq_some_iff.mp e
    exact ⟨j, hj, t, ht, e⟩
  · rintro ⟨j, hj, t, ht, e⟩
    exact ⟨j, hj, by rw [ht, ← e]; rfl⟩
theorem Lays.best {ts : List Tri} {row : List Nat} {leaf : Nat} {w : Nat → Bool} (L : Lays ts row leaf w) {order : List Nat} {n : Nat}
    (h1 : ∀ j ∈ order, ∀ t, ts[j]? = some t → over t leaf = true → dep t < n)
    (h2 : ∀ d, d < n → w (d + 1) ≠ w d → (∃ j ∈ order, ∃ t, ts[j]? = some t ∧ over t leaf = true ∧ dep t = d) ∨ ∃ e, d < e ∧ e < n ∧ w (e + 1) ≠ w e) : allowF (pickR ts order) row = w n := by
  unfold allowF
  rcases top_chg w n with ⟨g1, g2⟩ | ⟨d, hd, g2, g3, g4⟩
  · rw [fold_zero, g2, L.w0]
    intro r hr
    obtain ⟨j, hj, t, ht, rfl⟩ := pick_mem.mp hr
    have htm := List.mem_of_getElem? ht
    rw [L.f4 t htm]
    by_cases ho : over t leaf = true
    · exact absurd (g1 _ (h1 j hj t ht ho)) (L.f1 t htm ho).2.1
    · rw [if_neg ho]
  · have key : ∀ j ∈ order, ∀ t, ts[j]? = some t → over t leaf = true → dep t ≤ d := fun j hj t ht ho => by
      refine Nat.le_of_not_lt fun q => ?_
      exact (L.f1 t (List.mem_of_getElem? ht) ho).2.1 (g4 _ q (h1 j hj t ht ho))
    rw [g3]
    refine fold_max (M := ((d + 1 : Nat) : Int)) (by omega) _ _ (by omega) (fun e => by omega) (fun r hr => ?_) (.inr ?_)
    · obtain ⟨j, hj, t, ht, rfl⟩ := pick_mem.mp hr
      have htm := List.mem_of_getElem? ht
      rw [L.f4 t htm]
      by_cases ho : over t leaf = true
      · rw [if_pos ho]
        have := key j hj t ht ho
        refine ⟨by omega, fun e => ?_⟩
        have : dep t = d := by omega
        rw [(L.f1 t htm ho).2.2, this]
      · rw [if_neg ho]
        exact ⟨by omega, fun e => by omega⟩
    · rcases h2 d hd g2 with ⟨j, hj, t, ht, ho, e⟩ | ⟨e, e1, e2, e3⟩
      · refine ⟨t.2.2, pick_mem.mpr ⟨j, hj, t, ht, rfl⟩, ?_⟩
        rw [L.f4 t (List.mem_of_getElem? ht), if_pos ho, e]
      · exact absurd (g4 e e1 e2) e3
theorem narrow_spec (leaf : Nat) (ts : List Tri) : (narrow leaf 0 (-1) ts = -1 ∧ ∀ t ∈ ts, over t leaf = false) ∨ ∃ n t, ts[n]? = some t ∧ over t leaf = true ∧ narrow leaf 0 (-1) ts = (n : Nat) ∧ ∀ j u, n < j → ts[j]? = some u → over u leaf = false := by
  have main : ∀ k, k ≤ ts.length → (narrow leaf 0 (-1) (ts.take k) = -1 ∧ ∀ t ∈ ts.take k, over t leaf = false) ∨ ∃ n t, n < k ∧ ts[n]? = some t ∧ over t leaf = true ∧ narrow leaf 0 (-1) (ts.take k) = (n : Nat) ∧ ∀ j u, n < j → j < k → ts[j]? = some u → over u leaf = false := by
    intro k
    induction k with
    | zero => intro _; exact .inl ⟨rfl, fun t ht => by simp at ht⟩
    | succ k ih =>
      intro hk
      obtain ⟨t, ht⟩ : ∃ t, ts[k]? = some t := ⟨_, List.getElem?_eq_getElem hk⟩
      have e : ts.take (k + 1) = ts.take k ++ [t] := by rw [List.take_add_one, ht]; rfl
      rw [e, narrow_app, List.length_take, Nat.min_eq_left (by omega), Nat.zero_add]
      by_cases ho : over t leaf = true
      · rw [if_pos ho]
        exact .inr ⟨k, t, Nat.lt_succ_self _, ht, ho, rfl, fun j u h1 h2 => by omega⟩
      · rw [if_neg ho]
        have ho : over t leaf = false := by simpa using ho
        rcases ih (by omega) with ⟨h1, h2⟩ | ⟨n, u, h1, h2, h3, h4, h5⟩
        · refine .inl ⟨h1, fun q hq => ?_⟩
          rcases List.mem_append.mp hq with hq | hq
          · exact h2 q hq
          · rw [List.mem_singleton.mp hq]; exact ho
        · refine .inr ⟨n, u, by omega, h2, h3, h4, fun j q q1 q2 q3 => ?_⟩
          by_cases e : j = k
          · subst e; rw [ht] at q3; cases q3; exact ho
          · exact h5 j q q1 (by omega) q3
  have := main ts.length (Nat.le_refl _)
  rw [List.take_length] at this
  rcases this with h | ⟨n, t, h1, h2, h3, h4, h5⟩
  · exact .inl h
  · exact .inr ⟨n, t, h2, h3, h4, fun j u q1 q2 => h5 j u q1 (List.getElem?_eq_some_iff.mp q2).1 q2⟩
theorem Lays.lt {ts : List Tri} {row : List Nat} {leaf : Nat} {w : Nat → Bool} (L : Lays ts row leaf w) {i j : Nat} {t u : Tri} (hij : i < j) (hi : ts[i]? = some t) (hj : ts[j]? = some u) (h1 : over t leaf = true) (h2 : over u leaf = true) : dep t < dep u := by
  obtain ⟨hi', rfl⟩ := List.getElem?_eq_some_iff.mp hi
  obtain ⟨hj', rfl⟩ := List.getElem?_eq_some_iff.mp hj
  exact List.pairwise_iff_getElem.mp L.f3 i j hi' hj' hij h1 h2
theorem Lays.all {ts : List Tri} {row : List Nat} {leaf : Nat} {w : Nat → Bool} (L : Lays ts row leaf w) {order : List Nat} (ho : ∀ i, i < ts.length → i ∈ order) : allowF (pickR ts order) row = w 4 := by
  refine L.best (fun j hj t ht h => (L.f1 t (List.mem_of_getElem? ht) h).1) fun d hd hc => .inl ?_
  obtain ⟨t, htm, h1, h2⟩ := L.f2 d hd hc
  obtain ⟨j, hj, e⟩ := List.getElem_of_mem htm
  exact ⟨j, ho j hj, t, by rw [List.getElem?_eq_getElem hj, e], h1, h2⟩
theorem Lays.less {ts : List Tri} {row : List Nat} {leaf : Nat} {w : Nat → Bool} (L : Lays ts row leaf w) {order : List Nat} (ho : ∀ i, i < ts.length → i ∈ order) {out : Nat} (hout : out < ts.length) :
    allowF (pickR ts (order.filter fun p => p != out)) row = (w 4 != (narrow leaf 0 (-1) ts == (out : Int))) := by
  obtain ⟨t0, ht0⟩ : ∃ t, ts[out]? = some t := ⟨_, List.getElem?_eq_getElem hout⟩
  have mem : ∀ j, j ∈ order.filter (fun p => p != out) ↔ j ∈ order ∧ j ≠ out := fun j => by rw [List.mem_filter]; simp
  have find : ∀ d, d < 4 → w (d + 1) ≠ w d → ∃ j, j < ts.length ∧ ∃ t, ts[j]? = some t ∧ over t leaf = true ∧ dep t = d := fun d hd hc => by
    obtain ⟨t, htm, h1, h2⟩ := L.f2 d hd hc
    obtain ⟨j, hj, e⟩ := List.getElem_of_mem htm
    exact ⟨j, hj, t, by rw [List.getElem?_eq_getElem hj, e], h1, h2⟩
  have away : over t0 leaf = false → allowF (pickR ts (order.filter fun p => p != out)) row = w 4 := fun hn => by
    refine L.best (fun j hj t ht h => (L.f1 t (List.mem_of_getElem? ht) h).1) fun d hd hc => .inl ?_
    obtain ⟨j, hj, t, ht, h1, h2⟩ := find d hd hc
    refine ⟨j, (mem j).mpr ⟨ho j hj, fun e => ?_⟩, t, ht, h1, h2⟩
    subst e; rw [ht0] at ht; cases ht; rw [hn] at h1; cases h1
  rcases narrow_spec leaf ts with ⟨e, hn⟩ | ⟨n, t, htn, hov, e, hl⟩
  · rw [e, away (hn t0 (List.mem_of_getElem? ht0))]
    have : ((-1 : Int) == (out : Int)) = false := by rw [beq_eq_false_iff_ne]; omega
    rw [this, Bool.bne_false]
  · rw [e]
    have tm := List.mem_of_getElem? htn
    obtain ⟨d4, dc, dv⟩ := L.f1 t tm hov
    by_cases hno : n = out
    · subst hno
      have e0 : t = t0 := by rw [htn] at ht0; exact Option.some.inj ht0
      subst e0
      have tops : ∀ j u, ts[j]? = some u → over u leaf = true → j ≠ n → dep u < dep t := fun j u hu ho' ne => by
        rcases Nat.lt_or_gt_of_ne ne with h | h
        · exact L.lt h hu htn ho' hov
        · rw [hl j u h hu] at ho'; cases ho'
      have e4 : w 4 = w (dep t + 1) := by
        rw [← L.all ho]
        refine L.best (fun j hj u hu ho' => ?_) fun d hd hc => .inl ?_
        · by_cases q : j = n
          · subst q; rw [htn] at hu; cases hu; exact Nat.lt_succ_self _
          · exact Nat.lt_succ_of_lt (tops j u hu ho' q)
        · obtain ⟨j, hj, u, hu, h1, h2⟩ := find d (by omega) hc
          exact ⟨j, ho j hj, u, hu, h1, h2⟩
      have e5 : allowF (pickR ts (order.filter fun p => p != n)) row = w (dep t) := by
        refine L.best (fun j hj u hu ho' => tops j u hu ho' ((mem j).mp hj).2) fun d hd hc => .inl ?_
        obtain ⟨j, hj, u, hu, h1, h2⟩ := find d (by omega) hc
        refine ⟨j, (mem j).mpr ⟨ho j hj, fun q => ?_⟩, u, hu, h1, h2⟩
        subst q; rw [htn] at hu; cases hu; omega
      rw [e5, e4]
      have : (((n : Nat) : Int) == (n : Int)) = true := beq_self_eq_true _
      rw [this]
      revert dc
      cases w (dep t + 1) <;> cases w (dep t) <;> decide
    · have : (((n : Nat) : Int) == (out : Int)) = false := by rw [beq_eq_false_iff_ne]; omega
      rw [this, Bool.bne_false]
      by_cases h0 : over t0 leaf = true
      · have hlt : out < n := by
          rcases Nat.lt_or_gt_of_ne hno with h | h
          · rw [hl out t0 h ht0] at h0; cases h0
          · exact h
        refine L.best (fun j hj t ht h => (L.f1 t (List.mem_of_getElem? ht) h).1) fun d hd hc => ?_
        by_cases q : d = dep t0
        · subst q
          exact .inr ⟨dep t, L.lt hlt ht0 htn h0 hov, d4, dc⟩
        · obtain ⟨j, hj, u, hu, h1, h2⟩ := find d hd hc
          refine .inl ⟨j, (mem j).mpr ⟨ho j hj, fun e => ?_⟩, u, hu, h1, h2⟩
          subst e; rw [ht0] at hu; cases hu; exact q h2.symm
      · exact away (by simpa using h0)
end Mine

end
section
open PySem PySem.W PySem.Calls PyProof.Rows
set_option linter.unusedVariables false
set_option maxRecDepth 100000
namespace Mine
/-- the verdicts above a leaf: true, then those of the parts it lies in -/
noncomputable def wOf (T leaf : Nat) : Nat → Bool
  | 0 => true
  | d + 1 => T.testBit (leaf / 2 ^ (3 - d) * 2 ^ (3 - d))
theorem p_lt {d leaf : Nat} (hd : d < 4) (hl : leaf < 8) : leaf / 2 ^ (3 - d) < 2 ^ d := by
  have : ∀ (d : Fin 4) (leaf : Fin 8), leaf.val / 2 ^ (3 - d.val) < 2 ^ d.val := by decide
  exact this ⟨d, hd⟩ ⟨leaf, hl⟩
theorem rule_some {T d p : Nat} (hd : d < 4) (hp : p < 2 ^ d) {leaf : Nat} (hl : leaf < 8) (hq : leaf / 2 ^ (3 - d) = p) {t : Tri} :
    ruleAt (msOf T) (chOf T) (tbOf T) d p = some t ↔ wOf T leaf (d + 1) ≠ wOf T leaf d ∧ t = (firstN d p, 8 / 2 ^ d, (asksFrom 0 (patL ((msOf T).getD (firstN d p) 0) (chOf T) d), T.testBit (firstN d p))) := by
  have hf := first_lt hd hp
  have e1 : wOf T leaf (d + 1) = T.testBit (firstN d p) := by subst hq; rfl
  have e2 : aboveB (tbOf T) d p = wOf T leaf d := by
    unfold aboveB
    by_cases h0 : d = 0
    · rw [if_pos h0]; subst h0; rfl
    · rw [if_neg h0, tb_getD (above_lt hd h0 hp)]
      obtain ⟨k, rfl⟩ : ∃ k, d = k + 1 := ⟨d - 1, by omega⟩
      show _ = T.testBit (leaf / 2 ^ (3 - k) * 2 ^ (3 - k))
      have : ∀ (k : Fin 3) (leaf : Fin 8), leaf.val / 2 ^ (3 - (k.val + 1)) / 2 * 2 ^ (4 - (k.val + 1)) = leaf.val / 2 ^ (3 - k.val) * 2 ^ (3 - k.val) := by decide
      rw [← hq, this ⟨k, by omega⟩ ⟨leaf, hl⟩]
  unfold ruleAt
  rw [tb_getD hf, e2, ← e1]
  by_cases h : wOf T leaf (d + 1) = wOf T leaf d
  · rw [if_neg (by simp [h])]
    exact ⟨fun x => (by cases x), fun x => absurd h x.1⟩
  · rw [if_pos (by simpa using h), Option.some.injEq]
    exact ⟨fun x => ⟨h, x.symm⟩, fun x => x.2.symm⟩
theorem rule_shape {ms ch : List Nat} {tb : List Bool} {d p : Nat} {t : Tri} (h : ruleAt ms ch tb d p = some t) : t.1 = firstN d p ∧ t.2.1 = 8 / 2 ^ d ∧ t.2.2.1 = asksFrom 0 (patL (ms.getD (firstN d p) 0) ch d) ∧ t.2.2.2 = tb.getD (firstN d p) false := by
  unfold ruleAt at h
  split at h
  · cases h; exact ⟨rfl, rfl, rfl, rfl⟩
  · cases h
theorem rules_mem {ms ch : List Nat} {tb : List Bool} {t : Tri} : t ∈ rulesL ms ch tb ↔ ∃ d, d < 4 ∧ ∃ p, p < 2 ^ d ∧ ruleAt ms ch tb d p = some t := by
  unfold rulesL rulesD
  rw [List.mem_flatMap]
  constructor
  · rintro ⟨d, hd, h⟩
    obtain ⟨p, hp, h⟩ := List.mem_filterMap.mp h
    exact ⟨d, List.mem_range.mp hd, p, List.mem_range.mp hp, h⟩
  · rintro ⟨d, hd, p, hp, h⟩
    exact ⟨d, List.mem_range.mpr hd, List.mem_filterMap.mpr ⟨p, List.mem_range.mpr hp, h⟩⟩
theorem ch_len {T m d : Nat} (hd : d < 4) : (asksFrom 0 (patL m (chOf T) d)).length = d := by
  obtain ⟨_, b1, b2, b3, b4, b5, b6, n1, n2, n3⟩ := pOf_ok T
  exact patA_len ⟨b1, b2⟩ ⟨b3, b4⟩ ⟨b5, b6⟩ n1 n2 n3 hd
theorem p8 {d p : Nat} (hd : d < 4) (hp : p < 2 ^ d) : p < 8 := by
  have := (pow_small ⟨d, hd⟩).1
  dsimp only at this
  omega
theorem rule_over {T d p : Nat} (hd : d < 4) (hp : p < 2 ^ d) {t : Tri} (h : ruleAt (msOf T) (chOf T) (tbOf T) d p = some t) {leaf : Nat} (hl : leaf < 8) : over t leaf = decide (leaf / 2 ^ (3 - d) = p) ∧ dep t = d := by
  obtain ⟨h1, h2, h3, _⟩ := rule_shape h
  refine ⟨?_, by unfold dep; rw [h3]; exact ch_len hd⟩
  unfold over
  rw [h1, h2]
  exact over_fin ⟨d, hd⟩ ⟨p, p8 hd hp⟩ ⟨leaf, hl⟩ hp
theorem lays (T : Nat) {leaf : Nat} (hl : leaf < 8) : Lays (tsOf T) (askR T leaf) leaf (wOf T leaf) := by
  refine ⟨rfl, fun t ht ho => ?_, fun d hd hc => ?_, ?_, fun t ht => ?_⟩
  · obtain ⟨d, hd, p, hp, h⟩ := rules_mem.mp ht
    obtain ⟨o, e⟩ := rule_over hd hp h hl
    rw [o] at ho
    have ho := of_decide_eq_true ho
    obtain ⟨c, et⟩ := (rule_some hd hp hl ho).mp h
    rw [e]
    refine ⟨hd, c, ?_⟩
    rw [et]
    subst ho; rfl
  · have hp := p_lt hd hl
    have h := (rule_some (T := T) hd hp hl rfl).mpr ⟨hc, rfl⟩
    obtain ⟨o, e⟩ := rule_over hd hp h hl
    exact ⟨_, rules_mem.mpr ⟨d, hd, _, hp, h⟩, by rw [o]; simp, e⟩
  · show List.Pairwise _ (rulesL _ _ _)
    unfold rulesL
    rw [List.pairwise_flatMap]
    constructor
    · intro d hd
      have hd := List.mem_range.mp hd
      unfold rulesD
      rw [List.pairwise_filterMap]
      refine List.Pairwise.imp_of_mem (R := (· < ·)) (fun {p q} hp hq hlt t ht u hu h1 h2 => ?_) List.pairwise_lt_range
      have hp := List.mem_range.mp hp
      have hq := List.mem_range.mp hq
      rw [(rule_over hd hp ht hl).1] at h1
      rw [(rule_over hd hq hu hl).1] at h2
      have h1 := of_decide_eq_true h1
      have h2 := of_decide_eq_true h2
      omega
    · refine List.Pairwise.imp_of_mem (R := (· < ·)) (fun {d e} hd he hlt t ht u hu h1 h2 => ?_) List.pairwise_lt_range
      have hd := List.mem_range.mp hd
      have he := List.mem_range.mp he
      obtain ⟨p, hp, ht⟩ := List.mem_filterMap.mp ht
      obtain ⟨q, hq, hu⟩ := List.mem_filterMap.mp hu
      rw [(rule_over hd (List.mem_range.mp hp) ht hl).2, (rule_over he (List.mem_range.mp hq) hu hl).2]
      exact hlt
  · obtain ⟨d, hd, p, hp, h⟩ := rules_mem.mp ht
    obtain ⟨o, e⟩ := rule_over hd hp h hl
    obtain ⟨_, _, h3, _⟩ := rule_shape h
    unfold reachI
    rw [o, h3, fits_row hd hp hl, ch_len hd, e]
theorem w4 (T : Nat) {leaf : Nat} : wOf T leaf 4 = T.testBit leaf := by
  show T.testBit (leaf / 2 ^ 0 * 2 ^ 0) = _
  simp
theorem ord_all {T i : Nat} (h : i < (tsOf T).length) : i ∈ ordOf T := by
  unfold ordOf
  have ht : turnOf T ≤ (tsOf T).length := Nat.le_of_lt_succ (Nat.mod_lt _ (Nat.succ_pos _))
  rw [List.mem_append]
  by_cases q : i < turnOf T
  · exact .inr (List.mem_range.mpr q)
  · exact .inl (List.mem_range'_1.mpr (by omega))
theorem ord_in {T i : Nat} (h : i ∈ ordOf T) : i < (tsOf T).length := by
  unfold ordOf at h
  have ht : turnOf T ≤ (tsOf T).length := Nat.le_of_lt_succ (Nat.mod_lt _ (Nat.succ_pos _))
  rcases List.mem_append.mp h with h | h
  · have := List.mem_range'_1.mp h; omega
  · have := List.mem_range.mp h; omega
theorem lawOk (T : Nat) : LawOk T := by
  refine ⟨?_, fun out hout => ?_⟩
  · unfold rowsOf tbOf
    rw [List.map_map]
    refine List.map_congr_left fun leaf hl => ?_
    have hl := List.mem_range.mp hl
    show allowF _ (askR T leaf) = _
    rw [(lays T hl).all (fun i h => ord_all h), w4]
  · unfold rowsOf turnedOf tbOf
    rw [List.map_map, List.zipIdx_map, List.map_map]
    have ez : (List.range 8).zipIdx = (List.range 8).map fun i => (i, i) := by decide
    rw [ez, List.map_map]
    refine List.map_congr_left fun leaf hl => ?_
    have hl := List.mem_range.mp hl
    show allowF _ (askR T leaf) = _
    rw [(lays T hl).less (fun i h => ord_all h) (ord_in hout), w4]
    rfl
end Mine

end
section
open PySem PySem.W PySem.Calls PyProof.Rows
set_option linter.unusedVariables false
set_option maxRecDepth 100000
namespace Mine
theorem bootListT : bootBuiltins "list" = some (.type "list") := by decide +kernel
theorem fdN (a b : Nat) : ((a : Nat) : Int).fdiv ((b : Nat) : Int) = ((a / b : Nat) : Int) := by
  rw [Int.fdiv_eq_ediv_of_nonneg _ (Int.natCast_nonneg b)]; norm_cast
theorem fmN (a b : Nat) : ((a : Nat) : Int).fmod ((b : Nat) : Int) = ((a % b : Nat) : Int) := by
  rw [Int.fmod_eq_emod_of_nonneg _ (Int.natCast_nonneg b)]; norm_cast
theorem filt_t {α : Type} (xs : List α) : (xs.filter fun _ => true) = xs := List.filter_eq_self.mpr fun _ _ => rfl
theorem tbit (T i : Nat) : ((Builtin.bitAnd (((T : Nat) : Int).fdiv (2 ^ ((i : Nat) : Int).toNat)) 1) == 1) = T.testBit i := by
  rw [Int.toNat_natCast, show (2 : Int) ^ i = ((2 ^ i : Nat) : Int) by norm_cast, fdN, show (1 : Int) = ((1 : Nat) : Int) from rfl, bitAnd_nat, Nat.and_one_is_mod, Nat.testBit_eq_decide_div_mod_eq]
  rw [Bool.eq_iff_iff, beq_iff_eq, decide_eq_true_iff]
  omega
theorem xor_and : ∀ (n x y : Nat), x < 2 ^ n → (x ^^^ y) + 2 * (x &&& y) = x + y
  | 0, x, y, h => by
    have : x = 0 := by simpa using h
    subst this; simp
  | n + 1, x, y, h => by
    have h' : x / 2 < 2 ^ n := by rw [Nat.pow_succ] at h; omega
    have ih := xor_and n (x / 2) (y / 2) h'
    have a1 : (x ^^^ y) / 2 = x / 2 ^^^ y / 2 := Nat.xor_div_two
    have a2 : (x &&& y) / 2 = x / 2 &&& y / 2 := Nat.and_div_two
    have b1 : (x ^^^ y) % 2 = (x % 2 + y % 2) % 2 := by
      have := Nat.xor_mod_two_pow (a := x) (b := y) (n := 1)
      rw [Nat.pow_one] at this
      rw [this]
      rcases Nat.mod_two_eq_zero_or_one x with h | h <;> rcases Nat.mod_two_eq_zero_or_one y with h2 | h2 <;> rw [h, h2] <;> rfl
    have b2 : (x &&& y) % 2 = (x % 2) * (y % 2) := by
      have := Nat.and_mod_two_pow (a := x) (b := y) (n := 1)
      rw [Nat.pow_one] at this
      rw [this]
      rcases Nat.mod_two_eq_zero_or_one x with h | h <;> rcases Nat.mod_two_eq_zero_or_one y with h2 | h2 <;> rw [h, h2] <;> rfl
    rcases Nat.mod_two_eq_zero_or_one x with h3 | h3 <;> rcases Nat.mod_two_eq_zero_or_one y with h4 | h4 <;> rw [h3, h4] at b1 b2 <;> omega
theorem bitXor_nat (n k : Nat) : Builtin.bitXor (n : Int) (k : Int) = ((n ^^^ k : Nat) : Int) := by
  rw [bitXor_and, bitAnd_nat]
  have := xor_and n n k Nat.lt_two_pow_self
  have h2 : n &&& k ≤ n := Nat.and_le_left
  omega
theorem rng8 : (rngV 0 8).map V.int = (List.range 8).map fun i : Nat => V.int (i : Nat) := by
  have : rngV 0 8 = (List.range 8).map fun k : Nat => (k : Int) := by decide
  rw [this, List.map_map]; rfl
theorem msOf_ok (T : Nat) : (msOf T).length = 8 ∧ ∀ m ∈ msOf T, m < 65536 := by
  refine ⟨by simp [msOf], fun m hm => ?_⟩
  obtain ⟨i, _, rfl⟩ := List.mem_map.mp hm
  exact modeN_lt _ _ (Nat.mod_lt _ (by decide))
theorem msOf_get {T i : Nat} (hi : i < 8) : (msOf T)[i]? = some (modeN (mOf T) (chOf T) i) := by
  unfold msOf; rw [List.getElem?_map, List.getElem?_range hi]; rfl
theorem oOf_lt (T : Nat) : oOf T < 65536 := by unfold oOf; omega
theorem flip_lt (T i : Nat) : flipN T i < 65536 := by
  unfold flipN
  have := oOf_lt T
  rcases Nat.mod_two_eq_zero_or_one (T / 256 / 2 ^ i) with h | h <;> rw [h] <;> omega
theorem rules_len (ms ch : List Nat) (tb : List Bool) : (rulesL ms ch tb).length ≤ 15 := by
  have a0 := rulesD_len ms ch tb 0
  have a1 := rulesD_len ms ch tb 1
  have a2 := rulesD_len ms ch tb 2
  have a3 := rulesD_len ms ch tb 3
  have : rulesL ms ch tb = rulesD ms ch tb 0 ++ (rulesD ms ch tb 1 ++ (rulesD ms ch tb 2 ++ (rulesD ms ch tb 3 ++ []))) := rfl
  rw [this]
  simp only [List.length_append, List.length_nil]
  omega
theorem asks_col : ∀ (i : Nat) (cs : List Nat), ∀ p ∈ asksFrom i cs, p.1 < i + cs.length
  | i, [], p, h => by cases h
  | i, c :: cs, p, h => by
    have ih := asks_col (i + 1) cs p
    unfold asksFrom at h
    split at h
    · have := ih h; rw [List.length_cons]; omega
    · rcases List.mem_cons.mp h with rfl | h
      · rw [List.length_cons]; show i < _; omega
      · have := ih h; rw [List.length_cons]; omega
theorem rules_ok {ms ch : List Nat} {tb : List Bool} : ∀ t ∈ rulesL ms ch tb, t.2.2.1.length ≤ 100 ∧ ∀ p ∈ t.2.2.1, p.1 < 10 := by
  intro t ht
  unfold rulesL at ht
  obtain ⟨d, _, ht⟩ := List.mem_flatMap.mp ht
  unfold rulesD at ht
  obtain ⟨p, _, ht⟩ := List.mem_filterMap.mp ht
  unfold ruleAt at ht
  split at ht
  · cases ht
    have h10 : (patL (ms.getD (firstN d p) 0) ch d).length = 10 := by unfold patL; simp
    refine ⟨Nat.le_trans (asks_len _ _) (by rw [h10]; decide), fun q hq => ?_⟩
    have := asks_col 0 _ q hq
    rw [h10] at this; omega
  · cases ht
theorem ord_lt {T i : Nat} (h : i ∈ ordOf T) : i < (tsOf T).length := by
  unfold ordOf at h
  have ht : turnOf T ≤ (tsOf T).length := Nat.le_of_lt_succ (Nat.mod_lt _ (Nat.succ_pos _))
  rcases List.mem_append.mp h with h | h
  · have := List.mem_range'_1.mp h; omega
  · have := List.mem_range.mp h; omega
theorem ord_len (T : Nat) : (ordOf T).length = (tsOf T).length := by
  have ht : turnOf T ≤ (tsOf T).length := Nat.le_of_lt_succ (Nat.mod_lt _ (Nat.succ_pos _))
  unfold ordOf; rw [List.length_append, List.length_range', List.length_range]; omega
theorem bools_dat : ∀ (xs : List Bool), V.areDat (xs.map .bool) = true ∧ PyData.canLayAll0 (V.dats (xs.map .bool)) = true ∧ PyData.depthAll (V.dats (xs.map .bool)) ≤ 1
  | [] => ⟨rfl, rfl, by decide⟩
  | x :: xs => by
    obtain ⟨h1, h2, h3⟩ := bools_dat xs
    refine ⟨?_, ?_, ?_⟩
    · show (true && V.areDat _) = true; rw [h1]; rfl
    · show (PyData.canLay0 (.bool x) && PyData.canLayAll0 _) = true
      rw [h2]; rfl
    · show max (PyData.depth (.bool x)) (PyData.depthAll _) ≤ 1
      have : PyData.depth (.bool x) ≤ 1 := by decide +revert
      omega
theorem C_neSB {prog : Program} {w : World} {K : Frag} {G : Gl prog w K} {Q : V → Prop} {bs : List Bool} (h : Q (.bool false)) : Act2 G (compareOp .NotEq) (.lst (bs.map .bool)) (.lst (bs.map .bool)) Q := by
  obtain ⟨h1, h2, h3⟩ := bools_dat bs
  exact C_neSelf (v := .lst (bs.map .bool)) h1 h2 (Nat.le_trans (Nat.succ_le_succ h3) (by decide)) h
theorem WX_assignS {prog : Program} {w : World} {K : Frag} {G : Gl prog w K} {r : Nat} {sc : Scope} {l : Locs} {k : Kt} {x : Str} {p p' : Pos} {e : Expr} (h : WE G r sc l e fun v => k.nx (put l x (.v v))) (hsw : ∀ F : Frm G r sc, swapsWith e (some (.Name x p')) p.line F.env = pure false) (hx : stored sc x = true := by rfl) : WX G r sc l (.Assign [.Name x p'] e p) k := fun F z s R =>
  wpAny_Assign_Name (noE (h F z s R) fun val s₁ ⟨z₁, v, e₁, rz, q⟩ => (R.ext e₁).storeV (stored_or hx) rz fun s₂ R₂ => ⟨z₁, _, R₂, q⟩) (hsw F)
theorem bits17 {n : Nat} (h : n < 65536) : Builtin.Int.intBits (n : Int) ≤ 17 := by
  unfold Builtin.Int.intBits
  split
  · omega
  · rename_i h0
    have hn : n ≠ 0 := by
      intro e; subst e; exact h0 rfl
    have : ((n : Int)).natAbs.log2 < 16 := by
      rw [Int.natAbs_natCast, Nat.log2_lt hn]; exact h
    omega
end Mine

end
section
open PySem PySem.W PySem.Calls PyProof.Rows
set_option linter.unusedVariables false
set_option maxRecDepth 100000
namespace Mine
theorem dvP (a b : Nat) (hb : b < 1000000) : Builtin.divisionGoesByPylong (a : Int) (b : Int) = false := by
  unfold Builtin.divisionGoesByPylong
  dsimp only
  rw [Bool.and_eq_false_iff]
  left
  rw [decide_eq_false_iff_not]
  by_cases h0 : (b : Int) == 0
  · rw [if_pos h0]; omega
  · rw [if_neg h0]
    have : ((b : Int)).natAbs.log2 < 20 := by
      have hb0 : ((b : Int)).natAbs ≠ 0 := by simpa using h0
      rw [Nat.log2_lt hb0]
      omega
    omega
theorem tbV (T : Nat) : ((List.range 8).map fun i => V.bool (T.testBit i)) = (tbOf T).map .bool := by unfold tbOf; rw [List.map_map]; rfl
theorem msV (T : Nat) : ((List.range 8).map fun i => V.int (modeN (mOf T) (chOf T) i : Nat)) = (msOf T).map fun m : Nat => V.int m := by unfold msOf; rw [List.map_map]; rfl
theorem rowsV (T : Nat) : ((List.range 8).map fun i => V.str (tx (rowL ((msOf T).getD i 0 ^^^ flipN T i)))) = (rowsOf T).map fun r => V.str (tx r) := by unfold rowsOf; rw [List.map_map]; rfl
theorem ordV (T : Nat) : (rngV (turnOf T : Nat) ((tsOf T).length : Nat)).map V.int ++ (rngV 0 (turnOf T : Nat)).map V.int = (ordOf T).map fun i : Nat => V.int i := by
  unfold ordOf rngV
  rw [List.map_append, List.map_map, List.map_map]
  congr 1
  · rw [show (((tsOf T).length : Int) - (turnOf T : Nat)).toNat = (tsOf T).length - turnOf T by omega, List.range'_eq_map_range, List.map_map]
    refine List.map_congr_left fun i _ => ?_
    show V.int _ = V.int _
    congr 1
  · rw [show ((turnOf T : Int) - 0).toNat = turnOf T by omega]
    refine List.map_congr_left fun i _ => ?_
    show V.int _ = V.int _
    congr 1
    exact Int.zero_add _
theorem turn_le (T : Nat) : turnOf T ≤ (tsOf T).length := Nat.le_of_lt_succ (Nat.mod_lt _ (Nat.succ_pos _))
theorem row10 {T : Nat} : ∀ row ∈ rowsOf T, row.length = 10 := by
  intro row h
  obtain ⟨i, _, rfl⟩ := List.mem_map.mp h
  exact rowL_len _
theorem enumBools (tb : List Bool) : enumV 0 (tb.map .bool) = tb.zipIdx.map fun p => V.tup [.int (p.2 : Nat), .bool p.1] := by
  have : ∀ (tb : List Bool) (k : Nat), enumV k (tb.map .bool) = (tb.zipIdx k).map fun p => V.tup [.int (p.2 : Nat), .bool p.1] := by
    intro tb
    induction tb with
    | nil => intro k; rfl
    | cons b tb ih =>
      intro k
      show V.tup [.int (k : Nat), .bool b] :: enumV (k + 1) _ = _
      rw [ih]; rfl
  exact this tb 0
set_option maxHeartbeats 4000000 in
theorem law_loop {w : World} (G : Gl PySem.Challenge.rw_in0278_02.prog w (Mine.K0 w.params)) (hC : G.C = 69) (hG : G.q = true) {T : Nat} (hok : LawOk T) {Q : V → Prop} (h : Q (.bool true)) :
    WS G 7 (dS (dT 43)) [("#code", .ca "#code" 209), ("table", .v (.lst ((tbOf T).map .bool))), ("rules", .v (.lst ((tsOf T).map triV))), ("rows", .v (.lst ((rowsOf T).map fun r => V.str (tx r)))), ("order", .v (.lst ((ordOf T).map fun i : Nat => V.int i)))] ((dB (dT 43)).drop 11) { nx := fun _ => Q .nil, rt := Q } := by
  k_fill
  have tl := rules_len (msOf T) (chOf T) (tbOf T)
  have tl : (tsOf T).length ≤ 15 := tl
  have r1 : ∀ t ∈ tsOf T, t.2.2.1.length ≤ 100 := fun t ht => (rules_ok t ht).1
  have r2 : ∀ t ∈ tsOf T, ∀ p ∈ t.2.2.1, p.1 < 10 := fun t ht => (rules_ok t ht).2
  have ol := ord_len T
  have ola : ∀ i ∈ ordOf T, i < (tsOf T).length := fun i hi => ord_lt hi
  have rl : (rowsOf T).length = 8 := by unfold rowsOf; simp
  refine WS_cons (WX_if (WT_cmp (WE_def (by k_is) (by k_is) (WE_v (by rfl) (WE_v (by rfl) (WE_v (by rfl) ((answers_s G hC hG ola (by omega) (by omega) row10 r1 r2 (by omega) ?_).room (by omega))))))))
  rw [hok.1]
  refine WE_v (by rfl) (C_neSB ⟨fun e => (by cases e), fun _ => ?_⟩)
  refine WS_nil ?_
  refine WS_cons ?_
  refine WX_forI (WI_seq (WE_v (by rfl) ⟨_, .inl rfl, ?_⟩))
  refine WF.ind _ (fun i l => Has l [("#code", .ca "#code" 209), ("table", .v (.lst ((tbOf T).map .bool))), ("rules", .v (.lst ((tsOf T).map triV))), ("rows", .v (.lst ((rowsOf T).map fun r => V.str (tx r)))), ("order", .v (.lst ((ordOf T).map fun i : Nat => V.int i)))]) ⟨rfl, rfl, rfl, rfl, rfl, trivial⟩ (fun i v l hv hl => ?_) (fun l hl => ?_)
  · rw [List.getElem?_map] at hv
    obtain ⟨out, ho, rfl⟩ := Option.map_eq_some_iff.mp hv
    have hom := List.mem_of_getElem? ho
    refine WAs.wk _ hl (WAs_name ?_)
    refine WS_cons (WX_assignComp (CompOk.of (by kernel_rfl)) [("out", .v (.int (out : Nat))), ("rules", .v (.lst ((tsOf T).map triV)))] ⟨⟨by rfl, ⟨_, rfl⟩, by kernel_rfl⟩, ⟨by rfl, ⟨_, rfl⟩, by kernel_rfl⟩, trivial⟩ (WIc_enum (by k_is) (WE_v (by rfl) ⟨_, .inl rfl, ?_, ?_⟩)) (fun F => by rfl))
    · rw [enumV_length, List.length_map]; unfold tbOf; simp; exact nat_len (by omega)
    rw [enumBools]
    refine CompT.map (fun p : Bool × Nat => V.tup [.int (p.2 : Nat), .bool p.1]) (fun _ => true) (fun p => V.bool (p.1 != (narrow p.2 0 (-1) (tsOf T) == (out : Int)))) _ [] (fun p hp => ⟨_, TB.tup (NB.cons (NB.cons NB.nil)), ?_, ?_, rfl, fun _ => ?_⟩) ?_
    · intro q hq
      simp only [List.mem_cons, List.not_mem_nil, or_false] at hq
      rcases hq with rfl | rfl <;> kernel_rfl
    · exact ndB_nodup rfl
    · refine WE_cmp (WE_v (by rfl) (WE_cmp (WE_def (by k_is) (by k_is) (WE_v (by rfl) (WE_v (by rfl) ((narrow_s G (WE_v (by rfl) (C_eqI (C_neB ?_)))).room (by omega)))))))
      rfl
    rw [List.nil_append, filt_t]
    have et : ((tbOf T).zipIdx.map fun p => V.bool (p.1 != (narrow p.2 0 (-1) (tsOf T) == (out : Int)))) = (turnedOf T out).map .bool := by unfold turnedOf; rw [List.map_map]; rfl
    rw [et]
    refine WS_cons (WX_if (WT_cmp (WE_def (by k_is) (by k_is) (WE_v (by rfl) (WE_comp (CompOk.of (by kernel_rfl)) [("out", .v (.int (out : Nat)))] ⟨⟨by rfl, ⟨_, rfl⟩, by kernel_rfl⟩, trivial⟩ (WIc_list (WE_v (by rfl) ⟨_, rfl, ?_, ?_⟩)))))))
    · rw [List.length_map]; exact nat_len (by omega)
    refine CompT.map (fun i : Nat => V.int i) (fun p => p != out) (fun i : Nat => V.int i) _ [] (fun p hp => ⟨_, TB.name, ?_, ?_, ?_⟩) ?_
    · intro q hq; rw [List.mem_singleton.mp hq]; kernel_rfl
    · exact ndB_nodup rfl
    · refine WT_cmp (WE_v (by rfl) (WE_v (by rfl) (C_neI ⟨?_, fun _ => WE_v (by rfl) rfl⟩)))
      rw [Bool.eq_iff_iff, bne_iff_ne, bne_iff_ne]; omega
    rw [List.nil_append]
    have fl : ((ordOf T).filter fun p => p != out).length ≤ 15 := Nat.le_trans (List.length_filter_le _ _) (by omega)
    refine WE_v (by rfl) ((answers_s G hC hG (fun i hi => ola i (List.mem_filter.mp hi).1) (by omega) (by omega) row10 r1 r2 (by omega) ?_).room (by omega))
    rw [hok.2 out hom]
    refine WE_v (by rfl) (C_neSB ⟨fun e => (by cases e), fun _ => ?_⟩)
    refine WS_nil (WS_nil ?_)
    exact ⟨rfl, rfl, rfl, rfl, rfl, trivial⟩
  · refine WS_nil (WS.wk _ hl ?_)
    exact WS_cons (WX_ret (WE_bool h))
set_option maxHeartbeats 4000000 in
theorem law_rest {w : World} (G : Gl PySem.Challenge.rw_in0278_02.prog w (Mine.K0 w.params)) (hC : G.C = 69) (hG : G.q = true) {T : Nat} (hok : LawOk T) {Q : V → Prop} (h : Q (.bool true)) :
    WS G 7 (dS (dT 43)) [("others", .v (.int (oOf T : Nat))), ("#code", .ca "#code" 209), ("total", .v (.int (T : Nat))), ("chosen", .v (.lst ((chOf T).map fun c : Nat => V.int c))), ("mode", .v (.int (mOf T : Nat)))] ((dB (dT 43)).drop 5) { nx := fun _ => Q .nil, rt := Q } := by
  k_fill
  obtain ⟨_, b1, b2, b3, b4, b5, b6, _, _, _⟩ := pOf_ok T
  have hch : ∀ c ∈ chOf T, 1 ≤ c ∧ c ≤ 9 := by
    intro c hc
    unfold chOf at hc
    simp only [List.mem_cons, List.not_mem_nil, or_false] at hc
    rcases hc with rfl | rfl | rfl
    · exact ⟨b1, b2⟩
    · exact ⟨b3, b4⟩
    · exact ⟨b5, b6⟩
  obtain ⟨msl, msb⟩ := msOf_ok T
  have tbl : (tbOf T).length = 8 := by unfold tbOf; simp
  have tl := rules_len (msOf T) (chOf T) (tbOf T)
  have tl : (tsOf T).length ≤ 15 := tl
  have tn := turn_le T
  -- table
  refine WS_cons (WX_assignComp (CompOk.of (by kernel_rfl)) [("total", .v (.int (T : Nat)))] ⟨⟨by rfl, ⟨_, rfl⟩, by kernel_rfl⟩, trivial⟩ (WIc_rng (WE_bi (by k_is) bootRange rfl (WE_int (B_range1 ⟨0, 8, rfl, by unfold okR; decide, ?_, ?_⟩)))) (fun F => by rfl))
  · decide
  rw [rng8]
  refine CompT.map (fun i : Nat => V.int i) (fun _ => true) (fun i => V.bool (T.testBit i)) _ [] (fun i hi => ⟨_, TB.name, ?_, ?_, rfl, fun _ => ?_⟩) ?_
  · intro q hq; rw [List.mem_singleton.mp hq]; kernel_rfl
  · exact ndB_nodup rfl
  · refine WE_cmp (WE_bin (WE_bin (WE_v (by rfl) (WE_v (by rfl) (A_shr (by omega) (WE_int (A_and (WE_int (C_eqI ?_)))))))))
    rw [tbit]
  rw [List.nil_append, filt_t, tbV]
  -- modes
  refine WS_cons (WX_assignS (WE_comp (CompOk.of (by kernel_rfl)) [("chosen", .v (.lst ((chOf T).map fun c : Nat => V.int c))), ("mode", .v (.int (mOf T : Nat)))] ⟨⟨by rfl, ⟨_, rfl⟩, by kernel_rfl⟩, ⟨by rfl, ⟨_, rfl⟩, by kernel_rfl⟩, trivial⟩ (WIc_rng (WE_bi (by k_is) bootRange rfl (WE_int (B_range1 ⟨0, 8, rfl, by unfold okR; decide, ?_, ?_⟩))))) (fun F => by rfl))
  · decide
  rw [rng8]
  refine CompT.map (fun i : Nat => V.int i) (fun _ => true) (fun i => V.int (modeN (mOf T) (chOf T) i : Nat)) _ [] (fun i hi => ⟨_, TB.name, ?_, ?_, rfl, fun _ => ?_⟩) ?_
  · intro q hq; rw [List.mem_singleton.mp hq]; kernel_rfl
  · exact ndB_nodup rfl
  · refine WE_def (by k_is) (by k_is) (WE_v (by rfl) (WE_v (by rfl) (WE_v (by rfl) ((mode_s G b2 b4 b6 (List.mem_range.mp hi) ?_).room (by omega)))))
    show V.int _ = V.int _
    rw [← modeF_eq]; rfl
  rw [List.nil_append, filt_t, msV]
  -- rules
  refine WS_cons (WX_assign (WE_def (by k_is) (by k_is) (WE_v (by rfl) (WE_v (by rfl) (WE_v (by rfl) ((rules_s G hC hG msl msb hch rfl tbl ?_).room (by omega)))))))
  have ets : rulesL (msOf T) (chOf T) (tbOf T) = tsOf T := rfl
  rw [ets]
  -- rows
  refine WS_cons (WX_assignComp (CompOk.of (by kernel_rfl)) [("modes", .v (.lst ((msOf T).map fun m : Nat => V.int m))), ("others", .v (.int (oOf T : Nat))), ("total", .v (.int (T : Nat)))] ⟨⟨by rfl, ⟨_, rfl⟩, by kernel_rfl⟩, ⟨by rfl, ⟨_, rfl⟩, by kernel_rfl⟩, ⟨by rfl, ⟨_, rfl⟩, by kernel_rfl⟩, trivial⟩ (WIc_rng (WE_bi (by k_is) bootRange rfl (WE_int (B_range1 ⟨0, 8, rfl, by unfold okR; decide, ?_, ?_⟩)))) (fun F => by rfl))
  · decide
  rw [rng8]
  refine CompT.map (fun i : Nat => V.int i) (fun _ => true) (fun i => V.str (tx (rowL ((msOf T).getD i 0 ^^^ flipN T i)))) _ [] (fun i hi => ⟨_, TB.name, ?_, ?_, rfl, fun _ => ?_⟩) ?_
  · intro q hq; rw [List.mem_singleton.mp hq]; kernel_rfl
  · exact ndB_nodup rfl
  · have hi := List.mem_range.mp hi
    have hm := msOf_get (T := T) hi
    have hm2 := ms_getD (T := T) hi
    have hlt := msb _ (List.mem_of_getElem? hm)
    refine WE_def (by k_is) (by k_is) (WE_bin (WE_sub (WE_v (by rfl) (WE_v (by rfl) (S_lst (v := .int (modeN (mOf T) (chOf T) i : Nat)) (by omega) (by omega) (by rw [Int.toNat_natCast, List.getElem?_map, hm]; rfl) ?_)))))
    refine WE_bin (WE_v (by rfl) (WE_bin (WE_bin (WE_bin (WE_v (by rfl) (WE_int (A_fdiv (by decide) (dvP T 256 (by decide)) (WE_v (by rfl) (A_shr (by omega) (WE_int (A_and (A_mul (A_xor ?_) ?_))))))))))))
    · have e1 : Builtin.bitAnd ((((T : Nat) : Int).fdiv 256).fdiv (2 ^ ((i : Nat) : Int).toNat)) 1 = ((T / 256 / 2 ^ i % 2 : Nat) : Int) := by
        rw [show (256 : Int) = ((256 : Nat) : Int) from rfl, fdN, Int.toNat_natCast, show (2 : Int) ^ i = ((2 ^ i : Nat) : Int) by norm_cast, fdN, show (1 : Int) = ((1 : Nat) : Int) from rfl, bitAnd_nat, Nat.and_one_is_mod]
      rw [e1, show ((oOf T : Nat) : Int) * ((T / 256 / 2 ^ i % 2 : Nat) : Int) = ((flipN T i : Nat) : Int) by unfold flipN; push_cast; rfl, bitXor_nat]
      refine (fm_s G (Nat.xor_lt_two_pow (n := 16) hlt (flip_lt T i)) ?_).room (by omega)
      rw [hm2]
    · exact IntMulOk.of_left (Nat.le_trans (bits17 (oOf_lt T)) (by decide : 17 ≤ 64))
  rw [List.nil_append, filt_t, rowsV]
  -- turn
  refine WS_cons (WX_assign (WE_bin (WE_v (by rfl) (WE_bin (WE_bi (by k_is) bootLen rfl (WE_v (by rfl) (B_len_lst (by rw [List.length_map]; exact nat_len (by omega)) (WE_int (A_add (A_mod ?_ ?_))))))))))
  · rw [List.length_map]; omega
  have etn : ((T : Nat) : Int).fmod (((List.map triV (tsOf T)).length : Int) + 1) = ((turnOf T : Nat) : Int) := by
    rw [List.length_map, show ((tsOf T).length : Int) + 1 = (((tsOf T).length + 1 : Nat) : Int) by push_cast; rfl, fmN]; rfl
  rw [etn]
  -- order
  refine WS_cons (WX_assign (WE_bin (WE_bi (by k_is) bootListT rfl (WE_bi (by k_is) bootRange rfl (WE_v (by rfl) (WE_bi (by k_is) bootLen rfl (WE_v (by rfl) (B_len_lst (by rw [List.length_map]; exact nat_len (by omega)) (B_range2 (B_listRng ?_ ?_ ?_))))))))))
  · rw [List.length_map]; unfold okR; omega
  · rw [List.length_map]; omega
  rw [List.length_map]
  refine WE_bi (by k_is) bootListT rfl (WE_bi (by k_is) bootRange rfl (WE_v (by rfl) (B_range1 (B_listRng ?_ ?_ (A_catL ?_ ?_)))))
  · unfold okR; omega
  · omega
  · rw [List.length_map, List.length_map, rngV_len, rngV_len]; exact nat_len (by omega)
  rw [ordV]
  refine WS.wk [("#code", .ca "#code" 209), ("table", .v (.lst ((tbOf T).map .bool))), ("rules", .v (.lst ((tsOf T).map triV))), ("rows", .v (.lst ((rowsOf T).map fun r => V.str (tx r)))), ("order", .v (.lst ((ordOf T).map fun i : Nat => V.int i)))] ⟨rfl, rfl, rfl, rfl, rfl, trivial⟩ ?_
  exact law_loop G hC hG hok h
end Mine

end
section
open PySem PySem.W PySem.Calls PyProof.Rows
set_option linter.unusedVariables false
set_option maxRecDepth 100000
namespace Mine
set_option maxHeartbeats 4000000 in
theorem law_s {w : World} (G : Gl PySem.Challenge.rw_in0278_02.prog w (Mine.K0 w.params)) (hC : G.C = 69) (hG : G.q = true) {is : List Int} (hl : is.length ≤ 63) {Q : V → Prop} (h : Q (.bool true)) : CS G 8 (.ref 210) [.lst (is.map .int)] Q := by
  k_fill
  refine CS_defC (c := 209) [Str.ofString "script"] (by k_is) (by k_is) ?_ (fun xs hx => ?_)
  rotate_left
  · obtain ⟨x1, rfl⟩ := xl1 hx
    rfl
  refine WS_cons (WX_assign (WE_bin (WE_int (WE_genCall (c := 209) (cp := []) (by k_is) bootSum rfl (by rfl) hG 207 (by decide) (by decide) (CompOk.of (by kernel_rfl)) trivial (WIg_list (WE_slc (WE_v (by rfl) ?_)))))))
  refine WE_int ⟨_, rfl, SL_upto 24 (by rw [List.length_map]; exact nat_len (by omega)) ⟨_, rfl, ((is.take 24).map fun n => n.fmod 1000000000).map .int, ?_, CSg_sum ?_ ?_⟩⟩
  · rw [← List.map_take, List.map_map]
    refine GenR.map V.int _ (fun _ => rfl) fun n hn => ?_
    exact WE_bin (WE_v (by rfl) (WE_bin (WE_int (WE_int (A_pow (by decide) (by decide) (A_mod (by decide) rfl))))))
  · refine sumFits_small (fun x hx => ?_) (by rw [List.length_map, List.length_take]; omega)
    obtain ⟨n, _, rfl⟩ := List.mem_map.mp hx
    have := fm_range n
    omega
  refine A_add ?_
  have e0 : (79 : Int) + ((is.take 24).map fun n => n.fmod 1000000000).sum = ((totN is : Nat) : Int) := tot_eq is
  rw [e0]
  generalize totN is = T
  obtain ⟨⟨g1, g2, g3⟩, b1, b2, b3, b4, b5, b6, _, _, _⟩ := pOf_ok T
  refine WS_cons ?_
  refine WX_ownL ?_
  refine WE_int ?_
  refine WE_int ?_
  refine WE_int ?_
  refine WE_int ?_
  refine WE_int ?_
  refine WE_int ?_
  refine WE_int ?_
  refine WE_int ?_
  refine WE_int ?_
  refine And.intro ?_ ?_
  · show 9 ≤ sizeLine; rw [sizeLine_eq]; omega
  refine WS_cons (WX_pops3 (xs := colsI) (by rfl) (by decide) ?_)
  refine WE_bin (WE_bin (WE_v (by rfl) (WE_int (A_fdiv (by decide) (dvP T 256 (by decide)) ?_))))
  refine WE_int (A_mod (by decide) ⟨T / 256 % 9, _, ?_, g1, ?_⟩)
  · rw [show (256 : Int) = ((256 : Nat) : Int) from rfl, fdN, show (9 : Int) = ((9 : Nat) : Int) from rfl, fmN]
  refine WE_bin (WE_bin (WE_v (by rfl) (WE_int (A_fdiv (by decide) (dvP T 2304 (by decide)) ?_))))
  refine WE_int (A_mod (by decide) ⟨T / 2304 % 8, _, ?_, g2, ?_⟩)
  · rw [show (2304 : Int) = ((2304 : Nat) : Int) from rfl, fdN, show (8 : Int) = ((8 : Nat) : Int) from rfl, fmN]
  refine WE_bin (WE_bin (WE_v (by rfl) (WE_int (A_fdiv (by decide) (dvP T 18432 (by decide)) ?_))))
  refine WE_int (A_mod (by decide) ⟨T / 18432 % 7, _, ?_, g3, ?_⟩)
  · rw [show (18432 : Int) = ((18432 : Nat) : Int) from rfl, fdN, show (7 : Int) = ((7 : Nat) : Int) from rfl, fmN]
  have ech : ([.int ((pOf T).1 : Int), .int ((pOf T).2.1 : Int), .int ((pOf T).2.2 : Int)] : List V) = (chOf T).map fun c : Nat => V.int c := rfl
  rw [ech]
  have hch : ∀ c ∈ chOf T, 1 ≤ c ∧ c ≤ 9 := by
    intro c hc
    unfold chOf at hc
    simp only [List.mem_cons, List.not_mem_nil, or_false] at hc
    rcases hc with rfl | rfl | rfl
    · exact ⟨b1, b2⟩
    · exact ⟨b3, b4⟩
    · exact ⟨b5, b6⟩
  have hchl : (chOf T).length = 3 := rfl
  refine WS_cons (WX_assign (WE_bin (WE_bin (WE_int (WE_v (by rfl) (A_add ?_))))))
  refine WE_int (A_mod (by decide) ?_)
  have em : ((16877 : Int) + ((T : Nat) : Int)).fmod 65536 = ((mOf T : Nat) : Int) := by
    rw [show (16877 : Int) + ((T : Nat) : Int) = ((16877 + T : Nat) : Int) by push_cast; rfl, show (65536 : Int) = ((65536 : Nat) : Int) from rfl, fmN]; rfl
  rw [em]
  refine WS.wk [("#code", .ca "#code" 209), ("total", .v (.int (T : Nat))), ("chosen", .v (.lst ((chOf T).map fun c : Nat => V.int c))), ("mode", .v (.int (mOf T : Nat)))] ⟨rfl, rfl, rfl, rfl, trivial⟩ ?_
  -- others
  refine WS_cons (WX_assign (WE_bin (WE_int (WE_genCall (c := 209) (cp := []) (by k_is) bootSum rfl (by rfl) hG 207 (by decide) (by decide) (CompOk.of (by kernel_rfl)) trivial (WIg_list (WE_v (by rfl) ⟨_, rfl, ((chOf T).map fun c => ((2 ^ (9 - c) : Nat) : Int)).map .int, ?_, CSg_sum ?_ ?_⟩))))))
  · rw [List.map_map]
    refine GenR.map (fun c : Nat => V.int c) _ (fun _ => rfl) fun c hc => ?_
    have hc := hch c hc
    refine WE_bin (WE_int (WE_bin (WE_int (WE_v (by rfl) (A_sub (A_shl (by omega) (by omega) (by decide) ?_))))))
    show V.int _ = V.int _
    rw [Int.one_mul, show ((9 : Int) - (c : Nat)).toNat = 9 - c by omega]
    congr 1
  · refine sumFits_small (fun x hx => ?_) (by rw [List.length_map, hchl]; decide)
    obtain ⟨c, hc, rfl⟩ := List.mem_map.mp hx
    have : 2 ^ (9 - c) ≤ 2 ^ 9 := Nat.pow_le_pow_right (by decide) (by omega)
    generalize 2 ^ (9 - c) = q at this
    omega
  refine A_sub ?_
  have eo : (61951 : Int) - ((chOf T).map fun c => ((2 ^ (9 - c) : Nat) : Int)).sum = ((oOf T : Nat) : Int) := by
    have hp : ∀ c ∈ chOf T, 2 ^ (9 - c) ≤ 512 := fun c hc => Nat.le_trans (Nat.pow_le_pow_right (by decide) (by omega : 9 - c ≤ 9)) (by decide)
    unfold oOf
    unfold chOf at hp ⊢
    have p1 := hp _ (.head _)
    have p2 := hp _ (.tail _ (.head _))
    have p3 := hp _ (.tail _ (.tail _ (.head _)))
    simp only [List.map_cons, List.map_nil, List.sum_cons, List.sum_nil]
    omega
  rw [eo]
  exact law_rest G hC hG (lawOk T) h
end Mine

end
section
open PySem PySem.W PySem.Calls PyProof.Rows
set_option linter.unusedVariables false
set_option maxRecDepth 100000
namespace Mine
theorem ints_rz {C : Addr} {z : Zp} : ∀ {xs : List Value} {is : List Int}, IntsAre xs is → RzL C z (is.map .int) xs := by
  intro xs is h
  induction h with
  | nil => exact rfl
  | cons n t _ ih => exact ⟨_, _, rfl, ⟨t, rfl⟩, ih⟩
/-- all but the tables -/
noncomputable def zOf (h : Heap) : Zp := fun b => if b ∈ TAd then none else h.get? b
theorem zOf_tab {h : Heap} {b : Addr} (hb : b ∈ TAd) : zOf h b = none := if_pos hb
theorem zOf_of {h : Heap} {b : Addr} (hb : b ∉ TAd) : zOf h b = h.get? b := if_neg hb
theorem zOf_sub (h : Heap) : Sub (zOf h) h := fun b o e => by
  by_cases hb : b ∈ TAd
  · rw [zOf_tab hb] at e; cases e
  · rwa [zOf_of hb] at e
theorem k0_tabs {P : Params} : ∀ b ∈ TAd, (K0 P).lookup b = none := by
  intro b hb
  simp only [TAd, List.mem_cons, List.not_mem_nil, or_false] at hb
  rcases hb with rfl | rfl | rfl | rfl <;> kernel_rfl
theorem tabs_at {w : World} {h : Heap} (X : (KT w.params).In h) : Tabs (zOf h) h := by
  have t0 : ∀ b ∈ TAd, h.get? b = some tabO := by
    intro b hb
    simp only [TAd, List.mem_cons, List.not_mem_nil, or_false] at hb
    rcases hb with rfl | rfl | rfl | rfl
    · exact X 174 _ (by kernel_rfl)
    · exact X 188 _ (by kernel_rfl)
    · exact X 202 _ (by kernel_rfl)
    · exact X 207 _ (by kernel_rfl)
  have ne : ∀ pos cv, codeAmong pos ([] : List Value) = some cv → False := fun pos cv e => by cases e
  intro c hc
  simp only [TBC, List.mem_cons, List.not_mem_nil, or_false] at hc
  rcases hc with rfl | rfl | rfl | rfl
  · obtain ⟨o, ho, e⟩ : ∃ o, (KT w.params).lookup 178 = some o ∧ o = o := ⟨_, by rfl, rfl⟩
    have t := t0 174 (by decide)
    exact ⟨zOf_tab (by decide), #[], ⟨_, _, _, _, _, _, _, _, _, _, X 178 _ (by rfl), rfl, rfl, rfl, rfl, rfl, rfl, t, rfl, trivial, by decide⟩, ⟨⟨_, _, X 178 _ (by rfl), rfl, rfl, rfl⟩, t⟩, fun q e pos cv hv => (ne pos cv hv).elim⟩
  · have t := t0 188 (by decide)
    exact ⟨zOf_tab (by decide), #[], ⟨_, _, _, _, _, _, _, _, _, _, X 192 _ (by rfl), rfl, rfl, rfl, rfl, rfl, rfl, t, rfl, trivial, by decide⟩, ⟨⟨_, _, X 192 _ (by rfl), rfl, rfl, rfl⟩, t⟩, fun q e pos cv hv => (ne pos cv hv).elim⟩
  · have t := t0 202 (by decide)
    exact ⟨zOf_tab (by decide), #[], ⟨_, _, _, _, _, _, _, _, _, _, X 204 _ (by rfl), rfl, rfl, rfl, rfl, rfl, rfl, t, rfl, trivial, by decide⟩, ⟨⟨_, _, X 204 _ (by rfl), rfl, rfl, rfl⟩, t⟩, fun q e pos cv hv => (ne pos cv hv).elim⟩
  · have t := t0 207 (by decide)
    exact ⟨zOf_tab (by decide), #[], ⟨_, _, _, _, _, _, _, _, _, _, X 209 _ (by rfl), rfl, rfl, rfl, rfl, rfl, rfl, t, rfl, trivial, by decide⟩, ⟨⟨_, _, X 209 _ (by rfl), rfl, rfl, rfl⟩, t⟩, fun q e pos cv hv => (ne pos cv hv).elim⟩
theorem oldK_of {z : Zp} {h h' : Heap} (t : Tabs z h) (w : Was h h') : OldK h h' := by
  refine ⟨fun b o e => ?_, fun b o e => let ⟨o', ho', _⟩ := w.there e; ⟨o', ho'⟩⟩
  rcases w.at_ b o e with x | ⟨ht, hc, vs, more, hd, x⟩
  · exact .inl x
  · have : isCodeTable h b := by
      have : ∃ c ∈ TBC, c.2 = b := by
        simp only [TAd, List.mem_cons, List.not_mem_nil, or_false] at ht
        rcases ht with rfl | rfl | rfl | rfl
        · exact ⟨(178, 174), by decide, rfl⟩
        · exact ⟨(192, 188), by decide, rfl⟩
        · exact ⟨(204, 202), by decide, rfl⟩
        · exact ⟨(209, 207), by decide, rfl⟩
      obtain ⟨c, hcm, rfl⟩ := this
      obtain ⟨_, ps, _, y, _⟩ := t c hcm
      exact y.isCodeTable
    exact .inr (.inl ⟨this, hc, vs, more, hd, x⟩)
theorem finish {w : World} {s₁ : Shared} {mg mb : Str → Option Value} (X : (KT w.params).In s₁.heap) (g : s₁.heap.Ns mainGlobals mg) (b : s₁.heap.Ns builtinsNs mb) (nl : s₁.heap.NoLimit) (bi : ∀ x : Str, x ≠ "__name__" → mb x = bootBuiltins x)
    {a : Addr} {xs : List Value} {is : List Int} (hL : s₁.heap.IsList a xs.toArray) (hi : IntsAre xs is) (hlen : is.length ≤ 63) (hg : s₁.gens = #[]) :
    wpAny (model PySem.Challenge.rw_in0278_02.prog w) callerA (call (.ref 210) [.ref a]) (fun x s' => x = .bool true ∧ OldK s₁.heap s'.heap ∧ s'.os = s₁.os ∧ AllBare s'.gens) (fun _ _ => False) s₁ := by
  have X0 := kt_k0 X
  have at0 : ∀ {h : Heap}, Sub (zOf s₁.heap) h → ∀ c, c ∉ TAd → ∀ o, s₁.heap.get? c = some o → h.get? c = some o := fun k c hc o e => k c o ((zOf_of hc).trans e)
  let G : Gl PySem.Challenge.rw_in0278_02.prog w (Mine.K0 w.params) :=
    { zB := zOf s₁.heap, C := 69, q := true, mg := mg, mb := mb
      inK := fun a o e => by
        have : a ∉ TAd := fun h => by rw [k0_tabs a h] at e; cases e
        rw [zOf_of this]; exact X0 a o e
      nolim := fun h k => nl.at (at0 k _ (by decide)), gNs := fun h k => g.at' (at0 k _ (by decide)), bNs := fun h k => b.at' (at0 k _ (by decide))
      gK := fun x v e => mg_of X0 g e, gB := fun x v e hv hn => ⟨mg_none_of X0 g e, (bi x hn).trans hv⟩
      bt := ⟨4, _, mg_of X0 g (by kernel_rfl), by decide, (zOf_of (by decide)).trans (X 4 ⟨.type "module", some 0, .plain, #[]⟩ (by kernel_rfl)), rfl, rfl, rfl⟩ }
  have T := tabs_at X
  obtain ⟨o, ho, hc, n, hd⟩ := hL
  have hat : a ∉ TAd := fun h => by
    have : ∀ b ∈ TAd, s₁.heap.get? b = some tabO := by
      intro b hb
      simp only [TAd, List.mem_cons, List.not_mem_nil, or_false] at hb
      rcases hb with rfl | rfl | rfl | rfl
      · exact X 174 _ (by kernel_rfl)
      · exact X 188 _ (by kernel_rfl)
      · exact X 202 _ (by kernel_rfl)
      · exact X 207 _ (by kernel_rfl)
    rw [this a h] at ho
    cases ho
    cases hc
  have rz : Rz G.C (zOf s₁.heap) (.lst (is.map .int)) (.ref a) := ⟨a, xs, rfl, ⟨o, n, (zOf_of hat).trans ho, hc, rfl, hd⟩, ints_rz hi⟩
  have := law_s G rfl rfl hlen (Q := fun v => v = .bool true) rfl callerA (zOf s₁.heap) s₁ [.ref a] rfl (by unfold Room; decide) ⟨fun _ _ e => e, fun _ => T⟩ (zOf_sub _) ⟨_, _, rfl, rz, rfl⟩
  refine noE this fun x s' ⟨z', v, ex, rx, hv⟩ => ?_
  subst hv
  exact ⟨rx, oldK_of T ex.was, ex.os, (hg ▸ ex.gens.g0).bare⟩
end Mine

end
section
open PySem PySem.W PySem.Calls PyProof.Rows
open PySem.W.X
set_option maxRecDepth 100000
namespace Mine
theorem lk1 : (sreFenced pG.main && ((moduleNames pG.main.body).isEmpty || lookedIntoSs (moduleNames pG.main.body) pG.main.body)) = true := by kernel_rfl
theorem lk2 : namesResolve pG = true := by kernel_rfl
theorem lk3 : pG.boundNames.all (fun n => !worldNames.contains n) = true := by kernel_rfl
theorem lk4 : noRoadLSs { strict := !(importedModules pG.main.body).all cThrough.contains, foot := none, bare := (["vars", "dir", "locals"] : List Str).filter (readsOut pG pG.main.body) } pG.main.body = true := by kernel_rfl
theorem lk5 : (namesMeet pG pG.main.body fun _ n => attrL n) = true := by kernel_rfl
theorem looks_open : looksOpen pG = true := look_both (look_both (look_both (look_both lk1 lk2) lk3) lk4) lk5
theorem said_b : PySem.Challenge.rw_in0278_02.row.partSaid = true := by
  unfold OpenRow.partSaid
  rw [looks_open]
  kernel_rfl
theorem said_a : PySem.Challenge.rw_in0278_02.row.wellSaid = true := by
  unfold OpenRow.wellSaid
  rw [said_b]
  kernel_rfl
theorem said1 : PySem.Challenge.rw_in0278_02.wellSaid = true := by
  unfold OpenLaw.wellSaid
  rw [said_a]
  kernel_rfl
theorem bare1 : (chainsOk q1 && opensWell PySem.Challenge.rw_in0278_02.row.prog && (frees PySem.Challenge.rw_in0278_02.row.toRowW && PySem.Challenge.rw_in0278_02.row.within.isEmpty)) = true := by kernel_rfl
end Mine
set_option maxHeartbeats 8000000 in
theorem PySem.Challenge.cw_in0278_02_holds : PySem.Challenge.rw_in0278_02.Holds := by
  w_on
  refine holds_law (l := PySem.Challenge.rw_in0278_02) Mine.said1 fun said => ?_
  refine holds_open (q := Mine.q1) (loose := Mine.loose1) (Xt := Mine.X1) (XP := XL Mine.q1 []) (Yf := Hook.obs Mine.H2) (Ya := Hook.val Mine.H2) (YP := Hook.says Mine.H2) (N := Mine.N1) Mine.left1 (Hook.of Mine.H2) (Hook.keeps Mine.H2) (fun s e => xl_of s (Bool.and_eq_true_iff.mp e).1) XL.keeps (by rfl) (by rfl) (by rfl)
    (fun s e => recFacts_of (Bool.and_eq_true_iff.mp e).2) (by rfl) said Mine.bare1 ⟨rfl, rfl, rfl, rfl, rfl, by decide +kernel⟩ ?hw ?hc
  case hw => w_witness2
  k_fill
  intro w s₀ s₁ mg mb G Y fa o pm cd doc dV kV ho hd hcd hD hmg hg args vals as hpre hlay hrd hwl hlo
  have gg := hg
  have KX : (Mine.KT w.params).In s₁.heap := kIn_of Y
  have KX0 := Mine.kt_k0 KX
  refine Ground.open G ?_
  intro T B D TE TW
  wrow_args hpre hlay hrd hwl hlo
  x_fa T KX0 hmg
  all_lens
  rename_i is h0 h1 h2 h3 h4 as1 as2 a xs as3 hL ra w1 r0 hr hcond hcond2 hi hb
  refine Mine.noE (Mine.finish KX T.g T.b T.nolimit T.builtins hL hi (by omega) gg) fun x s' e => ?_
  obtain ⟨rfl, kp, eo, eb⟩ := e
  refine ⟨.inl ⟨_, _, [], rfl, fun _ => rfl, ReadsW.bool true, ?_, fun _ => ⟨List.nodup_nil, fun _ hm => (nomatch hm)⟩⟩, kp, eo, eb⟩
  first | rfl | wrow_post

end
