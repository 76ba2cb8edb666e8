import PyProof.Rows.All
import Wide.All
import OpenK.AllK
import Wide.FinOn
import Lean
import PySem.Challenge.RW_of0083_01
open PySem PySem.W PyProof.Rows
set_option Elab.async false
set_option maxRecDepth 100000
set_option maxHeartbeats 8000000
set_option pp.deepTerms false
set_option compiler.extract_closed false
namespace Mine
noncomputable abbrev PG : Program := PySem.Challenge.pw_of0083_01
noncomputable def nilStmt : Stmt := .Pass ⟨0, 0, 0, 0⟩
noncomputable def defAt (i : Nat) (j : Option Nat) : Stmt := match j with
  | none => (PG.main.body[i]?).getD nilStmt
  | some j => match (PG.main.body[i]?).getD nilStmt with
    | .ClassDef _ _ _ body .. => (body[j]?).getD nilStmt
    | _ => nilStmt
noncomputable def argsOf : Stmt → Arguments
  | .FunctionDef _ a .. => a
  | _ => default
noncomputable def bodyOf : Stmt → List Stmt
  | .FunctionDef _ _ b .. => b
  | _ => []
noncomputable def scopeOf : Stmt → Scope
  | .FunctionDef _ _ _ _ _ _ s .. => s
  | _ => default
noncomputable def VV : Program := { PG with main := { PG.main with body := [defAt 0 none, defAt 1 none, defAt 3 none, defAt 4 none, defAt 6 none, defAt 8 none, defAt 9 none, defAt 10 none, defAt 11 none, defAt 12 none, defAt 13 none, defAt 14 none, defAt 15 none, defAt 17 none, defAt 18 none, defAt 19 none, defAt 20 none, defAt 21 none, defAt 22 none, defAt 24 none, defAt 27 none, defAt 29 none, defAt 31 none, defAt 32 none, defAt 34 none, defAt 36 none, defAt 37 none, defAt 39 none, defAt 40 none, defAt 41 none, defAt 42 none, defAt 43 none] } }
noncomputable def KK : Params → Frag := fun P =>
  (nat_lit 2, ⟨.none, none, (.dict #[⟨PyData.keyHash P (Str.ofString "\x69mport.loaded._collections"), (.str (Str.ofString "\x69mport.loaded._collections") 185), (.bool true)⟩, ⟨PyData.keyHash P (Str.ofString "class._frozen_importlib.BuiltinImporter"), (.str (Str.ofString "class._frozen_importlib.BuiltinImporter") 187), (.ref 15)⟩, ⟨PyData.keyHash P (Str.ofString "watched.\x69mport"), (.str (Str.ofString "watched.\x69mport") 208), (.ref 19)⟩, ⟨PyData.keyHash P (Str.ofString "class._frozen_importlib.ModuleSpec"), (.str (Str.ofString "class._frozen_importlib.ModuleSpec") 218), (.ref 23)⟩, ⟨PyData.keyHash P (Str.ofString "sys.modules.booked-epoch"), (.str (Str.ofString "sys.modules.booked-epoch") 247), (.int (3) 0)⟩, ⟨PyData.keyHash P (Str.ofString "sys.modules.landed._collections"), (.str (Str.ofString "sys.modules.landed._collections") 248), (.bool true)⟩, ⟨PyData.keyHash P (Str.ofString "\x69mport.later-laid._collections"), (.str (Str.ofString "\x69mport.later-laid._collections") 263), (.bool true)⟩, ⟨PyData.keyHash P (Str.ofString "watched.library"), (.str (Str.ofString "watched.library") 265), (.ref 28)⟩, ⟨PyData.keyHash P (Str.ofString "watched.library-objects"), (.str (Str.ofString "watched.library-objects") 0), (.str (Str.ofString "\x0d") 0)⟩, ⟨PyData.keyHash P (Str.ofString "watched.library-deep._collections"), (.str (Str.ofString "watched.library-deep._collections") 266), (.str (Str.ofString "\x04\x00\x00\x0c\x04\x00\x00\x0c\x04\x00\x00\x03\x04\x00\x00\x0c\x08\x04dict\x02") 0)⟩, ⟨PyData.keyHash P (Str.ofString "type.__subclasses__.OSError.0"), (.str (Str.ofString "type.__subclasses__.OSError.0") 488), (.int (82) 0)⟩, ⟨PyData.keyHash P (Str.ofString "type.__subclasses__.OSError.n"), (.str (Str.ofString "type.__subclasses__.OSError.n") 489), (.int (1) 0)⟩] 12), #[]⟩) ::
  (nat_lit 3, ⟨(.type "dict"), none, (.dict #[⟨PyData.keyHash P (Str.ofString "__name__"), (.str (Str.ofString "__name__") 165), (.str (Str.ofString "law_of0083_01") 1443)⟩, ⟨PyData.keyHash P (Str.ofString "__doc__"), (.str (Str.ofString "__doc__") 166), .none⟩, ⟨PyData.keyHash P (Str.ofString "__package__"), (.str (Str.ofString "__package__") 167), .none⟩, ⟨PyData.keyHash P (Str.ofString "__loader__"), (.str (Str.ofString "__loader__") 168), (.builtin "__main__.__loader__#opaque")⟩, ⟨PyData.keyHash P (Str.ofString "__spec__"), (.str (Str.ofString "__spec__") 169), .none⟩, ⟨PyData.keyHash P (Str.ofString "__annotations__"), (.str (Str.ofString "__annotations__") 170), (.ref 6)⟩, ⟨PyData.keyHash P (Str.ofString "__builtins__"), (.str (Str.ofString "__builtins__") 171), (.ref 4)⟩, ⟨PyData.keyHash P (Str.ofString "__file__"), (.str (Str.ofString "__file__") 173), (.str (Str.ofString "/claim/cut.py") 172)⟩, ⟨PyData.keyHash P (Str.ofString "__cached__"), (.str (Str.ofString "__cached__") 174), .none⟩, ⟨PyData.keyHash P (Str.ofString "deque"), (.str (Str.ofString "deque") 272), (.type "collections.deque")⟩, ⟨PyData.keyHash P (Str.ofString "_wall"), (.str (Str.ofString "_wall") 285), (.ref 39)⟩, ⟨PyData.keyHash P (Str.ofString "_special_chars_map"), (.str (Str.ofString "_special_chars_map") 433), (.ref 41)⟩, ⟨PyData.keyHash P (Str.ofString "escape"), (.str (Str.ofString "escape") 440), (.ref 51)⟩, ⟨PyData.keyHash P (Str.ofString "translate_pattern"), (.str (Str.ofString "translate_pattern") 451), (.ref 58)⟩, ⟨PyData.keyHash P (Str.ofString "_whence"), (.str (Str.ofString "_whence") 461), (.ref 65)⟩, ⟨PyData.keyHash P (Str.ofString "_index"), (.str (Str.ofString "_index") 469), (.ref 72)⟩, ⟨PyData.keyHash P (Str.ofString "UnsupportedOperation"), (.str (Str.ofString "UnsupportedOperation") 491), (.ref 82)⟩, ⟨PyData.keyHash P (Str.ofString "IOBase"), (.str (Str.ofString "IOBase") 523), (.ref 102)⟩, ⟨PyData.keyHash P (Str.ofString "BufferedIOBase"), (.str (Str.ofString "BufferedIOBase") 541), (.ref 117)⟩, ⟨PyData.keyHash P (Str.ofString "TextIOBase"), (.str (Str.ofString "TextIOBase") 559), (.ref 129)⟩, ⟨PyData.keyHash P (Str.ofString "BytesIO"), (.str (Str.ofString "BytesIO") 821), (.ref 359)⟩, ⟨PyData.keyHash P (Str.ofString "StringIO"), (.str (Str.ofString "StringIO") 1108), (.ref 606)⟩, ⟨PyData.keyHash P (Str.ofString "_kind"), (.str (Str.ofString "_kind") 1119), (.ref 615)⟩, ⟨PyData.keyHash P (Str.ofString "_fspath"), (.str (Str.ofString "_fspath") 1128), (.ref 622)⟩, ⟨PyData.keyHash P (Str.ofString "_check_arg_types"), (.str (Str.ofString "_check_arg_types") 1138), (.ref 629)⟩, ⟨PyData.keyHash P (Str.ofString "isabs"), (.str (Str.ofString "isabs") 1145), (.ref 636)⟩, ⟨PyData.keyHash P (Str.ofString "join"), (.str (Str.ofString "join") 1156), (.ref 643)⟩, ⟨PyData.keyHash P (Str.ofString "dirname"), (.str (Str.ofString "dirname") 1166), (.ref 650)⟩, ⟨PyData.keyHash P (Str.ofString "shlex"), (.str (Str.ofString "shlex") 1307), (.ref 741)⟩, ⟨PyData.keyHash P (Str.ofString "split"), (.str (Str.ofString "split") 1317), (.ref 753)⟩, ⟨PyData.keyHash P (Str.ofString "_plain_name"), (.str (Str.ofString "_plain_name") 1328), (.ref 760)⟩, ⟨PyData.keyHash P (Str.ofString "ABCMeta"), (.str (Str.ofString "ABCMeta") 1354), (.ref 777)⟩, ⟨PyData.keyHash P (Str.ofString "_ABCLike"), (.str (Str.ofString "_ABCLike") 1397), (.ref 810)⟩, ⟨PyData.keyHash P (Str.ofString "_abc_plain_meta"), (.str (Str.ofString "_abc_plain_meta") 1404), (.ref 819)⟩, ⟨PyData.keyHash P (Str.ofString "fspath"), (.str (Str.ofString "fspath") 1416), (.ref 826)⟩, ⟨PyData.keyHash P (Str.ofString "splitroot"), (.str (Str.ofString "splitroot") 1427), (.ref 833)⟩, ⟨PyData.keyHash P (Str.ofString "normpath"), (.str (Str.ofString "normpath") 1442), (.ref 840)⟩, ⟨PyData.keyHash P (Str.ofString "_law_read"), (.str (Str.ofString "_law_read") 1450), (.ref 845)⟩, ⟨PyData.keyHash P (Str.ofString "_law_heard"), (.str (Str.ofString "_law_heard") 1464), (.ref 852)⟩, ⟨PyData.keyHash P (Str.ofString "_law_straight"), (.str (Str.ofString "_law_straight") 1470), (.ref 857)⟩, ⟨PyData.keyHash P (Str.ofString "_law_thin"), (.str (Str.ofString "_law_thin") 1476), (.ref 862)⟩, ⟨PyData.keyHash P (Str.ofString "law"), (.str (Str.ofString "law") 1482), (.ref 867)⟩] 42), #[]⟩) ::
  (nat_lit 41, ⟨(.type "dict"), none, (.dict #[⟨40, (.int (40) 289), (.str (Str.ofString "\\(") 293)⟩, ⟨41, (.int (41) 295), (.str (Str.ofString "\\)") 299)⟩, ⟨91, (.int (91) 301), (.str (Str.ofString "\\[") 305)⟩, ⟨93, (.int (93) 307), (.str (Str.ofString "\\]") 311)⟩, ⟨123, (.int (123) 313), (.str (Str.ofString "\\{") 317)⟩, ⟨125, (.int (125) 319), (.str (Str.ofString "\\}") 323)⟩, ⟨63, (.int (63) 325), (.str (Str.ofString "\\?") 329)⟩, ⟨42, (.int (42) 331), (.str (Str.ofString "\\*") 335)⟩, ⟨43, (.int (43) 337), (.str (Str.ofString "\\+") 341)⟩, ⟨45, (.int (45) 343), (.str (Str.ofString "\\-") 347)⟩, ⟨124, (.int (124) 349), (.str (Str.ofString "\\|") 353)⟩, ⟨94, (.int (94) 355), (.str (Str.ofString "\\^") 359)⟩, ⟨36, (.int (36) 361), (.str (Str.ofString "\\$") 365)⟩, ⟨92, (.int (92) 367), (.str (Str.ofString "\\\\") 371)⟩, ⟨46, (.int (46) 373), (.str (Str.ofString "\\.") 377)⟩, ⟨38, (.int (38) 379), (.str (Str.ofString "\\&") 383)⟩, ⟨126, (.int (126) 385), (.str (Str.ofString "\\~") 389)⟩, ⟨35, (.int (35) 391), (.str (Str.ofString "\\#") 395)⟩, ⟨32, (.int (32) 397), (.str (Str.ofString "\\ ") 401)⟩, ⟨9, (.int (9) 403), (.str (Str.ofString "\\\t") 407)⟩, ⟨10, (.int (10) 409), (.str (Str.ofString "\\\n") 413)⟩, ⟨13, (.int (13) 415), (.str (Str.ofString "\\\x0d") 419)⟩, ⟨11, (.int (11) 421), (.str (Str.ofString "\\\x0b") 425)⟩, ⟨12, (.int (12) 427), (.str (Str.ofString "\\\x0c") 431)⟩] 24), #[]⟩) ::
  (nat_lit 50, ⟨(.type "code"), none, (.fields #[(.str (Str.ofString "escape") 434), (.str (Str.ofString "escape") 435), (.str (Str.ofString "/claim/cut.py") 436), (.int (7) 0), (.int (1) 0), (.int (0) 0), (.int (0) 0), (.int (3) 0), (.ref 45), (.bool true), (.int (273) 0), (.ref 46), .none, (.ref 47), (.ref 48), (.ref 49), (.int (438) 0), (.int (7) 0), (.str (Str.ofString "/claim/cut.py") 439)]), #[]⟩) ::
  (nat_lit 51, ⟨(.type "function"), none, (.func ⟨(Str.ofString "escape"), (Str.ofString "escape"), (⟨_, by conv => lhs; whnf⟩ : { y // argsOf (defAt 4 none) = y }).val, .stmts (⟨_, by conv => lhs; whnf⟩ : { y // bodyOf (defAt 4 none) = y }).val, (⟨_, by conv => lhs; whnf⟩ : { y // scopeOf (defAt 4 none) = y }).val, 3, [], .none, .none, .none, (.str (Str.ofString "re") 286), none, (.ref 50), .none, 0⟩), #[]⟩) ::
  (nat_lit 57, ⟨(.type "code"), none, (.fields #[(.str (Str.ofString "translate_pattern") 443), (.str (Str.ofString "translate_pattern") 444), (.str (Str.ofString "/claim/cut.py") 445), (.int (14) 0), (.int (1) 0), (.int (0) 0), (.int (0) 0), (.int (3) 0), (.ref 52), (.bool true), (.int (273) 0), (.ref 53), .none, (.ref 54), (.ref 55), (.ref 56), (.int (449) 0), (.int (14) 0), (.str (Str.ofString "/claim/cut.py") 450)]), #[]⟩) ::
  (nat_lit 58, ⟨(.type "function"), none, (.func ⟨(Str.ofString "translate_pattern"), (Str.ofString "translate_pattern"), (⟨_, by conv => lhs; whnf⟩ : { y // argsOf (defAt 6 none) = y }).val, .stmts (⟨_, by conv => lhs; whnf⟩ : { y // bodyOf (defAt 6 none) = y }).val, (⟨_, by conv => lhs; whnf⟩ : { y // scopeOf (defAt 6 none) = y }).val, 3, [], .none, .none, .none, (.str (Str.ofString "cpy313.urllib.robotparser") 441), none, (.ref 57), .none, 0⟩), #[]⟩) ::
  (nat_lit 71, ⟨(.type "code"), none, (.fields #[(.str (Str.ofString "_index") 462), (.str (Str.ofString "_index") 463), (.str (Str.ofString "/claim/cut.py") 464), (.int (26) 0), (.int (2) 0), (.int (0) 0), (.int (0) 0), (.int (3) 0), (.ref 66), (.bool true), (.int (273) 0), (.ref 67), .none, (.ref 68), (.ref 69), (.ref 70), (.int (467) 0), (.int (26) 0), (.str (Str.ofString "/claim/cut.py") 468)]), #[]⟩) ::
  (nat_lit 72, ⟨(.type "function"), none, (.func ⟨(Str.ofString "_index"), (Str.ofString "_index"), (⟨_, by conv => lhs; whnf⟩ : { y // argsOf (defAt 9 none) = y }).val, .stmts (⟨_, by conv => lhs; whnf⟩ : { y // bodyOf (defAt 9 none) = y }).val, (⟨_, by conv => lhs; whnf⟩ : { y // scopeOf (defAt 9 none) = y }).val, 3, [], .none, .none, .none, (.str (Str.ofString "io") 452), none, (.ref 71), .none, 0⟩), #[]⟩) ::
  (nat_lit 98, ⟨(.type "code"), none, (.fields #[(.str (Str.ofString "__new__") 506), (.str (Str.ofString "IOBase.__new__") 507), (.str (Str.ofString "/claim/cut.py") 508), (.int (38) 0), (.int (1) 0), (.int (1) 0), (.int (0) 0), (.int (15) 0), (.ref 93), (.bool true), (.int (273) 0), (.ref 94), .none, (.ref 95), (.ref 96), (.ref 97), (.int (512) 0), (.int (38) 0), (.str (Str.ofString "/claim/cut.py") 513)]), #[]⟩) ::
  (nat_lit 99, ⟨(.type "function"), none, (.func ⟨(Str.ofString "__new__"), (Str.ofString "IOBase.__new__"), (⟨_, by conv => lhs; whnf⟩ : { y // argsOf (defAt 11 (some 1)) = y }).val, .stmts (⟨_, by conv => lhs; whnf⟩ : { y // bodyOf (defAt 11 (some 1)) = y }).val, (⟨_, by conv => lhs; whnf⟩ : { y // scopeOf (defAt 11 (some 1)) = y }).val, 3, [], .none, .none, .none, (.str (Str.ofString "io") 452), none, (.ref 98), .none, 0⟩), #[]⟩) ::
  (nat_lit 101, ⟨(.type "dict"), none, (.dict #[⟨PyData.keyHash P (Str.ofString "__module__"), (.str (Str.ofString "__module__") 499), (.str (Str.ofString "io") 504)⟩, ⟨PyData.keyHash P (Str.ofString "__firstlineno__"), (.str (Str.ofString "__firstlineno__") 503), (.int (35) 502)⟩, ⟨PyData.keyHash P (Str.ofString "__new__"), (.str (Str.ofString "__new__") 514), (.ref 103)⟩, ⟨PyData.keyHash P (Str.ofString "__static_attributes__"), (.str (Str.ofString "__static_attributes__") 515), (.ref 100)⟩, ⟨PyData.keyHash P (Str.ofString "__dict__"), (.str (Str.ofString "__dict__") 518), (.ref 104)⟩, ⟨PyData.keyHash P (Str.ofString "__weakref__"), (.str (Str.ofString "__weakref__") 520), (.ref 105)⟩, ⟨PyData.keyHash P (Str.ofString "__doc__"), (.str (Str.ofString "__doc__") 521), .none⟩] 4), #[]⟩) ::
  (nat_lit 102, ⟨(.type "type"), none, (.cls ⟨(Str.ofString "IOBase"), [(.type "object")], [(.ref 102), (.type "object")], 101, (Str.ofString "IOBase"), true, [], [(.ref 117), (.ref 129)], false, none, false⟩), #[none, none, (some (.str (Str.ofString "IOBase") 492)), (some (.str (Str.ofString "IOBase") 500)), (some .none), (some (.bool true))]⟩) ::
  (nat_lit 103, ⟨(.type "staticmethod"), none, (.fields #[(.ref 99)]), #[]⟩) ::
  (nat_lit 104, ⟨(.type "getset_descriptor"), none, (.fields #[(.str (Str.ofString "__dict__") 517), (.ref 102), (.builtin "function.__dict__"), (.builtin "function.__dict__#set")]), #[]⟩) ::
  (nat_lit 105, ⟨(.type "getset_descriptor"), none, (.fields #[(.str (Str.ofString "__weakref__") 519), (.ref 102), (.builtin "ExceptionGroup.__weakref__"), .none]), #[]⟩) ::
  (nat_lit 128, ⟨(.type "dict"), none, (.dict #[⟨PyData.keyHash P (Str.ofString "__module__"), (.str (Str.ofString "__module__") 549), (.str (Str.ofString "io") 554)⟩, ⟨PyData.keyHash P (Str.ofString "__firstlineno__"), (.str (Str.ofString "__firstlineno__") 553), (.int (44) 552)⟩, ⟨PyData.keyHash P (Str.ofString "__static_attributes__"), (.str (Str.ofString "__static_attributes__") 556), (.ref 127)⟩, ⟨PyData.keyHash P (Str.ofString "__doc__"), (.str (Str.ofString "__doc__") 557), .none⟩] 2), #[]⟩) ::
  (nat_lit 129, ⟨(.type "type"), none, (.cls ⟨(Str.ofString "TextIOBase"), [(.ref 102)], [(.ref 129), (.ref 102), (.type "object")], 128, (Str.ofString "TextIOBase"), true, [], [(.ref 606)], false, none, false⟩), #[(some (.ref 120)), none, (some (.str (Str.ofString "TextIOBase") 542)), (some (.str (Str.ofString "TextIOBase") 550)), (some .none), (some (.bool true))]⟩) ::
  (nat_lit 359, ⟨(.type "type"), none, (.cls ⟨(Str.ofString "BytesIO"), [(.ref 117)], [(.ref 359), (.ref 117), (.ref 102), (.type "object")], 358, (Str.ofString "BytesIO"), true, [], [], false, none, false⟩), #[(some (.ref 132)), none, (some (.str (Str.ofString "BytesIO") 560)), (some (.str (Str.ofString "BytesIO") 568)), (some .none), (some (.bool true))]⟩) ::
  (nat_lit 369, ⟨(.type "tuple"), none, (.seq #[(.str (Str.ofString "") 836), (.str (Str.ofString "\n") 837)] 0), #[]⟩) ::
  (nat_lit 375, ⟨(.type "code"), none, (.fields #[(.str (Str.ofString "__init__") 838), (.str (Str.ofString "StringIO.__init__") 839), (.str (Str.ofString "/claim/cut.py") 840), (.int (219) 0), (.int (3) 0), (.int (0) 0), (.int (0) 0), (.int (3) 0), (.ref 370), (.bool true), (.int (273) 0), (.ref 371), .none, (.ref 372), (.ref 373), (.ref 374), (.int (844) 0), (.int (219) 0), (.str (Str.ofString "/claim/cut.py") 845)]), #[]⟩) ::
  (nat_lit 376, ⟨(.type "function"), none, (.func ⟨(Str.ofString "__init__"), (Str.ofString "StringIO.__init__"), (⟨_, by conv => lhs; whnf⟩ : { y // argsOf (defAt 15 (some 1)) = y }).val, .stmts (⟨_, by conv => lhs; whnf⟩ : { y // bodyOf (defAt 15 (some 1)) = y }).val, (⟨_, by conv => lhs; whnf⟩ : { y // scopeOf (defAt 15 (some 1)) = y }).val, 3, [], (.ref 369), .none, .none, (.str (Str.ofString "io") 452), none, (.ref 375), .none, 0⟩), #[]⟩) ::
  (nat_lit 382, ⟨(.type "code"), none, (.fields #[(.str (Str.ofString "__translated") 847), (.str (Str.ofString "StringIO.__translated") 848), (.str (Str.ofString "/claim/cut.py") 849), (.int (232) 0), (.int (2) 0), (.int (0) 0), (.int (0) 0), (.int (3) 0), (.ref 377), (.bool true), (.int (273) 0), (.ref 378), .none, (.ref 379), (.ref 380), (.ref 381), (.int (853) 0), (.int (232) 0), (.str (Str.ofString "/claim/cut.py") 854)]), #[]⟩) ::
  (nat_lit 383, ⟨(.type "function"), none, (.func ⟨(Str.ofString "__translated"), (Str.ofString "StringIO.__translated"), (⟨_, by conv => lhs; whnf⟩ : { y // argsOf (defAt 15 (some 2)) = y }).val, .stmts (⟨_, by conv => lhs; whnf⟩ : { y // bodyOf (defAt 15 (some 2)) = y }).val, (⟨_, by conv => lhs; whnf⟩ : { y // scopeOf (defAt 15 (some 2)) = y }).val, 3, [], .none, .none, .none, (.str (Str.ofString "io") 452), none, (.ref 382), .none, 0⟩), #[]⟩) ::
  (nat_lit 389, ⟨(.type "code"), none, (.fields #[(.str (Str.ofString "__check") 856), (.str (Str.ofString "StringIO.__check") 857), (.str (Str.ofString "/claim/cut.py") 858), (.int (240) 0), (.int (1) 0), (.int (0) 0), (.int (0) 0), (.int (3) 0), (.ref 384), (.bool true), (.int (273) 0), (.ref 385), .none, (.ref 386), (.ref 387), (.ref 388), (.int (860) 0), (.int (240) 0), (.str (Str.ofString "/claim/cut.py") 861)]), #[]⟩) ::
  (nat_lit 390, ⟨(.type "function"), none, (.func ⟨(Str.ofString "__check"), (Str.ofString "StringIO.__check"), (⟨_, by conv => lhs; whnf⟩ : { y // argsOf (defAt 15 (some 3)) = y }).val, .stmts (⟨_, by conv => lhs; whnf⟩ : { y // bodyOf (defAt 15 (some 3)) = y }).val, (⟨_, by conv => lhs; whnf⟩ : { y // scopeOf (defAt 15 (some 3)) = y }).val, 3, [], .none, .none, .none, (.str (Str.ofString "io") 452), none, (.ref 389), .none, 0⟩), #[]⟩) ::
  (nat_lit 545, ⟨(.type "tuple"), none, (.seq #[(.int (-1) 1029)] 0), #[]⟩) ::
  (nat_lit 551, ⟨(.type "code"), none, (.fields #[(.str (Str.ofString "read") 1030), (.str (Str.ofString "StringIO.read") 1031), (.str (Str.ofString "/claim/cut.py") 1032), (.int (362) 0), (.int (2) 0), (.int (2) 0), (.int (0) 0), (.int (3) 0), (.ref 546), (.bool true), (.int (273) 0), (.ref 547), .none, (.ref 548), (.ref 549), (.ref 550), (.int (1037) 0), (.int (362) 0), (.str (Str.ofString "/claim/cut.py") 1038)]), #[]⟩) ::
  (nat_lit 552, ⟨(.type "function"), none, (.func ⟨(Str.ofString "read"), (Str.ofString "StringIO.read"), (⟨_, by conv => lhs; whnf⟩ : { y // argsOf (defAt 15 (some 25)) = y }).val, .stmts (⟨_, by conv => lhs; whnf⟩ : { y // bodyOf (defAt 15 (some 25)) = y }).val, (⟨_, by conv => lhs; whnf⟩ : { y // scopeOf (defAt 15 (some 25)) = y }).val, 3, [], (.ref 545), .none, .none, (.str (Str.ofString "io") 452), none, (.ref 551), .none, 0⟩), #[]⟩) ::
  (nat_lit 605, ⟨(.type "dict"), none, (.dict #[⟨PyData.keyHash P (Str.ofString "__module__"), (.str (Str.ofString "__module__") 829), (.str (Str.ofString "_io") 834)⟩, ⟨PyData.keyHash P (Str.ofString "__firstlineno__"), (.str (Str.ofString "__firstlineno__") 833), (.int (216) 832)⟩, ⟨PyData.keyHash P (Str.ofString "__init__"), (.str (Str.ofString "__init__") 846), (.ref 376)⟩, ⟨PyData.keyHash P (Str.ofString "_StringIO__translated"), (.str (Str.ofString "_StringIO__translated") 855), (.ref 383)⟩, ⟨PyData.keyHash P (Str.ofString "_StringIO__check"), (.str (Str.ofString "_StringIO__check") 862), (.ref 390)⟩, ⟨PyData.keyHash P (Str.ofString "_StringIO__check_dot"), (.str (Str.ofString "_StringIO__check_dot") 869), (.ref 397)⟩, ⟨PyData.keyHash P (Str.ofString "_StringIO__line"), (.str (Str.ofString "_StringIO__line") 884), (.ref 404)⟩, ⟨PyData.keyHash P (Str.ofString "closed"), (.str (Str.ofString "closed") 892), (.ref 412)⟩, ⟨PyData.keyHash P (Str.ofString "line_buffering"), (.str (Str.ofString "line_buffering") 900), (.ref 420)⟩, ⟨PyData.keyHash P (Str.ofString "newlines"), (.str (Str.ofString "newlines") 908), (.ref 428)⟩, ⟨PyData.keyHash P (Str.ofString "encoding"), (.str (Str.ofString "encoding") 916), (.ref 436)⟩, ⟨PyData.keyHash P (Str.ofString "errors"), (.str (Str.ofString "errors") 924), (.ref 444)⟩, ⟨PyData.keyHash P (Str.ofString "close"), (.str (Str.ofString "close") 931), (.ref 451)⟩, ⟨PyData.keyHash P (Str.ofString "__enter__"), (.str (Str.ofString "__enter__") 938), (.ref 458)⟩, ⟨PyData.keyHash P (Str.ofString "__exit__"), (.str (Str.ofString "__exit__") 946), (.ref 465)⟩, ⟨PyData.keyHash P (Str.ofString "readable"), (.str (Str.ofString "readable") 953), (.ref 472)⟩, ⟨PyData.keyHash P (Str.ofString "writable"), (.str (Str.ofString "writable") 960), (.ref 479)⟩, ⟨PyData.keyHash P (Str.ofString "seekable"), (.str (Str.ofString "seekable") 967), (.ref 486)⟩, ⟨PyData.keyHash P (Str.ofString "isatty"), (.str (Str.ofString "isatty") 974), (.ref 493)⟩, ⟨PyData.keyHash P (Str.ofString "flush"), (.str (Str.ofString "flush") 981), (.ref 500)⟩, ⟨PyData.keyHash P (Str.ofString "fileno"), (.str (Str.ofString "fileno") 988), (.ref 507)⟩, ⟨PyData.keyHash P (Str.ofString "detach"), (.str (Str.ofString "detach") 995), (.ref 514)⟩, ⟨PyData.keyHash P (Str.ofString "getvalue"), (.str (Str.ofString "getvalue") 1002), (.ref 521)⟩, ⟨PyData.keyHash P (Str.ofString "tell"), (.str (Str.ofString "tell") 1009), (.ref 528)⟩, ⟨PyData.keyHash P (Str.ofString "seek"), (.str (Str.ofString "seek") 1019), (.ref 536)⟩, ⟨PyData.keyHash P (Str.ofString "truncate"), (.str (Str.ofString "truncate") 1027), (.ref 544)⟩, ⟨PyData.keyHash P (Str.ofString "read"), (.str (Str.ofString "read") 1039), (.ref 552)⟩, ⟨PyData.keyHash P (Str.ofString "readline"), (.str (Str.ofString "readline") 1049), (.ref 560)⟩, ⟨PyData.keyHash P (Str.ofString "readlines"), (.str (Str.ofString "readlines") 1059), (.ref 568)⟩, ⟨PyData.keyHash P (Str.ofString "__iter__"), (.str (Str.ofString "__iter__") 1066), (.ref 575)⟩, ⟨PyData.keyHash P (Str.ofString "__next__"), (.str (Str.ofString "__next__") 1074), (.ref 582)⟩, ⟨PyData.keyHash P (Str.ofString "write"), (.str (Str.ofString "write") 1086), (.ref 589)⟩, ⟨PyData.keyHash P (Str.ofString "writelines"), (.str (Str.ofString "writelines") 1094), (.ref 596)⟩, ⟨PyData.keyHash P (Str.ofString "__repr__"), (.str (Str.ofString "__repr__") 1101), (.ref 603)⟩, ⟨PyData.keyHash P (Str.ofString "__static_attributes__"), (.str (Str.ofString "__static_attributes__") 1105), (.ref 604)⟩, ⟨PyData.keyHash P (Str.ofString "__doc__"), (.str (Str.ofString "__doc__") 1106), .none⟩] 2), #[]⟩) ::
  (nat_lit 606, ⟨(.type "type"), none, (.cls ⟨(Str.ofString "StringIO"), [(.ref 129)], [(.ref 606), (.ref 129), (.ref 102), (.type "object")], 605, (Str.ofString "StringIO"), true, [], [], false, none, false⟩), #[(some (.ref 362)), none, (some (.str (Str.ofString "StringIO") 822)), (some (.str (Str.ofString "StringIO") 830)), (some .none), (some (.bool true))]⟩) ::
  (nat_lit 658, ⟨(.type "tuple"), none, (.seq #[.none, .none, (.bool false), (.bool false)] 0), #[]⟩) ::
  (nat_lit 664, ⟨(.type "code"), none, (.fields #[(.str (Str.ofString "__init__") 1181), (.str (Str.ofString "shlex.__init__") 1182), (.str (Str.ofString "/claim/cut.py") 1183), (.int (487) 0), (.int (5) 0), (.int (0) 0), (.int (0) 0), (.int (3) 0), (.ref 659), (.bool true), (.int (273) 0), (.ref 660), .none, (.ref 661), (.ref 662), (.ref 663), (.int (1190) 0), (.int (487) 0), (.str (Str.ofString "/claim/cut.py") 1191)]), #[]⟩) ::
  (nat_lit 665, ⟨(.type "function"), none, (.func ⟨(Str.ofString "__init__"), (Str.ofString "shlex.__init__"), (⟨_, by conv => lhs; whnf⟩ : { y // argsOf (defAt 24 (some 0)) = y }).val, .stmts (⟨_, by conv => lhs; whnf⟩ : { y // bodyOf (defAt 24 (some 0)) = y }).val, (⟨_, by conv => lhs; whnf⟩ : { y // scopeOf (defAt 24 (some 0)) = y }).val, 3, [], (.ref 658), .none, .none, (.str (Str.ofString "cpy313.shlex") 1167), none, (.ref 664), .none, 0⟩), #[]⟩) ::
  (nat_lit 671, ⟨(.type "code"), none, (.fields #[(.str (Str.ofString "punctuation_chars") 1193), (.str (Str.ofString "shlex.punctuation_chars") 1194), (.str (Str.ofString "/claim/cut.py") 1195), (.int (528) 0), (.int (1) 0), (.int (0) 0), (.int (0) 0), (.int (3) 0), (.ref 666), (.bool true), (.int (273) 0), (.ref 667), .none, (.ref 668), (.ref 669), (.ref 670), (.int (1197) 0), (.int (528) 0), (.str (Str.ofString "/claim/cut.py") 1198)]), #[]⟩) ::
  (nat_lit 672, ⟨(.type "function"), none, (.func ⟨(Str.ofString "punctuation_chars"), (Str.ofString "shlex.punctuation_chars"), (⟨_, by conv => lhs; whnf⟩ : { y // argsOf (defAt 24 (some 1)) = y }).val, .stmts (⟨_, by conv => lhs; whnf⟩ : { y // bodyOf (defAt 24 (some 1)) = y }).val, (⟨_, by conv => lhs; whnf⟩ : { y // scopeOf (defAt 24 (some 1)) = y }).val, 3, [], .none, .none, .none, (.str (Str.ofString "cpy313.shlex") 1167), none, (.ref 671), .none, 0⟩), #[]⟩) ::
  (nat_lit 673, ⟨(.type "property"), none, (.fields #[(.ref 672), .none, .none, .none, (.str (Str.ofString "punctuation_chars") 1200), (.bool false)]), #[]⟩) ::
  (nat_lit 701, ⟨(.type "code"), none, (.fields #[(.str (Str.ofString "get_token") 1225), (.str (Str.ofString "shlex.get_token") 1226), (.str (Str.ofString "/claim/cut.py") 1227), (.int (555) 0), (.int (1) 0), (.int (0) 0), (.int (0) 0), (.int (3) 0), (.ref 696), (.bool true), (.int (273) 0), (.ref 697), .none, (.ref 698), (.ref 699), (.ref 700), (.int (1234) 0), (.int (555) 0), (.str (Str.ofString "/claim/cut.py") 1235)]), #[]⟩) ::
  (nat_lit 702, ⟨(.type "function"), none, (.func ⟨(Str.ofString "get_token"), (Str.ofString "shlex.get_token"), (⟨_, by conv => lhs; whnf⟩ : { y // argsOf (defAt 24 (some 5)) = y }).val, .stmts (⟨_, by conv => lhs; whnf⟩ : { y // bodyOf (defAt 24 (some 5)) = y }).val, (⟨_, by conv => lhs; whnf⟩ : { y // scopeOf (defAt 24 (some 5)) = y }).val, 3, [], .none, .none, .none, (.str (Str.ofString "cpy313.shlex") 1167), none, (.ref 701), .none, 0⟩), #[]⟩) ::
  (nat_lit 708, ⟨(.type "code"), none, (.fields #[(.str (Str.ofString "read_token") 1237), (.str (Str.ofString "shlex.read_token") 1238), (.str (Str.ofString "/claim/cut.py") 1239), (.int (582) 0), (.int (1) 0), (.int (0) 0), (.int (0) 0), (.int (3) 0), (.ref 703), (.bool true), (.int (273) 0), (.ref 704), .none, (.ref 705), (.ref 706), (.ref 707), (.int (1245) 0), (.int (582) 0), (.str (Str.ofString "/claim/cut.py") 1246)]), #[]⟩) ::
  (nat_lit 709, ⟨(.type "function"), none, (.func ⟨(Str.ofString "read_token"), (Str.ofString "shlex.read_token"), (⟨_, by conv => lhs; whnf⟩ : { y // argsOf (defAt 24 (some 6)) = y }).val, .stmts (⟨_, by conv => lhs; whnf⟩ : { y // bodyOf (defAt 24 (some 6)) = y }).val, (⟨_, by conv => lhs; whnf⟩ : { y // scopeOf (defAt 24 (some 6)) = y }).val, 3, [], .none, .none, .none, (.str (Str.ofString "cpy313.shlex") 1167), none, (.ref 708), .none, 0⟩), #[]⟩) ::
  (nat_lit 730, ⟨(.type "code"), none, (.fields #[(.str (Str.ofString "__iter__") 1265), (.str (Str.ofString "shlex.__iter__") 1266), (.str (Str.ofString "/claim/cut.py") 1267), (.int (729) 0), (.int (1) 0), (.int (0) 0), (.int (0) 0), (.int (3) 0), (.ref 725), (.bool true), (.int (273) 0), (.ref 726), .none, (.ref 727), (.ref 728), (.ref 729), (.int (1269) 0), (.int (729) 0), (.str (Str.ofString "/claim/cut.py") 1270)]), #[]⟩) ::
  (nat_lit 731, ⟨(.type "function"), none, (.func ⟨(Str.ofString "__iter__"), (Str.ofString "shlex.__iter__"), (⟨_, by conv => lhs; whnf⟩ : { y // argsOf (defAt 24 (some 9)) = y }).val, .stmts (⟨_, by conv => lhs; whnf⟩ : { y // bodyOf (defAt 24 (some 9)) = y }).val, (⟨_, by conv => lhs; whnf⟩ : { y // scopeOf (defAt 24 (some 9)) = y }).val, 3, [], .none, .none, .none, (.str (Str.ofString "cpy313.shlex") 1167), none, (.ref 730), .none, 0⟩), #[]⟩) ::
  (nat_lit 737, ⟨(.type "code"), none, (.fields #[(.str (Str.ofString "__next__") 1272), (.str (Str.ofString "shlex.__next__") 1273), (.str (Str.ofString "/claim/cut.py") 1274), (.int (732) 0), (.int (1) 0), (.int (0) 0), (.int (0) 0), (.int (3) 0), (.ref 732), (.bool true), (.int (273) 0), (.ref 733), .none, (.ref 734), (.ref 735), (.ref 736), (.int (1277) 0), (.int (732) 0), (.str (Str.ofString "/claim/cut.py") 1278)]), #[]⟩) ::
  (nat_lit 738, ⟨(.type "function"), none, (.func ⟨(Str.ofString "__next__"), (Str.ofString "shlex.__next__"), (⟨_, by conv => lhs; whnf⟩ : { y // argsOf (defAt 24 (some 10)) = y }).val, .stmts (⟨_, by conv => lhs; whnf⟩ : { y // bodyOf (defAt 24 (some 10)) = y }).val, (⟨_, by conv => lhs; whnf⟩ : { y // scopeOf (defAt 24 (some 10)) = y }).val, 3, [], .none, .none, .none, (.str (Str.ofString "cpy313.shlex") 1167), none, (.ref 737), .none, 0⟩), #[]⟩) ::
  (nat_lit 740, ⟨(.type "dict"), none, (.dict #[⟨PyData.keyHash P (Str.ofString "__module__"), (.str (Str.ofString "__module__") 1176), (.str (Str.ofString "cpy313.shlex") 1167)⟩, ⟨PyData.keyHash P (Str.ofString "__firstlineno__"), (.str (Str.ofString "__firstlineno__") 1180), (.int (485) 1179)⟩, ⟨PyData.keyHash P (Str.ofString "__init__"), (.str (Str.ofString "__init__") 1192), (.ref 665)⟩, ⟨PyData.keyHash P (Str.ofString "punctuation_chars"), (.str (Str.ofString "punctuation_chars") 1200), (.ref 673)⟩, ⟨PyData.keyHash P (Str.ofString "push_token"), (.str (Str.ofString "push_token") 1208), (.ref 680)⟩, ⟨PyData.keyHash P (Str.ofString "push_source"), (.str (Str.ofString "push_source") 1217), (.ref 688)⟩, ⟨PyData.keyHash P (Str.ofString "pop_source"), (.str (Str.ofString "pop_source") 1224), (.ref 695)⟩, ⟨PyData.keyHash P (Str.ofString "get_token"), (.str (Str.ofString "get_token") 1236), (.ref 702)⟩, ⟨PyData.keyHash P (Str.ofString "read_token"), (.str (Str.ofString "read_token") 1247), (.ref 709)⟩, ⟨PyData.keyHash P (Str.ofString "sourcehook"), (.str (Str.ofString "sourcehook") 1255), (.ref 716)⟩, ⟨PyData.keyHash P (Str.ofString "error_leader"), (.str (Str.ofString "error_leader") 1264), (.ref 724)⟩, ⟨PyData.keyHash P (Str.ofString "__iter__"), (.str (Str.ofString "__iter__") 1271), (.ref 731)⟩, ⟨PyData.keyHash P (Str.ofString "__next__"), (.str (Str.ofString "__next__") 1279), (.ref 738)⟩, ⟨PyData.keyHash P (Str.ofString "__static_attributes__"), (.str (Str.ofString "__static_attributes__") 1300), (.ref 739)⟩, ⟨PyData.keyHash P (Str.ofString "__dict__"), (.str (Str.ofString "__dict__") 1302), (.ref 742)⟩, ⟨PyData.keyHash P (Str.ofString "__weakref__"), (.str (Str.ofString "__weakref__") 1304), (.ref 743)⟩, ⟨PyData.keyHash P (Str.ofString "__doc__"), (.str (Str.ofString "__doc__") 1305), .none⟩] 4), #[]⟩) ::
  (nat_lit 741, ⟨(.type "type"), none, (.cls ⟨(Str.ofString "shlex"), [(.type "object")], [(.ref 741), (.type "object")], 740, (Str.ofString "shlex"), true, [], [], false, none, false⟩), #[none, none, (some (.str (Str.ofString "shlex") 1169)), (some (.str (Str.ofString "shlex") 1177)), (some (.builtin "object.__new__")), (some (.bool true))]⟩) ::
  (nat_lit 742, ⟨(.type "getset_descriptor"), none, (.fields #[(.str (Str.ofString "__dict__") 1301), (.ref 741), (.builtin "function.__dict__"), (.builtin "function.__dict__#set")]), #[]⟩) ::
  (nat_lit 743, ⟨(.type "getset_descriptor"), none, (.fields #[(.str (Str.ofString "__weakref__") 1303), (.ref 741), (.builtin "ExceptionGroup.__weakref__"), .none]), #[]⟩) ::
  (nat_lit 746, ⟨(.type "tuple"), none, (.seq #[(.bool false), (.bool true)] 0), #[]⟩) ::
  (nat_lit 752, ⟨(.type "code"), none, (.fields #[(.str (Str.ofString "split") 1308), (.str (Str.ofString "split") 1309), (.str (Str.ofString "/claim/cut.py") 1310), (.int (737) 0), (.int (3) 0), (.int (0) 0), (.int (0) 0), (.int (3) 0), (.ref 747), (.bool true), (.int (273) 0), (.ref 748), .none, (.ref 749), (.ref 750), (.ref 751), (.int (1315) 0), (.int (737) 0), (.str (Str.ofString "/claim/cut.py") 1316)]), #[]⟩) ::
  (nat_lit 753, ⟨(.type "function"), none, (.func ⟨(Str.ofString "split"), (Str.ofString "split"), (⟨_, by conv => lhs; whnf⟩ : { y // argsOf (defAt 25 none) = y }).val, .stmts (⟨_, by conv => lhs; whnf⟩ : { y // bodyOf (defAt 25 none) = y }).val, (⟨_, by conv => lhs; whnf⟩ : { y // scopeOf (defAt 25 none) = y }).val, 3, [], (.ref 746), .none, .none, (.str (Str.ofString "cpy313.shlex") 1167), none, (.ref 752), .none, 0⟩), #[]⟩) ::
  (nat_lit 825, ⟨(.type "code"), none, (.fields #[(.str (Str.ofString "fspath") 1407), (.str (Str.ofString "fspath") 1408), (.str (Str.ofString "/claim/cut.py") 1409), (.int (776) 0), (.int (1) 0), (.int (0) 0), (.int (0) 0), (.int (3) 0), (.ref 820), (.bool true), (.int (273) 0), (.ref 821), .none, (.ref 822), (.ref 823), (.ref 824), (.int (1414) 0), (.int (776) 0), (.str (Str.ofString "/claim/cut.py") 1415)]), #[]⟩) ::
  (nat_lit 826, ⟨(.type "function"), none, (.func ⟨(Str.ofString "fspath"), (Str.ofString "fspath"), (⟨_, by conv => lhs; whnf⟩ : { y // argsOf (defAt 34 none) = y }).val, .stmts (⟨_, by conv => lhs; whnf⟩ : { y // bodyOf (defAt 34 none) = y }).val, (⟨_, by conv => lhs; whnf⟩ : { y // scopeOf (defAt 34 none) = y }).val, 3, [], .none, .none, .none, (.str (Str.ofString "os") 1405), none, (.ref 825), .none, 0⟩), #[]⟩) ::
  (nat_lit 832, ⟨(.type "code"), none, (.fields #[(.str (Str.ofString "splitroot") 1419), (.str (Str.ofString "splitroot") 1420), (.str (Str.ofString "/claim/cut.py") 1421), (.int (793) 0), (.int (1) 0), (.int (0) 0), (.int (0) 0), (.int (3) 0), (.ref 827), (.bool true), (.int (273) 0), (.ref 828), .none, (.ref 829), (.ref 830), (.ref 831), (.int (1425) 0), (.int (793) 0), (.str (Str.ofString "/claim/cut.py") 1426)]), #[]⟩) ::
  (nat_lit 833, ⟨(.type "function"), none, (.func ⟨(Str.ofString "splitroot"), (Str.ofString "splitroot"), (⟨_, by conv => lhs; whnf⟩ : { y // argsOf (defAt 36 none) = y }).val, .stmts (⟨_, by conv => lhs; whnf⟩ : { y // bodyOf (defAt 36 none) = y }).val, (⟨_, by conv => lhs; whnf⟩ : { y // scopeOf (defAt 36 none) = y }).val, 3, [], .none, .none, .none, (.str (Str.ofString "cpy313.posixpath") 1417), none, (.ref 832), .none, 0⟩), #[]⟩) ::
  (nat_lit 839, ⟨(.type "code"), none, (.fields #[(.str (Str.ofString "normpath") 1428), (.str (Str.ofString "normpath") 1429), (.str (Str.ofString "/claim/cut.py") 1430), (.int (807) 0), (.int (1) 0), (.int (0) 0), (.int (0) 0), (.int (3) 0), (.ref 834), (.bool true), (.int (273) 0), (.ref 835), .none, (.ref 836), (.ref 837), (.ref 838), (.int (1440) 0), (.int (807) 0), (.str (Str.ofString "/claim/cut.py") 1441)]), #[]⟩) ::
  (nat_lit 840, ⟨(.type "function"), none, (.func ⟨(Str.ofString "normpath"), (Str.ofString "normpath"), (⟨_, by conv => lhs; whnf⟩ : { y // argsOf (defAt 37 none) = y }).val, .stmts (⟨_, by conv => lhs; whnf⟩ : { y // bodyOf (defAt 37 none) = y }).val, (⟨_, by conv => lhs; whnf⟩ : { y // scopeOf (defAt 37 none) = y }).val, 3, [], .none, .none, .none, (.str (Str.ofString "cpy313.posixpath") 1417), none, (.ref 839), .none, 0⟩), #[]⟩) ::
  (nat_lit 844, ⟨(.type "code"), none, (.fields #[(.str (Str.ofString "_law_read") 1445), (.str (Str.ofString "_law_read") 1446), (.str (Str.ofString "/claim/cut.py") 1447), (.int (833) 0), (.int (1) 0), (.int (0) 0), (.int (0) 0), (.int (3) 0), (.ref 841), (.bool true), (.int (273) 0), (.ref 842), .none, .none, .none, (.ref 843), (.int (1448) 0), (.int (833) 0), (.str (Str.ofString "/claim/cut.py") 1449)]), #[]⟩) ::
  (nat_lit 845, ⟨(.type "function"), none, (.func ⟨(Str.ofString "_law_read"), (Str.ofString "_law_read"), (⟨_, by conv => lhs; whnf⟩ : { y // argsOf (defAt 39 none) = y }).val, .stmts (⟨_, by conv => lhs; whnf⟩ : { y // bodyOf (defAt 39 none) = y }).val, (⟨_, by conv => lhs; whnf⟩ : { y // scopeOf (defAt 39 none) = y }).val, 3, [], .none, .none, .none, (.str (Str.ofString "law_of0083_01") 1443), none, (.ref 844), .none, 0⟩), #[]⟩) ::
  (nat_lit 851, ⟨(.type "code"), none, (.fields #[(.str (Str.ofString "_law_heard") 1451), (.str (Str.ofString "_law_heard") 1452), (.str (Str.ofString "/claim/cut.py") 1453), (.int (838) 0), (.int (1) 0), (.int (0) 0), (.int (0) 0), (.int (3) 0), (.ref 846), (.bool true), (.int (273) 0), (.ref 847), .none, (.ref 848), (.ref 849), (.ref 850), (.int (1462) 0), (.int (838) 0), (.str (Str.ofString "/claim/cut.py") 1463)]), #[]⟩) ::
  (nat_lit 852, ⟨(.type "function"), none, (.func ⟨(Str.ofString "_law_heard"), (Str.ofString "_law_heard"), (⟨_, by conv => lhs; whnf⟩ : { y // argsOf (defAt 40 none) = y }).val, .stmts (⟨_, by conv => lhs; whnf⟩ : { y // bodyOf (defAt 40 none) = y }).val, (⟨_, by conv => lhs; whnf⟩ : { y // scopeOf (defAt 40 none) = y }).val, 3, [], .none, .none, .none, (.str (Str.ofString "law_of0083_01") 1443), none, (.ref 851), .none, 0⟩), #[]⟩) ::
  (nat_lit 856, ⟨(.type "code"), none, (.fields #[(.str (Str.ofString "_law_straight") 1465), (.str (Str.ofString "_law_straight") 1466), (.str (Str.ofString "/claim/cut.py") 1467), (.int (869) 0), (.int (1) 0), (.int (0) 0), (.int (0) 0), (.int (3) 0), (.ref 853), (.bool true), (.int (273) 0), (.ref 854), .none, .none, .none, (.ref 855), (.int (1468) 0), (.int (869) 0), (.str (Str.ofString "/claim/cut.py") 1469)]), #[]⟩) ::
  (nat_lit 857, ⟨(.type "function"), none, (.func ⟨(Str.ofString "_law_straight"), (Str.ofString "_law_straight"), (⟨_, by conv => lhs; whnf⟩ : { y // argsOf (defAt 41 none) = y }).val, .stmts (⟨_, by conv => lhs; whnf⟩ : { y // bodyOf (defAt 41 none) = y }).val, (⟨_, by conv => lhs; whnf⟩ : { y // scopeOf (defAt 41 none) = y }).val, 3, [], .none, .none, .none, (.str (Str.ofString "law_of0083_01") 1443), none, (.ref 856), .none, 0⟩), #[]⟩) ::
  (nat_lit 861, ⟨(.type "code"), none, (.fields #[(.str (Str.ofString "_law_thin") 1471), (.str (Str.ofString "_law_thin") 1472), (.str (Str.ofString "/claim/cut.py") 1473), (.int (883) 0), (.int (1) 0), (.int (0) 0), (.int (0) 0), (.int (3) 0), (.ref 858), (.bool true), (.int (273) 0), (.ref 859), .none, .none, .none, (.ref 860), (.int (1474) 0), (.int (883) 0), (.str (Str.ofString "/claim/cut.py") 1475)]), #[]⟩) ::
  (nat_lit 862, ⟨(.type "function"), none, (.func ⟨(Str.ofString "_law_thin"), (Str.ofString "_law_thin"), (⟨_, by conv => lhs; whnf⟩ : { y // argsOf (defAt 42 none) = y }).val, .stmts (⟨_, by conv => lhs; whnf⟩ : { y // bodyOf (defAt 42 none) = y }).val, (⟨_, by conv => lhs; whnf⟩ : { y // scopeOf (defAt 42 none) = y }).val, 3, [], .none, .none, .none, (.str (Str.ofString "law_of0083_01") 1443), none, (.ref 861), .none, 0⟩), #[]⟩) ::
  (nat_lit 866, ⟨(.type "code"), none, (.fields #[(.str (Str.ofString "law") 1477), (.str (Str.ofString "law") 1478), (.str (Str.ofString "/claim/cut.py") 1479), (.int (889) 0), (.int (1) 0), (.int (0) 0), (.int (0) 0), (.int (3) 0), (.ref 863), (.bool true), (.int (273) 0), (.ref 864), .none, .none, .none, (.ref 865), (.int (1480) 0), (.int (889) 0), (.str (Str.ofString "/claim/cut.py") 1481)]), #[]⟩) ::
  (nat_lit 867, ⟨(.type "function"), none, (.func ⟨(Str.ofString "law"), (Str.ofString "law"), (⟨_, by conv => lhs; whnf⟩ : { y // argsOf (defAt 43 none) = y }).val, .stmts (⟨_, by conv => lhs; whnf⟩ : { y // bodyOf (defAt 43 none) = y }).val, (⟨_, by conv => lhs; whnf⟩ : { y // scopeOf (defAt 43 none) = y }).val, 3, [], .none, .none, .none, (.str (Str.ofString "law_of0083_01") 1443), none, (.ref 866), .none, 0⟩), #[]⟩) :: []
noncomputable def KA : List Addr := [2, 3, 41, 50, 51, 57, 58, 71, 72, 98, 99, 101, 102, 103, 104, 105, 128, 129, 359, 369, 375, 376, 382, 383, 389, 390, 545, 551, 552, 605, 606, 658, 664, 665, 671, 672, 673, 701, 702, 708, 709, 730, 731, 737, 738, 740, 741, 742, 743, 746, 752, 753, 825, 826, 832, 833, 839, 840, 844, 845, 851, 852, 856, 857, 861, 862, 866, 867]
theorem hKA : ∀ P, KA = (KK P).map (·.1) := fun _ => by kernel_rfl
end Mine
namespace Mine
noncomputable abbrev LS : List Str := looseW VV
    [Str.ofString "_special_chars_map", Str.ofString "UnsupportedOperation", Str.ofString "IOBase",
      Str.ofString "BufferedIOBase", Str.ofString "TextIOBase", Str.ofString "BytesIO", Str.ofString "StringIO",
      Str.ofString "shlex", Str.ofString "split"]
structure Here (w : World) (A₀ : Around) (base h₀ : Heap) (outer : List Env) (cs : Scope) (mean : ExcName → Option Value) (mg mb : Str → Option Value) : Prop where
  B : Below A₀ base outer h₀
  X : (KK w.params).In h₀
  T : Top VV LS mean mg mb h₀
  hk : cs.kind = .function
end Mine
namespace Mine
open PySem.Calls
section
variable {prog : Program} {w : World} {A : Around} {E : Value → Shared → Prop} {Q : Flow → Shared → Prop} {s : Shared} {env : Env}
noncomputable def WTurn (J : Shared → Prop) (Q : Flow → Shared → Prop) (f : Flow) (s₃ : Shared) : Prop := match f with
  | .next => J s₃
  | .cont => J s₃
  | .brk => Q .next s₃
  | .ret v => Q (.ret v) s₃
theorem WTurn.nx {J : Shared → Prop} (h : J s) : WTurn J Q .next s := h
theorem WTurn.ct {J : Shared → Prop} (h : J s) : WTurn J Q .cont s := h
theorem WTurn.br {J : Shared → Prop} (h : Q .next s) : WTurn J Q .brk s := h
theorem WTurn.rt {J : Shared → Prop} {v : Value} (h : Q (.ret v) s) : WTurn J Q (.ret v) s := h
theorem While_my {test : Expr} {body : List Stmt} {pos : Pos} (I : Nat → Shared → Prop)
    (turn : ∀ n s (J : Shared → Prop), (∀ m s', m < n → I m s' → J s') → I n s → wpAny (model prog w) A (isTrue test env (eval test env)) (fun b s₂ =>
        if b = true then wpAny (model prog w) A (execs body env) (WTurn J Q) E s₂ else Q .next s₂) E s)
    (n : Nat) (h : I n s) (hE : PassesOwn (model prog w) A env E := by passes_own) :
    wpAny (model prog w) A (exec (.While test body [] pos) env) Q E s := by
  refine wpAny_While (codeAny_whileLoop I (fun n s' hI => ?_) n h)
  refine wpAny_mono (turn n s' (fun s' => ∃ m, m < n ∧ I m s') (fun m _ a b => ⟨m, a, b⟩) hI) (fun b s₂ h₂ => ?_) hE
  cases b with
  | false =>
    simp only [Bool.false_eq_true, if_false] at h₂ ⊢
    exact wpAny_execs_nil h₂
  | true =>
    simp only [if_true] at h₂ ⊢
    refine wpAny_mono h₂ (fun f s₃ h₃ => ?_) hE
    cases f <;> exact h₃
end
end Mine
namespace Mine
section
variable {M : Model} {A : Around} {E : Value → Shared → Prop} {Q : Flow → Shared → Prop} {s : Shared} {env : Env} {st : Stmt} {rest : List Stmt} {v : Value}
noncomputable def ExecsK (M : Model) (A : Around) (rest : List Stmt) (env : Env) (Q : Flow → Shared → Prop) (E : Value → Shared → Prop) (f : Flow) (s' : Shared) : Prop := match f with
  | .next => wpAny M A (execs rest env) Q E s'
  | .brk => Q .brk s'
  | .cont => Q .cont s'
  | .ret v => Q (.ret v) s'
theorem gtk {l : List Stmt} {h : Heap} {g d o} {X : Nat} (H : ∀ tk, wpAny M A (execs l env) Q E ⟨h, g, d, tk, o⟩) : wpAny M A (execs l env) Q E ⟨h, g, d, X, o⟩ := H X
theorem execs_consK (h : wpAny M A (exec st env) (ExecsK M A rest env Q E) E s) : wpAny M A (execs (st :: rest) env) Q E s :=
  wpAny_execs_cons (wpAny_mono h (fun f _ hf => by cases f <;> exact hf) fun _ _ x => x)
/-- where a statement's ways meet -/
noncomputable def MidP (P : Shared → Prop) (f : Flow) (s' : Shared) : Prop := f = .next ∧ P s'
theorem MidP.mk {P : Shared → Prop} (h : P s) : MidP P .next s := ⟨rfl, h⟩
theorem exec_mid (P : Shared → Prop) (h1 : ∀ P' : Shared → Prop, (∀ s', P s' → P' s') → wpAny M A (exec st env) (MidP P') E s) (h2 : ∀ s', P s' → Q .next s') : wpAny M A (exec st env) Q E s :=
  wpAny_mono (h1 P fun _ h => h) (fun f s' h => by obtain ⟨rfl, h⟩ := h; exact h2 s' h) fun _ _ x => x
theorem execs_mid (P : Shared → Prop) (h1 : ∀ P' : Shared → Prop, (∀ s', P s' → P' s') → wpAny M A (exec st env) (MidP P') E s) (h2 : ∀ s', P s' → wpAny M A (execs rest env) Q E s') : wpAny M A (execs (st :: rest) env) Q E s :=
  wpAny_execs_cons (wpAny_mono (h1 P fun _ h => h) (fun f s' h => by obtain ⟨rfl, h⟩ := h; exact h2 s' h) fun _ _ x => x)
theorem ExecsK.nx (h : wpAny M A (execs rest env) Q E s) : ExecsK M A rest env Q E .next s := h
theorem ExecsK.br (h : Q .brk s) : ExecsK M A rest env Q E .brk s := h
theorem ExecsK.ct (h : Q .cont s) : ExecsK M A rest env Q E .cont s := h
theorem ExecsK.rt (h : Q (.ret v) s) : ExecsK M A rest env Q E (.ret v) s := h
end
end Mine
namespace Mine
theorem ite_bt {b : Bool} {P Q : Prop} (h : b = true) (hP : P) : if b = true then P else Q := by rw [if_pos h]; exact hP
theorem ite_bf {b : Bool} {P Q : Prop} (h : b = false) (hQ : Q) : if b = true then P else Q := by rw [if_neg (by rw [h]; simp)]; exact hQ
theorem ite_var {b : Bool} {P Q : Prop} (h1 : b = true → P) (h2 : b = false → Q) : if b = true then P else Q := by
  cases b with
  | true => exact h1 rfl
  | false => exact h2 rfl
theorem RaisedS.drop {base G : Heap} {l : List Env} {e : Addr} {cls : Value} {t : Addr} {vs : List Value} {news news' : List (Addr × Obj)} {h : Heap} (R : RaisedS base G l e cls t vs news h) (hs : ∀ q ∈ news', q ∈ news) : RaisedS base G l e cls t vs news' h := by
  obtain ⟨⟨B, a1, a2, a3, a4⟩, a5⟩ := R
  exact ⟨⟨B, a1, a2, fun q hq => a3 q (hs q hq), a4⟩, a5⟩
end Mine
namespace Mine
theorem ntl {h₀ h : Heap} {L : Addr} {q : Addr × Obj} {l : List (Addr × Obj)} (N : News h₀ L h (q :: l)) : News h₀ L h l := fun p hp => N p (.tail _ hp)
end Mine
namespace Mine
section
variable {prog : Program} {w : World} {A : Around} {E : Value → Shared → Prop} {Q : Flow → Shared → Prop} {s : Shared} {env : Env}
noncomputable def WOnce (Q : Flow → Shared → Prop) (f : Flow) (s₃ : Shared) : Prop := match f with
  | .next => False
  | .cont => False
  | .brk => Q .next s₃
  | .ret v => Q (.ret v) s₃
theorem WOnce.br (h : Q .next s) : WOnce Q .brk s := h
theorem WOnce.rt {v : Value} (h : Q (.ret v) s) : WOnce Q (.ret v) s := h
theorem While_once {test : Expr} {body : List Stmt} {pos : Pos}
    (h : wpAny (model prog w) A (isTrue test env (eval test env)) (fun b s₂ => if b = true then wpAny (model prog w) A (execs body env) (WOnce Q) E s₂ else Q .next s₂) E s)
    (hE : PassesOwn (model prog w) A env E := by passes_own) :
    wpAny (model prog w) A (exec (.While test body [] pos) env) Q E s := by
  refine While_my (fun _ s' => s' = s) (fun n s' _ _ hs => ?_) 1 rfl hE
  subst hs
  refine wpAny_mono h (fun b s₂ hb => ?_) fun _ _ x => x
  cases b with
  | false => exact hb
  | true =>
    refine wpAny_mono hb (fun f s₃ hf => ?_) fun _ _ x => x
    cases f with
    | next => exact hf.elim
    | cont => exact hf.elim
    | brk => exact hf
    | ret v => exact hf
end
end Mine
namespace Mine
/-- the first statement of a list, its tokens' count forgotten, its state laid flat -/
theorem consE {M : Model} {A : Around} {E : Value → Shared → Prop} {Q : Flow → Shared → Prop} {s : Shared} {env : Env} {st : Stmt} {rest : List Stmt} {h : Heap} {g d o} {X : Nat} (e : s = ⟨h, g, d, X, o⟩)
    (H : ∀ tk, wpAny M A (exec st env) (ExecsK M A rest env Q E) E ⟨h, g, d, tk, o⟩) : wpAny M A (execs (st :: rest) env) Q E s := by
  subst e; exact execs_consK (H X)
end Mine
namespace Mine
/-- kept out of omega's sight -/
noncomputable def Hid (P : Prop) : Prop := P
/-! small sums, each proved once -/
theorem toNat0 (i : Nat) : (0 + (i : Int)).toNat = i := by rw [Int.zero_add]; rfl
theorem toNat1 (i : Nat) : (1 + (i : Int)).toNat = 1 + i := rfl
theorem toNat2 (i : Nat) : (1 + (i : Int) - 1).toNat = i := by rw [Int.add_comm, Int.add_sub_cancel]; rfl
theorem nn0 (i : Nat) : (0 : Int) ≤ 0 + (i : Int) := by omega
theorem nn1 (i : Nat) : (0 : Int) ≤ 1 + (i : Int) := by omega
theorem lt0 {i : Nat} (h : i ≤ 100000) : 0 + (i : Int) < 2 ^ 63 := by omega
theorem lt1 {i : Nat} (h : i ≤ 100000) : 1 + (i : Int) < 2 ^ 63 := by omega
theorem rngA {n : Nat} (h : n ≤ 101) : -1000000 ≤ (n : Int) - 1 ∧ (n : Int) - 1 ≤ 1000000 := by omega
theorem rngB (n : Nat) : ((n : Int) - 1 - 1).toNat = n - 2 := by rw [Int.sub_sub]; exact Int.toNat_sub n 2
theorem rng0 {n : Nat} (h : n ≤ 101) : -1000000 ≤ (n : Int) ∧ (n : Int) ≤ 1000000 := by omega
theorem rngC (n : Nat) : ((n : Int) - 0).toNat = n := by rw [Int.sub_zero]; rfl
theorem lt_two {i n : Nat} (h : i < n - 2) : 1 + i < n := Nat.lt_trans (by rw [Nat.add_comm]; exact Nat.lt_succ_self _) (Nat.add_lt_of_lt_sub h)
theorem le_two {n : Nat} (h : 1 ≤ n) : 1 + (n - 2) ≤ n := by omega
theorem sub_one {k : Nat} (h : 1 ≤ k) : (k : Int) - 1 = ((k - 1 : Nat) : Int) := (Int.ofNat_sub h).symm
theorem add_one (k : Nat) : (k : Int) + 1 = ((k + 1 : Nat) : Int) := rfl
theorem nn2 (i : Nat) : (0 : Int) ≤ 1 + (i : Int) - 1 := by omega
theorem lt2 {i : Nat} (h : i ≤ 100000) : 1 + (i : Int) - 1 < 2 ^ 63 := by omega
theorem lt_one {i n : Nat} (h : i < n - 1) : i + 1 < n := Nat.add_lt_of_lt_sub h
theorem small1 {n : Nat} (h : n ≤ 2001) : Builtin.Range.small 1 (n : Int) 1 = true := by
  unfold Builtin.Range.small; simp [Builtin.Range.rangeFitsLong, Builtin.Range.rangeSize]; omega
theorem size1 (n : Nat) : Builtin.Range.rangeSize 1 (n : Int) 1 = ((n - 1 : Nat) : Int) := by
  unfold Builtin.Range.rangeSize; simp; split <;> omega
theorem le_m1 {n : Nat} (h : n ≤ 2001) : n - 1 ≤ sizeLine := by rw [sizeLine_eq]; omega
theorem cut_len {k v c : Nat} (h : v ≤ c) (_ : 1 ≤ k) : min (k - 1) v + (v - (k + 1)) ≤ c := by
  refine Nat.le_trans ?_ h
  rcases Nat.le_total v (k - 1) with h1 | h1
  · rw [Nat.min_eq_right h1, Nat.sub_eq_zero_of_le (Nat.le_trans h1 (Nat.le_trans (Nat.sub_le ..) (Nat.le_succ k)))]; exact Nat.le_refl _
  · rw [Nat.min_eq_left h1]
    exact Nat.le_trans (Nat.add_le_add_left (Nat.sub_le_sub_left (Nat.le_trans (Nat.sub_le k 1) (Nat.le_succ k)) v) _) (Nat.le_of_eq (Nat.add_sub_of_le h1))
end Mine
namespace Mine
/-- a text by its signs' numbers -/
noncomputable abbrev S (l : List Nat) : Str := ⟨l.toArray⟩
theorem S_length (l : List Nat) : (S l).length = l.length := by simp [S, Str.length]
theorem S_append (l r : List Nat) : S l ++ S r = S (l ++ r) := by
  apply Str.ext'
  simp [Str.cps_append]
theorem S_inj {l r : List Nat} : S l = S r ↔ l = r := by
  constructor
  · intro h
    have := congrArg (fun x : Str => x.cps.toList) h
    simpa using this
  · intro h; rw [h]
theorem S_of (x : Str) : x = S x.cps.toList := by simp [S]
theorem beq_S (l r : List Nat) : (S l == S r) = (l == r) := by
  rw [Bool.eq_iff_iff, beq_iff_eq, beq_iff_eq, S_inj]
section
variable {w : World} {A : Around} {E : Value → Shared → Prop} {s : Shared} {t u : Tok} {c d : Nat} {l r : List Nat} {y : Str}
theorem inS {Q : Value → Shared → Prop} (h : Q (.bool (l.contains c)) s) : wpAny (model PG w) A (compareOp .In (.str (S [c]) u) (.str (S l) t)) Q E s := by
  refine PyProof.Rows.in_str ?_
  have := StrLaws.found_one (S l) c
  rw [this]
  have e : decide (c ∈ (S l).cps.toList) = l.contains c := by simp [List.contains_eq_mem]
  rw [e]; exact h
theorem notInS {Q : Value → Shared → Prop} (h : Q (.bool (!l.contains c)) s) : wpAny (model PG w) A (compareOp .NotIn (.str (S [c]) u) (.str (S l) t)) Q E s := by
  refine PyProof.Rows.notIn_str ?_
  have := StrLaws.found_one (S l) c
  rw [this]
  have e : decide (c ∈ (S l).cps.toList) = l.contains c := by simp [List.contains_eq_mem]
  rw [e]; exact h
theorem eqS {Q : Value → Shared → Prop} (hy : y = S r) (h : Q (.bool (l == r)) s) : wpAny (model PG w) A (compareOp .Eq (.str (S l) t) (.str y u)) Q E s := by
  subst hy
  refine PyProof.Rows.eq_str ?_
  rw [beq_S]; exact h
theorem neS {Q : Value → Shared → Prop} (hy : y = S r) (h : Q (.bool (l != r)) s) : wpAny (model PG w) A (compareOp .NotEq (.str (S l) t) (.str y u)) Q E s := by
  subst hy
  refine PyProof.Rows.ne_str ?_
  have e : (S l != S r) = (l != r) := by simp only [bne, beq_S]
  rw [e]; exact h
theorem truthyS {Q : Bool → Shared → Prop} (hl : l.length ≤ 16777216) (h : ∀ k, Q (!l.isEmpty) { s with toks := k }) : wpAny (model PG w) A (PySem.truthy (.str (S l) t)) Q E s := by
  refine SBL.truthy ?_ ?_
  · rw [S_length]; omega
  · have e : (((S l).length : Int) != 0) = !l.isEmpty := by
      rw [S_length]
      cases l with
      | nil => rfl
      | cons a r => simp; omega
    rw [e]; exact h _
theorem addS {Q : Value → Shared → Prop} (hsz : l.length + r.length ≤ 16777216) (h : ∀ t' tk, Q (.str (S (l ++ r)) t') { s with toks := tk }) : wpAny (model PG w) A (binaryOp .Add (.str (S l) t) (.str (S r) u)) Q E s := by
  refine PyProof.Rows.add_str (fun t' tk => ?_) ?_
  · rw [S_append]; exact h t' tk
  · rw [S_length, S_length, sizeLine_eq]; exact hsz
theorem iaddS {Q : Value → Shared → Prop} (hsz : l.length + r.length ≤ 16777216) (h : ∀ t' tk, Q (.str (S (l ++ r)) t') { s with toks := tk }) : wpAny (model PG w) A (inplaceOp .Add (.str (S l) t) (.str (S r) u)) Q E s := by
  refine PyProof.Rows.iadd_str (fun t' tk => ?_) ?_
  · rw [S_append]; exact h t' tk
  · rw [S_length, S_length, sizeLine_eq]; exact hsz
end
end Mine
namespace Mine
noncomputable abbrev wsL : List Nat := [32, 9, 13, 10]
noncomputable abbrev quL : List Nat := [39, 34]
noncomputable abbrev esL : List Nat := [92]
noncomputable abbrev eqL : List Nat := [34]
/-- what one read of a token ends in -/
inductive RT where
  | bad
  | got (q : Bool) (tok : List Nat) (st : Option Nat) (rest : List Nat)
/-- the reader of one token: state, escaped state, quoted, the token so far -/
noncomputable def rt : List Nat → Nat → Nat → Bool → List Nat → RT
  | [], st, _, q, tok => if st = 32 then .got q tok none [] else if quL.contains st then .bad else if esL.contains st then .bad else .got q tok none []
  | c :: r, st, es, q, tok =>
    if st = 32 then
      if wsL.contains c then (if tok = [] then (if q = true then .got q tok (some 32) r else rt r 32 es q tok) else .got q tok (some 32) r)
      else if esL.contains c then rt r c 97 q tok
      else if quL.contains c then rt r c es q tok
      else rt r 97 es q [c]
    else if quL.contains st then
      if c = st then rt r 97 es true tok
      else if esL.contains c ∧ eqL.contains st then rt r c st true tok
      else rt r st es true (tok ++ [c])
    else if esL.contains st then
      if quL.contains es ∧ c ≠ st ∧ c ≠ es then rt r es es q (tok ++ [st] ++ [c]) else rt r es es q (tok ++ [c])
    else
      if wsL.contains c then (if tok = [] then (if q = true then .got q tok (some 32) r else rt r 32 es q tok) else .got q tok (some 32) r)
      else if quL.contains c then rt r c es q tok
      else if esL.contains c then rt r c 97 q tok
      else rt r 97 es q (tok ++ [c])
section
variable {c es : Nat} {r tok : List Nat} {q : Bool}
theorem rt_s_ws0 (h : wsL.contains c = true) : rt (c :: r) 32 es false [] = rt r 32 es false [] := by rw [rt]; simp only [h, if_true, Bool.false_eq_true, if_false]
theorem rt_s_ws1 (h : wsL.contains c = true) : rt (c :: r) 32 es true [] = .got true [] (some 32) r := by rw [rt]; simp only [h, if_true]
theorem rt_s_ws2 (h : wsL.contains c = true) (ht : tok ≠ []) : rt (c :: r) 32 es q tok = .got q tok (some 32) r := by rw [rt]; simp only [h, if_true, if_neg ht]
theorem rt_s_es (h : wsL.contains c = false) (h2 : esL.contains c = true) : rt (c :: r) 32 es q tok = rt r c 97 q tok := by rw [rt]; simp only [h, h2, if_true, Bool.false_eq_true, if_false]
theorem rt_s_qu (h : wsL.contains c = false) (h2 : esL.contains c = false) (h3 : quL.contains c = true) : rt (c :: r) 32 es q tok = rt r c es q tok := by rw [rt]; simp only [h, h2, h3, if_true, Bool.false_eq_true, if_false]
theorem rt_s_ot (h : wsL.contains c = false) (h2 : esL.contains c = false) (h3 : quL.contains c = false) : rt (c :: r) 32 es q tok = rt r 97 es q [c] := by rw [rt]; simp only [h, h2, h3, if_true, Bool.false_eq_true, if_false]
theorem rt_q_cl {st : Nat} (h : c = st) (hs : quL.contains st = true) (hn : st ≠ 32) : rt (c :: r) st es q tok = rt r 97 es true tok := by subst h; rw [rt]; simp only [hs, if_true, if_neg hn]
theorem rt_q_es (h : ¬ c = 34) (h2 : esL.contains c = true) : rt (c :: r) 34 es q tok = rt r c 34 true tok := by rw [rt]; rw [if_neg (by decide), if_pos (by decide), if_neg h, if_pos ⟨h2, by decide⟩]
theorem rt_q_ot (h : ¬ c = 34) (h2 : esL.contains c = false) : rt (c :: r) 34 es q tok = rt r 34 es true (tok ++ [c]) := by rw [rt]; rw [if_neg (by decide), if_pos (by decide), if_neg h, if_neg (by rw [h2]; simp)]
theorem rt_p_ot (h : ¬ c = 39) : rt (c :: r) 39 es q tok = rt r 39 es true (tok ++ [c]) := by rw [rt]; rw [if_neg (by decide), if_pos (by decide), if_neg h, if_neg (by intro x; exact absurd x.2 (by decide))]
theorem rt_e_a : rt (c :: r) 92 97 q tok = rt r 97 97 q (tok ++ [c]) := by rw [rt]; rw [if_neg (by decide), if_neg (by decide), if_pos (by decide), if_neg (by intro x; exact absurd x.1 (by decide))]
theorem rt_e_q0 (h : c ≠ 92) (h2 : c ≠ 34) : rt (c :: r) 92 34 q tok = rt r 34 34 q (tok ++ [92] ++ [c]) := by rw [rt]; rw [if_neg (by decide), if_neg (by decide), if_pos (by decide), if_pos ⟨by decide, h, h2⟩]
theorem rt_e_q1 (h : c = 92) : rt (c :: r) 92 34 q tok = rt r 34 34 q (tok ++ [c]) := by rw [rt]; rw [if_neg (by decide), if_neg (by decide), if_pos (by decide), if_neg (by intro x; exact x.2.1 h)]
theorem rt_e_q2 (h : c = 34) : rt (c :: r) 92 34 q tok = rt r 34 34 q (tok ++ [c]) := by rw [rt]; rw [if_neg (by decide), if_neg (by decide), if_pos (by decide), if_neg (by intro x; exact x.2.2 h)]
theorem rt_a_ws0 (h : wsL.contains c = true) : rt (c :: r) 97 es false [] = rt r 32 es false [] := by rw [rt]; rw [if_neg (by decide), if_neg (by decide), if_neg (by decide)]; simp only [h, if_true, Bool.false_eq_true, if_false]
theorem rt_a_ws1 (h : wsL.contains c = true) : rt (c :: r) 97 es true [] = .got true [] (some 32) r := by rw [rt]; rw [if_neg (by decide), if_neg (by decide), if_neg (by decide)]; simp only [h, if_true]
theorem rt_a_ws2 (h : wsL.contains c = true) (ht : tok ≠ []) : rt (c :: r) 97 es q tok = .got q tok (some 32) r := by rw [rt]; rw [if_neg (by decide), if_neg (by decide), if_neg (by decide)]; simp only [h, if_true, if_neg ht]
theorem rt_a_qu (h : wsL.contains c = false) (h2 : quL.contains c = true) : rt (c :: r) 97 es q tok = rt r c es q tok := by rw [rt]; rw [if_neg (by decide), if_neg (by decide), if_neg (by decide)]; simp only [h, h2, if_true, Bool.false_eq_true, if_false]
theorem rt_a_es (h : wsL.contains c = false) (h2 : quL.contains c = false) (h3 : esL.contains c = true) : rt (c :: r) 97 es q tok = rt r c 97 q tok := by rw [rt]; rw [if_neg (by decide), if_neg (by decide), if_neg (by decide)]; simp only [h, h2, h3, if_true, Bool.false_eq_true, if_false]
theorem rt_a_ot (h : wsL.contains c = false) (h2 : quL.contains c = false) (h3 : esL.contains c = false) : rt (c :: r) 97 es q tok = rt r 97 es q (tok ++ [c]) := by rw [rt]; rw [if_neg (by decide), if_neg (by decide), if_neg (by decide)]; simp only [h, h2, h3, if_true, Bool.false_eq_true, if_false]
theorem drop_cons {b : List Nat} {p : Nat} (hc : b[p]? = some c) : b.drop p = c :: b.drop (p + 1) := by
  have hp : p < b.length := by
    rcases Nat.lt_or_ge p b.length with h' | h'
    · exact h'
    · rw [List.getElem?_eq_none h'] at hc; cases hc
  rw [List.getElem?_eq_getElem hp] at hc
  cases hc
  exact List.drop_eq_getElem_cons hp
theorem leaf {b : List Nat} {p st es : Nat} {R X : RT} (hc : b[p]? = some c) (hrt : rt (b.drop p) st es q tok = R) (hs : rt (c :: b.drop (p + 1)) st es q tok = X) : X = R := by
  rw [← hs, ← hrt, drop_cons hc]
end
theorem rt_end {b tok : List Nat} {p st es : Nat} {q : Bool} {R : RT} (hp : b.length ≤ p) (hrt : rt (b.drop p) st es q tok = R) (hs : st = 32 ∨ st = 97) : R = .got q tok none (b.drop p) := by
  have hd : b.drop p = [] := List.drop_eq_nil_of_le hp
  rw [← hrt, hd]
  rcases hs with rfl | rfl <;> rfl
theorem rt_bad {b tok : List Nat} {p st es : Nat} {q : Bool} {R : RT} (hp : b.length ≤ p) (hrt : rt (b.drop p) st es q tok = R) (hs : st = 39 ∨ st = 34 ∨ st = 92) : R = .bad := by
  have hd : b.drop p = [] := List.drop_eq_nil_of_le hp
  rw [← hrt, hd]
  rcases hs with rfl | rfl | rfl <;> rfl
/-- what read_token hands back -/
noncomputable def RetOk (q : Bool) (tok : List Nat) (v : Value) : Prop := (v = .none ∧ q = false ∧ tok = []) ∨ (∃ t, v = .str (S tok) t ∧ (q = true ∨ tok ≠ []))
theorem mem_qu {c : Nat} (h : quL.contains c = true) : c = 39 ∨ c = 34 := by simpa using h
theorem mem_es {c : Nat} (h : esL.contains c = true) : c = 92 := by simpa using h
end Mine
namespace Mine
noncomputable def lexN : Nat → List Nat → Option (List (List Nat))
  | 0, _ => some []
  | n + 1, r => match rt r 32 32 false [] with
    | .bad => none
    | .got q tok st r' => if q = false ∧ tok = [] then some [] else match st with
      | none => some [tok]
      | some _ => (lexN n r').map (tok :: ·)
/-- one sign read: the reader goes on, or it hands back with the rest unread -/
inductive RtS (r : List Nat) : RT → Prop
  | go {st es : Nat} {q : Bool} {tok : List Nat} : RtS r (rt r st es q tok)
  | got {q : Bool} {tok : List Nat} : RtS r (.got q tok (some 32) r)
theorem rt_step (c : Nat) (r : List Nat) (st es : Nat) (q : Bool) (tok : List Nat) : RtS r (rt (c :: r) st es q tok) := by
  rw [rt]
  repeat' split
  all_goals first | exact .go | exact .got
theorem RtS.or {r : List Nat} {R : RT} (h : RtS r R) : (∃ st es q tok, rt r st es q tok = R) ∨ (∃ q tok, RT.got q tok (some 32) r = R) := by
  cases h with
  | go => exact .inl ⟨_, _, _, _, rfl⟩
  | got => exact .inr ⟨_, _, rfl⟩
theorem rt_nil (st es : Nat) (q : Bool) (tok : List Nat) : rt [] st es q tok = .got q tok none [] ∨ rt [] st es q tok = .bad := by
  by_cases h1 : st = 32
  · exact .inl (by rw [rt, if_pos h1])
  by_cases h2 : quL.contains st = true
  · exact .inr (by rw [rt, if_neg h1, if_pos h2])
  by_cases h3 : esL.contains st = true
  · exact .inr (by rw [rt, if_neg h1, if_neg h2, if_pos h3])
  · exact .inl (by rw [rt, if_neg h1, if_neg h2, if_neg h3])
theorem rt_none_rest : ∀ (r : List Nat) {st es : Nat} {q : Bool} {tok : List Nat} {q' : Bool} {tok' rest : List Nat}, rt r st es q tok = .got q' tok' none rest → rest = []
  | [], st, es, q, tok, q', tok', rest, h => by
    rcases rt_nil st es q tok with e | e
    · cases e.symm.trans h; rfl
    · cases e.symm.trans h
  | c :: r, st, es, q, tok, q', tok', rest, h => by
    rcases (rt_step c r st es q tok).or with ⟨_, _, _, _, e⟩ | ⟨_, _, e⟩
    · exact rt_none_rest r (e.trans h)
    · cases e.trans h
theorem rt_some_rest : ∀ (r : List Nat) {st es : Nat} {q : Bool} {tok : List Nat} {q' : Bool} {tok' rest : List Nat} {s' : Nat}, rt r st es q tok = .got q' tok' (some s') rest → s' = 32 ∧ rest.length < r.length
  | [], st, es, q, tok, q', tok', rest, s', h => by
    rcases rt_nil st es q tok with e | e <;> cases e.symm.trans h
  | c :: r, st, es, q, tok, q', tok', rest, s', h => by
    rcases (rt_step c r st es q tok).or with ⟨_, _, _, _, e⟩ | ⟨_, _, e⟩
    · have := rt_some_rest r (e.trans h)
      exact ⟨this.1, Nat.lt_succ_of_lt this.2⟩
    · cases e.trans h
      exact ⟨rfl, Nat.lt_succ_self _⟩
end Mine
namespace Mine
open PySem.Builtin.Str in
theorem idx_nat (i j n : Nat) : strSliceIndices (some (i : Int)) (some (j : Int)) 1 n = (List.range (min j n - min i n)).map (fun k => min i n + k) := by
  unfold strSliceIndices sliceRange
  have h1 : ∀ x : Nat, ¬ ((x : Int) < 0) := fun x => Int.not_lt.mpr (Int.natCast_nonneg x)
  have h2 : ∀ x : Nat, max (0 : Int) (min (x : Int) (n : Int)) = ((min x n : Nat) : Int) := fun x => by
    rcases Nat.le_total x n with h | h
    · rw [Nat.min_eq_left h, Int.min_eq_left (Int.ofNat_le.mpr h)]; exact Int.max_eq_right (Int.natCast_nonneg x)
    · rw [Nat.min_eq_right h, Int.min_eq_right (Int.ofNat_le.mpr h)]; exact Int.max_eq_right (Int.natCast_nonneg n)
  simp only [h1, h2, if_false, show (1 : Int) > 0 by decide, if_true, Int.ediv_one]
  generalize min i n = p
  generalize min j n = q
  have e : (if (p : Int) < (q : Int) then (q : Int) - (p : Int) + 1 - 1 else 0).toNat = q - p := by
    split
    · rw [Int.add_sub_cancel]; exact Int.toNat_sub q p
    · rename_i h; exact (Nat.sub_eq_zero_of_le (Int.ofNat_le.mp (Int.not_lt.mp h))).symm
  rw [e]
  apply List.map_congr_left
  intro k _
  rw [Int.one_mul]; rfl
theorem filterMap_range (b : List Nat) : ∀ (k i : Nat), i + k ≤ b.length → ((List.range k).map (fun x => i + x)).filterMap (b.toArray[·]?) = (b.drop i).take k
  | 0, i, _ => by simp
  | k + 1, i, h => by
    rw [List.range_succ, List.map_append, List.filterMap_append, filterMap_range b k i (by omega)]
    have hi : i + k < b.length := by omega
    simp only [List.map_cons, List.map_nil, List.filterMap_cons, List.filterMap_nil]
    rw [List.getElem?_toArray, List.getElem?_eq_getElem hi]
    rw [List.take_add_one]
    simp [List.getElem?_drop, List.getElem?_eq_getElem hi]
theorem slice_ss (b : List Nat) (i j : Nat) : Txt.slice (S b) (some (i : Int)) (some (j : Int)) = S ((b.drop i).take (j - i)) := by
  unfold Txt.slice
  rw [S_length, idx_nat]
  have key : (b.drop (min i b.length)).take (min j b.length - min i b.length) = (b.drop i).take (j - i) := by
    by_cases h : i ≤ b.length
    · rw [Nat.min_eq_left h]
      by_cases h2 : j ≤ b.length
      · rw [Nat.min_eq_left h2]
      · rw [Nat.min_eq_right (Nat.le_of_not_le h2)]
        rw [List.take_of_length_le (by rw [List.length_drop]; exact Nat.le_refl _), List.take_of_length_le (by rw [List.length_drop]; exact Nat.sub_le_sub_right (Nat.le_of_not_le h2) i)]
    · rw [Nat.min_eq_right (Nat.le_of_not_le h), List.drop_eq_nil_of_le (Nat.le_refl _), List.drop_eq_nil_of_le (Nat.le_of_not_le h)]
      simp
  split
  · rename_i h
    simp only [Bool.and_eq_true, beq_iff_eq, List.length_map, List.length_range] at h
    have e := h.2
    rw [← key]
    by_cases hb : b.length = 0
    · have : b = [] := List.eq_nil_of_length_eq_zero hb
      subst this; simp
    · have h0 : b.length ≤ b.length - min i b.length := Nat.le_trans (Nat.le_of_eq e.symm) (Nat.sub_le_sub_right (Nat.min_le_right j b.length) _)
      have h1 : min i b.length = 0 := Nat.eq_zero_of_not_pos fun hx => absurd h0 (Nat.not_le.mpr (Nat.sub_lt (Nat.pos_of_ne_zero hb) hx))
      rw [e, h1]; simp
  · refine (congrArg (fun l => S l) ?_)
    rw [filterMap_range b _ _ ?_, key]
    rcases Nat.le_total (min i b.length) (min j b.length) with h | h
    · rw [Nat.add_sub_of_le h]; exact Nat.min_le_right ..
    · rw [Nat.sub_eq_zero_of_le h]; exact Nat.min_le_right ..
open PySem.Builtin.Str in
theorem idx_ns (j n : Nat) : strSliceIndices none (some (j : Int)) 1 n = strSliceIndices (some ((0 : Nat) : Int)) (some (j : Int)) 1 n := by
  unfold strSliceIndices
  have h1 : ¬ (((0 : Nat) : Int) < 0) := by omega
  simp only [show (1 : Int) > 0 by decide, if_true, h1, if_false]
  have : max 0 (min (((0 : Nat) : Int)) (n : Int)) = 0 := by omega
  rw [this]
open PySem.Builtin.Str in
theorem idx_sn (i n : Nat) : strSliceIndices (some (i : Int)) none 1 n = strSliceIndices (some (i : Int)) (some (n : Int)) 1 n := by
  unfold strSliceIndices
  have h1 : ¬ ((n : Int) < 0) := by omega
  simp only [show (1 : Int) > 0 by decide, if_true, h1, if_false]
  have : max 0 (min (n : Int) (n : Int)) = (n : Int) := by omega
  rw [this]
theorem slice_ns (b : List Nat) (j : Nat) : Txt.slice (S b) none (some (j : Int)) = S (b.take j) := by
  have e : Txt.slice (S b) none (some (j : Int)) = Txt.slice (S b) (some ((0 : Nat) : Int)) (some (j : Int)) := by
    unfold Txt.slice; rw [idx_ns]
  rw [e, slice_ss]; simp
theorem slice_sn (b : List Nat) (i : Nat) : Txt.slice (S b) (some (i : Int)) none = S (b.drop i) := by
  have e : Txt.slice (S b) (some (i : Int)) none = Txt.slice (S b) (some (i : Int)) (some ((b.length : Nat) : Int)) := by
    unfold Txt.slice
    rw [S_length, idx_sn]
  rw [e, slice_ss, List.take_of_length_le (by simp)]
theorem slice_one {b : List Nat} {p c : Nat} (h : b[p]? = some c) : Txt.slice (S b) (some (p : Int)) (some ((p + 1 : Nat) : Int)) = S [c] := by
  rw [slice_ss]
  congr 2
  have hp : p < b.length := by
    rcases Nat.lt_or_ge p b.length with h' | h'
    · exact h'
    · rw [List.getElem?_eq_none h'] at h; cases h
  rw [show p + 1 - p = 1 by omega]
  rw [List.getElem?_eq_getElem hp] at h
  cases h
  rw [List.drop_eq_getElem_cons hp]; rfl
theorem str_empty : Str.ofString "" = S [] := by decide +kernel
end Mine
namespace Mine
theorem lit0 : Str.ofString "" = S [] := by decide +kernel
theorem lit1 : Str.ofString "\n" = S [10] := by decide +kernel
theorem lit2 : Str.ofString " " = S [32] := by decide +kernel
theorem lit3 : Str.ofString "a" = S [97] := by decide +kernel
theorem lit4 : Str.ofString "c" = S [99] := by decide +kernel
theorem lit5 : Str.ofString "*" = S [42] := by decide +kernel
theorem lit6 : Str.ofString "/" = S [47] := by decide +kernel
theorem lit7 : Str.ofString "." = S [46] := by decide +kernel
theorem lit8 : Str.ofString ".." = S [46, 46] := by decide +kernel
theorem lit9 : Str.ofString "\\" = S [92] := by decide +kernel
theorem lit10 : Str.ofString "'" = S [39] := by decide +kernel
theorem lit11 : Str.ofString "\"" = S [34] := by decide +kernel
theorem lit12 : Str.ofString ".*" = S [46, 42] := by decide +kernel
theorem lit13 : Str.ofString "(?>.*?" = S [40, 63, 62, 46, 42, 63] := by decide +kernel
theorem lit14 : Str.ofString ")" = S [41] := by decide +kernel
theorem lit15 : Str.ofString "//" = S [47, 47] := by decide +kernel
theorem lit16 : Str.ofString "///" = S [47, 47, 47] := by decide +kernel
theorem lit17 : Str.ofString "'\"" = S [39, 34] := by decide +kernel
theorem lit18 : Str.ofString "\\.+# " = S [92, 46, 43, 35, 32] := by decide +kernel
theorem lit19 : Str.ofString "a/.*'\"\\ +#b/.*" = S [97, 47, 46, 42, 39, 34, 92, 32, 43, 35, 98, 47, 46, 42] := by decide +kernel
section
variable {M : Model} {A : Around} {E : Value → Shared → Prop} {s : Shared} {env : Env}
theorem ConstS {x : Str} {l : List Nat} {k : Nat} {pos : Pos} {Q : Value → Shared → Prop} (hx : x = S l) (h : Q (.str (S l) s.toks) { s with toks := s.toks + 1 }) : wpAny M A (eval (.Constant (.str x) k pos) env) Q E s := by
  subst hx
  exact Calls.Constant_str h
end
section
variable {w : World} {A : Around} {E : Value → Shared → Prop} {s : Shared} {t u : Tok} {c d : Nat}
theorem eqS1 {Q : Value → Shared → Prop} (h : Q (.bool (decide (c = d))) s) : wpAny (model PG w) A (compareOp .Eq (.str (S [c]) t) (.str (S [d]) u)) Q E s := by
  refine eqS rfl ?_
  have e : ([c] == [d]) = decide (c = d) := by
    by_cases h : c = d <;> simp [h]
  rw [e]; exact h
theorem neS1 {Q : Value → Shared → Prop} (h : Q (.bool (decide (c ≠ d))) s) : wpAny (model PG w) A (compareOp .NotEq (.str (S [c]) t) (.str (S [d]) u)) Q E s := by
  refine neS rfl ?_
  have e : ([c] != [d]) = decide (c ≠ d) := by
    by_cases h : c = d <;> simp [h]
  rw [e]; exact h
end
end Mine
namespace Mine
section
variable {w : World} {A : Around} {E : Value → Shared → Prop} {s : Shared} {t u : Tok} {c d : Nat}
theorem in0 {Q : Value → Shared → Prop} (h : Q (.bool false) s) : wpAny (model PG w) A (compareOp .In (.str (S [c]) u) (.str (S []) t)) Q E s := inS (l := []) h
theorem notIn0 {Q : Value → Shared → Prop} (h : Q (.bool true) s) : wpAny (model PG w) A (compareOp .NotIn (.str (S [c]) u) (.str (S []) t)) Q E s := notInS (l := []) h
theorem truthy0 {Q : Bool → Shared → Prop} (h : ∀ k, Q false { s with toks := k }) : wpAny (model PG w) A (PySem.truthy (.str (S []) t)) Q E s := truthyS (l := []) (by simp) h
theorem truthyC {r : List Nat} {Q : Bool → Shared → Prop} (hl : r.length + 1 ≤ 16777216) (h : ∀ k, Q true { s with toks := k }) : wpAny (model PG w) A (PySem.truthy (.str (S (c :: r)) t)) Q E s := truthyS (l := c :: r) (by simpa using hl) h
end
end Mine
namespace Mine
section
variable {w : World} {A : Around} {E : Value → Shared → Prop} {s : Shared} {t u : Tok} {l : List Nat}
theorem truthyV {Q : Bool → Shared → Prop} (hl : l.length ≤ 16777216) (h0 : l = [] → ∀ k, Q false { s with toks := k }) (h1 : l ≠ [] → ∀ k, Q true { s with toks := k }) : wpAny (model PG w) A (PySem.truthy (.str (S l) t)) Q E s := by
  by_cases h : l = []
  · subst h; exact truthy0 (h0 rfl)
  · refine truthyS hl (fun k => ?_)
    have : (!l.isEmpty) = true := by cases l with
      | nil => exact absurd rfl h
      | cons a r => rfl
    rw [this]; exact h1 h k
theorem eqNe {Q : Value → Shared → Prop} (hl : l ≠ []) (h : Q (.bool false) s) : wpAny (model PG w) A (compareOp .Eq (.str (S l) t) (.str (S []) u)) Q E s := by
  refine eqS rfl ?_
  have : (l == []) = false := by simpa using hl
  rw [this]; exact h
end
end Mine
namespace Mine
section
variable {w : World} {A : Around} {E : Value → Shared → Prop} {s : Shared} {t u : Tok} {l : List Nat}
theorem eqV {Q : Value → Shared → Prop} (h0 : l = [] → Q (.bool true) s) (h1 : l ≠ [] → Q (.bool false) s) : wpAny (model PG w) A (compareOp .Eq (.str (S l) t) (.str (S []) u)) Q E s := by
  by_cases h : l = []
  · subst h; exact eqS rfl (h0 rfl)
  · exact eqNe h (h1 h)
end
end Mine
namespace Mine
/-- M1: the words that split hears in the patterns, sign by sign -/
noncomputable abbrev spL : List Nat := [40, 41, 91, 93, 123, 125, 63, 42, 43, 45, 124, 94, 36, 92, 46, 38, 126, 35, 32, 9, 10, 13, 11, 12]
noncomputable def escS (c : Nat) : List Nat := if spL.contains c then [92, c] else [c]
noncomputable abbrev sgL : List Nat := [97, 47, 46, 42, 39, 34, 92, 32, 43, 35, 98]
noncomputable def chunk (stars seen c : Nat) : List Nat := if c = 42 then (if 0 < seen then [41] else []) ++ (if seen + 1 = stars then [46, 42] else [40, 63, 62, 46, 42, 63]) else escS c
noncomputable def gen (stars : Nat) : Nat → List Nat → List Nat
  | _, [] => []
  | seen, c :: r => chunk stars seen c ++ gen stars (if c = 42 then seen + 1 else seen) r
noncomputable def tpc (p : List Nat) : List Nat := (if p.count 42 = 0 then [46, 42] else []) ++ gen (p.count 42) 0 p
noncomputable def hWord (stars seen : Nat) (word inside : List Nat) (c : Nat) : List Nat :=
  if c = 42 then word ++ (if 0 < seen then [41] else []) ++ (if seen + 1 = stars then [46, 42] else [40, 63, 62, 46, 42, 63])
  else if [c] = inside then word
  else if inside = [] ∧ quL.contains c = true then word
  else if [92, 46, 43, 35, 32].contains c = true ∧ (inside = [39] ∨ (inside = [34] ∧ c ≠ 92)) then word ++ [92, c]
  else word ++ [c]
noncomputable def hIn (inside : List Nat) (c : Nat) : List Nat :=
  if c = 42 then inside else if [c] = inside then [] else if inside = [] ∧ quL.contains c = true then [c] else inside
noncomputable def hGo (stars : Nat) : Nat → List Nat → List Nat → List Nat → List Nat × List Nat
  | _, word, inside, [] => (word, inside)
  | seen, word, inside, c :: r => hGo stars (if c = 42 then seen + 1 else seen) (hWord stars seen word inside c) (hIn inside c) r
noncomputable def hPath (word inside p : List Nat) : List Nat × List Nat := hGo (p.count 42) 0 (if p.count 42 = 0 then word ++ [46, 42] else word) inside p
noncomputable def hRest : List (List Nat) → List (List Nat) → List Nat → List Nat → Option (List (List Nat))
  | [], words, word, inside => if inside = [] then some (words ++ [word]) else none
  | p :: ps, words, word, inside =>
    if inside = [] then hRest ps (words ++ [word]) (hPath [] inside p).1 (hPath [] inside p).2
    else hRest ps words (hPath (word ++ [32]) inside p).1 (hPath (word ++ [32]) inside p).2
noncomputable def heard : List (List Nat) → Option (List (List Nat))
  | [] => some [[]]
  | p :: ps => hRest ps [] (hPath [] [] p).1 (hPath [] [] p).2
/-- the reader's state that fits what the law holds -/
noncomputable def Fits (inside : List Nat) (st : Nat) (q : Bool) (tok : List Nat) : Prop := (inside = [] ∧ (st = 97 ∨ (st = 32 ∧ q = false ∧ tok = []))) ∨ (inside = [39] ∧ st = 39) ∨ (inside = [34] ∧ st = 34)
theorem rt_plain {c : Nat} (h1 : wsL.contains c = false) (h2 : quL.contains c = false) (h3 : esL.contains c = false) {inside tok r : List Nat} {st es : Nat} {q : Bool} (hf : Fits inside st q tok) :
    ∃ st' q', rt (c :: r) st es q tok = rt r st' es q' (tok ++ [c]) ∧ Fits inside st' q' (tok ++ [c]) := by
  have n39 : c ≠ 39 := by rintro rfl; cases h2
  have n34 : c ≠ 34 := by rintro rfl; cases h2
  rcases hf with ⟨rfl, rfl | ⟨rfl, rfl, rfl⟩⟩ | ⟨rfl, rfl⟩ | ⟨rfl, rfl⟩
  · exact ⟨97, q, rt_a_ot h1 h2 h3, .inl ⟨rfl, .inl rfl⟩⟩
  · exact ⟨97, false, rt_s_ot h1 h3 h2, .inl ⟨rfl, .inl rfl⟩⟩
  · exact ⟨39, true, rt_p_ot n39, .inr (.inl ⟨rfl, rfl⟩)⟩
  · exact ⟨34, true, rt_q_ot n34 h3, .inr (.inr ⟨rfl, rfl⟩)⟩
theorem rt_plains : ∀ (l : List Nat) (_ : ∀ c ∈ l, wsL.contains c = false ∧ quL.contains c = false ∧ esL.contains c = false) {inside tok r : List Nat} {st es : Nat} {q : Bool} (_ : Fits inside st q tok),
    ∃ st' q', rt (l ++ r) st es q tok = rt r st' es q' (tok ++ l) ∧ Fits inside st' q' (tok ++ l)
  | [], _, _, tok, _, st, _, q, hf => ⟨st, q, by simp, by simpa using hf⟩
  | c :: l, h, _, tok, r, _, _, _, hf => by
    obtain ⟨a, b, d⟩ := h c (.head _)
    obtain ⟨st1, q1, e1, f1⟩ := rt_plain (r := l ++ r) a b d hf
    obtain ⟨st2, q2, e2, f2⟩ := rt_plains l (fun x hx => h x (.tail _ hx)) (r := r) f1
    refine ⟨st2, q2, ?_, ?_⟩
    · rw [List.cons_append, e1, e2]; simp
    · simpa using f2
theorem rt_escaped {c : Nat} (hc : c ≠ 92 ∧ c ≠ 34 ∧ c ≠ 39) {inside tok r : List Nat} {st es : Nat} {q : Bool} (hf : Fits inside st q tok) :
    ∃ st' es' q', rt (92 :: c :: r) st es q tok = rt r st' es' q' (tok ++ (if inside = [] then [c] else [92, c])) ∧ Fits inside st' q' (tok ++ (if inside = [] then [c] else [92, c])) := by
  obtain ⟨n1, n2, n3⟩ := hc
  rcases hf with ⟨rfl, rfl | ⟨rfl, rfl, rfl⟩⟩ | ⟨rfl, rfl⟩ | ⟨rfl, rfl⟩
  · exact ⟨97, 97, q, by rw [rt_a_es rfl rfl rfl, rt_e_a]; rfl, .inl ⟨rfl, .inl rfl⟩⟩
  · exact ⟨97, 97, false, by rw [rt_s_es rfl rfl, rt_e_a]; rfl, .inl ⟨rfl, .inl rfl⟩⟩
  · exact ⟨39, es, true, by rw [rt_p_ot (by decide), rt_p_ot n3]; simp, .inr (.inl ⟨rfl, rfl⟩)⟩
  · exact ⟨34, 34, true, by rw [rt_q_es (by decide) rfl, rt_e_q0 n1 n2]; simp, .inr (.inr ⟨rfl, rfl⟩)⟩
theorem rt_backslash {inside tok r : List Nat} {st es : Nat} {q : Bool} (hf : Fits inside st q tok) :
    ∃ st' es' q', rt (92 :: 92 :: r) st es q tok = rt r st' es' q' (tok ++ (if inside = [39] then [92, 92] else [92])) ∧ Fits inside st' q' (tok ++ (if inside = [39] then [92, 92] else [92])) := by
  rcases hf with ⟨rfl, rfl | ⟨rfl, rfl, rfl⟩⟩ | ⟨rfl, rfl⟩ | ⟨rfl, rfl⟩
  · exact ⟨97, 97, q, by rw [rt_a_es rfl rfl rfl, rt_e_a]; rfl, .inl ⟨rfl, .inl rfl⟩⟩
  · exact ⟨97, 97, false, by rw [rt_s_es rfl rfl, rt_e_a]; rfl, .inl ⟨rfl, .inl rfl⟩⟩
  · exact ⟨39, es, true, by rw [rt_p_ot (by decide), rt_p_ot (by decide)]; simp, .inr (.inl ⟨rfl, rfl⟩)⟩
  · exact ⟨34, 34, true, by rw [rt_q_es (by decide) rfl, rt_e_q1 rfl]; rfl, .inr (.inr ⟨rfl, rfl⟩)⟩
theorem rt_quote {c : Nat} (hc : c = 39 ∨ c = 34) {inside tok r : List Nat} {st es : Nat} {q : Bool} (hf : Fits inside st q tok) :
    ∃ st' q', rt (c :: r) st es q tok = rt r st' es q' (if inside = [] ∨ [c] = inside then tok else tok ++ [c]) ∧ Fits (if [c] = inside then [] else if inside = [] then [c] else inside) st' q' (if inside = [] ∨ [c] = inside then tok else tok ++ [c]) := by
  rcases hf with ⟨rfl, rfl | ⟨rfl, rfl, rfl⟩⟩ | ⟨rfl, rfl⟩ | ⟨rfl, rfl⟩
  · rcases hc with rfl | rfl
    · exact ⟨39, q, by rw [rt_a_qu rfl rfl]; rfl, .inr (.inl ⟨rfl, rfl⟩)⟩
    · exact ⟨34, q, by rw [rt_a_qu rfl rfl]; rfl, .inr (.inr ⟨rfl, rfl⟩)⟩
  · rcases hc with rfl | rfl
    · exact ⟨39, false, by rw [rt_s_qu rfl rfl rfl]; rfl, .inr (.inl ⟨rfl, rfl⟩)⟩
    · exact ⟨34, false, by rw [rt_s_qu rfl rfl rfl]; rfl, .inr (.inr ⟨rfl, rfl⟩)⟩
  · rcases hc with rfl | rfl
    · exact ⟨97, true, by rw [rt_q_cl rfl rfl (by decide)]; rfl, .inl ⟨rfl, .inl rfl⟩⟩
    · exact ⟨39, true, by rw [rt_p_ot (by decide)]; rfl, .inr (.inl ⟨rfl, rfl⟩)⟩
  · rcases hc with rfl | rfl
    · exact ⟨34, true, by rw [rt_q_ot (by decide) rfl]; rfl, .inr (.inr ⟨rfl, rfl⟩)⟩
    · exact ⟨97, true, by rw [rt_q_cl rfl rfl (by decide)]; rfl, .inl ⟨rfl, .inl rfl⟩⟩
theorem fits_cases {inside tok : List Nat} {st : Nat} {q : Bool} (hf : Fits inside st q tok) : inside = [] ∨ inside = [39] ∨ inside = [34] := by
  rcases hf with ⟨h, _⟩ | ⟨h, _⟩ | ⟨h, _⟩
  · exact .inl h
  · exact .inr (.inl h)
  · exact .inr (.inr h)
theorem hw_quote {c : Nat} (hq : c = 39 ∨ c = 34) {inside : List Nat} (hin : inside = [] ∨ inside = [39] ∨ inside = [34]) (stars seen : Nat) (tok : List Nat) :
    hWord stars seen tok inside c = (if inside = [] ∨ [c] = inside then tok else tok ++ [c]) ∧ hIn inside c = (if [c] = inside then [] else if inside = [] then [c] else inside) ∧ chunk stars seen c = [c] := by
  rcases hq with rfl | rfl <;> rcases hin with rfl | rfl | rfl <;> exact ⟨rfl, rfl, rfl⟩
theorem hw_back {inside : List Nat} (hin : inside = [] ∨ inside = [39] ∨ inside = [34]) (stars seen : Nat) (tok : List Nat) :
    hWord stars seen tok inside 92 = tok ++ (if inside = [39] then [92, 92] else [92]) ∧ hIn inside 92 = inside ∧ chunk stars seen 92 = [92, 92] := by
  rcases hin with rfl | rfl | rfl <;> exact ⟨rfl, rfl, rfl⟩
theorem hw_esc {c : Nat} (hq : c = 46 ∨ c = 32 ∨ c = 43 ∨ c = 35) {inside : List Nat} (hin : inside = [] ∨ inside = [39] ∨ inside = [34]) (stars seen : Nat) (tok : List Nat) :
    hWord stars seen tok inside c = tok ++ (if inside = [] then [c] else [92, c]) ∧ hIn inside c = inside ∧ chunk stars seen c = [92, c] := by
  rcases hq with rfl | rfl | rfl | rfl <;> rcases hin with rfl | rfl | rfl <;> exact ⟨rfl, rfl, rfl⟩
theorem hw_pl {c : Nat} (hq : c = 97 ∨ c = 47 ∨ c = 98) {inside : List Nat} (hin : inside = [] ∨ inside = [39] ∨ inside = [34]) (stars seen : Nat) (tok : List Nat) :
    hWord stars seen tok inside c = tok ++ [c] ∧ hIn inside c = inside ∧ chunk stars seen c = [c] := by
  rcases hq with rfl | rfl | rfl <;> rcases hin with rfl | rfl | rfl <;> exact ⟨rfl, rfl, rfl⟩
theorem esc_ne {c : Nat} (hq : c = 46 ∨ c = 32 ∨ c = 43 ∨ c = 35) : c ≠ 92 ∧ c ≠ 34 ∧ c ≠ 39 := by rcases hq with rfl | rfl | rfl | rfl <;> decide
theorem pl_no {c : Nat} (hq : c = 97 ∨ c = 47 ∨ c = 98) : wsL.contains c = false ∧ quL.contains c = false ∧ esL.contains c = false := by
  rcases hq with rfl | rfl | rfl <;> exact ⟨rfl, rfl, rfl⟩
theorem rt_sign {c : Nat} (hc : c ∈ sgL) (stars seen : Nat) {inside tok r : List Nat} {st es : Nat} {q : Bool} (hf : Fits inside st q tok) :
    ∃ st' es' q', rt (chunk stars seen c ++ r) st es q tok = rt r st' es' q' (hWord stars seen tok inside c) ∧ Fits (hIn inside c) st' q' (hWord stars seen tok inside c) := by
  have hin := fits_cases hf
  by_cases h42 : c = 42
  · subst h42
    have hpl : ∀ x ∈ (if 0 < seen then [41] else []) ++ (if seen + 1 = stars then [46, 42] else [40, 63, 62, 46, 42, 63]), wsL.contains x = false ∧ quL.contains x = false ∧ esL.contains x = false := by
      split <;> split <;> decide
    obtain ⟨st', q', e, f⟩ := rt_plains _ hpl (r := r) (es := es) hf
    have ew : hWord stars seen tok inside 42 = tok ++ ((if 0 < seen then [41] else []) ++ (if seen + 1 = stars then [46, 42] else [40, 63, 62, 46, 42, 63])) := by
      rw [hWord, if_pos rfl, List.append_assoc]
    rw [ew, hIn, if_pos rfl, chunk, if_pos rfl]
    exact ⟨st', es, q', e, f⟩
  · have hq : (c = 39 ∨ c = 34) ∨ c = 92 ∨ (c = 46 ∨ c = 32 ∨ c = 43 ∨ c = 35) ∨ (c = 97 ∨ c = 47 ∨ c = 98) := by
      have k : ∀ x ∈ sgL, x ≠ 42 → ((x = 39 ∨ x = 34) ∨ x = 92 ∨ (x = 46 ∨ x = 32 ∨ x = 43 ∨ x = 35) ∨ (x = 97 ∨ x = 47 ∨ x = 98)) := by decide
      exact k c hc h42
    clear h42 hc
    rcases hq with hq | rfl | hq | hq
    · obtain ⟨st', q', e, f⟩ := rt_quote (r := r) (es := es) hq hf
      obtain ⟨a, b, d⟩ := hw_quote hq hin stars seen tok
      rw [a, b, d]; exact ⟨st', es, q', e, f⟩
    · obtain ⟨st', es', q', e, f⟩ := rt_backslash (r := r) (es := es) hf
      obtain ⟨a, b, d⟩ := hw_back hin stars seen tok
      rw [a, b, d]; exact ⟨st', es', q', e, f⟩
    · obtain ⟨st', es', q', e, f⟩ := rt_escaped (c := c) (r := r) (es := es) (esc_ne hq) hf
      obtain ⟨a, b, d⟩ := hw_esc hq hin stars seen tok
      rw [a, b, d]; exact ⟨st', es', q', e, f⟩
    · obtain ⟨k1, k2, k3⟩ := pl_no hq
      obtain ⟨st', q', e, f⟩ := rt_plain (r := r) (es := es) k1 k2 k3 hf
      obtain ⟨a, b, d⟩ := hw_pl hq hin stars seen tok
      rw [a, b, d]; exact ⟨st', es, q', e, f⟩
theorem rt_gen : ∀ (p : List Nat) (_ : ∀ c ∈ p, c ∈ sgL) (stars seen : Nat) {inside tok r : List Nat} {st es : Nat} {q : Bool} (_ : Fits inside st q tok),
    ∃ st' es' q', rt (gen stars seen p ++ r) st es q tok = rt r st' es' q' (hGo stars seen tok inside p).1 ∧ Fits (hGo stars seen tok inside p).2 st' q' (hGo stars seen tok inside p).1
  | [], _, _, _, _, _, _, st, es, q, hf => ⟨st, es, q, by simp [gen, hGo], by simpa [hGo] using hf⟩
  | c :: p, h, stars, seen, inside, tok, r, st, es, q, hf => by
    obtain ⟨st1, es1, q1, e1, f1⟩ := rt_sign (h c (.head _)) stars seen (r := gen stars (if c = 42 then seen + 1 else seen) p ++ r) (es := es) hf
    obtain ⟨st2, es2, q2, e2, f2⟩ := rt_gen p (fun x hx => h x (.tail _ hx)) stars (if c = 42 then seen + 1 else seen) (r := r) (es := es1) f1
    refine ⟨st2, es2, q2, ?_, ?_⟩
    · rw [gen, List.append_assoc, e1, e2]; rfl
    · exact f2
theorem rt_path {p : List Nat} (h : ∀ c ∈ p, c ∈ sgL) {inside tok r : List Nat} {st es : Nat} {q : Bool} (hf : Fits inside st q tok) :
    ∃ st' es' q', rt (tpc p ++ r) st es q tok = rt r st' es' q' (hPath tok inside p).1 ∧ Fits (hPath tok inside p).2 st' q' (hPath tok inside p).1 := by
  unfold tpc hPath
  split
  · rename_i h0
    obtain ⟨st1, q1, e1, f1⟩ := rt_plains [46, 42] (by decide) (r := gen (p.count 42) 0 p ++ r) (es := es) hf
    obtain ⟨st2, es2, q2, e2, f2⟩ := rt_gen p h (p.count 42) 0 (r := r) (es := es) f1
    exact ⟨st2, es2, q2, by rw [List.append_assoc, e1, e2], f2⟩
  · obtain ⟨st2, es2, q2, e2, f2⟩ := rt_gen p h (p.count 42) 0 (r := r) (es := es) hf
    exact ⟨st2, es2, q2, by rw [List.nil_append]; exact e2, f2⟩
/-- a word is never empty behind a path -/
theorem hWord_long (stars seen : Nat) (word inside : List Nat) (c : Nat) : ∃ e, hWord stars seen word inside c = word ++ e ∧ (c = 42 → e ≠ []) := by
  unfold hWord
  split
  · exact ⟨_, List.append_assoc _ _ _, fun _ => by split <;> split <;> simp⟩
  · rename_i h
    split
    · exact ⟨[], by simp, fun x => absurd x h⟩
    · split
      · exact ⟨[], by simp, fun x => absurd x h⟩
      · split
        · exact ⟨_, rfl, fun x => absurd x h⟩
        · exact ⟨_, rfl, fun x => absurd x h⟩
theorem hGo_long (stars : Nat) : ∀ (p : List Nat) (seen : Nat) (word inside : List Nat), ∃ e, (hGo stars seen word inside p).1 = word ++ e ∧ (42 ∈ p → e ≠ [])
  | [], _, word, _ => ⟨[], by simp [hGo], fun h => by cases h⟩
  | c :: p, seen, word, inside => by
    obtain ⟨e1, h1, n1⟩ := hWord_long stars seen word inside c
    obtain ⟨e2, h2, n2⟩ := hGo_long stars p (if c = 42 then seen + 1 else seen) (hWord stars seen word inside c) (hIn inside c)
    refine ⟨e1 ++ e2, ?_, ?_⟩
    · rw [hGo, h2, h1, List.append_assoc]
    · intro hm
      rcases List.mem_cons.mp hm with rfl | hm
      · have := n1 rfl
        simp [this]
      · have := n2 hm
        simp [this]
theorem hPath_ne (word inside p : List Nat) : (hPath word inside p).1 ≠ [] := by
  unfold hPath
  by_cases h : p.count 42 = 0
  · rw [if_pos h]
    obtain ⟨e, h1, _⟩ := hGo_long (p.count 42) p 0 (word ++ [46, 42]) inside
    rw [h1]; simp
  · rw [if_neg h]
    obtain ⟨e, h1, n⟩ := hGo_long (p.count 42) p 0 word inside
    have hm : 42 ∈ p := List.count_pos_iff.mp (Nat.pos_of_ne_zero h)
    rw [h1]
    have := n hm
    simp [this]
noncomputable def joinB : List (List Nat) → List Nat
  | [] => []
  | [p] => p
  | p :: q :: r => p ++ 32 :: joinB (q :: r)
noncomputable def lexF (n st es : Nat) (q : Bool) (tok r : List Nat) : Option (List (List Nat)) := match rt r st es q tok with
  | .bad => none
  | .got q tok st r' => if q = false ∧ tok = [] then some [] else match st with
    | none => some [tok]
    | some _ => (lexN n r').map (tok :: ·)
theorem lexN_lexF (n : Nat) (r : List Nat) : lexN (n + 1) r = lexF n 32 32 false [] r := by first | (rw [lexN, lexF]; done) | (rw [lexN, lexF]; rfl)
noncomputable def tailB : List (List Nat) → List Nat
  | [] => []
  | p :: ps => 32 :: (tpc p ++ tailB ps)
theorem joinB_cons (p : List Nat) (ps : List (List Nat)) : joinB ((p :: ps).map tpc) = tpc p ++ tailB ps := by
  induction ps generalizing p with
  | nil => simp [joinB, tailB]
  | cons q r ih =>
    have := ih q
    rw [List.map_cons] at this
    rw [List.map_cons, List.map_cons, joinB, this, tailB]
theorem lex_rest : ∀ (ps : List (List Nat)) (_ : ∀ p ∈ ps, ∀ c ∈ p, c ∈ sgL) (n : Nat) (_ : ps.length ≤ n) (words : List (List Nat)) (word inside : List Nat) {st es : Nat} {q : Bool} (_ : Fits inside st q word) (_ : word ≠ []),
    (lexF n st es q word (tailB ps)).map (words ++ ·) = hRest ps words word inside
  | [], _, n, _, words, word, inside, st, es, q, hf, hw => by
    rw [hRest, lexF, tailB]
    rcases hf with ⟨rfl, rfl | ⟨rfl, rfl, rfl⟩⟩ | ⟨rfl, rfl⟩ | ⟨rfl, rfl⟩
    · have e : rt [] 97 es q word = .got q word none [] := rfl
      rw [e]
      simp [hw]
    · exact absurd rfl hw
    · have e : rt [] 39 es q word = .bad := rfl
      rw [e]; simp
    · have e : rt [] 34 es q word = .bad := rfl
      rw [e]; simp
  | p :: ps, h, n, hn, words, word, inside, st, es, q, hf, hw => by
    have hp := h p (.head _)
    have hps := fun x hx => h x (List.mem_cons_of_mem p hx)
    have cont : ∀ (words : List (List Nat)) (word inside : List Nat) {st es : Nat} {q : Bool} (_ : Fits inside st q word) (n : Nat) (_ : ps.length ≤ n), (lexF n st es q word (tpc p ++ tailB ps)).map (words ++ ·) = hRest ps words (hPath word inside p).1 (hPath word inside p).2 := by
      intro words word inside st es q hf n hn
      obtain ⟨st', es', q', e, f⟩ := rt_path hp (r := tailB ps) (es := es) hf
      have := lex_rest ps hps n hn words (hPath word inside p).1 (hPath word inside p).2 (es := es') f (hPath_ne _ _ _)
      rw [← this, lexF, lexF, e]
    rw [hRest]
    simp only [List.length_cons] at hn
    rcases hf with ⟨rfl, rfl | ⟨rfl, rfl, rfl⟩⟩ | ⟨rfl, rfl⟩ | ⟨rfl, rfl⟩
    · rw [if_pos rfl]
      obtain ⟨m, rfl⟩ : ∃ m, n = m + 1 := ⟨n - 1, by omega⟩
      have e : lexF (m + 1) 97 es q word (tailB (p :: ps)) = (lexN (m + 1) (tpc p ++ tailB ps)).map (word :: ·) := by
        rw [lexF, tailB, rt_a_ws2 rfl hw]
        simp [hw]
      rw [e, lexN_lexF, ← cont (words ++ [word]) [] [] (st := 32) (es := 32) (q := false) (.inl ⟨rfl, .inr ⟨rfl, rfl, rfl⟩⟩) m (by omega)]
      cases lexF m 32 32 false [] (tpc p ++ tailB ps) <;> simp
    · exact absurd rfl hw
    · rw [if_neg (by decide), ← cont words (word ++ [32]) [39] (st := 39) (es := es) (q := true) (.inr (.inl ⟨rfl, rfl⟩)) n (by omega)]
      rw [lexF, lexF, tailB, rt_p_ot (by decide)]
    · rw [if_neg (by decide), ← cont words (word ++ [32]) [34] (st := 34) (es := es) (q := true) (.inr (.inr ⟨rfl, rfl⟩)) n (by omega)]
      rw [lexF, lexF, tailB, rt_q_ot (by decide) rfl]
theorem tpc_ne (p : List Nat) : tpc p ≠ [] := by
  unfold tpc
  by_cases h : p.count 42 = 0
  · rw [if_pos h]; simp
  · cases p with
    | nil => simp at h
    | cons c r =>
      rw [if_neg h, List.nil_append, gen]
      unfold chunk escS
      repeat' split
      all_goals simp
theorem tailB_len : ∀ ps : List (List Nat), ps.length ≤ (tailB ps).length
  | [] => by simp
  | p :: ps => by
    have := tailB_len ps
    simp only [tailB, List.length_cons, List.length_append]; omega
theorem M1 (p : List Nat) (ps : List (List Nat)) (h : ∀ x ∈ p :: ps, ∀ c ∈ x, c ∈ sgL) :
    lexN ((joinB ((p :: ps).map tpc)).length + 1) (joinB ((p :: ps).map tpc)) = heard (p :: ps) := by
  rw [joinB_cons, lexN_lexF, heard]
  obtain ⟨st', es', q', e, f⟩ := rt_path (h p (.head _)) (r := tailB ps) (es := 32) (st := 32) (q := false) (tok := []) (inside := []) (.inl ⟨rfl, .inr ⟨rfl, rfl, rfl⟩⟩)
  have := lex_rest ps (fun x hx => h x (.tail _ hx)) (tpc p ++ tailB ps).length (by have := tailB_len ps; simp only [List.length_append]; omega) [] (hPath [] [] p).1 (hPath [] [] p).2 (es := es') f (hPath_ne _ _ _)
  rw [← this, lexF, e, lexF]
  simp
end Mine
namespace Mine
/-- M2: normpath is the straightening -/
noncomputable def sHd (d : Nat) : List Nat → List Nat
  | [] => []
  | c :: r => if c = d then [] else c :: sHd d r
noncomputable def sTl (d : Nat) : List Nat → List (List Nat)
  | [] => []
  | c :: r => if c = d then sHd d r :: sTl d r else sTl d r
noncomputable def spl (d : Nat) (l : List Nat) : List (List Nat) := sHd d l :: sTl d l
noncomputable def joinD (d : Nat) : List (List Nat) → List Nat
  | [] => []
  | p :: r => p ++ r.flatMap (d :: ·)
noncomputable abbrev dd : List Nat := [46, 46]
noncomputable def npGo (ini : Bool) : List (List Nat) → List (List Nat) → List (List Nat)
  | new, [] => new
  | new, c :: r => if c = [] ∨ c = [46] then npGo ini new r
    else if c ≠ dd ∨ (ini = false ∧ new = []) ∨ (new ≠ [] ∧ new.getLast? = some dd) then npGo ini (new ++ [c]) r
    else if new ≠ [] then npGo ini new.dropLast r else npGo ini new r
noncomputable def rootI (p : List Nat) : List Nat := if p.take 1 ≠ [47] then [] else if (p.drop 1).take 1 ≠ [47] ∨ (p.drop 2).take 1 = [47] then [47] else p.take 2
noncomputable def rootR (p : List Nat) : List Nat := if p.take 1 ≠ [47] then p else if (p.drop 1).take 1 ≠ [47] ∨ (p.drop 2).take 1 = [47] then p.drop 1 else p.drop 2
noncomputable def orDot (p : List Nat) : List Nat := if p = [] then [46] else p
noncomputable def normP (p : List Nat) : List Nat := if p = [] then [46] else orDot (rootI p ++ joinD 47 (npGo (!(rootI p).isEmpty) [] (spl 47 (rootR p))))
noncomputable def leadP (t : List Nat) : List Nat := if t.take 1 = [47] then (if t.take 2 = [47, 47] ∧ t.take 3 ≠ [47, 47, 47] then [47, 47] else [47]) else []
noncomputable def proper (c : List Nat) : Bool := c ≠ [] && c ≠ [46]
noncomputable def upOff (lead : List Nat) (names : List (List Nat)) : List (List Nat) := if lead ≠ [] then names.dropWhile (· = dd) else names
noncomputable def strP (t : List Nat) : List Nat := orDot (leadP t ++ joinD 47 (upOff (leadP t) (npGo false [] ((spl 47 t).filter proper))))
theorem npGo_filter (ini : Bool) : ∀ (cs new : List (List Nat)), npGo ini new (cs.filter proper) = npGo ini new cs
  | [], new => rfl
  | c :: r, new => by
    by_cases h : c = [] ∨ c = [46]
    · have : proper c = false := by rcases h with rfl | rfl <;> rfl
      rw [List.filter_cons_of_neg (by rw [this]; simp), npGo_filter ini r, npGo, if_pos h]
    · have : proper c = true := by
        simp only [not_or] at h
        simp [proper, h]
      rw [List.filter_cons_of_pos this, npGo, npGo, npGo_filter ini r, npGo_filter ini r, npGo_filter ini r]
theorem npGo_append (ini : Bool) : ∀ (a b new : List (List Nat)), npGo ini new (a ++ b) = npGo ini (npGo ini new a) b
  | [], b, new => rfl
  | c :: r, b, new => by
    rw [List.cons_append, npGo, npGo]
    repeat' split
    all_goals exact npGo_append ini r b _
/-- a name and the two dots behind it -/
theorem npGo_pair (ini : Bool) {x : List Nat} (new b : List (List Nat)) (hx : x ≠ dd) (h1 : proper x = true) : npGo ini new (x :: dd :: b) = npGo ini new b := by
  have hp : ¬ (x = [] ∨ x = [46]) := by simpa [proper] using h1
  rw [npGo, if_neg hp, if_pos (.inl hx), npGo, if_neg (by decide), if_neg (by simp [hx]), if_pos (by simp)]
  simp
theorem npGo_cut (ini : Bool) {l : List (List Nat)} {k : Nat} {x : List Nat} (hk : l[k + 1]? = some dd) (hx : l[k]? = some x) (hn : x ≠ dd) (hp : proper x = true) : npGo ini [] (l.take k ++ l.drop (k + 2)) = npGo ini [] l := by
  have e : l = l.take k ++ x :: dd :: l.drop (k + 2) := by
    have h1 : k < l.length := by
      rcases Nat.lt_or_ge k l.length with h | h
      · exact h
      · rw [List.getElem?_eq_none h] at hx; cases hx
    have h2 : k + 1 < l.length := by
      rcases Nat.lt_or_ge (k + 1) l.length with h | h
      · exact h
      · rw [List.getElem?_eq_none h] at hk; cases hk
    rw [List.getElem?_eq_getElem h1] at hx
    rw [List.getElem?_eq_getElem h2] at hk
    cases hx
    have e1 := List.drop_eq_getElem_cons h1
    have e2 := List.drop_eq_getElem_cons h2
    rw [Option.some.inj hk] at e2
    rw [← e2, ← e1, List.take_append_drop]
  rw [npGo_append]
  conv => rhs; rw [e, npGo_append, npGo_pair ini _ _ hn hp]
/-- no pair left: nothing to do -/
noncomputable def NoPair (l : List (List Nat)) : Prop := ∀ k, l[k + 1]? = some dd → l[k]? = some dd
theorem npGo_still : ∀ (l new : List (List Nat)), (∀ c ∈ l, proper c = true) → NoPair (new ++ l) → npGo false new l = new ++ l
  | [], new, _, _ => by simp [npGo]
  | c :: r, new, hp, hn => by
    have h1 : ¬ (c = [] ∨ c = [46]) := by simpa [proper] using hp c (.head _)
    have h2 : c ≠ dd ∨ (false = false ∧ new = []) ∨ (new ≠ [] ∧ new.getLast? = some dd) := by
      by_cases hc : c = dd
      · right
        by_cases hnew : new = []
        · exact .inl ⟨rfl, hnew⟩
        · right
          refine ⟨hnew, ?_⟩
          have hl : 0 < new.length := List.length_pos_iff.mpr hnew
          have := hn (new.length - 1) (by
            rw [show new.length - 1 + 1 = new.length by omega, List.getElem?_append_right (Nat.le_refl _)]
            simp [hc])
          rw [List.getElem?_append_left (by omega)] at this
          rw [List.getLast?_eq_getElem?]
          exact this
      · exact .inl hc
    rw [npGo, if_neg h1, if_pos h2, npGo_still r (new ++ [c]) (fun x hx => hp x (.tail _ hx)) (by rw [List.append_assoc]; exact hn)]
    simp
theorem np_skip {ini : Bool} {new r : List (List Nat)} {c : List Nat} (h : c = [] ∨ c = [46]) : npGo ini new (c :: r) = npGo ini new r := by rw [npGo, if_pos h]
theorem np_push {ini : Bool} {new r : List (List Nat)} {c : List Nat} (h : ¬ (c = [] ∨ c = [46])) (h2 : c ≠ dd ∨ (ini = false ∧ new = []) ∨ (new ≠ [] ∧ new.getLast? = some dd)) : npGo ini new (c :: r) = npGo ini (new ++ [c]) r := by rw [npGo, if_neg h, if_pos h2]
theorem np_pop {ini : Bool} {new r : List (List Nat)} (h : new ≠ []) (h2 : new.getLast? ≠ some dd) : npGo ini new (dd :: r) = npGo ini new.dropLast r := by
  rw [npGo, if_neg (by decide), if_neg (by simp [h, h2]), if_pos h]
theorem np_drop {r : List (List Nat)} : npGo true [] (dd :: r) = npGo true [] r := by
  rw [npGo, if_neg (by decide), if_neg (by simp), if_neg (by simp)]
/-- behind a root the leading pairs of dots fall -/
theorem npGo_root : ∀ (l : List (List Nat)) (k : Nat) (new : List (List Nat)), (∀ x ∈ new, x ≠ dd) → ∃ k', npGo false (List.replicate k dd ++ new) l = List.replicate k' dd ++ npGo true new l ∧ ∀ x ∈ npGo true new l, x ≠ dd
  | [], k, new, h => ⟨k, rfl, h⟩
  | c :: r, k, new, h => by
    by_cases h1 : c = [] ∨ c = [46]
    · rw [np_skip h1, np_skip h1]; exact npGo_root r k new h
    · by_cases hc : c = dd
      · subst hc
        by_cases hne : new = []
        · subst hne
          rw [np_drop, List.append_nil, np_push h1 (by
            right
            cases k with
            | zero => left; simp
            | succ k => right; simp [List.getLast?_replicate])]
          obtain ⟨k', e1, e2⟩ := npGo_root r (k + 1) [] (by simp)
          refine ⟨k', ?_, e2⟩
          rw [← e1, List.append_nil, List.replicate_succ']
        · obtain ⟨z, hz⟩ : ∃ z, new.getLast? = some z := ⟨_, List.getLast?_eq_some_getLast hne⟩
          have hzd : z ≠ dd := h z (List.mem_of_getLast? hz)
          have hz2 : (List.replicate k dd ++ new).getLast? = some z := by
            rw [List.getLast?_append, hz]; rfl
          rw [np_pop (by simp [hne]) (by rw [hz2]; simpa using hzd), np_pop hne (by rw [hz]; simpa using hzd), List.dropLast_append_of_ne_nil hne]
          exact npGo_root r k new.dropLast (fun x hx => h x (List.dropLast_subset _ hx))
      · rw [np_push h1 (.inl hc), np_push h1 (.inl hc), List.append_assoc]
        exact npGo_root r k (new ++ [c]) (by
          intro x hx
          rcases List.mem_append.mp hx with hx | hx
          · exact h x hx
          · rw [List.mem_singleton.mp hx]; exact hc)
theorem upOff_root {lead : List Nat} (h : lead ≠ []) (l : List (List Nat)) : upOff lead (npGo false [] l) = npGo true [] l := by
  obtain ⟨k', e, h2⟩ := npGo_root l 0 [] (by simp)
  rw [upOff, if_pos h]
  rw [List.replicate_zero, List.nil_append] at e
  rw [e]
  clear e
  induction k' with
  | zero =>
    rw [List.replicate_zero, List.nil_append]
    cases hl : npGo true [] l with
    | nil => rfl
    | cons a r =>
      have := h2 a (by rw [hl]; exact .head _)
      rw [List.dropWhile_cons_of_neg (by simpa using this)]
  | succ k ih =>
    rw [List.replicate_succ, List.cons_append, List.dropWhile_cons_of_pos (by simp)]
    exact ih
theorem lead_root (p : List Nat) : rootI p = leadP p := by
  match p with
  | [] => rfl
  | [a] => by_cases h : a = 47 <;> simp [rootI, leadP, h]
  | [a, b] => by_cases h : a = 47 <;> by_cases h2 : b = 47 <;> simp [rootI, leadP, h, h2]
  | a :: b :: c :: r => by_cases h : a = 47 <;> by_cases h2 : b = 47 <;> by_cases h3 : c = 47 <;> simp [rootI, leadP, h, h2, h3]
theorem spl_sep (d : Nat) (r : List Nat) : spl d (d :: r) = [] :: spl d r := by simp [spl, sHd, sTl]
theorem root_names (p : List Nat) : (spl 47 (rootR p)).filter proper = (spl 47 p).filter proper := by
  have e0 : proper [] = false := rfl
  have one : ∀ r, (spl 47 (47 :: r)).filter proper = (spl 47 r).filter proper := fun r => by
    rw [spl_sep, List.filter_cons_of_neg (by rw [e0]; simp)]
  unfold rootR
  match p with
  | [] => rfl
  | a :: r =>
    by_cases h : a = 47
    · subst h
      rw [if_neg (by simp)]
      split
      · rw [one]; rfl
      · rename_i h2
        match r with
        | [] => simp at h2
        | b :: r' =>
          have : b = 47 := by
            simp only [not_or, List.drop_succ_cons, List.drop_zero] at h2
            simpa using h2.1
          subst this
          rw [one, one]; rfl
    · rw [if_pos (by simpa using h)]
theorem M2 (t : List Nat) : normP t = strP t := by
  unfold normP strP
  by_cases h : t = []
  · subst h; rfl
  · rw [if_neg h, ← lead_root, npGo_filter, ← npGo_filter _ (spl 47 (rootR t)), root_names, npGo_filter]
    by_cases hl : rootI t = []
    · rw [hl]; rfl
    · rw [upOff_root hl]
      have : (!(rootI t).isEmpty) = true := by
        cases hr : rootI t with
        | nil => exact absurd hr hl
        | cons a r => rfl
      rw [this]
end Mine
namespace Mine
/-- M3: normpath of a pattern is the pattern of the thinned path -/
noncomputable def nz (c : List Nat) : Bool := !c.isEmpty
noncomputable def leadT (p : List Nat) : List Nat := if p.take 1 = [47] ∧ (spl 47 p).filter nz ≠ [] then (if p.contains 42 = true ∧ p.take 2 = [47, 47] ∧ p.take 3 ≠ [47, 47, 47] then [47, 47] else [47]) else []
noncomputable def thinP (p : List Nat) : List Nat := leadT p ++ joinD 47 ((spl 47 p).filter nz)
noncomputable def gSegs (stars : Nat) : Nat → List (List Nat) → List (List Nat)
  | _, [] => []
  | seen, s :: r => gen stars seen s :: gSegs stars (seen + s.count 42) r
theorem gen_append (stars : Nat) : ∀ (a b : List Nat) (seen : Nat), gen stars seen (a ++ b) = gen stars seen a ++ gen stars (seen + a.count 42) b
  | [], b, seen => by simp [gen]
  | c :: r, b, seen => by
    rw [List.cons_append, gen, gen, gen_append stars r b, List.append_assoc, List.count_cons]
    congr 3
    by_cases h : c = 42 <;> simp [h]; omega
theorem gen_sep (stars seen : Nat) (r : List Nat) : gen stars seen (47 :: r) = 47 :: gen stars seen r := rfl
theorem sHd_free (d : Nat) : ∀ (a x : List Nat), d ∉ a → sHd d (a ++ x) = a ++ sHd d x
  | [], _, _ => rfl
  | c :: a, x, h => by
    rw [List.cons_append, sHd, if_neg (fun e => h (by rw [e]; exact .head _)), sHd_free d a x (fun e => h (.tail _ e)), List.cons_append]
theorem sTl_free (d : Nat) : ∀ (a x : List Nat), d ∉ a → sTl d (a ++ x) = sTl d x
  | [], _, _ => rfl
  | c :: a, x, h => by
    rw [List.cons_append, sTl, if_neg (fun e => h (by rw [e]; exact .head _)), sTl_free d a x (fun e => h (.tail _ e))]
theorem chunk_not {d stars seen c : Nat} (hd : d ∉ [41, 46, 42, 40, 63, 62, 92]) (h : c ≠ d) : d ∉ chunk stars seen c := by
  have up : ∀ l : List Nat, (∀ x ∈ l, x ∈ [41, 46, 42, 40, 63, 62, 92]) → d ∉ l := fun l hl hm => hd (hl d hm)
  unfold chunk
  split
  · refine up _ ?_
    split <;> split <;> decide
  · unfold escS
    split
    · intro hm
      rcases List.mem_cons.mp hm with rfl | hm
      · exact hd (by decide)
      · exact h (List.mem_singleton.mp hm).symm
    · intro hm
      exact h (List.mem_singleton.mp hm).symm
theorem chunk_free {stars seen c : Nat} (h : c ≠ 47) : 47 ∉ chunk stars seen c := chunk_not (by decide) h
theorem sHd_gen (stars : Nat) : ∀ (p : List Nat) (seen : Nat), sHd 47 (gen stars seen p) = gen stars seen (sHd 47 p)
  | [], _ => rfl
  | c :: r, seen => by
    by_cases h : c = 47
    · subst h; rw [gen_sep]; simp [sHd, gen]
    · rw [gen, sHd_free 47 _ _ (chunk_free h), sHd_gen stars r, sHd, if_neg h, gen]
theorem sTl_gen (stars : Nat) : ∀ (p : List Nat) (seen : Nat), sTl 47 (gen stars seen p) = gSegs stars (seen + (sHd 47 p).count 42) (sTl 47 p)
  | [], _ => rfl
  | c :: r, seen => by
    by_cases h : c = 47
    · subst h
      rw [gen_sep]
      simp only [sTl, sHd, if_true, List.count_nil, Nat.add_zero, gSegs]
      rw [sHd_gen, sTl_gen stars r]
    · rw [gen, sTl_free 47 _ _ (chunk_free h), sTl_gen stars r, sTl, if_neg h, sHd, if_neg h, List.count_cons]
      congr 1
      by_cases h2 : c = 42 <;> simp [h2]; omega
theorem spl_gen (stars seen : Nat) (p : List Nat) : spl 47 (gen stars seen p) = gSegs stars seen (spl 47 p) := by
  rw [spl, spl, gSegs, sHd_gen, sTl_gen]
theorem gen_shape (stars seen c : Nat) (r : List Nat) : ∃ a t, gen stars seen (c :: r) = a :: t ∧ (a ≠ 46 ∨ ∃ t', t = 42 :: t') ∧ (a = 47 → c = 47) := by
  rw [gen]
  unfold chunk escS
  split
  · split <;> split <;> exact ⟨_, _, rfl, by first | exact .inl (by decide) | exact .inr ⟨_, rfl⟩, by intro h; cases h⟩
  · split
    · exact ⟨_, _, rfl, .inl (by decide), by intro h; cases h⟩
    · rename_i h
      exact ⟨_, _, rfl, .inl (by rintro rfl; exact h rfl), fun h => h⟩
theorem gen_nil {stars seen : Nat} {s : List Nat} : gen stars seen s = [] ↔ s = [] := by
  cases s with
  | nil => simp [gen]
  | cons c r =>
    obtain ⟨a, t, e, _⟩ := gen_shape stars seen c r
    rw [e]; simp
theorem nz_gen (stars seen : Nat) (s : List Nat) : nz (gen stars seen s) = nz s := by
  unfold nz
  cases s with
  | nil => rfl
  | cons c r =>
    obtain ⟨a, t, e, _⟩ := gen_shape stars seen c r
    rw [e]; rfl
noncomputable def Free (c : List Nat) : Prop := c = [] ∨ (¬ (c = [] ∨ c = [46]) ∧ c ≠ dd)
theorem free_gen (stars seen : Nat) (s : List Nat) : Free (gen stars seen s) := by
  cases s with
  | nil => exact .inl rfl
  | cons c r =>
    obtain ⟨a, t, e, h, _⟩ := gen_shape stars seen c r
    rw [e]
    right
    rcases h with h | ⟨t', rfl⟩
    · simp [h]
    · simp
theorem free_gSegs (stars : Nat) : ∀ (l : List (List Nat)) (seen : Nat), ∀ c ∈ gSegs stars seen l, Free c
  | [], _, c, h => by cases h
  | s :: r, seen, c, h => by
    rw [gSegs] at h
    rcases List.mem_cons.mp h with rfl | h
    · exact free_gen _ _ _
    · exact free_gSegs stars r _ c h
theorem npGo_free (ini : Bool) : ∀ (l new : List (List Nat)), (∀ c ∈ l, Free c) → npGo ini new l = new ++ l.filter nz
  | [], new, _ => by simp [npGo]
  | c :: r, new, h => by
    have hr := fun x hx => h x (List.mem_cons_of_mem c hx)
    rcases h c (.head _) with rfl | ⟨h1, h2⟩
    · rw [np_skip (.inl rfl), npGo_free ini r new hr, List.filter_cons_of_neg (by simp [nz])]
    · rw [np_push h1 (.inl h2), npGo_free ini r _ hr, List.filter_cons_of_pos (by
        simp only [not_or] at h1
        simp [nz, h1.1])]
      simp
theorem gSegs_nz (stars : Nat) : ∀ (l : List (List Nat)) (seen : Nat), (gSegs stars seen l).filter nz = gSegs stars seen (l.filter nz)
  | [], _ => rfl
  | s :: r, seen => by
    rw [gSegs]
    by_cases h : nz s = true
    · rw [List.filter_cons_of_pos (by rw [nz_gen]; exact h), List.filter_cons_of_pos h, gSegs, gSegs_nz stars r]
    · have : s = [] := by simpa [nz] using h
      subst this
      rw [List.filter_cons_of_neg (by simp [nz, gen]), List.filter_cons_of_neg (by simp [nz]), gSegs_nz stars r]
      simp
theorem gen_flat (stars : Nat) : ∀ (r : List (List Nat)) (seen : Nat), gen stars seen (r.flatMap (47 :: ·)) = (gSegs stars seen r).flatMap (47 :: ·)
  | [], _ => rfl
  | s :: r, seen => by
    rw [List.flatMap_cons, gSegs, List.flatMap_cons, List.cons_append, gen_sep, gen_append, gen_flat stars r]
    rfl
theorem gen_join (stars seen : Nat) (l : List (List Nat)) : gen stars seen (joinD 47 l) = joinD 47 (gSegs stars seen l) := by
  cases l with
  | nil => rfl
  | cons s r => rw [joinD, gen_append, gen_flat, gSegs, joinD]
theorem count_flat (r : List (List Nat)) : ((r.filter nz).flatMap (47 :: ·)).count 42 = (r.map (·.count 42)).sum := by
  induction r with
  | nil => rfl
  | cons s r ih =>
    by_cases h : nz s = true
    · rw [List.filter_cons_of_pos h, List.flatMap_cons, List.count_append, ih, List.map_cons, List.sum_cons]
      simp
    · have : s = [] := by simpa [nz] using h
      subst this
      rw [List.filter_cons_of_neg (by simp [nz]), ih, List.map_cons, List.sum_cons]
      simp
theorem count_join (l : List (List Nat)) : (joinD 47 (l.filter nz)).count 42 = (l.map (·.count 42)).sum := by
  have h := count_flat l
  cases hl : l.filter nz with
  | nil => rw [hl] at h; rw [← h]; rfl
  | cons s r =>
    rw [hl] at h
    rw [← h, joinD, List.count_append, List.flatMap_cons, List.count_append]
    simp
theorem count_spl (p : List Nat) : (sHd 47 p).count 42 + ((sTl 47 p).map (·.count 42)).sum = p.count 42 := by
  induction p with
  | nil => rfl
  | cons c r ih =>
    by_cases h : c = 47
    · subst h
      simp only [sHd, sTl, if_true, List.map_cons, List.sum_cons, List.count_nil]
      rw [List.count_cons]
      simp; omega
    · rw [sHd, sTl, if_neg h, if_neg h, List.count_cons, List.count_cons]; omega
theorem leadT_count (p : List Nat) : (leadT p).count 42 = 0 := by
  unfold leadT
  repeat' split
  all_goals rfl
theorem count_thin (p : List Nat) : (thinP p).count 42 = p.count 42 := by
  rw [thinP, List.count_append, leadT_count, count_join, spl, List.map_cons, List.sum_cons]
  have := count_spl p
  omega
theorem orDot_ne {l : List Nat} (h : l ≠ []) : orDot l = l := by rw [orDot, if_neg h]
noncomputable def leadQ : List Nat → List Nat
  | a :: b :: c :: _ => if a = 47 then (if b = 47 then (if c = 47 then [47] else [47, 47]) else [47]) else []
  | [a, b] => if a = 47 then (if b = 47 then [47, 47] else [47]) else []
  | [a] => if a = 47 then [47] else []
  | [] => []
theorem leadP_Q (p : List Nat) : leadP p = leadQ p := by
  match p with
  | [] => rfl
  | [a] => by_cases h : a = 47 <;> simp [leadP, leadQ, h]
  | [a, b] => by_cases h : a = 47 <;> by_cases h2 : b = 47 <;> simp [leadP, leadQ, h, h2]
  | a :: b :: c :: r => by_cases h : a = 47 <;> by_cases h2 : b = 47 <;> by_cases h3 : c = 47 <;> simp [leadP, leadQ, h, h2, h3]
theorem leadQ_other {a : Nat} (h : a ≠ 47) (t : List Nat) : leadQ (a :: t) = [] := by
  match t with
  | [] => simp [leadQ, h]
  | [b] => simp [leadQ, h]
  | b :: c :: r => simp [leadQ, h]
theorem leadQ_one {b : Nat} (h : b ≠ 47) (t : List Nat) : leadQ (47 :: b :: t) = [47] := by
  match t with
  | [] => simp [leadQ, h]
  | c :: r => simp [leadQ, h]
theorem leadQ_two {c : Nat} (h : c ≠ 47) (t : List Nat) : leadQ (47 :: 47 :: c :: t) = [47, 47] := by simp [leadQ, h]
theorem leadQ_gen (stars : Nat) (p : List Nat) : leadQ (gen stars 0 p) = leadQ p := by
  match p with
  | [] => rfl
  | a :: r =>
    by_cases h : a = 47
    · subst h
      rw [gen_sep]
      match r with
      | [] => rfl
      | b :: r =>
        by_cases h : b = 47
        · subst h
          rw [gen_sep]
          match r with
          | [] => rfl
          | c :: r =>
            by_cases h : c = 47
            · subst h; rw [gen_sep]; simp [leadQ]
            · obtain ⟨x, t, e, _, hx⟩ := gen_shape stars 0 c r
              rw [e, leadQ_two (fun q => h (hx q)), leadQ_two h]
        · obtain ⟨x, t, e, _, hx⟩ := gen_shape stars 0 b r
          rw [e, leadQ_one (fun q => h (hx q)), leadQ_one h]
    · obtain ⟨x, t, e, _, hx⟩ := gen_shape stars 0 a r
      rw [e, leadQ_other (fun q => h (hx q)), leadQ_other h]
theorem gen_lead (stars seen : Nat) (p x : List Nat) : gen stars seen (leadP p ++ x) = leadP p ++ gen stars seen x := by
  unfold leadP
  repeat' split
  all_goals rfl
theorem nz_of_count {l : List (List Nat)} (h : (l.map (·.count 42)).sum ≠ 0) : l.filter nz ≠ [] := by
  intro e
  apply h
  rw [← count_join, e]; rfl
theorem M3 (p : List Nat) : normP (tpc p) = tpc (thinP p) := by
  have hne := tpc_ne p
  rw [normP, if_neg hne]
  rw [← npGo_filter, root_names, npGo_filter]
  by_cases h0 : p.count 42 = 0
  · have eT : tpc (thinP p) = [46, 42] ++ gen 0 0 (thinP p) := by rw [tpc, count_thin, h0]; rfl
    have eP : tpc p = [46, 42] ++ gen 0 0 p := by rw [tpc, h0]; rfl
    have e1 : rootI (tpc p) = [] := by rw [eP]; rfl
    rw [e1, eT, eP]
    have e2 : spl 47 ([46, 42] ++ gen 0 0 p) = ([46, 42] ++ gen 0 0 (sHd 47 p)) :: gSegs 0 (0 + (sHd 47 p).count 42) (sTl 47 p) := by
      rw [spl, sHd_free 47 _ _ (by decide), sTl_free 47 _ _ (by decide), sHd_gen, sTl_gen]
    rw [e2, npGo_free _ _ _ (by
      intro c hc
      rcases List.mem_cons.mp hc with rfl | hc
      · right; simp
      · exact free_gSegs _ _ _ c hc), List.filter_cons_of_pos (by simp [nz]), gSegs_nz, List.nil_append, List.nil_append, joinD, orDot_ne (by simp), List.append_assoc]
    congr 1
    have hc42 : p.contains 42 = false := by
      have : 42 ∉ p := List.count_eq_zero.mp h0
      simpa using this
    cases p with
    | nil => rfl
    | cons c r =>
      by_cases h : c = 47
      · subst h
        have e3 : sHd 47 (47 :: r) = [] := by simp [sHd]
        have e4 : (spl 47 (47 :: r)).filter nz = (sTl 47 (47 :: r)).filter nz := by rw [spl, e3, List.filter_cons_of_neg (by simp [nz])]
        rw [e3, thinP, leadT, e4, hc42]
        simp only [gen, List.nil_append, List.count_nil, Nat.add_zero, List.take_succ_cons, List.take_zero, true_and, Bool.false_eq_true, false_and, if_false]
        cases hN : (sTl 47 (47 :: r)).filter nz with
        | nil => simp [gSegs, joinD, gen]
        | cons s t =>
          rw [if_pos (by simp)]
          show _ = gen 0 0 (47 :: joinD 47 (s :: t))
          rw [gen_sep, gen_join, gSegs, joinD, List.flatMap_cons]
          rfl
      · have e3 : sHd 47 (c :: r) = c :: sHd 47 r := by rw [sHd, if_neg h]
        have e4 : (spl 47 (c :: r)).filter nz = sHd 47 (c :: r) :: (sTl 47 (c :: r)).filter nz := by rw [spl, List.filter_cons_of_pos (by rw [e3]; rfl)]
        have e5 : leadT (c :: r) = [] := by rw [leadT, if_neg (by simp [h])]
        rw [thinP, e5, e4, List.nil_append, gen_join, gSegs, joinD]
  · have eT : tpc (thinP p) = gen (p.count 42) 0 (thinP p) := by rw [tpc, count_thin, if_neg h0]; rfl
    have eP : tpc p = gen (p.count 42) 0 p := by rw [tpc, if_neg h0]; rfl
    rw [eT, eP, spl_gen, npGo_free _ _ _ (free_gSegs _ _ _), gSegs_nz, List.nil_append, lead_root, leadP_Q, leadQ_gen, ← leadP_Q]
    have hN : (spl 47 p).filter nz ≠ [] := nz_of_count (by
      have := count_spl p
      rw [spl, List.map_cons, List.sum_cons]; omega)
    have h42 : p.contains 42 = true := by
      have : 42 ∈ p := List.count_pos_iff.mp (Nat.pos_of_ne_zero h0)
      simpa using this
    have eL : leadT p = leadP p := by
      unfold leadT leadP
      simp only [h42, hN, ne_eq, not_false_eq_true, and_true, true_and]
    rw [thinP, eL, gen_lead, gen_join, orDot_ne]
    cases hs : (spl 47 p).filter nz with
    | nil => exact absurd hs hN
    | cons s t =>
      have : nz s = true := by
        have hm : s ∈ (spl 47 p).filter nz := by rw [hs]; exact .head _
        exact (List.mem_filter.mp hm).2
      rw [gSegs, joinD]
      have h2 : gen (p.count 42) 0 s ≠ [] := by
        intro e
        rw [gen_nil.mp e] at this
        cases this
      simp [h2]
end Mine
namespace Mine
theorem spl_flat (d : Nat) : ∀ r : List (List Nat), (∀ p ∈ r, d ∉ p) → sHd d (r.flatMap (d :: ·)) = [] ∧ sTl d (r.flatMap (d :: ·)) = r
  | [], _ => ⟨rfl, rfl⟩
  | p :: r, h => by
    obtain ⟨h1, h2⟩ := spl_flat d r (fun x hx => h x (.tail _ hx))
    have hp := h p (.head _)
    rw [List.flatMap_cons, List.cons_append]
    refine ⟨by simp [sHd], ?_⟩
    rw [sTl, if_pos rfl, sHd_free d _ _ hp, sTl_free d _ _ hp, h1, h2, List.append_nil]
theorem spl_join (d : Nat) {parts : List (List Nat)} (hne : parts ≠ []) (h : ∀ p ∈ parts, d ∉ p) : spl d (joinD d parts) = parts := by
  cases parts with
  | nil => exact absurd rfl hne
  | cons p r =>
    obtain ⟨h1, h2⟩ := spl_flat d r (fun x hx => h x (.tail _ hx))
    have hp := h p (.head _)
    rw [joinD, spl, sHd_free d _ _ hp, sTl_free d _ _ hp, h1, h2, List.append_nil]
theorem glued_S (d : Nat) (parts : List (List Nat)) : Builtin.Str.glued (S [d]) (parts.map S) = S (joinD d parts) := by
  apply Str.ext'
  apply Array.toList_inj.mp
  have key : ∀ (r : List (List Nat)) (a : Array Nat), ((r.map S).foldl (fun acc p => acc ++ (S [d]).cps ++ p.cps) a).toList = a.toList ++ r.flatMap (d :: ·) := by
    intro r
    induction r with
    | nil => intro a; simp
    | cons p r ih => intro a; rw [List.map_cons, List.foldl_cons, ih]; simp
  cases parts with
  | nil => rfl
  | cons p r =>
    unfold Builtin.Str.glued
    rw [List.map_cons, List.drop_succ_cons, List.drop_zero]
    show Array.toList _ = _
    rw [key]
    simp [joinD]
theorem join_S (d : Nat) : ∀ parts : List (List Nat), Str.join (S [d]) (parts.map S) = S (joinD d parts)
  | [] => rfl
  | [p] => by simp [Str.join, joinD]
  | p :: q :: r => by
    have ih := join_S d (q :: r)
    have e : Str.join (S [d]) ((p :: q :: r).map S) = S p ++ S [d] ++ Str.join (S [d]) ((q :: r).map S) := rfl
    rw [e, ih, S_append, S_append]
    simp [joinD]
theorem split_spl (l : List Nat) (d : Nat) : Txt.split (S l) (S [d]) = (spl d l).map S := by
  have h1 := StrLaws.join_split (S l) (S [d])
  have h2 := StrLaws.split_free (S l) d
  have e : Txt.split (S l) (S [d]) = ((Txt.split (S l) (S [d])).map (·.cps.toList)).map S := by
    rw [List.map_map]
    conv => lhs; rw [← List.map_id (Txt.split (S l) (S [d]))]
    apply List.map_congr_left
    intro x _
    exact S_of x
  have hne : (Txt.split (S l) (S [d])).map (·.cps.toList) ≠ [] := by
    have := split_pos (S l) (S [d])
    intro z
    have z2 := congrArg List.length z
    rw [List.length_map, List.length_nil] at z2
    omega
  rw [e, join_S] at h1
  have h3 := S_inj.mp h1
  have h4 : spl d l = (Txt.split (S l) (S [d])).map (·.cps.toList) := by
    conv => lhs; rw [← h3]
    refine spl_join d hne ?_
    intro p hp
    obtain ⟨x, hx, rfl⟩ := List.mem_map.mp hp
    exact h2 x hx
  rw [h4]
  exact e
/-- the parts of a pattern as translate_pattern lays them -/
noncomputable def wrapM (p : List Nat) : List Nat := [40, 63, 62, 46, 42, 63] ++ p ++ [41]
noncomputable def wrapL (p : List Nat) : List Nat := [46, 42] ++ p
/-- parts behind the first: all but the last wrapped, the last by a dot and a star -/
noncomputable def lay : List (List Nat) → List Nat
  | [] => []
  | [p] => wrapL p
  | p :: q :: r => wrapM p ++ lay (q :: r)
noncomputable def tpP (path : List Nat) : List Nat := match (spl 42 path).map (·.flatMap escS) with
  | [] => []
  | [p] => wrapL p
  | p :: q :: r => p ++ lay (q :: r)
theorem gen_plain (stars seen : Nat) : ∀ p : List Nat, 42 ∉ p → gen stars seen p = p.flatMap escS
  | [], _ => rfl
  | c :: r, h => by
    have hc : c ≠ 42 := fun e => h (by rw [e]; exact .head _)
    rw [gen, chunk, if_neg hc, if_neg hc, gen_plain stars seen r (fun e => h (.tail _ e)), List.flatMap_cons]
theorem sHd_no (d : Nat) : ∀ l : List Nat, d ∉ sHd d l
  | [] => by simp [sHd]
  | c :: r => by
    rw [sHd]
    split
    · simp
    · rename_i h
      simp only [List.mem_cons, not_or]
      exact ⟨fun e => h e.symm, sHd_no d r⟩
theorem spl_split (d : Nat) : ∀ l : List Nat, l = sHd d l ++ (sTl d l).flatMap (d :: ·)
  | [] => rfl
  | c :: r => by
    by_cases h : c = d
    · subst h
      simp only [sHd, sTl, if_true, List.nil_append, List.flatMap_cons, List.cons_append]
      rw [← spl_split c r]
    · rw [sHd, sTl, if_neg h, if_neg h, List.cons_append, ← spl_split d r]
theorem sTl_no (d : Nat) : ∀ (l : List Nat), ∀ p ∈ sTl d l, d ∉ p
  | [], p, h => by cases h
  | c :: r, p, h => by
    rw [sTl] at h
    split at h
    · rcases List.mem_cons.mp h with rfl | h
      · exact sHd_no d r
      · exact sTl_no d r p h
    · exact sTl_no d r p h
theorem count_flat42 : ∀ r : List (List Nat), (∀ p ∈ r, 42 ∉ p) → (r.flatMap (42 :: ·)).count 42 = r.length
  | [], _ => rfl
  | p :: r, h => by
    rw [List.flatMap_cons, List.count_append, count_flat42 r (fun x hx => h x (.tail _ hx)), List.count_cons, List.count_eq_zero.mpr (h p (.head _))]
    simp; omega
theorem gen_stars (stars : Nat) : ∀ (r : List (List Nat)) (seen : Nat), (∀ p ∈ r, 42 ∉ p) → 0 < seen → seen + r.length = stars → r ≠ [] →
    gen stars seen (r.flatMap (42 :: ·)) = [41] ++ lay (r.map (·.flatMap escS))
  | [], _, _, _, _, h => absurd rfl h
  | [p], seen, h, h0, hs, _ => by
    rw [List.flatMap_cons, List.flatMap_nil, List.append_nil, gen, if_pos rfl, gen_plain _ _ _ (h p (.head _)), chunk, if_pos rfl, if_pos h0, if_pos (by simpa using hs)]
    simp [lay, wrapL]
  | p :: q :: r, seen, h, h0, hs, _ => by
    have ih := gen_stars stars (q :: r) (seen + 1) (fun x hx => h x (.tail _ hx)) (by omega) (by simp only [List.length_cons] at hs ⊢; omega) (by simp)
    rw [List.flatMap_cons, List.cons_append, gen, if_pos rfl, gen_append, gen_plain _ _ _ (h p (.head _)), List.count_eq_zero.mpr (h p (.head _)), Nat.add_zero, ih, chunk, if_pos rfl, if_pos h0, if_neg (by simp only [List.length_cons] at hs; omega)]
    simp [lay, wrapM]
/-- what translate_pattern lays is the pattern sign by sign -/
theorem tpP_tpc (path : List Nat) : tpP path = tpc path := by
  have hp := spl_split 42 path
  have hH := sHd_no 42 path
  have hT := sTl_no 42 path
  have hcnt : path.count 42 = (sTl 42 path).length := by
    conv => lhs; rw [hp]
    rw [List.count_append, List.count_eq_zero.mpr hH, count_flat42 _ hT, Nat.zero_add]
  unfold tpP tpc
  rw [spl, hcnt]
  cases hr : sTl 42 path with
  | nil =>
    rw [hr] at hp
    simp only [List.map_cons, List.map_nil, List.length_nil, if_true]
    have e : sHd 42 path = path := by
      have : path = sHd 42 path := by simpa using hp
      exact this.symm
    rw [e] at hH ⊢
    rw [gen_plain _ _ _ hH]
    rfl
  | cons q r =>
    rw [hr] at hp hT
    simp only [List.map_cons, List.length_cons]
    rw [if_neg (by omega), List.nil_append]
    conv => rhs; rw [hp]
    rw [gen_append, gen_plain _ _ _ hH, List.count_eq_zero.mpr hH]
    congr 1
    rw [List.flatMap_cons, List.cons_append, gen, if_pos rfl, gen_append, gen_plain _ _ _ (hT q (.head _)), List.count_eq_zero.mpr (hT q (.head _)), chunk, if_pos rfl, if_neg (by omega)]
    cases r with
    | nil => simp [lay, wrapL, gen]
    | cons q2 r2 =>
      rw [gen_stars ((q2 :: r2).length + 1) (q2 :: r2) (0 + 0 + 1 + 0) (fun x hx => hT x (.tail _ hx)) (by decide) (Nat.add_comm _ _) (by simp), if_neg (by simp)]
      simp [lay, wrapM]
end Mine
namespace Mine
theorem sHd_sub (d : Nat) : ∀ (p : List Nat), (∀ x ∈ sHd d p, x ∈ p) ∧ (sHd d p).length ≤ p.length
  | [] => by simp [sHd]
  | c :: r => by
    obtain ⟨h1, h2⟩ := sHd_sub d r
    rw [sHd]
    split
    · simp
    · refine ⟨fun x hx => ?_, by simp only [List.length_cons]; omega⟩
      rcases List.mem_cons.mp hx with rfl | hx
      · exact .head _
      · exact .tail _ (h1 x hx)
theorem sTl_sub (d : Nat) : ∀ (p : List Nat), (∀ l ∈ sTl d p, (∀ x ∈ l, x ∈ p) ∧ l.length ≤ p.length) ∧ (sTl d p).length ≤ p.length
  | [] => by simp [sTl]
  | c :: r => by
    obtain ⟨h1, h2⟩ := sTl_sub d r
    obtain ⟨h3, h4⟩ := sHd_sub d r
    have up : ∀ l ∈ sTl d r, (∀ x ∈ l, x ∈ c :: r) ∧ l.length ≤ (c :: r).length := fun l hl => ⟨fun x hx => .tail _ ((h1 l hl).1 x hx), by have := (h1 l hl).2; simp only [List.length_cons]; omega⟩
    rw [sTl]
    split
    · refine ⟨fun l hl => ?_, by simp only [List.length_cons]; omega⟩
      rcases List.mem_cons.mp hl with rfl | hl
      · exact ⟨fun x hx => .tail _ (h3 x hx), by simp only [List.length_cons]; omega⟩
      · exact up l hl
    · exact ⟨up, by simp only [List.length_cons]; omega⟩
theorem spl_sub (d : Nat) (p : List Nat) : (∀ l ∈ spl d p, (∀ x ∈ l, x ∈ p) ∧ l.length ≤ p.length) ∧ (spl d p).length ≤ p.length + 1 := by
  obtain ⟨h1, h2⟩ := sTl_sub d p
  refine ⟨fun l hl => ?_, by rw [spl, List.length_cons]; omega⟩
  rcases List.mem_cons.mp hl with rfl | hl
  · exact sHd_sub d p
  · exact h1 l hl
end Mine
namespace Mine
noncomputable def laid (ps : List (List Nat)) (i : Nat) : List (List Nat) := ps.take 1 ++ ((ps.drop 1).take i).map wrapM ++ ps.drop (1 + i)
theorem laid_zero (ps : List (List Nat)) : laid ps 0 = ps := by cases ps <;> simp [laid]
end Mine
namespace MineF
theorem fillPW_of0083_01_holds : (PySem.Challenge.rw_of0083_01.Holds → Mine.KK = Mine.KK → True) := by
  k_fill
  intros; trivial
end MineF
namespace Mine
theorem lkc (y a : Str) (v : Value) (l : List (Str × Value)) : List.lookup y ((a, v) :: l) = if y = a then some v else List.lookup y l := by
  rw [List.lookup_cons]
  by_cases h : y = a
  · subst h; simp
  · have : (y == a) = false := by simp [h]
    rw [this, if_neg h]

noncomputable def stV (o : Option Nat) (t : Tok) : Value := match o with
  | none => .none
  | some c => .str (S [c]) t
noncomputable def DE (w : World) (n : String) (k : Tok) (v : Value) : DictEntry := ⟨PyData.keyHash w.params (Str.ofString n), .str (Str.ofString n) k, v⟩
noncomputable def shD (w : World) (k v : Nat → Tok) (io pb fs : Nat) (wl : List Nat) (st : Option Nat) (ts : Tok) (tok : List Nat) (tt : Tok) : List DictEntry :=
  [DE w "instream" (k 0) (.ref io),
   DE w "infile" (k 1) (.none),
   DE w "posix" (k 2) (.bool true),
   DE w "eof" (k 3) (.none),
   DE w "commenters" (k 4) (.str (S []) (v 4)),
   DE w "wordchars" (k 5) (.str (S wl) (v 5)),
   DE w "whitespace" (k 6) (.str (S wsL) (v 6)),
   DE w "whitespace_split" (k 7) (.bool true),
   DE w "quotes" (k 8) (.str (S quL) (v 8)),
   DE w "escape" (k 9) (.str (S esL) (v 9)),
   DE w "escapedquotes" (k 10) (.str (S eqL) (v 10)),
   DE w "state" (k 11) (stV st ts),
   DE w "pushback" (k 12) (.ref pb),
   DE w "lineno" (k 13) (.int 1 (v 13)),
   DE w "debug" (k 14) (.int 0 (v 14)),
   DE w "token" (k 15) (.str (S tok) tt),
   DE w "filestack" (k 16) (.ref fs),
   DE w "source" (k 17) (.none),
   DE w "_punctuation_chars" (k 18) (.str (S []) (v 18))]
noncomputable def ioD (w : World) (k v : Nat → Tok) (b : List Nat) (p : Nat) (tp : Tok) : List DictEntry :=
  [DE w "_StringIO__newline" (k 0) (.str (S [10]) (v 0)), DE w "_StringIO__buf" (k 1) (.str (S b) (v 1)), DE w "_StringIO__pos" (k 2) (.int (p : Int) tp)]
structure AttrOf (w : World) (C : Nat) (es : List DictEntry) (name : Str) (v : Value) : Prop where
  hf : findIn (KK w.params) (.ref C) name = some none
  hl : getL name es = some (some v)
  hv : handedIn v = true
structure PutOf (w : World) (C : Nat) (es : List DictEntry) (n : Nat) (name : Str) (v : Value) (es' : List DictEntry) : Prop where
  hl : (getL name es).isSome = true
  ht : takerIn (KK w.params) C name = some none
  hp : ∀ hsh key, putL name hsh key v es = es'
  hn : putN name es n = n
  hz : es'.length ≤ 1000
structure ClsOk (w : World) (C : Nat) : Prop where
  hg : ∀ name, plainGet (KK w.params) C name = true
  hh : hasDictIn (KK w.params) C = true
  hs : findIn (KK w.params) (.ref C) "__setattr__" = some (some (.builtin "object.__setattr__"))
  hp : plainOver (KK w.params) C = true
section
variable {w : World} {k v : Nat → Tok} {io pb fs : Nat} {wl : List Nat} {st : Option Nat} {ts tt : Tok} {tok b : List Nat} {c p : Nat} {t tp : Tok}
theorem cls741 : ClsOk w 741 := ⟨fun _ => (by k_is : plainGet (KK w.params) 741 (Str.ofString "a") = true), by k_is, by k_is, by k_is⟩
theorem cls606 : ClsOk w 606 := ⟨fun _ => (by k_is : plainGet (KK w.params) 606 (Str.ofString "a") = true), by k_is, by k_is, by k_is⟩
theorem shA_instream : AttrOf w 741 (shD w k v io pb fs wl st ts tok tt) (Str.ofString "instream") (.ref io) := ⟨by k_is, rfl, rfl⟩
theorem shA_infile : AttrOf w 741 (shD w k v io pb fs wl st ts tok tt) (Str.ofString "infile") (.none) := ⟨by k_is, rfl, rfl⟩
theorem shA_posix : AttrOf w 741 (shD w k v io pb fs wl st ts tok tt) (Str.ofString "posix") (.bool true) := ⟨by k_is, rfl, rfl⟩
theorem shA_eof : AttrOf w 741 (shD w k v io pb fs wl st ts tok tt) (Str.ofString "eof") (.none) := ⟨by k_is, rfl, rfl⟩
theorem shA_commenters : AttrOf w 741 (shD w k v io pb fs wl st ts tok tt) (Str.ofString "commenters") (.str (S []) (v 4)) := ⟨by k_is, rfl, rfl⟩
theorem shA_wordchars : AttrOf w 741 (shD w k v io pb fs wl st ts tok tt) (Str.ofString "wordchars") (.str (S wl) (v 5)) := ⟨by k_is, rfl, rfl⟩
theorem shA_whitespace : AttrOf w 741 (shD w k v io pb fs wl st ts tok tt) (Str.ofString "whitespace") (.str (S wsL) (v 6)) := ⟨by k_is, rfl, rfl⟩
theorem shA_whitespace_split : AttrOf w 741 (shD w k v io pb fs wl st ts tok tt) (Str.ofString "whitespace_split") (.bool true) := ⟨by k_is, rfl, rfl⟩
theorem shA_quotes : AttrOf w 741 (shD w k v io pb fs wl st ts tok tt) (Str.ofString "quotes") (.str (S quL) (v 8)) := ⟨by k_is, rfl, rfl⟩
theorem shA_escape : AttrOf w 741 (shD w k v io pb fs wl st ts tok tt) (Str.ofString "escape") (.str (S esL) (v 9)) := ⟨by k_is, rfl, rfl⟩
theorem shA_escapedquotes : AttrOf w 741 (shD w k v io pb fs wl st ts tok tt) (Str.ofString "escapedquotes") (.str (S eqL) (v 10)) := ⟨by k_is, rfl, rfl⟩
theorem shA_state1 : AttrOf w 741 (shD w k v io pb fs wl (some c) ts tok tt) (Str.ofString "state") (.str (S [c]) ts) := ⟨by k_is, rfl, rfl⟩
theorem shA_state0 : AttrOf w 741 (shD w k v io pb fs wl none ts tok tt) (Str.ofString "state") .none := ⟨by k_is, rfl, rfl⟩
theorem shA_pushback : AttrOf w 741 (shD w k v io pb fs wl st ts tok tt) (Str.ofString "pushback") (.ref pb) := ⟨by k_is, rfl, rfl⟩
theorem shA_lineno : AttrOf w 741 (shD w k v io pb fs wl st ts tok tt) (Str.ofString "lineno") (.int 1 (v 13)) := ⟨by k_is, rfl, rfl⟩
theorem shA_debug : AttrOf w 741 (shD w k v io pb fs wl st ts tok tt) (Str.ofString "debug") (.int 0 (v 14)) := ⟨by k_is, rfl, rfl⟩
theorem shA_token : AttrOf w 741 (shD w k v io pb fs wl st ts tok tt) (Str.ofString "token") (.str (S tok) tt) := ⟨by k_is, rfl, rfl⟩
theorem shA_filestack : AttrOf w 741 (shD w k v io pb fs wl st ts tok tt) (Str.ofString "filestack") (.ref fs) := ⟨by k_is, rfl, rfl⟩
theorem shA_source : AttrOf w 741 (shD w k v io pb fs wl st ts tok tt) (Str.ofString "source") (.none) := ⟨by k_is, rfl, rfl⟩
theorem shA__punctuation_chars : AttrOf w 741 (shD w k v io pb fs wl st ts tok tt) (Str.ofString "_punctuation_chars") (.str (S []) (v 18)) := ⟨by k_is, rfl, rfl⟩
theorem shP_state1 : PutOf w 741 (shD w k v io pb fs wl st ts tok tt) 19 (Str.ofString "state") (.str (S [c]) t) (shD w k v io pb fs wl (some c) t tok tt) := ⟨rfl, by k_is, fun _ _ => rfl, rfl, Nat.le_of_ble_eq_true rfl⟩
theorem shP_state0 : PutOf w 741 (shD w k v io pb fs wl st ts tok tt) 19 (Str.ofString "state") .none (shD w k v io pb fs wl none ts tok tt) := ⟨rfl, by k_is, fun _ _ => rfl, rfl, Nat.le_of_ble_eq_true rfl⟩
theorem shP_token : PutOf w 741 (shD w k v io pb fs wl st ts tok tt) 19 (Str.ofString "token") (.str (S b) t) (shD w k v io pb fs wl st ts b t) := ⟨rfl, by k_is, fun _ _ => rfl, rfl, Nat.le_of_ble_eq_true rfl⟩
theorem ioA_newline : AttrOf w 606 (ioD w k v b p tp) (Str.ofString "_StringIO__newline") (.str (S [10]) (v 0)) := ⟨by k_is, rfl, rfl⟩
theorem ioA_buf : AttrOf w 606 (ioD w k v b p tp) (Str.ofString "_StringIO__buf") (.str (S b) (v 1)) := ⟨by k_is, rfl, rfl⟩
theorem ioA_pos : AttrOf w 606 (ioD w k v b p tp) (Str.ofString "_StringIO__pos") (.int (p : Int) tp) := ⟨by k_is, rfl, rfl⟩
theorem ioP_pos : PutOf w 606 (ioD w k v b p tp) 3 (Str.ofString "_StringIO__pos") (.int (c : Int) t) (ioD w k v b c t) := ⟨rfl, by k_is, fun _ _ => rfl, rfl, Nat.le_of_ble_eq_true rfl⟩
end
section
variable {w : World} {A : Around} {E : Value → Shared → Prop} {s : Shared} {h₀ : Heap} {L : Addr} {m : Str → Option Value} {news pre : List (Addr × Obj)} {x dx C n : Nat} {es es' : List DictEntry} {name : Str} {v : Value} {expr : Bool}
theorem getA {Q : Value → Shared → Prop} (F : Fr h₀ L s.heap m) (X₀ : (KK w.params).In h₀) (N : News h₀ L s.heap news) (h1 : (x, instObj C dx) ∈ news) (h2 : (dx, dictOf es n) ∈ news) (hc : ClsOk w C) (ha : AttrOf w C es name v)
    (h : Q v { s with toks := s.toks + 1 }) : wpAny (model PG w) A (getAttr (.ref x) name expr) Q E s :=
  get_own F X₀ (InstAt.of_news N h1 h2) (hc.hg name) hc.hh ha.hf rfl ha.hl ha.hv h
theorem setA {Q : Unit → Shared → Prop} {news' : List (Addr × Obj)} (F : Fr h₀ L s.heap m) (X₀ : (KK w.params).In h₀) (N : News h₀ L s.heap news) (h1 : (x, instObj C dx) ∈ news) (h2 : (dx, dictOf es n) ∈ news) (hc : ClsOk w C) (hp : PutOf w C es n name v es')
    (U : Upd dx (dictOf es n) (dictOf es' n) news news')
    (h : ∀ h', Fr h₀ L h' m → News h₀ L h' news' → Q () { s with heap := h', toks := s.toks + 2 }) : wpAny (model PG w) A (setAttr (.ref x) name v) Q E s :=
  set_dict F X₀ N (InstAt.of_news N h1 h2) rfl hc.hs hc.hp hp.ht hc.hh hp.hl (by rw [hp.hp, hp.hn]) U hp.hz h
theorem selfA {nm sx : Str} {scope : Scope} {a : Addr} {cd : Value} {p1 p2 : Pos} {Q : Value → Shared → Prop} (F : Fr h₀ L s.heap m) (hm : m sx = some (.ref x)) (X₀ : (KK w.params).In h₀) (N : News h₀ L s.heap news) (h1 : (x, instObj C dx) ∈ news) (h2 : (dx, dictOf es n) ∈ news) (hc : ClsOk w C) (ha : AttrOf w C es name v)
    (h : Q v { s with toks := s.toks + 1 }) (hk : scope.kind = .function := by rfl) (hl : (envOf nm scope L a cd).kindOf sx = some .local := by rfl)
    (hd : (sx == ("__debug__" : Str)) = false := by decide) :
    wpAny (model PG w) A (eval (.Attribute (.Name sx p1) name p2) (envOf nm scope L a cd)) Q E s :=
  Attribute_name (ld F hm (getA F X₀ N h1 h2 hc ha h) hk hl hd)
end
end Mine
namespace Mine
noncomputable abbrev sc_rt : Scope := { kind := .function, names := [(Str.ofString "self", .local), (Str.ofString "quoted", .local), (Str.ofString "escapedstate", .local), (Str.ofString "nextchar", .local), (Str.ofString "result", .local), (Str.ofString "print", .globalImplicit), (Str.ofString "ValueError", .globalImplicit), (Str.ofString "repr", .globalImplicit)], isGenerator := false, isCoroutine := false }
noncomputable def mp_rt (o0 o1 o2 o3 o4 : Option Value) : Str → Option Value := fun y => if y = Str.ofString "self" then o0 else if y = Str.ofString "quoted" then o1 else if y = Str.ofString "escapedstate" then o2 else if y = Str.ofString "nextchar" then o3 else if y = Str.ofString "result" then o4 else none
section
variable {M : Model} {A : Around} {E : Value → Shared → Prop} {s : Shared} {L a : Addr} {cd : Value} {h₀ : Heap} {o0 o1 o2 o3 o4 : Option Value} {x : Value} {pos : Pos} {news : List (Addr × Obj)}
theorem ld_rt_self {Q : Value → Shared → Prop} (F : Fr h₀ L s.heap (mp_rt (some x) o1 o2 o3 o4)) (h : Q x s) : wpAny M A (eval (.Name (Str.ofString "self") pos) (envOf (Str.ofString "shlex.read_token") sc_rt L a cd)) Q E s := ld F rfl h
theorem mp_rt_self : (fun y => if y = Str.ofString "self" then some x else mp_rt o0 o1 o2 o3 o4 y) = mp_rt (some x) o1 o2 o3 o4 := by
  funext y
  unfold mp_rt
  by_cases h : y = Str.ofString "self"
  · subst h; rfl
  · simp only [if_neg h]
theorem st_rt_self {Q : Unit → Shared → Prop} (F : Fr h₀ L s.heap (mp_rt o0 o1 o2 o3 o4)) (N : News h₀ L s.heap news) (h : ∀ h', Fr h₀ L h' (mp_rt (some x) o1 o2 o3 o4) → News h₀ L h' news → Q () { s with heap := h', toks := s.toks + 1 }) : wpAny M A (storeName (envOf (Str.ofString "shlex.read_token") sc_rt L a cd) (Str.ofString "self") x) Q E s :=
  stN F N (fun h' F' N' => h h' (by rw [mp_rt_self] at F'; exact F') N')
theorem ld_rt_quoted {Q : Value → Shared → Prop} (F : Fr h₀ L s.heap (mp_rt o0 (some x) o2 o3 o4)) (h : Q x s) : wpAny M A (eval (.Name (Str.ofString "quoted") pos) (envOf (Str.ofString "shlex.read_token") sc_rt L a cd)) Q E s := ld F rfl h
theorem mp_rt_quoted : (fun y => if y = Str.ofString "quoted" then some x else mp_rt o0 o1 o2 o3 o4 y) = mp_rt o0 (some x) o2 o3 o4 := by
  funext y
  unfold mp_rt
  by_cases h : y = Str.ofString "quoted"
  · subst h; rfl
  · simp only [if_neg h]
theorem st_rt_quoted {Q : Unit → Shared → Prop} (F : Fr h₀ L s.heap (mp_rt o0 o1 o2 o3 o4)) (N : News h₀ L s.heap news) (h : ∀ h', Fr h₀ L h' (mp_rt o0 (some x) o2 o3 o4) → News h₀ L h' news → Q () { s with heap := h', toks := s.toks + 1 }) : wpAny M A (storeName (envOf (Str.ofString "shlex.read_token") sc_rt L a cd) (Str.ofString "quoted") x) Q E s :=
  stN F N (fun h' F' N' => h h' (by rw [mp_rt_quoted] at F'; exact F') N')
theorem ld_rt_escapedstate {Q : Value → Shared → Prop} (F : Fr h₀ L s.heap (mp_rt o0 o1 (some x) o3 o4)) (h : Q x s) : wpAny M A (eval (.Name (Str.ofString "escapedstate") pos) (envOf (Str.ofString "shlex.read_token") sc_rt L a cd)) Q E s := ld F rfl h
theorem mp_rt_escapedstate : (fun y => if y = Str.ofString "escapedstate" then some x else mp_rt o0 o1 o2 o3 o4 y) = mp_rt o0 o1 (some x) o3 o4 := by
  funext y
  unfold mp_rt
  by_cases h : y = Str.ofString "escapedstate"
  · subst h; rfl
  · simp only [if_neg h]
theorem st_rt_escapedstate {Q : Unit → Shared → Prop} (F : Fr h₀ L s.heap (mp_rt o0 o1 o2 o3 o4)) (N : News h₀ L s.heap news) (h : ∀ h', Fr h₀ L h' (mp_rt o0 o1 (some x) o3 o4) → News h₀ L h' news → Q () { s with heap := h', toks := s.toks + 1 }) : wpAny M A (storeName (envOf (Str.ofString "shlex.read_token") sc_rt L a cd) (Str.ofString "escapedstate") x) Q E s :=
  stN F N (fun h' F' N' => h h' (by rw [mp_rt_escapedstate] at F'; exact F') N')
theorem ld_rt_nextchar {Q : Value → Shared → Prop} (F : Fr h₀ L s.heap (mp_rt o0 o1 o2 (some x) o4)) (h : Q x s) : wpAny M A (eval (.Name (Str.ofString "nextchar") pos) (envOf (Str.ofString "shlex.read_token") sc_rt L a cd)) Q E s := ld F rfl h
theorem mp_rt_nextchar : (fun y => if y = Str.ofString "nextchar" then some x else mp_rt o0 o1 o2 o3 o4 y) = mp_rt o0 o1 o2 (some x) o4 := by
  funext y
  unfold mp_rt
  by_cases h : y = Str.ofString "nextchar"
  · subst h; rfl
  · simp only [if_neg h]
theorem st_rt_nextchar {Q : Unit → Shared → Prop} (F : Fr h₀ L s.heap (mp_rt o0 o1 o2 o3 o4)) (N : News h₀ L s.heap news) (h : ∀ h', Fr h₀ L h' (mp_rt o0 o1 o2 (some x) o4) → News h₀ L h' news → Q () { s with heap := h', toks := s.toks + 1 }) : wpAny M A (storeName (envOf (Str.ofString "shlex.read_token") sc_rt L a cd) (Str.ofString "nextchar") x) Q E s :=
  stN F N (fun h' F' N' => h h' (by rw [mp_rt_nextchar] at F'; exact F') N')
theorem ld_rt_result {Q : Value → Shared → Prop} (F : Fr h₀ L s.heap (mp_rt o0 o1 o2 o3 (some x))) (h : Q x s) : wpAny M A (eval (.Name (Str.ofString "result") pos) (envOf (Str.ofString "shlex.read_token") sc_rt L a cd)) Q E s := ld F rfl h
theorem mp_rt_result : (fun y => if y = Str.ofString "result" then some x else mp_rt o0 o1 o2 o3 o4 y) = mp_rt o0 o1 o2 o3 (some x) := by
  funext y
  unfold mp_rt
  by_cases h : y = Str.ofString "result"
  · subst h; rfl
  · simp only [if_neg h]
theorem st_rt_result {Q : Unit → Shared → Prop} (F : Fr h₀ L s.heap (mp_rt o0 o1 o2 o3 o4)) (N : News h₀ L s.heap news) (h : ∀ h', Fr h₀ L h' (mp_rt o0 o1 o2 o3 (some x)) → News h₀ L h' news → Q () { s with heap := h', toks := s.toks + 1 }) : wpAny M A (storeName (envOf (Str.ofString "shlex.read_token") sc_rt L a cd) (Str.ofString "result") x) Q E s :=
  stN F N (fun h' F' N' => h h' (by rw [mp_rt_result] at F'; exact F') N')
theorem self_rt {w : World} {C xx dx n : Nat} {es : List DictEntry} {name : Str} {v : Value} {p1 p2 : Pos} {Q : Value → Shared → Prop} (F : Fr h₀ L s.heap (mp_rt (some (.ref xx)) o1 o2 o3 o4)) (X₀ : (KK w.params).In h₀) (N : News h₀ L s.heap news) (h1 : (xx, instObj C dx) ∈ news) (h2 : (dx, dictOf es n) ∈ news) (hc : ClsOk w C) (ha : AttrOf w C es name v) (h : Q v { s with toks := s.toks + 1 }) : wpAny (model PG w) A (eval (.Attribute (.Name (Str.ofString "self") p1) name p2) (envOf (Str.ofString "shlex.read_token") sc_rt L a cd)) Q E s := selfA F rfl X₀ N h1 h2 hc ha h
end
end Mine
namespace Mine
theorem en_rt {x0 : Value} : (fun y => List.lookup y [(Str.ofString "self", x0)]) = mp_rt (some x0) none none none none := by
  funext y
  unfold mp_rt
  simp only [lkc, List.lookup_nil]
  by_cases h0 : y = Str.ofString "self"
  · subst h0; rfl
  simp only [if_neg h0, ite_self]
end Mine
namespace Mine
noncomputable abbrev sc_rd : Scope := { kind := .function, names := [(Str.ofString "self", .local), (Str.ofString "size", .local), (Str.ofString "start", .local), (Str.ofString "stop", .local), (Str.ofString "_index", .globalImplicit), (Str.ofString "len", .globalImplicit)], isGenerator := false, isCoroutine := false }
noncomputable def mp_rd (o0 o1 o2 o3 : Option Value) : Str → Option Value := fun y => if y = Str.ofString "self" then o0 else if y = Str.ofString "size" then o1 else if y = Str.ofString "start" then o2 else if y = Str.ofString "stop" then o3 else none
section
variable {M : Model} {A : Around} {E : Value → Shared → Prop} {s : Shared} {L a : Addr} {cd : Value} {h₀ : Heap} {o0 o1 o2 o3 : Option Value} {x : Value} {pos : Pos} {news : List (Addr × Obj)}
theorem ld_rd_self {Q : Value → Shared → Prop} (F : Fr h₀ L s.heap (mp_rd (some x) o1 o2 o3)) (h : Q x s) : wpAny M A (eval (.Name (Str.ofString "self") pos) (envOf (Str.ofString "StringIO.read") sc_rd L a cd)) Q E s := ld F rfl h
theorem mp_rd_self : (fun y => if y = Str.ofString "self" then some x else mp_rd o0 o1 o2 o3 y) = mp_rd (some x) o1 o2 o3 := by
  funext y
  unfold mp_rd
  by_cases h : y = Str.ofString "self"
  · subst h; rfl
  · simp only [if_neg h]
theorem st_rd_self {Q : Unit → Shared → Prop} (F : Fr h₀ L s.heap (mp_rd o0 o1 o2 o3)) (N : News h₀ L s.heap news) (h : ∀ h', Fr h₀ L h' (mp_rd (some x) o1 o2 o3) → News h₀ L h' news → Q () { s with heap := h', toks := s.toks + 1 }) : wpAny M A (storeName (envOf (Str.ofString "StringIO.read") sc_rd L a cd) (Str.ofString "self") x) Q E s :=
  stN F N (fun h' F' N' => h h' (by rw [mp_rd_self] at F'; exact F') N')
theorem ld_rd_size {Q : Value → Shared → Prop} (F : Fr h₀ L s.heap (mp_rd o0 (some x) o2 o3)) (h : Q x s) : wpAny M A (eval (.Name (Str.ofString "size") pos) (envOf (Str.ofString "StringIO.read") sc_rd L a cd)) Q E s := ld F rfl h
theorem mp_rd_size : (fun y => if y = Str.ofString "size" then some x else mp_rd o0 o1 o2 o3 y) = mp_rd o0 (some x) o2 o3 := by
  funext y
  unfold mp_rd
  by_cases h : y = Str.ofString "size"
  · subst h; rfl
  · simp only [if_neg h]
theorem st_rd_size {Q : Unit → Shared → Prop} (F : Fr h₀ L s.heap (mp_rd o0 o1 o2 o3)) (N : News h₀ L s.heap news) (h : ∀ h', Fr h₀ L h' (mp_rd o0 (some x) o2 o3) → News h₀ L h' news → Q () { s with heap := h', toks := s.toks + 1 }) : wpAny M A (storeName (envOf (Str.ofString "StringIO.read") sc_rd L a cd) (Str.ofString "size") x) Q E s :=
  stN F N (fun h' F' N' => h h' (by rw [mp_rd_size] at F'; exact F') N')
theorem ld_rd_start {Q : Value → Shared → Prop} (F : Fr h₀ L s.heap (mp_rd o0 o1 (some x) o3)) (h : Q x s) : wpAny M A (eval (.Name (Str.ofString "start") pos) (envOf (Str.ofString "StringIO.read") sc_rd L a cd)) Q E s := ld F rfl h
theorem mp_rd_start : (fun y => if y = Str.ofString "start" then some x else mp_rd o0 o1 o2 o3 y) = mp_rd o0 o1 (some x) o3 := by
  funext y
  unfold mp_rd
  by_cases h : y = Str.ofString "start"
  · subst h; rfl
  · simp only [if_neg h]
theorem st_rd_start {Q : Unit → Shared → Prop} (F : Fr h₀ L s.heap (mp_rd o0 o1 o2 o3)) (N : News h₀ L s.heap news) (h : ∀ h', Fr h₀ L h' (mp_rd o0 o1 (some x) o3) → News h₀ L h' news → Q () { s with heap := h', toks := s.toks + 1 }) : wpAny M A (storeName (envOf (Str.ofString "StringIO.read") sc_rd L a cd) (Str.ofString "start") x) Q E s :=
  stN F N (fun h' F' N' => h h' (by rw [mp_rd_start] at F'; exact F') N')
theorem ld_rd_stop {Q : Value → Shared → Prop} (F : Fr h₀ L s.heap (mp_rd o0 o1 o2 (some x))) (h : Q x s) : wpAny M A (eval (.Name (Str.ofString "stop") pos) (envOf (Str.ofString "StringIO.read") sc_rd L a cd)) Q E s := ld F rfl h
theorem mp_rd_stop : (fun y => if y = Str.ofString "stop" then some x else mp_rd o0 o1 o2 o3 y) = mp_rd o0 o1 o2 (some x) := by
  funext y
  unfold mp_rd
  by_cases h : y = Str.ofString "stop"
  · subst h; rfl
  · simp only [if_neg h]
theorem st_rd_stop {Q : Unit → Shared → Prop} (F : Fr h₀ L s.heap (mp_rd o0 o1 o2 o3)) (N : News h₀ L s.heap news) (h : ∀ h', Fr h₀ L h' (mp_rd o0 o1 o2 (some x)) → News h₀ L h' news → Q () { s with heap := h', toks := s.toks + 1 }) : wpAny M A (storeName (envOf (Str.ofString "StringIO.read") sc_rd L a cd) (Str.ofString "stop") x) Q E s :=
  stN F N (fun h' F' N' => h h' (by rw [mp_rd_stop] at F'; exact F') N')
theorem self_rd {w : World} {C xx dx n : Nat} {es : List DictEntry} {name : Str} {v : Value} {p1 p2 : Pos} {Q : Value → Shared → Prop} (F : Fr h₀ L s.heap (mp_rd (some (.ref xx)) o1 o2 o3)) (X₀ : (KK w.params).In h₀) (N : News h₀ L s.heap news) (h1 : (xx, instObj C dx) ∈ news) (h2 : (dx, dictOf es n) ∈ news) (hc : ClsOk w C) (ha : AttrOf w C es name v) (h : Q v { s with toks := s.toks + 1 }) : wpAny (model PG w) A (eval (.Attribute (.Name (Str.ofString "self") p1) name p2) (envOf (Str.ofString "StringIO.read") sc_rd L a cd)) Q E s := selfA F rfl X₀ N h1 h2 hc ha h
end
end Mine
namespace Mine
theorem en_rd {x0 x1 : Value} : (fun y => List.lookup y [(Str.ofString "size", x1), (Str.ofString "self", x0)]) = mp_rd (some x0) (some x1) none none := by
  funext y
  unfold mp_rd
  simp only [lkc, List.lookup_nil]
  by_cases h0 : y = Str.ofString "self"
  · subst h0; rfl
  by_cases h1 : y = Str.ofString "size"
  · subst h1; rfl
  simp only [if_neg h0, if_neg h1, ite_self]
end Mine
namespace Mine
noncomputable abbrev sc_gt : Scope := { kind := .function, names := [(Str.ofString "self", .local), (Str.ofString "tok", .local), (Str.ofString "raw", .local), (Str.ofString "spec", .local), (Str.ofString "newfile", .local), (Str.ofString "newstream", .local), (Str.ofString "print", .globalImplicit), (Str.ofString "repr", .globalImplicit)], isGenerator := false, isCoroutine := false }
noncomputable def mp_gt (o0 o1 o2 o3 o4 o5 : Option Value) : Str → Option Value := fun y => if y = Str.ofString "self" then o0 else if y = Str.ofString "tok" then o1 else if y = Str.ofString "raw" then o2 else if y = Str.ofString "spec" then o3 else if y = Str.ofString "newfile" then o4 else if y = Str.ofString "newstream" then o5 else none
section
variable {M : Model} {A : Around} {E : Value → Shared → Prop} {s : Shared} {L a : Addr} {cd : Value} {h₀ : Heap} {o0 o1 o2 o3 o4 o5 : Option Value} {x : Value} {pos : Pos} {news : List (Addr × Obj)}
theorem ld_gt_self {Q : Value → Shared → Prop} (F : Fr h₀ L s.heap (mp_gt (some x) o1 o2 o3 o4 o5)) (h : Q x s) : wpAny M A (eval (.Name (Str.ofString "self") pos) (envOf (Str.ofString "shlex.get_token") sc_gt L a cd)) Q E s := ld F rfl h
theorem mp_gt_self : (fun y => if y = Str.ofString "self" then some x else mp_gt o0 o1 o2 o3 o4 o5 y) = mp_gt (some x) o1 o2 o3 o4 o5 := by
  funext y
  unfold mp_gt
  by_cases h : y = Str.ofString "self"
  · subst h; rfl
  · simp only [if_neg h]
theorem st_gt_self {Q : Unit → Shared → Prop} (F : Fr h₀ L s.heap (mp_gt o0 o1 o2 o3 o4 o5)) (N : News h₀ L s.heap news) (h : ∀ h', Fr h₀ L h' (mp_gt (some x) o1 o2 o3 o4 o5) → News h₀ L h' news → Q () { s with heap := h', toks := s.toks + 1 }) : wpAny M A (storeName (envOf (Str.ofString "shlex.get_token") sc_gt L a cd) (Str.ofString "self") x) Q E s :=
  stN F N (fun h' F' N' => h h' (by rw [mp_gt_self] at F'; exact F') N')
theorem ld_gt_tok {Q : Value → Shared → Prop} (F : Fr h₀ L s.heap (mp_gt o0 (some x) o2 o3 o4 o5)) (h : Q x s) : wpAny M A (eval (.Name (Str.ofString "tok") pos) (envOf (Str.ofString "shlex.get_token") sc_gt L a cd)) Q E s := ld F rfl h
theorem mp_gt_tok : (fun y => if y = Str.ofString "tok" then some x else mp_gt o0 o1 o2 o3 o4 o5 y) = mp_gt o0 (some x) o2 o3 o4 o5 := by
  funext y
  unfold mp_gt
  by_cases h : y = Str.ofString "tok"
  · subst h; rfl
  · simp only [if_neg h]
theorem st_gt_tok {Q : Unit → Shared → Prop} (F : Fr h₀ L s.heap (mp_gt o0 o1 o2 o3 o4 o5)) (N : News h₀ L s.heap news) (h : ∀ h', Fr h₀ L h' (mp_gt o0 (some x) o2 o3 o4 o5) → News h₀ L h' news → Q () { s with heap := h', toks := s.toks + 1 }) : wpAny M A (storeName (envOf (Str.ofString "shlex.get_token") sc_gt L a cd) (Str.ofString "tok") x) Q E s :=
  stN F N (fun h' F' N' => h h' (by rw [mp_gt_tok] at F'; exact F') N')
theorem ld_gt_raw {Q : Value → Shared → Prop} (F : Fr h₀ L s.heap (mp_gt o0 o1 (some x) o3 o4 o5)) (h : Q x s) : wpAny M A (eval (.Name (Str.ofString "raw") pos) (envOf (Str.ofString "shlex.get_token") sc_gt L a cd)) Q E s := ld F rfl h
theorem mp_gt_raw : (fun y => if y = Str.ofString "raw" then some x else mp_gt o0 o1 o2 o3 o4 o5 y) = mp_gt o0 o1 (some x) o3 o4 o5 := by
  funext y
  unfold mp_gt
  by_cases h : y = Str.ofString "raw"
  · subst h; rfl
  · simp only [if_neg h]
theorem st_gt_raw {Q : Unit → Shared → Prop} (F : Fr h₀ L s.heap (mp_gt o0 o1 o2 o3 o4 o5)) (N : News h₀ L s.heap news) (h : ∀ h', Fr h₀ L h' (mp_gt o0 o1 (some x) o3 o4 o5) → News h₀ L h' news → Q () { s with heap := h', toks := s.toks + 1 }) : wpAny M A (storeName (envOf (Str.ofString "shlex.get_token") sc_gt L a cd) (Str.ofString "raw") x) Q E s :=
  stN F N (fun h' F' N' => h h' (by rw [mp_gt_raw] at F'; exact F') N')
theorem ld_gt_spec {Q : Value → Shared → Prop} (F : Fr h₀ L s.heap (mp_gt o0 o1 o2 (some x) o4 o5)) (h : Q x s) : wpAny M A (eval (.Name (Str.ofString "spec") pos) (envOf (Str.ofString "shlex.get_token") sc_gt L a cd)) Q E s := ld F rfl h
theorem mp_gt_spec : (fun y => if y = Str.ofString "spec" then some x else mp_gt o0 o1 o2 o3 o4 o5 y) = mp_gt o0 o1 o2 (some x) o4 o5 := by
  funext y
  unfold mp_gt
  by_cases h : y = Str.ofString "spec"
  · subst h; rfl
  · simp only [if_neg h]
theorem st_gt_spec {Q : Unit → Shared → Prop} (F : Fr h₀ L s.heap (mp_gt o0 o1 o2 o3 o4 o5)) (N : News h₀ L s.heap news) (h : ∀ h', Fr h₀ L h' (mp_gt o0 o1 o2 (some x) o4 o5) → News h₀ L h' news → Q () { s with heap := h', toks := s.toks + 1 }) : wpAny M A (storeName (envOf (Str.ofString "shlex.get_token") sc_gt L a cd) (Str.ofString "spec") x) Q E s :=
  stN F N (fun h' F' N' => h h' (by rw [mp_gt_spec] at F'; exact F') N')
theorem ld_gt_newfile {Q : Value → Shared → Prop} (F : Fr h₀ L s.heap (mp_gt o0 o1 o2 o3 (some x) o5)) (h : Q x s) : wpAny M A (eval (.Name (Str.ofString "newfile") pos) (envOf (Str.ofString "shlex.get_token") sc_gt L a cd)) Q E s := ld F rfl h
theorem mp_gt_newfile : (fun y => if y = Str.ofString "newfile" then some x else mp_gt o0 o1 o2 o3 o4 o5 y) = mp_gt o0 o1 o2 o3 (some x) o5 := by
  funext y
  unfold mp_gt
  by_cases h : y = Str.ofString "newfile"
  · subst h; rfl
  · simp only [if_neg h]
theorem st_gt_newfile {Q : Unit → Shared → Prop} (F : Fr h₀ L s.heap (mp_gt o0 o1 o2 o3 o4 o5)) (N : News h₀ L s.heap news) (h : ∀ h', Fr h₀ L h' (mp_gt o0 o1 o2 o3 (some x) o5) → News h₀ L h' news → Q () { s with heap := h', toks := s.toks + 1 }) : wpAny M A (storeName (envOf (Str.ofString "shlex.get_token") sc_gt L a cd) (Str.ofString "newfile") x) Q E s :=
  stN F N (fun h' F' N' => h h' (by rw [mp_gt_newfile] at F'; exact F') N')
theorem ld_gt_newstream {Q : Value → Shared → Prop} (F : Fr h₀ L s.heap (mp_gt o0 o1 o2 o3 o4 (some x))) (h : Q x s) : wpAny M A (eval (.Name (Str.ofString "newstream") pos) (envOf (Str.ofString "shlex.get_token") sc_gt L a cd)) Q E s := ld F rfl h
theorem mp_gt_newstream : (fun y => if y = Str.ofString "newstream" then some x else mp_gt o0 o1 o2 o3 o4 o5 y) = mp_gt o0 o1 o2 o3 o4 (some x) := by
  funext y
  unfold mp_gt
  by_cases h : y = Str.ofString "newstream"
  · subst h; rfl
  · simp only [if_neg h]
theorem st_gt_newstream {Q : Unit → Shared → Prop} (F : Fr h₀ L s.heap (mp_gt o0 o1 o2 o3 o4 o5)) (N : News h₀ L s.heap news) (h : ∀ h', Fr h₀ L h' (mp_gt o0 o1 o2 o3 o4 (some x)) → News h₀ L h' news → Q () { s with heap := h', toks := s.toks + 1 }) : wpAny M A (storeName (envOf (Str.ofString "shlex.get_token") sc_gt L a cd) (Str.ofString "newstream") x) Q E s :=
  stN F N (fun h' F' N' => h h' (by rw [mp_gt_newstream] at F'; exact F') N')
theorem self_gt {w : World} {C xx dx n : Nat} {es : List DictEntry} {name : Str} {v : Value} {p1 p2 : Pos} {Q : Value → Shared → Prop} (F : Fr h₀ L s.heap (mp_gt (some (.ref xx)) o1 o2 o3 o4 o5)) (X₀ : (KK w.params).In h₀) (N : News h₀ L s.heap news) (h1 : (xx, instObj C dx) ∈ news) (h2 : (dx, dictOf es n) ∈ news) (hc : ClsOk w C) (ha : AttrOf w C es name v) (h : Q v { s with toks := s.toks + 1 }) : wpAny (model PG w) A (eval (.Attribute (.Name (Str.ofString "self") p1) name p2) (envOf (Str.ofString "shlex.get_token") sc_gt L a cd)) Q E s := selfA F rfl X₀ N h1 h2 hc ha h
end
end Mine
namespace Mine
theorem en_gt {x0 : Value} : (fun y => List.lookup y [(Str.ofString "self", x0)]) = mp_gt (some x0) none none none none none := by
  funext y
  unfold mp_gt
  simp only [lkc, List.lookup_nil]
  by_cases h0 : y = Str.ofString "self"
  · subst h0; rfl
  simp only [if_neg h0, ite_self]
end Mine
namespace Mine
noncomputable abbrev sc_it : Scope := { kind := .function, names := [(Str.ofString "self", .local)], isGenerator := false, isCoroutine := false }
noncomputable def mp_it (o0 : Option Value) : Str → Option Value := fun y => if y = Str.ofString "self" then o0 else none
section
variable {M : Model} {A : Around} {E : Value → Shared → Prop} {s : Shared} {L a : Addr} {cd : Value} {h₀ : Heap} {o0 : Option Value} {x : Value} {pos : Pos} {news : List (Addr × Obj)}
theorem ld_it_self {Q : Value → Shared → Prop} (F : Fr h₀ L s.heap (mp_it (some x))) (h : Q x s) : wpAny M A (eval (.Name (Str.ofString "self") pos) (envOf (Str.ofString "shlex.__iter__") sc_it L a cd)) Q E s := ld F rfl h
theorem mp_it_self : (fun y => if y = Str.ofString "self" then some x else mp_it o0 y) = mp_it (some x) := by
  funext y
  unfold mp_it
  by_cases h : y = Str.ofString "self"
  · subst h; rfl
  · simp only [if_neg h]
theorem st_it_self {Q : Unit → Shared → Prop} (F : Fr h₀ L s.heap (mp_it o0)) (N : News h₀ L s.heap news) (h : ∀ h', Fr h₀ L h' (mp_it (some x)) → News h₀ L h' news → Q () { s with heap := h', toks := s.toks + 1 }) : wpAny M A (storeName (envOf (Str.ofString "shlex.__iter__") sc_it L a cd) (Str.ofString "self") x) Q E s :=
  stN F N (fun h' F' N' => h h' (by rw [mp_it_self] at F'; exact F') N')
theorem self_it {w : World} {C xx dx n : Nat} {es : List DictEntry} {name : Str} {v : Value} {p1 p2 : Pos} {Q : Value → Shared → Prop} (F : Fr h₀ L s.heap (mp_it (some (.ref xx)) )) (X₀ : (KK w.params).In h₀) (N : News h₀ L s.heap news) (h1 : (xx, instObj C dx) ∈ news) (h2 : (dx, dictOf es n) ∈ news) (hc : ClsOk w C) (ha : AttrOf w C es name v) (h : Q v { s with toks := s.toks + 1 }) : wpAny (model PG w) A (eval (.Attribute (.Name (Str.ofString "self") p1) name p2) (envOf (Str.ofString "shlex.__iter__") sc_it L a cd)) Q E s := selfA F rfl X₀ N h1 h2 hc ha h
end
end Mine
namespace Mine
theorem en_it {x0 : Value} : (fun y => List.lookup y [(Str.ofString "self", x0)]) = mp_it (some x0) := by
  funext y
  unfold mp_it
  simp only [lkc, List.lookup_nil]
end Mine
namespace Mine
noncomputable abbrev sc_nx : Scope := { kind := .function, names := [(Str.ofString "self", .local), (Str.ofString "token", .local), (Str.ofString "StopIteration", .globalImplicit)], isGenerator := false, isCoroutine := false }
noncomputable def mp_nx (o0 o1 : Option Value) : Str → Option Value := fun y => if y = Str.ofString "self" then o0 else if y = Str.ofString "token" then o1 else none
section
variable {M : Model} {A : Around} {E : Value → Shared → Prop} {s : Shared} {L a : Addr} {cd : Value} {h₀ : Heap} {o0 o1 : Option Value} {x : Value} {pos : Pos} {news : List (Addr × Obj)}
theorem ld_nx_self {Q : Value → Shared → Prop} (F : Fr h₀ L s.heap (mp_nx (some x) o1)) (h : Q x s) : wpAny M A (eval (.Name (Str.ofString "self") pos) (envOf (Str.ofString "shlex.__next__") sc_nx L a cd)) Q E s := ld F rfl h
theorem mp_nx_self : (fun y => if y = Str.ofString "self" then some x else mp_nx o0 o1 y) = mp_nx (some x) o1 := by
  funext y
  unfold mp_nx
  by_cases h : y = Str.ofString "self"
  · subst h; rfl
  · simp only [if_neg h]
theorem st_nx_self {Q : Unit → Shared → Prop} (F : Fr h₀ L s.heap (mp_nx o0 o1)) (N : News h₀ L s.heap news) (h : ∀ h', Fr h₀ L h' (mp_nx (some x) o1) → News h₀ L h' news → Q () { s with heap := h', toks := s.toks + 1 }) : wpAny M A (storeName (envOf (Str.ofString "shlex.__next__") sc_nx L a cd) (Str.ofString "self") x) Q E s :=
  stN F N (fun h' F' N' => h h' (by rw [mp_nx_self] at F'; exact F') N')
theorem ld_nx_token {Q : Value → Shared → Prop} (F : Fr h₀ L s.heap (mp_nx o0 (some x))) (h : Q x s) : wpAny M A (eval (.Name (Str.ofString "token") pos) (envOf (Str.ofString "shlex.__next__") sc_nx L a cd)) Q E s := ld F rfl h
theorem mp_nx_token : (fun y => if y = Str.ofString "token" then some x else mp_nx o0 o1 y) = mp_nx o0 (some x) := by
  funext y
  unfold mp_nx
  by_cases h : y = Str.ofString "token"
  · subst h; rfl
  · simp only [if_neg h]
theorem st_nx_token {Q : Unit → Shared → Prop} (F : Fr h₀ L s.heap (mp_nx o0 o1)) (N : News h₀ L s.heap news) (h : ∀ h', Fr h₀ L h' (mp_nx o0 (some x)) → News h₀ L h' news → Q () { s with heap := h', toks := s.toks + 1 }) : wpAny M A (storeName (envOf (Str.ofString "shlex.__next__") sc_nx L a cd) (Str.ofString "token") x) Q E s :=
  stN F N (fun h' F' N' => h h' (by rw [mp_nx_token] at F'; exact F') N')
theorem self_nx {w : World} {C xx dx n : Nat} {es : List DictEntry} {name : Str} {v : Value} {p1 p2 : Pos} {Q : Value → Shared → Prop} (F : Fr h₀ L s.heap (mp_nx (some (.ref xx)) o1)) (X₀ : (KK w.params).In h₀) (N : News h₀ L s.heap news) (h1 : (xx, instObj C dx) ∈ news) (h2 : (dx, dictOf es n) ∈ news) (hc : ClsOk w C) (ha : AttrOf w C es name v) (h : Q v { s with toks := s.toks + 1 }) : wpAny (model PG w) A (eval (.Attribute (.Name (Str.ofString "self") p1) name p2) (envOf (Str.ofString "shlex.__next__") sc_nx L a cd)) Q E s := selfA F rfl X₀ N h1 h2 hc ha h
end
end Mine
namespace Mine
theorem en_nx {x0 : Value} : (fun y => List.lookup y [(Str.ofString "self", x0)]) = mp_nx (some x0) none := by
  funext y
  unfold mp_nx
  simp only [lkc, List.lookup_nil]
  by_cases h0 : y = Str.ofString "self"
  · subst h0; rfl
  simp only [if_neg h0, ite_self]
end Mine
namespace Mine
noncomputable abbrev dqO : Obj := { cls := .type "collections.deque", data := .fields #[.none, rawInt 0] }
theorem dq_nobool : typeLookup (.type "collections.deque") "__bool__" = pure none := by rw [typeLookup_type, builtinLookup_eq_fast]; kernel_rfl
theorem dq_slot_len : Slot "collections.deque" "__len__" "collections.deque.__len__" :=
  .of (owner := "collections.deque") (n := "__len__") (by rw [typeLookup_type, builtinLookup_eq_fast]; kernel_rfl) (by decide +kernel) (by decide +kernel) (by decide +kernel)
    (by first | exact .inl (by decide +kernel) | exact .inr (by decide +kernel)) (by rw [isSubtype_type]; kernel_rfl)
theorem dq_entry_len : entryFor table "collections.deque.__len__" = some Builtin.«collections.deque.__len__» := by first | exact entryFor_of_fast (by kernel_rfl) | exact entryFor_of_tree (by kernel_rfl)
theorem dq_args_len (a : Value) : argsOk "collections.deque.__len__" ⟨[a], []⟩ := by unfold argsOk; kernel_rfl
section
variable {prog : Program} {w : World} {A : Around} {E : Value → Shared → Prop} {s : Shared}
theorem truthy_dq {d : Addr} {Q : Bool → Shared → Prop} (ho : s.heap.get? d = some dqO) (h : ∀ k, Q false { s with toks := k }) : wpAny (model prog w) A (truthy (.ref d)) Q E s := by
  have hT : s.TypeIs (.ref d) "collections.deque" := (show ∃ o, s.heap.get? d = some o ∧ o.cls = .type "collections.deque" from ⟨_, ho, rfl⟩)
  have body : wpAny (model prog w) A.in1 (Builtin.«len» ⟨[.ref d], []⟩) (fun fin s' => ∃ r, fin = .done (.ret r) ∧ (r = .int 0 (s.toks + 1) ∧ Q false s')) E s := by
    unfold Builtin.«len»
    refine wpAny_bind (m := oneArg "len" _) (wpAny_pure ?_)
    refine wpAny_bind (m := callSpecial? (.ref d) (Str.ofString "__len__")) (wpAny_callSpecial?_slot (name := Str.ofString "__len__") hT dq_slot_len
      (wpAny_call_entry dq_slot_len hT dq_entry_len ?_ (dq_args_len _)))
    show wpAny _ _ (do retInt (← Builtin.Deque.size (.ref d))) _ _ s
    unfold Builtin.Deque.size fieldsOf
    refine wpAny_bind (wpAny_bind (wpAny_bind (wpAny_load ho (wpAny_pure (wpAny_pure ?_)))))
    refine wpAny_bind (wpAny_mkInt (wpAny_pure ⟨_, rfl, ?_⟩))
    refine wpAny_bind (wpAny_holding (wpAny_pure ?_))
    refine wpAny_bind (wpAny_letGo ?_)
    exact wpAny_bind (wpAny_mkInt (wpAny_pure ⟨_, rfl, rfl, h _⟩))
  have key : wpAny (model prog w) A (runValue (.builtin "len" ⟨[.ref d], []⟩)) (fun r s' => r = .int 0 (s.toks + 1) ∧ Q false s') E s := by
    refine wpAny_runValue (codeAny_builtin entry_len ?_)
    rw [Around.under_plainId plain_len _]
    exact wpAny_mono body (fun fin s' h' => by obtain ⟨r, rfl, hq⟩ := h'; exact hq) fun _ _ e => e
  unfold truthy
  first
    | refine wpAny_bind (wpAny_callSpecial?_none (name := Str.ofString "__bool__") hT dq_nobool ?_)
    | refine wpAny_bind (wpAny_pure (wpAny_bind (wpAny_callSpecial?_none (name := Str.ofString "__bool__") hT dq_nobool ?_)))
  first
    | refine wpAny_bind (wpAny_specialOf (name := Str.ofString "__len__") hT dq_slot_len.lookup ?_)
    | refine wpAny_bind (wpAny_pure (wpAny_bind (wpAny_specialOf (name := Str.ofString "__len__") hT dq_slot_len.lookup ?_)))
  first
    | exact wpAny_bind (wpAny_mono key (fun r s' h' => by obtain ⟨rfl, hq⟩ := h'; exact wpAny_pure hq) fun _ _ e => e)
    | exact wpAny_bind (wpAny_pure (wpAny_bind (wpAny_mono key (fun r s' h' => by obtain ⟨rfl, hq⟩ := h'; exact wpAny_pure hq) fun _ _ e => e)))
theorem truthy_dqN {d : Addr} {h₀ : Heap} {L : Addr} {news : List (Addr × Obj)} {Q : Bool → Shared → Prop} (N : News h₀ L s.heap news) (hm : (d, dqO) ∈ news) (h : ∀ k, Q false { s with toks := k }) : wpAny (model prog w) A (truthy (.ref d)) Q E s :=
  truthy_dq (N.get hm) h
end
end Mine
namespace Mine
theorem made606 {w : World} {h : Heap} (X : (KK w.params).In h) : Looks (model PG w) h (Bind.madeBy (.ref 606)) none := Looks.of_peek X (by kernel_rfl)
theorem here606 {w : World} {h : Heap} (X : (KK w.params).In h) : Looks (model PG w) h (Bind.madeHere "object.__new__" (.ref 606)) () := Looks.of_peek X (by kernel_rfl)
theorem News.cut2 {h₀ h : Heap} {L : Addr} {a b c d : Addr × Obj} {l : List (Addr × Obj)} (N : News h₀ L h (a :: b :: c :: d :: l)) : News h₀ L h (a :: b :: l) := fun q hq => N q (by
  rcases List.mem_cons.mp hq with rfl | hq
  · exact .head _
  · rcases List.mem_cons.mp hq with rfl | hq
    · exact .tail _ (.head _)
    · exact .tail _ (.tail _ (.tail _ (.tail _ hq))))
noncomputable def okCls (K : Frag) (C : Addr) : Bool := match K.lookup C with
  | some ⟨_, _, .cls cd, _⟩ => !cd.abstract && !cd.hasDel
  | _ => false
theorem ok606 {w : World} : okCls (KK w.params) 606 = true := by kernel_rfl
section
variable {w : World} {A : Around} {E Q : Value → Shared → Prop} {s : Shared} {h₀ : Heap} {L : Addr} {m : Str → Option Value} {news : List (Addr × Obj)}
theorem onew606 (F : Fr h₀ L s.heap m) (X₀ : (KK w.params).In h₀) (N : News h₀ L s.heap news)
    (h : ∀ (x dx : Nat) h', Fr h₀ L h' m → News h₀ L h' ((x, instObj 606 dx) :: (dx, dictOf [] 0) :: news) → (∀ p ∈ news, p.1 < dx) → dx < x → Q (.ref x) { s with heap := h' }) :
    wpAny (model PG w) A (call (.builtin "object.__new__") [.ref 606]) Q E s := by
  have X := X₀.keeps F.keep
  have ok := ok606 (w := w)
  unfold okCls at ok
  split at ok
  case h_2 => cases ok
  rename_i oc od cd sl ho
  simp only [Bool.and_eq_true, Bool.not_eq_true'] at ok
  obtain ⟨e1, e2⟩ := ok
  have hC := X _ _ ho
  have here := here606 (w := w) X
  obtain ⟨hh, g, d, t, os⟩ := s
  have hq := h _ hh.objs.size _ ((F.push emptyDict).push (instObj 606 hh.objs.size)) (by
    have := (N.push F emptyDict rfl).push (F.push _) (instObj 606 hh.objs.size) rfl
    rwa [Heap.size_push] at this) (fun p hp => Heap.lt_size (N p hp).1) (Nat.lt_succ_self _)
  have FO := PySem.F.objNew
  refine wpAny_call ?_
  refine codeAny_call_builtin_code (Code.quiet_builtin _ FO.quiet) ?_
  have chk : Looks (model PG w) hh (checkBuiltinCall "object.__new__" ⟨[.ref 606], []⟩) () := Looks.of_peek X (by kernel_rfl)
  have top : Looks (model PG w) hh (isType (.ref 606)) true := Looks.of_peek X (by kernel_rfl)
  refine chk.at ?_
  refine codeAny_builtin FO.entry ?_
  unfold Builtin.«object.__new__»
  have hC2 : ((hh.push { cls := Value.type "dict", data := Data.dict #[] }).push { cls := Value.ref 606, dict := some hh.objs.size }).get? 606 = some ⟨oc, od, .cls cd, sl⟩ := Heap.get?_push_of_some _ (Heap.get?_push_of_some _ hC)
  have hq' : Q (.ref (hh.push { cls := Value.type "dict", data := Data.dict #[] }).objs.size) ⟨(hh.push { cls := Value.type "dict", data := Data.dict #[] }).push { cls := Value.ref 606, dict := some hh.objs.size }, g, d, t, os⟩ := by
    rw [Heap.size_push]; exact hq
  repeat (first | simp only [e1, e2, Bool.false_eq_true, if_false] | exact hq' | lk)
end
end Mine
namespace Mine
theorem dq_mro : mroOf (.type "collections.deque") = pure [.type "collections.deque", .type "object"] := by rw [mroOf_type]; kernel_rfl
theorem dq_lookup_new : typeLookup (.type "collections.deque") "__new__" = pure (some (.builtin "collections.deque.__new__")) := by rw [typeLookup_type, builtinLookup_eq_fast]; kernel_rfl
theorem dq_slot_init : Slot "collections.deque" "__init__" "collections.deque.__init__" :=
  .of (owner := "collections.deque") (n := "__init__") (by rw [typeLookup_type, builtinLookup_eq_fast]; kernel_rfl) (by decide +kernel) (by decide +kernel) (by decide +kernel)
    (by first | exact .inl (by decide +kernel) | exact .inr (by decide +kernel)) (by rw [isSubtype_type]; kernel_rfl)
theorem dq_called : TypeCalled "collections.deque" "collections.deque.__new__" "collections.deque.__init__" :=
  ⟨by decide +kernel, by decide +kernel, ⟨_, _, dq_mro⟩, madeBy_type dq_mro dq_lookup_new (by decide +kernel), by decide +kernel, by rw [isSubtype_type]; kernel_rfl, dq_slot_init⟩
theorem dq_typeCall : checkTypeCall "collections.deque" ⟨[], []⟩ = pure () := by kernel_rfl
theorem dq_newCall : checkBuiltinCall "collections.deque.__new__" ⟨[.type "collections.deque"], []⟩ = pure () := by kernel_rfl
theorem dq_entry_new : entryFor table "collections.deque.__new__" = some Builtin.«collections.deque.__new__» := by first | exact entryFor_of_fast (by kernel_rfl) | exact entryFor_of_tree (by kernel_rfl)
theorem dq_entry_init : entryFor table "collections.deque.__init__" = some Builtin.«collections.deque.__init__» := by first | exact entryFor_of_fast (by kernel_rfl) | exact entryFor_of_tree (by kernel_rfl)
theorem dq_plain_new : plainId "collections.deque.__new__" = true := by decide +kernel
theorem dq_args_init (a : Value) : argsOk "collections.deque.__init__" ⟨[a], []⟩ := by unfold argsOk; kernel_rfl
theorem dq_sub : isSubtype (.type "collections.deque") (.type "collections.deque") = pure true := by rw [isSubtype_type]; kernel_rfl
section
variable {prog : Program} {w : World} {A : Around} {E : Value → Shared → Prop} {s : Shared}
theorem code_dq_new {Q₁ : Value → Shared → Prop} (h : Q₁ (.ref s.heap.objs.size) { s with heap := s.heap.push dqO }) :
    codeAny (model prog w) A (.call (.builtin "collections.deque.__new__") ⟨[.type "collections.deque"], []⟩) (wants Q₁ E) s := by
  refine codeAny_of_tree ?_
  show wpAny _ A.in1 (do checkBuiltinCall "collections.deque.__new__" ⟨[.type "collections.deque"], []⟩; again (.builtin "collections.deque.__new__" ⟨[.type "collections.deque"], []⟩)) _ _ s
  refine wpAny_bind (wpAny_of_eq dq_newCall (wpAny_pure ⟨plainId_quiet dq_plain_new _, codeAny_builtin dq_entry_new ?_⟩))
  rw [Around.under_plainId dq_plain_new _]
  unfold Builtin.«collections.deque.__new__» Builtin.Deque.newArgs Builtin.Deque.new
  have hsub := dq_sub
  obtain ⟨hp, g, d, tk, os⟩ := s
  dsimp only
  wp_walk
  show wpAny _ _ (isSubtype (.type "collections.deque") (.type "collections.deque")) _ _ _
  refine wpAny_of_eq hsub ?_
  refine wpAny_pure (wpAny_bind ?_)
  show wpAny _ _ (pure none >>= fun d => newObj (.type "collections.deque") (Data.fields (#[Value.none, rawInt 0] ++ #[])) d) _ _ _
  refine wpAny_bind (wpAny_pure ?_)
  show wpAny _ _ (newObjAsIs _ _ _) _ _ _
  unfold newObjAsIs
  exact wpAny_bind (wpAny_alloc (wpAny_pure (wpAny_pure h)))
theorem deque_new {h₀ : Heap} {L : Addr} {m : Str → Option Value} {news : List (Addr × Obj)} {Q : Value → Shared → Prop} (F : Fr h₀ L s.heap m) (N : News h₀ L s.heap news)
    (h : ∀ (D : Nat) h', Fr h₀ L h' m → News h₀ L h' ((D, dqO) :: news) → (∀ q ∈ news, q.1 < D) → Q (.ref D) { s with heap := h' }) :
    wpAny (model prog w) A (call (.type "collections.deque") []) Q E s := by
  refine callType_codes (Q₁ := fun obj s₁ => obj = .ref s.heap.objs.size ∧ s₁ = { s with heap := s.heap.push dqO }) dq_called dq_typeCall dq_entry_init (code_dq_new ⟨rfl, rfl⟩) fun obj s₁ h₁ => ?_
  obtain ⟨rfl, rfl⟩ := h₁
  have hlt : ∀ q ∈ news, q.1 < s.heap.objs.size := fun q hq => Heap.lt_size (N q hq).1
  have F1 : Fr h₀ L (s.heap.push dqO) m := F.push _
  have N1 := News.push F N dqO rfl
  have hS := N1.get (.head _)
  refine ⟨⟨_, hS, rfl⟩, dq_args_init _, ?_⟩
  show wpAny _ _ (setField (.ref s.heap.objs.size) 0 .none >>= fun _ => Builtin.Deque.clear (.ref s.heap.objs.size) >>= fun _ => ret .none) _ _ _
  refine wpAny_bind (wpAny_setField hS rfl (by decide) ?_)
  obtain ⟨F2, N2⟩ := news_upd (pre := []) (d := s.heap.objs.size) (o := dqO) (o' := dqO) (f := Obj.mapFields fun x => x.setIfInBounds 0 Value.none) F1 N1 (fun _ hq => nomatch hq) (fun q hq => Nat.ne_of_lt (hlt q hq)) rfl rfl
  refine wpAny_bind ?_
  unfold Builtin.Deque.clear Builtin.Deque.items fieldsOf
  refine wpAny_bind (wpAny_bind (wpAny_bind (wpAny_load (N2.get (.head _)) (wpAny_pure (wpAny_pure ?_)))))
  show wpAny _ _ (pure ()) _ _ _
  exact wpAny_pure (wpAny_pure ⟨rfl, h _ _ F2 N2 hlt⟩)
end
end Mine
namespace Mine
open PySem.Calls
theorem map41 {w : World} {h : Heap} (X : (KK w.params).In h) : ∃ f : Int → Option Value, h.MapOf (intKind PG w) 41 f ∧ ∀ c ∈ sgL, if spL.contains c = true then ∃ t, f (c : Int) = some (.str (S [92, c]) t) else f (c : Int) = none := by
  refine ⟨fun k => findBy Value.isInt _ k, ⟨_, _, _, X 41 _ rfl, ⟨rfl, rfl, rfl⟩, rfl, ?keys, fun k => rfl⟩, ?vals⟩
  case keys =>
    intro e he
    simp only [List.mem_toArray, List.mem_cons, List.not_mem_nil, or_false] at he
    rcases he with rfl | rfl | rfl | rfl | rfl | rfl | rfl | rfl | rfl | rfl | rfl | rfl | rfl | rfl | rfl | rfl | rfl | rfl | rfl | rfl | rfl | rfl | rfl | rfl
    all_goals exact ⟨_, intKind_is _ _ _ _, rfl⟩
  case vals =>
    intro c hc
    simp only [sgL, List.mem_cons, List.not_mem_nil, or_false] at hc
    rcases hc with rfl | rfl | rfl | rfl | rfl | rfl | rfl | rfl | rfl | rfl | rfl
    · rw [if_neg (by decide)]; kernel_rfl
    · rw [if_neg (by decide)]; kernel_rfl
    · rw [if_pos (by decide)]; exact ⟨377, by kernel_rfl⟩
    · rw [if_pos (by decide)]; exact ⟨335, by kernel_rfl⟩
    · rw [if_neg (by decide)]; kernel_rfl
    · rw [if_neg (by decide)]; kernel_rfl
    · rw [if_pos (by decide)]; exact ⟨371, by kernel_rfl⟩
    · rw [if_pos (by decide)]; exact ⟨401, by kernel_rfl⟩
    · rw [if_pos (by decide)]; exact ⟨341, by kernel_rfl⟩
    · rw [if_pos (by decide)]; exact ⟨395, by kernel_rfl⟩
    · rw [if_neg (by decide)]; kernel_rfl
theorem forIn_inv {M : Model} {A : Around} {E : Value → Shared → Prop} {α σ : Type} {f : α → σ → Sem (ForInStep σ)} {Q : σ → Shared → Prop} (I : List α → σ → Shared → Prop)
    (step : ∀ a r st s, I (a :: r) st s → wpAny M A (f a st) (fun x s' => ∃ st', x = .yield st' ∧ I r st' s') E s) (fin : ∀ st s, I [] st s → Q st s) : ∀ (l : List α) (st : σ) (s : Shared), I l st s → wpAny M A (forIn l st f) Q E s
  | [], st, s, h => by rw [List.forIn_nil]; exact wpAny_pure (fin st s h)
  | a :: r, st, s, h => by
    rw [List.forIn_cons]
    refine wpAny_bind (wpAny_mono (step a r st s h) (fun x s' hx => ?_) fun _ _ e => e)
    obtain ⟨st', rfl, hI⟩ := hx
    exact forIn_inv I step fin r st' s' hI
theorem forIn_inv5 {M : Model} {A : Around} {E : Value → Shared → Prop} {α β γ δ ε ζ : Type} {f : α → β × γ × δ × ε × ζ → Sem (ForInStep (β × γ × δ × ε × ζ))} {Q : β × γ × δ × ε × ζ → Shared → Prop} (I : List α → β × γ × δ × ε × ζ → Shared → Prop)
    (step : ∀ a r b1 b2 b3 b4 b5 s, I (a :: r) (b1, b2, b3, b4, b5) s → wpAny M A (f a (b1, b2, b3, b4, b5)) (fun x s' => ∃ st', x = .yield st' ∧ I r st' s') E s) (fin : ∀ b1 b2 b3 b4 b5 s, I [] (b1, b2, b3, b4, b5) s → Q (b1, b2, b3, b4, b5) s)
    (l : List α) (st : β × γ × δ × ε × ζ) (s : Shared) (h : I l st s) : wpAny M A (forIn l st f) Q E s :=
  forIn_inv I (fun a r st s h => by obtain ⟨b1, b2, b3, b4, b5⟩ := st; exact step _ _ _ _ _ _ _ _ h) (fun st s h => by obtain ⟨b1, b2, b3, b4, b5⟩ := st; exact fin _ _ _ _ _ _ h) l st s h
section
variable {w : World} {A : Around} {E : Value → Shared → Prop} {s : Shared} {h₀ : Heap} {L : Addr} {m : Str → Option Value} {news : List (Addr × Obj)}
/-- the frame and the ledger stand -/
noncomputable def Stand (h₀ : Heap) (L : Addr) (m : Str → Option Value) (news : List (Addr × Obj)) (s s' : Shared) : Prop := ∃ h' tk, s' = { s with heap := h', toks := tk } ∧ Fr h₀ L h' m ∧ News h₀ L h' news
theorem Stand.at {s' : Shared} (h : Stand h₀ L m news s s') : Fr h₀ L s'.heap m ∧ News h₀ L s'.heap news := by
  obtain ⟨h', tk, rfl, F, N⟩ := h; exact ⟨F, N⟩
theorem Stand.trans {s' s'' : Shared} (h : Stand h₀ L m news s s') (h2 : Stand h₀ L m news s' s'') : Stand h₀ L m news s s'' := by
  obtain ⟨h', tk, rfl, _, _⟩ := h
  obtain ⟨h'', tk', rfl, F, N⟩ := h2
  exact ⟨h'', tk', rfl, F, N⟩
theorem tl_ok {c : Nat} (hc : c ∈ sgL) (F : Fr h₀ L s.heap m) (X : (KK w.params).In h₀) (N : News h₀ L s.heap news) (hA : A.handled = none) :
    wpAny (model PG w) A (Builtin.Str.tableLookup (.ref 41) c) (fun r s' => r = (if spL.contains c = true then .text (S [92, c]) else .keep) ∧ Stand h₀ L m news s s') E s := by
  unfold Builtin.Str.tableLookup
  obtain ⟨f, hm, hf⟩ := map41 (X.keeps F.keep)
  have hf := hf c hc
  refine wpAny_bind (wpAny_attempt (wpAny_bind (wpAny_mkInt ?_)))
  by_cases hs : spL.contains c = true
  · rw [if_pos hs] at hf ⊢
    obtain ⟨t, ht⟩ := hf
    refine wpAny_getItem_of (s := { s with toks := s.toks + 1 }) (intKind_is _ _ _ _) hm ht ?_
    show wpAny _ _ (asInt? (.str (S [92, c]) t) >>= _) _ _ _
    refine wpAny_bind (wpAny_bind ?_)
    unfold notAStandIn
    refine wpAny_pure (wpAny_pure (wpAny_bind (wpAny_pure (wpAny_pure ⟨rfl, _, _, rfl, F, N⟩))))
  · rw [if_neg hs] at hf ⊢
    refine wpAny_getItem_missing_of (s := { s with toks := s.toks + 1 }) (intKind_is _ _ _ _) (by decide) hA hm hf ?_
    intro h' e hx
    obtain ⟨ob, tt, h1, h2, _⟩ := hx.there
    show wpAny _ _ (isInstance (.ref e) (.type "LookupError") >>= _) _ _ _
    refine wpAny_bind (wpAny_isInstance (T := "KeyError") (U := "LookupError") (b := true) ⟨ob, h1, h2⟩ (by rw [isSubtype_type]; kernel_rfl) ?_)
    rw [if_pos rfl]
    exact wpAny_bind (wpAny_rule (wpAny_pure ⟨rfl, _, _, rfl, F.keeps hx.keeps, fun q hq => ⟨hx.keeps _ _ (N q hq).1, (N q hq).2⟩⟩))
/-- what the loop of str.translate holds -/
noncomputable def TrInv (h₀ : Heap) (L : Addr) (m : Str → Option Value) (news : List (Addr × Obj)) (s₀ : Shared) (all : List Nat) (l : List Nat) (st : List Str × Nat × Bool × List (Nat × Option Nat) × Bool) (s : Shared) : Prop :=
  Stand h₀ L m news s₀ s ∧ (∀ c ∈ l, c ∈ sgL) ∧ st.2.1 + 2 * l.length ≤ 2000 ∧ st.2.2.2.2 = false ∧ (∀ c a, st.2.2.2.1.lookup c = some a → a = some c ∧ spL.contains c = false) ∧
    (st.1.reverse.map (·.cps.toList)).flatten ++ l.flatMap escS = all
theorem lookup_cons_inv {known : List (Nat × Option Nat)} {c : Nat} (hs : spL.contains c = false) (hk : ∀ c a, known.lookup c = some a → a = some c ∧ spL.contains c = false) :
    ∀ c' a, ((c, some c) :: known).lookup c' = some a → a = some c' ∧ spL.contains c' = false := by
  intro c' a h
  rw [List.lookup_cons] at h
  by_cases e : c' = c
  · subst e
    simp only [beq_self_eq_true, Option.some.injEq] at h
    exact ⟨h.symm, hs⟩
  · have : (c' == c) = false := by simpa using e
    rw [this] at h
    exact hk c' a h
theorem foldl_cps (ps : List Str) : ∀ a : Array Nat, (ps.foldl (fun acc p => acc ++ p.cps) a).toList = a.toList ++ (ps.map (·.cps.toList)).flatten := by
  induction ps with
  | nil => intro a; simp
  | cons p r ih => intro a; rw [List.foldl_cons, ih]; simp
theorem escL_len : ∀ l : List Nat, (l.flatMap escS).length ≤ 2 * l.length
  | [] => by simp
  | c :: r => by
    have := escL_len r
    have h2 : (escS c).length ≤ 2 := by unfold escS; split <;> simp
    rw [List.flatMap_cons, List.length_append, List.length_cons]; omega
theorem ite_ffC {α : Type} {M : Model} {A : Around} {b : Bool} {x y : Sem α} {Q : α → Shared → Prop} {E : Value → Shared → Prop} {s : Shared} (hb : b = false) (H : wpAny M A y Q E s) : wpAny M A (if b = true then x else y) Q E s := by
  subst hb; exact H
theorem ite_ttC {α : Type} {M : Model} {A : Around} {b : Bool} {x y : Sem α} {Q : α → Shared → Prop} {E : Value → Shared → Prop} {s : Shared} (hb : b = true) (H : wpAny M A x Q E s) : wpAny M A (if b = true then x else y) Q E s := by
  subst hb; exact H
theorem translate_ok {l : List Nat} {t : Tok} {Q : Fin → Shared → Prop} (F : Fr h₀ L s.heap m) (X : (KK w.params).In h₀) (N : News h₀ L s.heap news) (hl : ∀ c ∈ l, c ∈ sgL) (hz : l.length ≤ 1000) (hA : A.handled = none)
    (h : ∀ h' tk t', Fr h₀ L h' m → News h₀ L h' news → Q (.done (.ret (.str (S (l.flatMap escS)) t'))) { s with heap := h', toks := tk }) :
    wpAny (model PG w) A (Builtin.«str.translate» ⟨[.str (S l) t, .ref 41], []⟩) Q E s := by
  unfold Builtin.«str.translate»
  refine wpAny_bind (wpAny_pure ?_)
  dsimp only
  rw [S_length]
  by_cases h0 : l = []
  · subst h0
    exact wpAny_bind (wpAny_rule (wpAny_bind (wpAny_pure (wpAny_pure (h _ _ _ F N)))))
  rw [if_neg (by simpa using h0)]
  refine wpAny_bind ?_
  rw [List.forIn_toArray]
  refine forIn_inv5 (TrInv h₀ L m news s (l.flatMap escS)) ?_ ?_ l _ s ⟨⟨_, _, rfl, F, N⟩, hl, by simp; omega, rfl, (fun c a h => by cases h), by simp⟩
  · rintro c r pieces total fast known aft s₁ ⟨hst, hsg, htot, haft, hkn, hall⟩
    dsimp only at htot haft hkn hall ⊢
    have hc := hsg c (.head _)
    have hr := fun x hx => hsg x (List.mem_cons_of_mem c hx)
    simp only [List.length_cons] at htot
    have ht : Builtin.Str.tooLong total = false := by
      unfold Builtin.Str.tooLong
      rw [sizeLine_eq]; simp; omega
    have hLook : ∀ s₂, Stand h₀ L m news s s₂ → wpAny (model PG w) A (Builtin.Str.tableLookup (.ref 41) c) (fun r s' => r = (if spL.contains c = true then .text (S [92, c]) else .keep) ∧ Stand h₀ L m news s s') E s₂ := fun s₂ h2 =>
      wpAny_mono (tl_ok hc h2.at.1 X h2.at.2 hA) (fun _ _ q => ⟨q.1, h2.trans q.2⟩) fun _ _ e => e
    have keepE : spL.contains c = false → ((({ cps := #[c] } : Str) :: pieces).reverse.map (·.cps.toList)).flatten ++ r.flatMap escS = l.flatMap escS := fun hs => by
      rw [← hall, List.flatMap_cons, escS, hs]; simp
    have textE : spL.contains c = true → (((S [92, c]) :: pieces).reverse.map (·.cps.toList)).flatten ++ r.flatMap escS = l.flatMap escS := fun hs => by
      rw [← hall, List.flatMap_cons, escS, hs]; simp
    refine ite_ffC ht ?_
    have tail : ∀ (s₂ : Shared), Stand h₀ L m news s s₂ → ∀ fast' b, b = false → wpAny (model PG w) A (do
        let __do_lift ← Builtin.Str.tableLookup (Value.ref 41) c
        match __do_lift with
          | Builtin.Str.Mapped.keep => pure (ForInStep.yield (({ cps := #[c] } : Str) :: pieces, total + 1, fast', known, b))
          | Builtin.Str.Mapped.drop => pure (ForInStep.yield (pieces, total, fast', known, true))
          | Builtin.Str.Mapped.char d => pure (ForInStep.yield (({ cps := #[d] } : Str) :: pieces, total + 1, fast', known, b))
          | Builtin.Str.Mapped.text t => pure (ForInStep.yield (t :: pieces, total + t.length, fast', known, b))) (fun x s' => ∃ st', x = .yield st' ∧ TrInv h₀ L m news s (l.flatMap escS) r st' s') E s₂ := by
      intro s₂ h2 fast' b hb
      refine wpAny_bind (wpAny_mono (hLook s₂ h2) (fun x s₃ hx => ?_) fun _ _ e => e)
      obtain ⟨hx, h3⟩ := hx
      by_cases hs : spL.contains c = true
      · rw [if_pos hs] at hx
        subst hx
        exact wpAny_pure ⟨_, rfl, h3, hr, by simp only [S_length, List.length_cons, List.length_nil]; omega, hb, hkn, textE hs⟩
      · have hs' : spL.contains c = false := eq_false_of_ne_true hs
        rw [if_neg hs] at hx
        subst hx
        exact wpAny_pure ⟨_, rfl, h3, hr, by dsimp only; omega, hb, hkn, keepE hs'⟩
    by_cases hf : fast = true
    case neg => exact ite_ffC (eq_false_of_ne_true hf) (ite_ffC haft (tail s₁ hst fast _ haft))
    case pos =>
      refine ite_ttC hf ?_
      cases hk : known.lookup c with
      | some a =>
        obtain ⟨rfl, hs⟩ := hkn c a hk
        exact wpAny_bind (wpAny_pure (wpAny_pure ⟨_, rfl, hst, hr, by dsimp only; omega, haft, hkn, keepE hs⟩))
      | none =>
        dsimp only
        refine wpAny_bind (wpAny_mono (hLook s₁ hst) (fun x s₃ hx => ?_) fun _ _ e => e)
        obtain ⟨hx, h3⟩ := hx
        by_cases hs : spL.contains c = true
        · rw [if_pos hs] at hx
          subst hx
          have e1 : ((S [92, c]).length == 1 && (S [92, c]).cps.all fun x => decide (x < 128)) = false := by rw [S_length]; rfl
          dsimp only
          rw [e1]
          exact wpAny_bind (wpAny_pure (wpAny_bind (wpAny_rule (ite_ffC haft (tail s₃ h3 false _ haft)))))
        · have hs' : spL.contains c = false := eq_false_of_ne_true hs
          rw [if_neg hs] at hx
          subst hx
          exact wpAny_bind (wpAny_pure (wpAny_pure ⟨_, rfl, h3, hr, by dsimp only; omega, haft, lookup_cons_inv hs' hkn, keepE hs'⟩))
  · rintro pieces total fast known aft s₁ ⟨hst, _, htot, _, _, hall⟩
    dsimp only at htot hall ⊢
    have ht : Builtin.Str.tooLong total = false := by
      unfold Builtin.Str.tooLong
      rw [sizeLine_eq]; simp at htot ⊢; omega
    rw [ht]
    have e : ({ cps := pieces.reverse.foldl (fun acc p => acc ++ p.cps) #[] } : Str) = S (l.flatMap escS) := by
      apply Str.ext'
      apply Array.toList_inj.mp
      rw [foldl_cps]
      simpa using hall
    rw [if_neg (by simp), e]
    obtain ⟨h', tk, rfl, F', N'⟩ := hst
    refine wpAny_bind (wpAny_mkStr (wpAny_pure (h _ _ _ F' N')) ?_)
    rw [S_length, sizeLine_eq]
    have := escL_len l
    omega
theorem translate_call {l : List Nat} {t : Tok} {Q : Value → Shared → Prop} (F : Fr h₀ L s.heap m) (X : (KK w.params).In h₀) (N : News h₀ L s.heap news) (hl : ∀ c ∈ l, c ∈ sgL) (hz : l.length ≤ 1000) (hA : A.handled = none)
    (h : ∀ h' tk t', Fr h₀ L h' m → News h₀ L h' news → Q (.str (S (l.flatMap escS)) t') { s with heap := h', toks := tk }) :
    wpAny (model PG w) A (call (.builtin "str.translate") [.str (S l) t, .ref 41]) Q E s :=
  wpAny_call_entry PySem.F.slot_str_translate (typeIs_str _ _ _) PySem.F.entry_str_translate (translate_ok F X N hl hz hA (fun h' tk t' F' N' => ⟨_, rfl, h h' tk t' F' N'⟩)) (PySem.F.args_str_translate_2 _ _)
end
end Mine
namespace Mine
open PySem.Calls
theorem map_mro : mroOf (.type "map") = pure [.type "map", .type "object"] := by rw [mroOf_type]; kernel_rfl
theorem map_lookup_new : typeLookup (.type "map") "__new__" = pure (some (.builtin "map.__new__")) := by rw [typeLookup_type, builtinLookup_eq_fast]; kernel_rfl
theorem map_slot_init : Slot "map" "__init__" "object.__init__" :=
  .of (owner := "object") (n := "__init__") (by rw [typeLookup_type, builtinLookup_eq_fast]; kernel_rfl) (by decide +kernel) (by decide +kernel) (by decide +kernel)
    (by first | exact .inl (by decide +kernel) | exact .inr (by decide +kernel)) (by rw [isSubtype_type]; kernel_rfl)
theorem map_slot_next : Slot "map" "__next__" "map.__next__" :=
  .of (owner := "map") (n := "__next__") (by rw [typeLookup_type, builtinLookup_eq_fast]; kernel_rfl) (by decide +kernel) (by decide +kernel) (by decide +kernel)
    (by first | exact .inl (by decide +kernel) | exact .inr (by decide +kernel)) (by rw [isSubtype_type]; kernel_rfl)
theorem map_iter_lookup : typeLookup (.type "map") "__iter__" = pure (some (.builtin "map.__iter__")) := by rw [typeLookup_type, builtinLookup_eq_fast]; kernel_rfl
theorem map_called : TypeCalled "map" "map.__new__" "object.__init__" :=
  ⟨by decide +kernel, by decide +kernel, ⟨_, _, map_mro⟩, madeBy_type map_mro map_lookup_new (by decide +kernel), by decide +kernel, by rw [isSubtype_type]; kernel_rfl, map_slot_init⟩
theorem map_typeCall (a b : Value) : checkTypeCall "map" ⟨[a, b], []⟩ = pure () := by kernel_rfl
theorem map_newCall (a b : Value) : checkBuiltinCall "map.__new__" ⟨[.type "map", a, b], []⟩ = pure () := by kernel_rfl
theorem map_entry_new : entryFor table "map.__new__" = some Builtin.«map.__new__» := by first | exact entryFor_of_fast (by kernel_rfl) | exact entryFor_of_tree (by kernel_rfl)
theorem map_entry_next : entryFor table "map.__next__" = some Builtin.«map.__next__» := by first | exact entryFor_of_fast (by kernel_rfl) | exact entryFor_of_tree (by kernel_rfl)
theorem obj_entry_init : entryFor table "object.__init__" = some Builtin.«object.__init__» := by first | exact entryFor_of_fast (by kernel_rfl) | exact entryFor_of_tree (by kernel_rfl)
theorem map_plain_new : plainId "map.__new__" = true := by decide +kernel
theorem map_args_next (a : Value) : argsOk "map.__next__" ⟨[a], []⟩ := by unfold argsOk; kernel_rfl
theorem map_args_init (a b c : Value) : argsOk "object.__init__" ⟨[a, b, c], []⟩ := by unfold argsOk; kernel_rfl
theorem map_sub : isSubtype (.type "map") (.type "map") = pure true := by rw [isSubtype_type]; kernel_rfl
end Mine
namespace Mine
open PySem.Calls
noncomputable abbrev itO (P : Nat) (i : Nat) : Obj := { cls := .type "list_iterator", data := .fields #[.ref P, .int i 0] }
noncomputable abbrev tuO (I : Nat) : Obj := { cls := .type "tuple", data := .seq #[.ref I] }
noncomputable abbrev mpO (T : Nat) : Obj := { cls := .type "map", data := .fields #[.ref T, .ref 51] }
section
variable {prog : Program} {w : World} {A : Around} {E : Value → Shared → Prop} {s : Shared}
theorem code_map_new {P : Nat} {items : Array Value} {Q₁ : Value → Shared → Prop} (hl : s.heap.IsList P items)
    (h : Q₁ (.ref (s.heap.objs.size + 2)) { s with heap := ((s.heap.push (itO P 0)).push (tuO s.heap.objs.size)).push (mpO (s.heap.objs.size + 1)) }) :
    codeAny (model prog w) A (.call (.builtin "map.__new__") ⟨[.type "map", .ref 51, .ref P], []⟩) (wants Q₁ E) s := by
  refine codeAny_of_tree ?_
  show wpAny _ A.in1 (do checkBuiltinCall "map.__new__" ⟨[.type "map", .ref 51, .ref P], []⟩; again (.builtin "map.__new__" ⟨[.type "map", .ref 51, .ref P], []⟩)) _ _ s
  refine wpAny_bind (wpAny_of_eq (map_newCall _ _) (wpAny_pure ⟨plainId_quiet map_plain_new _, codeAny_builtin map_entry_new ?_⟩))
  rw [Around.under_plainId map_plain_new _]
  unfold Builtin.«map.__new__» Builtin.SmallTypes.newClass
  refine wpAny_bind (wpAny_bind (wpAny_pure ?_))
  refine wpAny_bind (wpAny_of_eq map_sub (wpAny_pure ?_))
  dsimp only
  refine wpAny_bind (wpAny_pure ?_)
  show wpAny _ _ (Builtin.SmallTypes.iterAll [.ref P] >>= _) _ _ _
  unfold Builtin.SmallTypes.iterAll
  refine wpAny_bind (wpAny_bind ?_)
  rw [List.forIn_cons]
  refine wpAny_bind (wpAny_bind (wpAny_holding (wpAny_pyIter_list hl (wpAny_pure ?_))))
  dsimp only
  rw [List.forIn_nil]
  refine wpAny_pure (wpAny_pure ?_)
  refine wpAny_bind (wpAny_newTuple (items := [.ref s.heap.objs.size]) ?_ (by rw [sizeLine_eq]; exact Nat.le_of_ble_eq_true rfl))
  refine wpAny_bind (wpAny_newObj_type (data := .fields #[.ref (s.heap.push (itO P 0)).objs.size, .ref 51]) (wpAny_pure ?_) (by size_fits))
  rw [Heap.size_push, Heap.size_push]
  rw [Heap.size_push] at *
  exact h
theorem map_make {h₀ : Heap} {L : Addr} {m : Str → Option Value} {news : List (Addr × Obj)} {P n : Nat} {items : Array Value} {Q : Value → Shared → Prop} (F : Fr h₀ L s.heap m) (N : News h₀ L s.heap news) (hP : (P, listOf items n) ∈ news)
    (h : ∀ (M T I : Nat) h', Fr h₀ L h' m → News h₀ L h' ((M, mpO T) :: (T, tuO I) :: (I, itO P 0) :: news) → (∀ q ∈ news, q.1 < I) → I < T → T < M → Q (.ref M) { s with heap := h' }) :
    wpAny (model prog w) A (call (.type "map") [.ref 51, .ref P]) Q E s := by
  refine callType_codes (Q₁ := fun obj s₁ => obj = .ref (s.heap.objs.size + 2) ∧ s₁ = { s with heap := ((s.heap.push (itO P 0)).push (tuO s.heap.objs.size)).push (mpO (s.heap.objs.size + 1)) }) map_called (map_typeCall _ _) obj_entry_init
    (code_map_new (News.isList N hP) ⟨rfl, rfl⟩) fun obj s₁ h₁ => ?_
  obtain ⟨rfl, rfl⟩ := h₁
  have F1 := ((F.push (itO P 0)).push (tuO s.heap.objs.size)).push (mpO (s.heap.objs.size + 1))
  have N1 := ((N.push F (itO P 0) rfl).push (F.push _) (tuO s.heap.objs.size) rfl).push ((F.push _).push _) (mpO (s.heap.objs.size + 1)) rfl
  simp only [Heap.size_push] at N1
  have hlt : ∀ q ∈ news, q.1 < s.heap.objs.size := fun q hq => Heap.lt_size (N q hq).1
  have hT : Shared.TypeIs { s with heap := ((s.heap.push (itO P 0)).push (tuO s.heap.objs.size)).push (mpO (s.heap.objs.size + 1)) } (.ref (s.heap.objs.size + 2)) "map" :=
    (show ∃ o, _ ∧ _ from ⟨_, N1.get (.head _), rfl⟩)
  refine ⟨hT, map_args_init _ _ _, ?_⟩
  have hr := h _ _ _ _ F1 N1 hlt (Nat.lt_succ_self _) (Nat.lt_succ_self _)
  unfold Builtin.«object.__init__»
  refine wpAny_bind (wpAny_typeOf hT ?_)
  refine wpAny_bind (wpAny_of_eq map_slot_init.lookup ?_)
  dsimp only
  refine wpAny_bind (wpAny_of_eq map_called.made ?_)
  rw [if_neg (by decide), if_neg (by rw [show (some "map.__new__" != some "object.__new__") = true from by decide, Bool.or_true]; decide)]
  exact wpAny_pure ⟨rfl, hr⟩
theorem map_slot_iter : Slot "map" "__iter__" "map.__iter__" :=
  .of (owner := "map") (n := "__iter__") (by rw [typeLookup_type, builtinLookup_eq_fast]; kernel_rfl) (by decide +kernel) (by decide +kernel) (by decide +kernel)
    (by first | exact .inl (by decide +kernel) | exact .inr (by decide +kernel)) (by rw [isSubtype_type]; kernel_rfl)
theorem map_entry_iter : entryFor table "map.__iter__" = some Builtin.«dict_keyiterator.__iter__» :=
  entryFor_alias (id' := "dict_keyiterator.__iter__") (by kernel_rfl) (by first | rfl | decide +kernel | (unfold String.splitOn; simp +decide [String.splitOnAux])) (by decide +kernel) (by kernel_rfl)
theorem map_args_iter (a : Value) : argsOk "map.__iter__" ⟨[a], []⟩ := by unfold argsOk; kernel_rfl
theorem map_iter {M : Nat} {o : Obj} {Q : Value → Shared → Prop} (ho : s.heap.get? M = some o) (hc : o.cls = .type "map") (h : Q (.ref M) s) : wpAny (model prog w) A (pyIter (.ref M)) Q E s := by
  have hT : s.TypeIs (.ref M) "map" := ⟨_, ho, hc⟩
  refine wpAny_pyIter_slot hT map_slot_iter (wpAny_call_entry map_slot_iter hT map_entry_iter ?_ (map_args_iter _))
  show wpAny _ _ (ret (.ref M)) _ _ s
  exact wpAny_pure ⟨_, rfl, "map", _, hT, map_slot_next.lookup, h⟩
/-- one turn of map over a list -/
theorem map_next_item {M T I P i : Nat} {items : Array Value} {x : Value} {Q : Option Value → Shared → Prop} (hM : s.heap.get? M = some (mpO T)) (hT : s.heap.get? T = some (tuO I)) (hI : s.heap.get? I = some (itO P i)) (hP : s.heap.IsList P items) (hx : items[i]? = some x) (hIM : I ≠ M)
    (hQ : ∀ h', h'.get? I = some (itO P (i + 1)) → Heap.SameBut I s.heap h' → wpAny (model prog w) A.in1 (call (.ref 51) [x]) (fun r s' => Q (some r) s') (fun _ _ => False) { s with heap := h' }) :
    wpAny (model prog w) A (pyNext (.ref M)) Q E s := by
  have tM : s.TypeIs (.ref M) "map" := ⟨_, hM, rfl⟩
  have tI : s.TypeIs (.ref I) "list_iterator" := ⟨_, hI, rfl⟩
  obtain ⟨ol, hol, _, nl, hdl⟩ := hP
  unfold pyNext
  refine wpAny_bind (wpAny_attempt (wpAny_callSpecial?_slot (name := Str.ofString "__next__") tM map_slot_next (wpAny_call_entry map_slot_next tM map_entry_next ?_ (map_args_next _))))
  unfold Builtin.«map.__next__»
  refine wpAny_bind (wpAny_pure ?_)
  dsimp only
  refine wpAny_bind (wpAny_field hM rfl (x := .ref T) rfl ?_)
  refine wpAny_bind (wpAny_seqItems hT rfl ?_)
  dsimp only
  refine wpAny_bind ?_
  rw [show (#[Value.ref I] : Array Value) = [Value.ref I].toArray from rfl, List.forIn_toArray, List.forIn_cons]
  refine wpAny_bind (wpAny_bind (wpAny_holding ?_))
  unfold Builtin.SmallTypes.nextOf
  refine wpAny_bind (wpAny_callSpecial?_slot (name := Str.ofString "__next__") tI slot_listiter_next (wpAny_call_entry slot_listiter_next tI entry_listiter_next ?_ (args_listiter_next _)))
  show wpAny _ _ (field (.ref I) 0 >>= _) _ _ s
  refine wpAny_bind (wpAny_field hI rfl (x := .ref P) rfl ?_)
  show wpAny _ _ (if (Value.ref P == Value.none) = true then _ else _) _ _ s
  rw [if_neg (show ¬ ((Value.ref P == Value.none) = true) from Bool.false_ne_true)]
  show wpAny _ _ (field (.ref I) 1 >>= _) _ _ s
  refine wpAny_bind (wpAny_field hI rfl (x := .int i 0) rfl ?_)
  show wpAny _ _ (seqItems? (.ref P) >>= _) _ _ s
  refine wpAny_bind (wpAny_seqItems hol hdl ?_)
  simp only [Int.toNat_natCast, hx]
  refine wpAny_bind (wpAny_setField hI rfl (by simp) (wpAny_pure ⟨x, rfl, wpAny_pure (wpAny_pure ?_)⟩))
  dsimp only
  rw [List.forIn_nil]
  refine wpAny_pure ?_
  have hsame := Heap.SameBut.update s.heap I (Obj.mapFields fun y => y.setIfInBounds 1 (rawInt ((i : Int) + 1)))
  have hI' := Heap.get?_update_self (h := s.heap) (a := I) (f := Obj.mapFields fun y => y.setIfInBounds 1 (rawInt ((i : Int) + 1))) hI rfl
  have eI : Obj.mapFields (fun y => y.setIfInBounds 1 (rawInt ((i : Int) + 1))) (itO P i) = itO P (i + 1) := by simp [Obj.mapFields, rawInt]
  rw [eI] at hI'
  refine wpAny_bind (wpAny_field ((hsame.2 M (Ne.symm hIM)).trans hM) rfl (x := .ref 51) rfl ?_)
  refine wpAny_bind (wpAny_holding (wpAny_mono (hQ _ hI' hsame) (fun r s' hq => ?_) (fun _ _ e => e.elim)))
  exact wpAny_bind (wpAny_letGo (wpAny_pure ⟨_, rfl, wpAny_pure hq⟩))
theorem map_next_end {M T I P i : Nat} {items : Array Value} {Q : Option Value → Shared → Prop} (hh : A.handled = none) (hM : s.heap.get? M = some (mpO T)) (hT : s.heap.get? T = some (tuO I)) (hI : s.heap.get? I = some (itO P i)) (hP : s.heap.IsList P items) (hx : items[i]? = none)
    (hQ : ∀ h', Heap.ExtBut I s.heap h' → Q none { s with heap := h' }) :
    wpAny (model prog w) A (pyNext (.ref M)) Q E s := by
  have tM : s.TypeIs (.ref M) "map" := ⟨_, hM, rfl⟩
  have tI : s.TypeIs (.ref I) "list_iterator" := ⟨_, hI, rfl⟩
  obtain ⟨ol, hol, _, nl, hdl⟩ := hP
  unfold pyNext
  refine wpAny_bind (wpAny_attempt (wpAny_callSpecial?_slot (name := Str.ofString "__next__") tM map_slot_next (wpAny_call_entry map_slot_next tM map_entry_next ?_ (map_args_next _))))
  unfold Builtin.«map.__next__»
  refine wpAny_bind (wpAny_pure ?_)
  dsimp only
  refine wpAny_bind (wpAny_field hM rfl (x := .ref T) rfl ?_)
  refine wpAny_bind (wpAny_seqItems hT rfl ?_)
  dsimp only
  refine wpAny_bind ?_
  rw [show (#[Value.ref I] : Array Value) = [Value.ref I].toArray from rfl, List.forIn_toArray, List.forIn_cons]
  refine wpAny_bind (wpAny_bind (wpAny_holding ?_))
  unfold Builtin.SmallTypes.nextOf
  refine wpAny_bind (wpAny_callSpecial?_slot (name := Str.ofString "__next__") tI slot_listiter_next (wpAny_call_entry slot_listiter_next tI entry_listiter_next ?_ (args_listiter_next _)))
  show wpAny _ _ (field (.ref I) 0 >>= _) _ _ s
  refine wpAny_bind (wpAny_field hI rfl (x := .ref P) rfl ?_)
  show wpAny _ _ (if (Value.ref P == Value.none) = true then _ else _) _ _ s
  rw [if_neg (show ¬ ((Value.ref P == Value.none) = true) from Bool.false_ne_true)]
  show wpAny _ _ (field (.ref I) 1 >>= _) _ _ s
  refine wpAny_bind (wpAny_field hI rfl (x := .int i 0) rfl ?_)
  show wpAny _ _ (seqItems? (.ref P) >>= _) _ _ s
  refine wpAny_bind (wpAny_seqItems hol hdl ?_)
  simp only [Int.toNat_natCast, hx]
  refine wpAny_bind (wpAny_rule (wpAny_bind (wpAny_setField hI rfl (by simp) ?_)))
  show wpAny _ _ (newExc (.type "StopIteration") [] >>= _) _ _ _
  refine wpAny_bind ?_
  simp only [newExc, newTuple]
  refine wpAny_bind (wpAny_newObj_type ?_ (by size_fits))
  refine wpAny_bind (m := firstArgMember _ _) (wpAny_of_eq (a := Value.none) (by first | rfl | (simp only [firstArgMember]; rfl)) ?_)
  refine wpAny_newObj_type ?_ (by size_fits)
  simp only [raiseNew]
  refine wpAny_bind (wpAny_handled ?_)
  rw [show A.in1.in1.handled = none from hh]
  refine wpAny_bind (wpAny_pure (wpAny_throw ?_))
  refine wpAny_bind (wpAny_isInstance (T := "StopIteration") (b := true) ⟨_, Heap.get?_push_size _ rfl, rfl⟩ isSubtype_stop ?_)
  exact wpAny_pure (hQ _ (((Heap.SameBut.update ..).extBut.push _).push _))
end
end Mine
namespace Mine
section
variable {w : World} {A : Around} {E : Value → Shared → Prop} {s : Shared} {h₀ : Heap} {L : Addr} {m : Str → Option Value} {news : List (Addr × Obj)}
theorem lenN {D c k : Nat} {vals : List Value} {Q : Value → Shared → Prop} (N : News h₀ L s.heap news) (hm : (D, listOf vals.toArray c) ∈ news) (hk : vals.length = k) (hz : k ≤ 100000) (h : Q (.int (k : Int) (s.toks + 1)) { s with toks := s.toks + 1 + 1 }) :
    wpAny (model PG w) A (call (.builtin "len") [.ref D]) Q E s := by
  have e : vals.toArray.size = k := by simpa using hk
  refine PyProof.Rows.len_list (News.isList N hm) ?_ ?_
  · rw [e]; omega
  · rw [e]; exact h
end
end Mine
namespace Mine
open PySem.Calls
section
variable {w : World} {A : Around} {E : Value → Shared → Prop} {s : Shared} {h₀ : Heap} {env : Env} {x : Str} {body : List Stmt} {Q : Flow → Shared → Prop} {m₀ : Str → Option Value} {news : List (Addr × Obj)}
/-- a turn's end: one object of the ledger and the names may have changed -/
noncomputable def TurnR (h₀ : Heap) (L : Addr) (J : (Str → Option Value) → Obj → Prop) (D : Nat) (rest : List (Addr × Obj)) (s₁ : Shared) (Q : Flow → Shared → Prop) (f : Flow) (s₂ : Shared) : Prop := match f with
  | .ret v => Q (.ret v) s₂
  | .brk => Q .next s₂
  | _ => ∃ h' tk m' o', s₂ = { s₁ with heap := h', toks := tk } ∧ Fr h₀ L h' m' ∧ News h₀ L h' ((D, o') :: rest) ∧ J m' o'
theorem TurnR.nx {L : Addr} {J : (Str → Option Value) → Obj → Prop} {D : Nat} {rest : List (Addr × Obj)} {s₁ s₂ : Shared} (h : ∃ h' tk m' o', s₂ = { s₁ with heap := h', toks := tk } ∧ Fr h₀ L h' m' ∧ News h₀ L h' ((D, o') :: rest) ∧ J m' o') : TurnR h₀ L J D rest s₁ Q .next s₂ := h
theorem TurnR.ct {L : Addr} {J : (Str → Option Value) → Obj → Prop} {D : Nat} {rest : List (Addr × Obj)} {s₁ s₂ : Shared} (h : ∃ h' tk m' o', s₂ = { s₁ with heap := h', toks := tk } ∧ Fr h₀ L h' m' ∧ News h₀ L h' ((D, o') :: rest) ∧ J m' o') : TurnR h₀ L J D rest s₁ Q .cont s₂ := h
theorem TurnR.mk {L : Addr} {J : (Str → Option Value) → Obj → Prop} {D : Nat} {rest : List (Addr × Obj)} {s₁ : Shared} {h' : Heap} {tk : Nat} {m' : Str → Option Value} {o' : Obj} (F : Fr h₀ L h' m') (N : News h₀ L h' ((D, o') :: rest)) (j : J m' o') : TurnR h₀ L J D rest s₁ Q .next { s₁ with heap := h', toks := tk } := TurnR.nx ⟨_, _, _, _, rfl, F, N, j⟩
theorem TurnR.ck {L : Addr} {J : (Str → Option Value) → Obj → Prop} {D : Nat} {rest : List (Addr × Obj)} {s₁ : Shared} {h' : Heap} {tk : Nat} {m' : Str → Option Value} {o' : Obj} (F : Fr h₀ L h' m') (N : News h₀ L h' ((D, o') :: rest)) (j : J m' o') : TurnR h₀ L J D rest s₁ Q .cont { s₁ with heap := h', toks := tk } := TurnR.ct ⟨_, _, _, _, rfl, F, N, j⟩
theorem iterW {D n : Nat} {o₀ io : Obj} {fp : List Addr} {P : Nat → Value → Prop} {St : Nat → Heap → Prop} (J : Nat → (Str → Option Value) → Obj → Prop)
    (W : Walks PG w A s.heap.objs.size fp [s.heap.objs.size] n P St) (hst : St 0 (s.heap.push io)) (hL : env.locals ∉ fp) (hDf : D ∉ fp)
    (F : Fr h₀ env.locals s.heap m₀) (N : News h₀ env.locals s.heap ((D, o₀) :: news)) (hD : ∀ q ∈ news, q.1 ≠ D) (hj : J 0 m₀ o₀)
    (turn : ∀ i v m₁ o₁ h tk rest Jn, (∀ m o, J (i + 1) m o → Jn m o) → i < n → P i v → J i m₁ o₁ → (∀ q ∈ rest, q.1 ≠ D) → (∀ q ∈ news, q ∈ rest) → Fr h₀ env.locals h (fun y => if y = x then some v else m₁ y) → News h₀ env.locals h ((D, o₁) :: rest) →
      wpAny (model PG w) A (execs body env) (TurnR h₀ env.locals Jn D rest { s with heap := h, toks := tk } Q) E { s with heap := h, toks := tk })
    (done : ∀ m₁ o₁ h tk, J n m₁ o₁ → Fr h₀ env.locals h m₁ → News h₀ env.locals h ((D, o₁) :: news) → Q .next { s with heap := h, toks := tk }) :
    LoopAtV PG w A h₀ env x body Q E (.ref s.heap.objs.size) { s with heap := s.heap.push io } := by
  let J' : Nat → (Str → Option Value) → List (Addr × Obj) → Prop := fun i m₁ news₁ => ∃ o₁, news₁ = (D, o₁) :: news ∧ J i m₁ o₁
  refine ⟨_, _, _, n, _, _, m₀, (D, o₀) :: news, J', rfl, W, hL, ?_, ?_, hst, F.push _, (fun p hp => ⟨Heap.get?_push_of_some _ (N p hp).1, (N p hp).2⟩), ⟨o₀, rfl, hj⟩, ?_, ?_⟩
  · intro b hb
    rw [List.mem_singleton.mp hb]
    exact next_is_new F
  · intro p hp hI
    exact absurd (Heap.lt_size (N p hp).1) ((List.mem_singleton.mp hI) ▸ Nat.lt_irrefl _)
  · rintro i v m₁ news₁ s₁ own ⟨hh', tk', rfl⟩ hin hP ⟨o₁, rfl, hJ⟩ hoff hown hown2 _ _ F₁ N₁
    have hDI : D ≠ s.heap.objs.size := Nat.ne_of_lt (Heap.lt_size (N _ (.head _)).1)
    have hrest : ∀ q ∈ news ++ own, q.1 ≠ D := by
      intro q hq
      rcases List.mem_append.mp hq with hq | hq
      · exact hD q hq
      · intro e
        exact hDf (e ▸ hown q hq)
    have N₂ : News h₀ env.locals hh' ((D, o₁) :: (news ++ own)) := fun q hq => N₁ q (by
      rcases List.mem_cons.mp hq with rfl | hq
      · exact List.mem_append_right _ (.head _)
      · rcases List.mem_append.mp hq with hq | hq
        · exact List.mem_append_right _ (.tail _ hq)
        · exact List.mem_append_left _ hq)
    refine wpAny_mono (turn i v m₁ o₁ hh' tk' (news ++ own) (J (i + 1)) (fun _ _ h => h) hin hP hJ hrest (fun q hq => List.mem_append_left _ hq) F₁ N₂) (fun f s₂ p => ?_) fun _ _ e => e
    have fin : (∃ h' tk m' o', s₂ = { s with heap := h', toks := tk } ∧ Fr h₀ env.locals h' m' ∧ News h₀ env.locals h' ((D, o') :: (news ++ own)) ∧ J (i + 1) m' o') → LoopStepU h₀ env.locals [s.heap.objs.size] own (J' (i + 1)) { s with heap := hh', toks := tk' } .next s₂ := by
      rintro ⟨h', tk, m', o', e, F', N', hm⟩
      refine ⟨rfl, h', tk, m', (D, o') :: news, e, F', fun q hq => N' q ?_, fun q hq hI => ?_, ⟨o', rfl, hm⟩⟩
      · rcases List.mem_append.mp hq with hq | hq
        · exact .tail _ (List.mem_append_right _ hq)
        · rcases List.mem_cons.mp hq with rfl | hq
          · exact .head _
          · exact .tail _ (List.mem_append_left _ hq)
      · rcases List.mem_cons.mp hq with rfl | hq
        · exact hDI (List.mem_singleton.mp hI)
        · exact absurd (Heap.lt_size (N q (.tail _ hq)).1) ((List.mem_singleton.mp hI) ▸ Nat.lt_irrefl _)
    cases f with
    | ret v => exact .ret p
    | brk => exact .brk p
    | next => exact .next (fin p)
    | cont => exact .cont (fin p)
  · rintro h' tk m' news' F' N' _ ⟨o', rfl, hJ⟩
    exact done m' o' h' tk hJ F' N'
theorem iterR {r D : Nat} {a b : Int} {t u v : Tok} {n : Nat} {o₀ : Obj} (J : Nat → (Str → Option Value) → Obj → Prop)
    (hh : A.handled = none) (hr : IsRange s.heap r a b 1 t u v) (ha : -1000000 ≤ a ∧ a ≤ 1000000) (hb : -1000000 ≤ b ∧ b ≤ 1000000) (hn : (b - a).toNat = n)
    (F : Fr h₀ env.locals s.heap m₀) (N : News h₀ env.locals s.heap ((D, o₀) :: news)) (hD : ∀ q ∈ news, q.1 ≠ D) (hj : J 0 m₀ o₀)
    (turn : ∀ i tt m₁ o₁ h tk rest Jn, (∀ m o, J (i + 1) m o → Jn m o) → i < n → J i m₁ o₁ → (∀ q ∈ rest, q.1 ≠ D) → (∀ q ∈ news, q ∈ rest) → Fr h₀ env.locals h (fun y => if y = x then some (.int (a + (i : Int)) tt) else m₁ y) → News h₀ env.locals h ((D, o₁) :: rest) →
      wpAny (model PG w) A (execs body env) (TurnR h₀ env.locals Jn D rest { s with heap := h, toks := tk } Q) E { s with heap := h, toks := tk })
    (done : ∀ m₁ o₁ h tk, J n m₁ o₁ → Fr h₀ env.locals h m₁ → News h₀ env.locals h ((D, o₁) :: news) → Q .next { s with heap := h, toks := tk }) :
    wpAny (model PG w) A (pyIter (.ref r)) (fun it s₂ => LoopAtV PG w A h₀ env x body Q E it s₂) E s := by
  have hsz : Builtin.Range.rangeSize a b 1 = (n : Int) := by
    unfold Builtin.Range.rangeSize
    simp
    split
    · rename_i h; rw [← hn, Int.toNat_of_nonneg (Int.sub_nonneg_of_le (Int.le_of_lt h))]
    · rename_i h; rw [← hn, Int.toNat_of_nonpos (Int.sub_nonpos_of_le (Int.not_lt.mp h))]; rfl
  refine wpAny_pyIter_range hr ?_ ?_
  · unfold Builtin.Range.small
    rw [hsz]
    simp [Builtin.Range.rangeFitsLong]
    have k1 : ∀ y : Int, -1000000 ≤ y ∧ y ≤ 1000000 → -9223372036854775808 ≤ y ∧ y < 9223372036854775808 := fun y h => ⟨Int.le_trans (by decide) h.1, Int.lt_of_le_of_lt h.2 (by decide)⟩
    have k2 : (n : Int) < 9223372036854775808 := by omega
    exact ⟨⟨⟨k1 a ha, k1 b hb⟩, k2⟩, .inr (k1 b hb)⟩
  rw [hsz]
  refine iterW J (LCg.range_walks (prog := PG) (w := w) (I := s.heap.objs.size) hh a n) ?_ ?_ ?_ F N hD hj ?_ done
  · have : (a + ((0 : Nat) : Int) * 1) = a := by omega
    show IsRangeIter _ _ (a + ((0 : Nat) : Int) * 1) ((n : Int) - ((0 : Nat) : Int)) 1
    rw [this, show ((n : Int) - ((0 : Nat) : Int)) = (n : Int) by omega]
    exact Heap.get?_push_size _ rfl
  · intro hm
    exact absurd F.ns.lt (List.mem_singleton.mp hm ▸ Nat.lt_irrefl _)
  · intro hm
    exact absurd (Heap.lt_size (N _ (.head _)).1) ((List.mem_singleton.mp hm) ▸ Nat.lt_irrefl _)
  · rintro i v m₁ o₁ h tk rest Jn hJn hi ⟨tt, rfl⟩ hJ h1 h2 F₁ N₁
    exact turn i tt m₁ o₁ h tk rest Jn hJn hi hJ h1 h2 F₁ N₁
/-- for over a list of texts of the ledger -/
theorem iterL {D ax c : Nat} {vs : List Value} {ls : List (List Nat)} {o₀ : Obj} (J : Nat → (Str → Option Value) → Obj → Prop)
    (hh : A.handled = none) (hm : (ax, listOf vs.toArray c) ∈ news) (hv : StrsAre vs (ls.map S))
    (F : Fr h₀ env.locals s.heap m₀) (N : News h₀ env.locals s.heap ((D, o₀) :: news)) (hD : ∀ q ∈ news, q.1 ≠ D) (hj : J 0 m₀ o₀)
    (turn : ∀ i l tt m₁ o₁ h tk rest Jn, (∀ m o, J (i + 1) m o → Jn m o) → ls[i]? = some l → J i m₁ o₁ → (∀ q ∈ rest, q.1 ≠ D) → (∀ q ∈ news, q ∈ rest) → Fr h₀ env.locals h (fun y => if y = x then some (.str (S l) tt) else m₁ y) → News h₀ env.locals h ((D, o₁) :: rest) →
      wpAny (model PG w) A (execs body env) (TurnR h₀ env.locals Jn D rest { s with heap := h, toks := tk } Q) E { s with heap := h, toks := tk })
    (done : ∀ m₁ o₁ h tk, J ls.length m₁ o₁ → Fr h₀ env.locals h m₁ → News h₀ env.locals h ((D, o₁) :: news) → Q .next { s with heap := h, toks := tk }) :
    wpAny (model PG w) A (pyIter (.ref ax)) (fun it s₂ => LoopAtV PG w A h₀ env x body Q E it s₂) E s := by
  have hl := News.isList N (.tail _ hm)
  have hax := Heap.lt_size (N _ (.tail _ hm)).1
  have hlen : vs.toArray.size = ls.length := by
    have := StrsAre.len_eq hv
    rw [List.length_map] at this
    simpa using this
  refine wpAny_pyIter_list hl ?_
  refine iterW (n := vs.toArray.size) J (Walks.list hh s.heap.objs.size ax (Nat.ne_of_lt hax) vs.toArray) ⟨⟨_, Heap.get?_push_size _ rfl, rfl, rfl⟩, hl.push _⟩ ?_ ?_ F N hD hj ?_ (by rw [hlen]; exact done)
  · intro hz
    simp only [List.mem_cons, List.not_mem_nil, or_false] at hz
    rcases hz with hz | hz
    · exact absurd F.ns.lt (hz ▸ Nat.lt_irrefl _)
    · exact (N _ (.tail _ hm)).2.1 hz.symm
  · intro hz
    simp only [List.mem_cons, List.not_mem_nil, or_false] at hz
    rcases hz with hz | hz
    · exact absurd (Heap.lt_size (N _ (.head _)).1) (hz ▸ Nat.lt_irrefl _)
    · exact hD _ hm hz.symm
  · rintro i v m₁ o₁ h tk rest Jn hJn hi hP hJ h1 h2 F₁ N₁
    rw [hlen] at hi
    have hls : ls[i]? = some ls[i] := List.getElem?_eq_getElem hi
    obtain ⟨tt, e⟩ := StrsAre.at hv (j := i) (y := S ls[i]) (by rw [List.getElem?_map, hls]; rfl)
    have hv' : v = .str (S ls[i]) tt := by
      have h3 : vs[i]? = some v := by simpa using hP
      rw [e] at h3
      exact (Option.some.inj h3).symm
    subst hv'
    exact turn i ls[i] tt m₁ o₁ h tk rest Jn hJn hls hJ h1 h2 F₁ N₁
/-- for over a text's signs -/
theorem iterS {D : Nat} {l : List Nat} {t : Tok} {o₀ : Obj} (J : Nat → (Str → Option Value) → Obj → Prop)
    (hh : A.handled = none) (F : Fr h₀ env.locals s.heap m₀) (N : News h₀ env.locals s.heap ((D, o₀) :: news)) (hD : ∀ q ∈ news, q.1 ≠ D) (hj : J 0 m₀ o₀)
    (turn : ∀ i c tt m₁ o₁ h tk rest Jn, (∀ m o, J (i + 1) m o → Jn m o) → l[i]? = some c → J i m₁ o₁ → (∀ q ∈ rest, q.1 ≠ D) → (∀ q ∈ news, q ∈ rest) → Fr h₀ env.locals h (fun y => if y = x then some (.str (S [c]) tt) else m₁ y) → News h₀ env.locals h ((D, o₁) :: rest) →
      wpAny (model PG w) A (execs body env) (TurnR h₀ env.locals Jn D rest { s with heap := h, toks := tk } Q) E { s with heap := h, toks := tk })
    (done : ∀ m₁ o₁ h tk, J l.length m₁ o₁ → Fr h₀ env.locals h m₁ → News h₀ env.locals h ((D, o₁) :: news) → Q .next { s with heap := h, toks := tk }) :
    wpAny (model PG w) A (pyIter (.str (S l) t)) (fun it s₂ => LoopAtV PG w A h₀ env x body Q E it s₂) E s := by
  refine wpAny_pyIter_str ?_
  intro o St W hst
  have hlen : (S l).cps.size = l.length := by simp
  rw [hlen] at W
  refine iterW J (W A hh) hst ?_ ?_ F N hD hj ?_ done
  · intro hz
    exact absurd F.ns.lt (List.mem_singleton.mp hz ▸ Nat.lt_irrefl _)
  · intro hz
    exact absurd (Heap.lt_size (N _ (.head _)).1) ((List.mem_singleton.mp hz) ▸ Nat.lt_irrefl _)
  · rintro i v m₁ o₁ h tk rest Jn hJn hi ⟨c, u, hc, rfl⟩ hJ h1 h2 F₁ N₁
    exact turn i c u m₁ o₁ h tk rest Jn hJn (by simpa using hc) hJ h1 h2 F₁ N₁
end
end Mine
namespace Mine
noncomputable abbrev sc_tp : Scope := { kind := .function, names := [(Str.ofString "path", .local), (Str.ofString "parts", .local), (Str.ofString "i", .local), (Str.ofString "list", .globalImplicit), (Str.ofString "map", .globalImplicit), (Str.ofString "escape", .globalImplicit), (Str.ofString "range", .globalImplicit), (Str.ofString "len", .globalImplicit)], isGenerator := false, isCoroutine := false }
noncomputable def mp_tp (o0 o1 o2 : Option Value) : Str → Option Value := fun y => if y = Str.ofString "path" then o0 else if y = Str.ofString "parts" then o1 else if y = Str.ofString "i" then o2 else none
section
variable {M : Model} {A : Around} {E : Value → Shared → Prop} {s : Shared} {L a : Addr} {cd : Value} {h₀ : Heap} {o0 o1 o2 : Option Value} {x : Value} {pos : Pos} {news : List (Addr × Obj)}
theorem ld_tp_path {Q : Value → Shared → Prop} (F : Fr h₀ L s.heap (mp_tp (some x) o1 o2)) (h : Q x s) : wpAny M A (eval (.Name (Str.ofString "path") pos) (envOf (Str.ofString "translate_pattern") sc_tp L a cd)) Q E s := ld F rfl h
theorem mp_tp_path : (fun y => if y = Str.ofString "path" then some x else mp_tp o0 o1 o2 y) = mp_tp (some x) o1 o2 := by
  funext y
  unfold mp_tp
  by_cases h : y = Str.ofString "path"
  · subst h; rfl
  · simp only [if_neg h]
theorem st_tp_path {Q : Unit → Shared → Prop} (F : Fr h₀ L s.heap (mp_tp o0 o1 o2)) (N : News h₀ L s.heap news) (h : ∀ h', Fr h₀ L h' (mp_tp (some x) o1 o2) → News h₀ L h' news → Q () { s with heap := h', toks := s.toks + 1 }) : wpAny M A (storeName (envOf (Str.ofString "translate_pattern") sc_tp L a cd) (Str.ofString "path") x) Q E s :=
  stN F N (fun h' F' N' => h h' (by rw [mp_tp_path] at F'; exact F') N')
theorem ld_tp_parts {Q : Value → Shared → Prop} (F : Fr h₀ L s.heap (mp_tp o0 (some x) o2)) (h : Q x s) : wpAny M A (eval (.Name (Str.ofString "parts") pos) (envOf (Str.ofString "translate_pattern") sc_tp L a cd)) Q E s := ld F rfl h
theorem mp_tp_parts : (fun y => if y = Str.ofString "parts" then some x else mp_tp o0 o1 o2 y) = mp_tp o0 (some x) o2 := by
  funext y
  unfold mp_tp
  by_cases h : y = Str.ofString "parts"
  · subst h; rfl
  · simp only [if_neg h]
theorem st_tp_parts {Q : Unit → Shared → Prop} (F : Fr h₀ L s.heap (mp_tp o0 o1 o2)) (N : News h₀ L s.heap news) (h : ∀ h', Fr h₀ L h' (mp_tp o0 (some x) o2) → News h₀ L h' news → Q () { s with heap := h', toks := s.toks + 1 }) : wpAny M A (storeName (envOf (Str.ofString "translate_pattern") sc_tp L a cd) (Str.ofString "parts") x) Q E s :=
  stN F N (fun h' F' N' => h h' (by rw [mp_tp_parts] at F'; exact F') N')
theorem ld_tp_i {Q : Value → Shared → Prop} (F : Fr h₀ L s.heap (mp_tp o0 o1 (some x))) (h : Q x s) : wpAny M A (eval (.Name (Str.ofString "i") pos) (envOf (Str.ofString "translate_pattern") sc_tp L a cd)) Q E s := ld F rfl h
theorem mp_tp_i : (fun y => if y = Str.ofString "i" then some x else mp_tp o0 o1 o2 y) = mp_tp o0 o1 (some x) := by
  funext y
  unfold mp_tp
  by_cases h : y = Str.ofString "i"
  · subst h; rfl
  · simp only [if_neg h]
theorem st_tp_i {Q : Unit → Shared → Prop} (F : Fr h₀ L s.heap (mp_tp o0 o1 o2)) (N : News h₀ L s.heap news) (h : ∀ h', Fr h₀ L h' (mp_tp o0 o1 (some x)) → News h₀ L h' news → Q () { s with heap := h', toks := s.toks + 1 }) : wpAny M A (storeName (envOf (Str.ofString "translate_pattern") sc_tp L a cd) (Str.ofString "i") x) Q E s :=
  stN F N (fun h' F' N' => h h' (by rw [mp_tp_i] at F'; exact F') N')
end
end Mine
namespace Mine
theorem en_tp {x0 : Value} : (fun y => List.lookup y [(Str.ofString "path", x0)]) = mp_tp (some x0) none none := by
  funext y
  unfold mp_tp
  simp only [lkc, List.lookup_nil]
  by_cases h0 : y = Str.ofString "path"
  · subst h0; rfl
  simp only [if_neg h0, ite_self]
end Mine
namespace Mine
noncomputable abbrev sc_fs : Scope := { kind := .function, names := [(Str.ofString "path", .local), (Str.ofString "kind", .local), (Str.ofString "hook", .local), (Str.ofString "given", .local), (Str.ofString "type", .globalImplicit), (Str.ofString "issubclass", .globalImplicit), (Str.ofString "str", .globalImplicit), (Str.ofString "bytes", .globalImplicit), (Str.ofString "_abc_plain_meta", .globalImplicit), (Str.ofString "getattr", .globalImplicit), (Str.ofString "TypeError", .globalImplicit), (Str.ofString "_plain_name", .globalImplicit), (Str.ofString "_wall", .globalImplicit), (Str.ofString "len", .globalImplicit)], isGenerator := false, isCoroutine := false }
noncomputable def mp_fs (o0 o1 o2 o3 : Option Value) : Str → Option Value := fun y => if y = Str.ofString "path" then o0 else if y = Str.ofString "kind" then o1 else if y = Str.ofString "hook" then o2 else if y = Str.ofString "given" then o3 else none
section
variable {M : Model} {A : Around} {E : Value → Shared → Prop} {s : Shared} {L a : Addr} {cd : Value} {h₀ : Heap} {o0 o1 o2 o3 : Option Value} {x : Value} {pos : Pos} {news : List (Addr × Obj)}
theorem ld_fs_path {Q : Value → Shared → Prop} (F : Fr h₀ L s.heap (mp_fs (some x) o1 o2 o3)) (h : Q x s) : wpAny M A (eval (.Name (Str.ofString "path") pos) (envOf (Str.ofString "fspath") sc_fs L a cd)) Q E s := ld F rfl h
theorem mp_fs_path : (fun y => if y = Str.ofString "path" then some x else mp_fs o0 o1 o2 o3 y) = mp_fs (some x) o1 o2 o3 := by
  funext y
  unfold mp_fs
  by_cases h : y = Str.ofString "path"
  · subst h; rfl
  · simp only [if_neg h]
theorem st_fs_path {Q : Unit → Shared → Prop} (F : Fr h₀ L s.heap (mp_fs o0 o1 o2 o3)) (N : News h₀ L s.heap news) (h : ∀ h', Fr h₀ L h' (mp_fs (some x) o1 o2 o3) → News h₀ L h' news → Q () { s with heap := h', toks := s.toks + 1 }) : wpAny M A (storeName (envOf (Str.ofString "fspath") sc_fs L a cd) (Str.ofString "path") x) Q E s :=
  stN F N (fun h' F' N' => h h' (by rw [mp_fs_path] at F'; exact F') N')
theorem ld_fs_kind {Q : Value → Shared → Prop} (F : Fr h₀ L s.heap (mp_fs o0 (some x) o2 o3)) (h : Q x s) : wpAny M A (eval (.Name (Str.ofString "kind") pos) (envOf (Str.ofString "fspath") sc_fs L a cd)) Q E s := ld F rfl h
theorem mp_fs_kind : (fun y => if y = Str.ofString "kind" then some x else mp_fs o0 o1 o2 o3 y) = mp_fs o0 (some x) o2 o3 := by
  funext y
  unfold mp_fs
  by_cases h : y = Str.ofString "kind"
  · subst h; rfl
  · simp only [if_neg h]
theorem st_fs_kind {Q : Unit → Shared → Prop} (F : Fr h₀ L s.heap (mp_fs o0 o1 o2 o3)) (N : News h₀ L s.heap news) (h : ∀ h', Fr h₀ L h' (mp_fs o0 (some x) o2 o3) → News h₀ L h' news → Q () { s with heap := h', toks := s.toks + 1 }) : wpAny M A (storeName (envOf (Str.ofString "fspath") sc_fs L a cd) (Str.ofString "kind") x) Q E s :=
  stN F N (fun h' F' N' => h h' (by rw [mp_fs_kind] at F'; exact F') N')
theorem ld_fs_hook {Q : Value → Shared → Prop} (F : Fr h₀ L s.heap (mp_fs o0 o1 (some x) o3)) (h : Q x s) : wpAny M A (eval (.Name (Str.ofString "hook") pos) (envOf (Str.ofString "fspath") sc_fs L a cd)) Q E s := ld F rfl h
theorem mp_fs_hook : (fun y => if y = Str.ofString "hook" then some x else mp_fs o0 o1 o2 o3 y) = mp_fs o0 o1 (some x) o3 := by
  funext y
  unfold mp_fs
  by_cases h : y = Str.ofString "hook"
  · subst h; rfl
  · simp only [if_neg h]
theorem st_fs_hook {Q : Unit → Shared → Prop} (F : Fr h₀ L s.heap (mp_fs o0 o1 o2 o3)) (N : News h₀ L s.heap news) (h : ∀ h', Fr h₀ L h' (mp_fs o0 o1 (some x) o3) → News h₀ L h' news → Q () { s with heap := h', toks := s.toks + 1 }) : wpAny M A (storeName (envOf (Str.ofString "fspath") sc_fs L a cd) (Str.ofString "hook") x) Q E s :=
  stN F N (fun h' F' N' => h h' (by rw [mp_fs_hook] at F'; exact F') N')
theorem ld_fs_given {Q : Value → Shared → Prop} (F : Fr h₀ L s.heap (mp_fs o0 o1 o2 (some x))) (h : Q x s) : wpAny M A (eval (.Name (Str.ofString "given") pos) (envOf (Str.ofString "fspath") sc_fs L a cd)) Q E s := ld F rfl h
theorem mp_fs_given : (fun y => if y = Str.ofString "given" then some x else mp_fs o0 o1 o2 o3 y) = mp_fs o0 o1 o2 (some x) := by
  funext y
  unfold mp_fs
  by_cases h : y = Str.ofString "given"
  · subst h; rfl
  · simp only [if_neg h]
theorem st_fs_given {Q : Unit → Shared → Prop} (F : Fr h₀ L s.heap (mp_fs o0 o1 o2 o3)) (N : News h₀ L s.heap news) (h : ∀ h', Fr h₀ L h' (mp_fs o0 o1 o2 (some x)) → News h₀ L h' news → Q () { s with heap := h', toks := s.toks + 1 }) : wpAny M A (storeName (envOf (Str.ofString "fspath") sc_fs L a cd) (Str.ofString "given") x) Q E s :=
  stN F N (fun h' F' N' => h h' (by rw [mp_fs_given] at F'; exact F') N')
end
end Mine
namespace Mine
theorem en_fs {x0 : Value} : (fun y => List.lookup y [(Str.ofString "path", x0)]) = mp_fs (some x0) none none none := by
  funext y
  unfold mp_fs
  simp only [lkc, List.lookup_nil]
  by_cases h0 : y = Str.ofString "path"
  · subst h0; rfl
  simp only [if_neg h0, ite_self]
end Mine
namespace Mine
noncomputable abbrev sc_sr : Scope := { kind := .function, names := [(Str.ofString "p", .local), (Str.ofString "sep", .local), (Str.ofString "empty", .local), (Str.ofString "fspath", .globalImplicit), (Str.ofString "isinstance", .globalImplicit), (Str.ofString "bytes", .globalImplicit)], isGenerator := false, isCoroutine := false }
noncomputable def mp_sr (o0 o1 o2 : Option Value) : Str → Option Value := fun y => if y = Str.ofString "p" then o0 else if y = Str.ofString "sep" then o1 else if y = Str.ofString "empty" then o2 else none
section
variable {M : Model} {A : Around} {E : Value → Shared → Prop} {s : Shared} {L a : Addr} {cd : Value} {h₀ : Heap} {o0 o1 o2 : Option Value} {x : Value} {pos : Pos} {news : List (Addr × Obj)}
theorem ld_sr_p {Q : Value → Shared → Prop} (F : Fr h₀ L s.heap (mp_sr (some x) o1 o2)) (h : Q x s) : wpAny M A (eval (.Name (Str.ofString "p") pos) (envOf (Str.ofString "splitroot") sc_sr L a cd)) Q E s := ld F rfl h
theorem mp_sr_p : (fun y => if y = Str.ofString "p" then some x else mp_sr o0 o1 o2 y) = mp_sr (some x) o1 o2 := by
  funext y
  unfold mp_sr
  by_cases h : y = Str.ofString "p"
  · subst h; rfl
  · simp only [if_neg h]
theorem st_sr_p {Q : Unit → Shared → Prop} (F : Fr h₀ L s.heap (mp_sr o0 o1 o2)) (N : News h₀ L s.heap news) (h : ∀ h', Fr h₀ L h' (mp_sr (some x) o1 o2) → News h₀ L h' news → Q () { s with heap := h', toks := s.toks + 1 }) : wpAny M A (storeName (envOf (Str.ofString "splitroot") sc_sr L a cd) (Str.ofString "p") x) Q E s :=
  stN F N (fun h' F' N' => h h' (by rw [mp_sr_p] at F'; exact F') N')
theorem ld_sr_sep {Q : Value → Shared → Prop} (F : Fr h₀ L s.heap (mp_sr o0 (some x) o2)) (h : Q x s) : wpAny M A (eval (.Name (Str.ofString "sep") pos) (envOf (Str.ofString "splitroot") sc_sr L a cd)) Q E s := ld F rfl h
theorem mp_sr_sep : (fun y => if y = Str.ofString "sep" then some x else mp_sr o0 o1 o2 y) = mp_sr o0 (some x) o2 := by
  funext y
  unfold mp_sr
  by_cases h : y = Str.ofString "sep"
  · subst h; rfl
  · simp only [if_neg h]
theorem st_sr_sep {Q : Unit → Shared → Prop} (F : Fr h₀ L s.heap (mp_sr o0 o1 o2)) (N : News h₀ L s.heap news) (h : ∀ h', Fr h₀ L h' (mp_sr o0 (some x) o2) → News h₀ L h' news → Q () { s with heap := h', toks := s.toks + 1 }) : wpAny M A (storeName (envOf (Str.ofString "splitroot") sc_sr L a cd) (Str.ofString "sep") x) Q E s :=
  stN F N (fun h' F' N' => h h' (by rw [mp_sr_sep] at F'; exact F') N')
theorem ld_sr_empty {Q : Value → Shared → Prop} (F : Fr h₀ L s.heap (mp_sr o0 o1 (some x))) (h : Q x s) : wpAny M A (eval (.Name (Str.ofString "empty") pos) (envOf (Str.ofString "splitroot") sc_sr L a cd)) Q E s := ld F rfl h
theorem mp_sr_empty : (fun y => if y = Str.ofString "empty" then some x else mp_sr o0 o1 o2 y) = mp_sr o0 o1 (some x) := by
  funext y
  unfold mp_sr
  by_cases h : y = Str.ofString "empty"
  · subst h; rfl
  · simp only [if_neg h]
theorem st_sr_empty {Q : Unit → Shared → Prop} (F : Fr h₀ L s.heap (mp_sr o0 o1 o2)) (N : News h₀ L s.heap news) (h : ∀ h', Fr h₀ L h' (mp_sr o0 o1 (some x)) → News h₀ L h' news → Q () { s with heap := h', toks := s.toks + 1 }) : wpAny M A (storeName (envOf (Str.ofString "splitroot") sc_sr L a cd) (Str.ofString "empty") x) Q E s :=
  stN F N (fun h' F' N' => h h' (by rw [mp_sr_empty] at F'; exact F') N')
end
end Mine
namespace Mine
theorem en_sr {x0 : Value} : (fun y => List.lookup y [(Str.ofString "p", x0)]) = mp_sr (some x0) none none := by
  funext y
  unfold mp_sr
  simp only [lkc, List.lookup_nil]
  by_cases h0 : y = Str.ofString "p"
  · subst h0; rfl
  simp only [if_neg h0, ite_self]
end Mine
namespace Mine
noncomputable abbrev sc_np : Scope := { kind := .function, names := [(Str.ofString "path", .local), (Str.ofString "sep", .local), (Str.ofString "dot", .local), (Str.ofString "dotdot", .local), (Str.ofString "_", .local), (Str.ofString "initial_slashes", .local), (Str.ofString "comps", .local), (Str.ofString "new_comps", .local), (Str.ofString "comp", .local), (Str.ofString "fspath", .globalImplicit), (Str.ofString "isinstance", .globalImplicit), (Str.ofString "bytes", .globalImplicit), (Str.ofString "splitroot", .globalImplicit)], isGenerator := false, isCoroutine := false }
noncomputable def mp_np (o0 o1 o2 o3 o4 o5 o6 o7 o8 : Option Value) : Str → Option Value := fun y => if y = Str.ofString "path" then o0 else if y = Str.ofString "sep" then o1 else if y = Str.ofString "dot" then o2 else if y = Str.ofString "dotdot" then o3 else if y = Str.ofString "_" then o4 else if y = Str.ofString "initial_slashes" then o5 else if y = Str.ofString "comps" then o6 else if y = Str.ofString "new_comps" then o7 else if y = Str.ofString "comp" then o8 else none
section
variable {M : Model} {A : Around} {E : Value → Shared → Prop} {s : Shared} {L a : Addr} {cd : Value} {h₀ : Heap} {o0 o1 o2 o3 o4 o5 o6 o7 o8 : Option Value} {x : Value} {pos : Pos} {news : List (Addr × Obj)}
theorem ld_np_path {Q : Value → Shared → Prop} (F : Fr h₀ L s.heap (mp_np (some x) o1 o2 o3 o4 o5 o6 o7 o8)) (h : Q x s) : wpAny M A (eval (.Name (Str.ofString "path") pos) (envOf (Str.ofString "normpath") sc_np L a cd)) Q E s := ld F rfl h
theorem mp_np_path : (fun y => if y = Str.ofString "path" then some x else mp_np o0 o1 o2 o3 o4 o5 o6 o7 o8 y) = mp_np (some x) o1 o2 o3 o4 o5 o6 o7 o8 := by
  funext y
  unfold mp_np
  by_cases h : y = Str.ofString "path"
  · subst h; rfl
  · simp only [if_neg h]
theorem st_np_path {Q : Unit → Shared → Prop} (F : Fr h₀ L s.heap (mp_np o0 o1 o2 o3 o4 o5 o6 o7 o8)) (N : News h₀ L s.heap news) (h : ∀ h', Fr h₀ L h' (mp_np (some x) o1 o2 o3 o4 o5 o6 o7 o8) → News h₀ L h' news → Q () { s with heap := h', toks := s.toks + 1 }) : wpAny M A (storeName (envOf (Str.ofString "normpath") sc_np L a cd) (Str.ofString "path") x) Q E s :=
  stN F N (fun h' F' N' => h h' (by rw [mp_np_path] at F'; exact F') N')
theorem ld_np_sep {Q : Value → Shared → Prop} (F : Fr h₀ L s.heap (mp_np o0 (some x) o2 o3 o4 o5 o6 o7 o8)) (h : Q x s) : wpAny M A (eval (.Name (Str.ofString "sep") pos) (envOf (Str.ofString "normpath") sc_np L a cd)) Q E s := ld F rfl h
theorem mp_np_sep : (fun y => if y = Str.ofString "sep" then some x else mp_np o0 o1 o2 o3 o4 o5 o6 o7 o8 y) = mp_np o0 (some x) o2 o3 o4 o5 o6 o7 o8 := by
  funext y
  unfold mp_np
  by_cases h : y = Str.ofString "sep"
  · subst h; rfl
  · simp only [if_neg h]
theorem st_np_sep {Q : Unit → Shared → Prop} (F : Fr h₀ L s.heap (mp_np o0 o1 o2 o3 o4 o5 o6 o7 o8)) (N : News h₀ L s.heap news) (h : ∀ h', Fr h₀ L h' (mp_np o0 (some x) o2 o3 o4 o5 o6 o7 o8) → News h₀ L h' news → Q () { s with heap := h', toks := s.toks + 1 }) : wpAny M A (storeName (envOf (Str.ofString "normpath") sc_np L a cd) (Str.ofString "sep") x) Q E s :=
  stN F N (fun h' F' N' => h h' (by rw [mp_np_sep] at F'; exact F') N')
theorem ld_np_dot {Q : Value → Shared → Prop} (F : Fr h₀ L s.heap (mp_np o0 o1 (some x) o3 o4 o5 o6 o7 o8)) (h : Q x s) : wpAny M A (eval (.Name (Str.ofString "dot") pos) (envOf (Str.ofString "normpath") sc_np L a cd)) Q E s := ld F rfl h
theorem mp_np_dot : (fun y => if y = Str.ofString "dot" then some x else mp_np o0 o1 o2 o3 o4 o5 o6 o7 o8 y) = mp_np o0 o1 (some x) o3 o4 o5 o6 o7 o8 := by
  funext y
  unfold mp_np
  by_cases h : y = Str.ofString "dot"
  · subst h; rfl
  · simp only [if_neg h]
theorem st_np_dot {Q : Unit → Shared → Prop} (F : Fr h₀ L s.heap (mp_np o0 o1 o2 o3 o4 o5 o6 o7 o8)) (N : News h₀ L s.heap news) (h : ∀ h', Fr h₀ L h' (mp_np o0 o1 (some x) o3 o4 o5 o6 o7 o8) → News h₀ L h' news → Q () { s with heap := h', toks := s.toks + 1 }) : wpAny M A (storeName (envOf (Str.ofString "normpath") sc_np L a cd) (Str.ofString "dot") x) Q E s :=
  stN F N (fun h' F' N' => h h' (by rw [mp_np_dot] at F'; exact F') N')
theorem ld_np_dotdot {Q : Value → Shared → Prop} (F : Fr h₀ L s.heap (mp_np o0 o1 o2 (some x) o4 o5 o6 o7 o8)) (h : Q x s) : wpAny M A (eval (.Name (Str.ofString "dotdot") pos) (envOf (Str.ofString "normpath") sc_np L a cd)) Q E s := ld F rfl h
theorem mp_np_dotdot : (fun y => if y = Str.ofString "dotdot" then some x else mp_np o0 o1 o2 o3 o4 o5 o6 o7 o8 y) = mp_np o0 o1 o2 (some x) o4 o5 o6 o7 o8 := by
  funext y
  unfold mp_np
  by_cases h : y = Str.ofString "dotdot"
  · subst h; rfl
  · simp only [if_neg h]
theorem st_np_dotdot {Q : Unit → Shared → Prop} (F : Fr h₀ L s.heap (mp_np o0 o1 o2 o3 o4 o5 o6 o7 o8)) (N : News h₀ L s.heap news) (h : ∀ h', Fr h₀ L h' (mp_np o0 o1 o2 (some x) o4 o5 o6 o7 o8) → News h₀ L h' news → Q () { s with heap := h', toks := s.toks + 1 }) : wpAny M A (storeName (envOf (Str.ofString "normpath") sc_np L a cd) (Str.ofString "dotdot") x) Q E s :=
  stN F N (fun h' F' N' => h h' (by rw [mp_np_dotdot] at F'; exact F') N')
theorem ld_np_us {Q : Value → Shared → Prop} (F : Fr h₀ L s.heap (mp_np o0 o1 o2 o3 (some x) o5 o6 o7 o8)) (h : Q x s) : wpAny M A (eval (.Name (Str.ofString "_") pos) (envOf (Str.ofString "normpath") sc_np L a cd)) Q E s := ld F rfl h
theorem mp_np_us : (fun y => if y = Str.ofString "_" then some x else mp_np o0 o1 o2 o3 o4 o5 o6 o7 o8 y) = mp_np o0 o1 o2 o3 (some x) o5 o6 o7 o8 := by
  funext y
  unfold mp_np
  by_cases h : y = Str.ofString "_"
  · subst h; rfl
  · simp only [if_neg h]
theorem st_np_us {Q : Unit → Shared → Prop} (F : Fr h₀ L s.heap (mp_np o0 o1 o2 o3 o4 o5 o6 o7 o8)) (N : News h₀ L s.heap news) (h : ∀ h', Fr h₀ L h' (mp_np o0 o1 o2 o3 (some x) o5 o6 o7 o8) → News h₀ L h' news → Q () { s with heap := h', toks := s.toks + 1 }) : wpAny M A (storeName (envOf (Str.ofString "normpath") sc_np L a cd) (Str.ofString "_") x) Q E s :=
  stN F N (fun h' F' N' => h h' (by rw [mp_np_us] at F'; exact F') N')
theorem ld_np_initial_slashes {Q : Value → Shared → Prop} (F : Fr h₀ L s.heap (mp_np o0 o1 o2 o3 o4 (some x) o6 o7 o8)) (h : Q x s) : wpAny M A (eval (.Name (Str.ofString "initial_slashes") pos) (envOf (Str.ofString "normpath") sc_np L a cd)) Q E s := ld F rfl h
theorem mp_np_initial_slashes : (fun y => if y = Str.ofString "initial_slashes" then some x else mp_np o0 o1 o2 o3 o4 o5 o6 o7 o8 y) = mp_np o0 o1 o2 o3 o4 (some x) o6 o7 o8 := by
  funext y
  unfold mp_np
  by_cases h : y = Str.ofString "initial_slashes"
  · subst h; rfl
  · simp only [if_neg h]
theorem st_np_initial_slashes {Q : Unit → Shared → Prop} (F : Fr h₀ L s.heap (mp_np o0 o1 o2 o3 o4 o5 o6 o7 o8)) (N : News h₀ L s.heap news) (h : ∀ h', Fr h₀ L h' (mp_np o0 o1 o2 o3 o4 (some x) o6 o7 o8) → News h₀ L h' news → Q () { s with heap := h', toks := s.toks + 1 }) : wpAny M A (storeName (envOf (Str.ofString "normpath") sc_np L a cd) (Str.ofString "initial_slashes") x) Q E s :=
  stN F N (fun h' F' N' => h h' (by rw [mp_np_initial_slashes] at F'; exact F') N')
theorem ld_np_comps {Q : Value → Shared → Prop} (F : Fr h₀ L s.heap (mp_np o0 o1 o2 o3 o4 o5 (some x) o7 o8)) (h : Q x s) : wpAny M A (eval (.Name (Str.ofString "comps") pos) (envOf (Str.ofString "normpath") sc_np L a cd)) Q E s := ld F rfl h
theorem mp_np_comps : (fun y => if y = Str.ofString "comps" then some x else mp_np o0 o1 o2 o3 o4 o5 o6 o7 o8 y) = mp_np o0 o1 o2 o3 o4 o5 (some x) o7 o8 := by
  funext y
  unfold mp_np
  by_cases h : y = Str.ofString "comps"
  · subst h; rfl
  · simp only [if_neg h]
theorem st_np_comps {Q : Unit → Shared → Prop} (F : Fr h₀ L s.heap (mp_np o0 o1 o2 o3 o4 o5 o6 o7 o8)) (N : News h₀ L s.heap news) (h : ∀ h', Fr h₀ L h' (mp_np o0 o1 o2 o3 o4 o5 (some x) o7 o8) → News h₀ L h' news → Q () { s with heap := h', toks := s.toks + 1 }) : wpAny M A (storeName (envOf (Str.ofString "normpath") sc_np L a cd) (Str.ofString "comps") x) Q E s :=
  stN F N (fun h' F' N' => h h' (by rw [mp_np_comps] at F'; exact F') N')
theorem ld_np_new_comps {Q : Value → Shared → Prop} (F : Fr h₀ L s.heap (mp_np o0 o1 o2 o3 o4 o5 o6 (some x) o8)) (h : Q x s) : wpAny M A (eval (.Name (Str.ofString "new_comps") pos) (envOf (Str.ofString "normpath") sc_np L a cd)) Q E s := ld F rfl h
theorem mp_np_new_comps : (fun y => if y = Str.ofString "new_comps" then some x else mp_np o0 o1 o2 o3 o4 o5 o6 o7 o8 y) = mp_np o0 o1 o2 o3 o4 o5 o6 (some x) o8 := by
  funext y
  unfold mp_np
  by_cases h : y = Str.ofString "new_comps"
  · subst h; rfl
  · simp only [if_neg h]
theorem st_np_new_comps {Q : Unit → Shared → Prop} (F : Fr h₀ L s.heap (mp_np o0 o1 o2 o3 o4 o5 o6 o7 o8)) (N : News h₀ L s.heap news) (h : ∀ h', Fr h₀ L h' (mp_np o0 o1 o2 o3 o4 o5 o6 (some x) o8) → News h₀ L h' news → Q () { s with heap := h', toks := s.toks + 1 }) : wpAny M A (storeName (envOf (Str.ofString "normpath") sc_np L a cd) (Str.ofString "new_comps") x) Q E s :=
  stN F N (fun h' F' N' => h h' (by rw [mp_np_new_comps] at F'; exact F') N')
theorem ld_np_comp {Q : Value → Shared → Prop} (F : Fr h₀ L s.heap (mp_np o0 o1 o2 o3 o4 o5 o6 o7 (some x))) (h : Q x s) : wpAny M A (eval (.Name (Str.ofString "comp") pos) (envOf (Str.ofString "normpath") sc_np L a cd)) Q E s := ld F rfl h
theorem mp_np_comp : (fun y => if y = Str.ofString "comp" then some x else mp_np o0 o1 o2 o3 o4 o5 o6 o7 o8 y) = mp_np o0 o1 o2 o3 o4 o5 o6 o7 (some x) := by
  funext y
  unfold mp_np
  by_cases h : y = Str.ofString "comp"
  · subst h; rfl
  · simp only [if_neg h]
theorem st_np_comp {Q : Unit → Shared → Prop} (F : Fr h₀ L s.heap (mp_np o0 o1 o2 o3 o4 o5 o6 o7 o8)) (N : News h₀ L s.heap news) (h : ∀ h', Fr h₀ L h' (mp_np o0 o1 o2 o3 o4 o5 o6 o7 (some x)) → News h₀ L h' news → Q () { s with heap := h', toks := s.toks + 1 }) : wpAny M A (storeName (envOf (Str.ofString "normpath") sc_np L a cd) (Str.ofString "comp") x) Q E s :=
  stN F N (fun h' F' N' => h h' (by rw [mp_np_comp] at F'; exact F') N')
end
end Mine
namespace Mine
theorem en_np {x0 : Value} : (fun y => List.lookup y [(Str.ofString "path", x0)]) = mp_np (some x0) none none none none none none none none := by
  funext y
  unfold mp_np
  simp only [lkc, List.lookup_nil]
  by_cases h0 : y = Str.ofString "path"
  · subst h0; rfl
  simp only [if_neg h0, ite_self]
end Mine
namespace Mine
noncomputable abbrev sc_lr : Scope := { kind := .function, names := [(Str.ofString "paths", .local), (Str.ofString "split", .globalImplicit), (Str.ofString "ValueError", .globalImplicit)], isGenerator := false, isCoroutine := false, more := [(Str.ofString "fast", Const.str (Str.ofString "paths")), (Str.ofString "fast", Const.str (Str.ofString "path"))] }
noncomputable def mp_lr (o0 : Option Value) : Str → Option Value := fun y => if y = Str.ofString "paths" then o0 else none
section
variable {M : Model} {A : Around} {E : Value → Shared → Prop} {s : Shared} {L a : Addr} {cd : Value} {h₀ : Heap} {o0 : Option Value} {x : Value} {pos : Pos} {news : List (Addr × Obj)}
theorem ld_lr_paths {Q : Value → Shared → Prop} (F : Fr h₀ L s.heap (mp_lr (some x))) (h : Q x s) : wpAny M A (eval (.Name (Str.ofString "paths") pos) (envOf (Str.ofString "_law_read") sc_lr L a cd)) Q E s := ld F rfl h
theorem mp_lr_paths : (fun y => if y = Str.ofString "paths" then some x else mp_lr o0 y) = mp_lr (some x) := by
  funext y
  unfold mp_lr
  by_cases h : y = Str.ofString "paths"
  · subst h; rfl
  · simp only [if_neg h]
theorem st_lr_paths {Q : Unit → Shared → Prop} (F : Fr h₀ L s.heap (mp_lr o0)) (N : News h₀ L s.heap news) (h : ∀ h', Fr h₀ L h' (mp_lr (some x)) → News h₀ L h' news → Q () { s with heap := h', toks := s.toks + 1 }) : wpAny M A (storeName (envOf (Str.ofString "_law_read") sc_lr L a cd) (Str.ofString "paths") x) Q E s :=
  stN F N (fun h' F' N' => h h' (by rw [mp_lr_paths] at F'; exact F') N')
end
end Mine
namespace Mine
theorem en_lr {x0 : Value} : (fun y => List.lookup y [(Str.ofString "paths", x0)]) = mp_lr (some x0) := by
  funext y
  unfold mp_lr
  simp only [lkc, List.lookup_nil]
end Mine
namespace Mine
noncomputable abbrev sc_lh : Scope := { kind := .function, names := [(Str.ofString "paths", .local), (Str.ofString "words", .local), (Str.ofString "word", .local), (Str.ofString "inside", .local), (Str.ofString "place", .local), (Str.ofString "stars", .local), (Str.ofString "seen", .local), (Str.ofString "sign", .local), (Str.ofString "range", .globalImplicit), (Str.ofString "len", .globalImplicit)], isGenerator := false, isCoroutine := false }
noncomputable def mp_lh (o0 o1 o2 o3 o4 o5 o6 o7 : Option Value) : Str → Option Value := fun y => if y = Str.ofString "paths" then o0 else if y = Str.ofString "words" then o1 else if y = Str.ofString "word" then o2 else if y = Str.ofString "inside" then o3 else if y = Str.ofString "place" then o4 else if y = Str.ofString "stars" then o5 else if y = Str.ofString "seen" then o6 else if y = Str.ofString "sign" then o7 else none
section
variable {M : Model} {A : Around} {E : Value → Shared → Prop} {s : Shared} {L a : Addr} {cd : Value} {h₀ : Heap} {o0 o1 o2 o3 o4 o5 o6 o7 : Option Value} {x : Value} {pos : Pos} {news : List (Addr × Obj)}
theorem ld_lh_paths {Q : Value → Shared → Prop} (F : Fr h₀ L s.heap (mp_lh (some x) o1 o2 o3 o4 o5 o6 o7)) (h : Q x s) : wpAny M A (eval (.Name (Str.ofString "paths") pos) (envOf (Str.ofString "_law_heard") sc_lh L a cd)) Q E s := ld F rfl h
theorem mp_lh_paths : (fun y => if y = Str.ofString "paths" then some x else mp_lh o0 o1 o2 o3 o4 o5 o6 o7 y) = mp_lh (some x) o1 o2 o3 o4 o5 o6 o7 := by
  funext y
  unfold mp_lh
  by_cases h : y = Str.ofString "paths"
  · subst h; rfl
  · simp only [if_neg h]
theorem st_lh_paths {Q : Unit → Shared → Prop} (F : Fr h₀ L s.heap (mp_lh o0 o1 o2 o3 o4 o5 o6 o7)) (N : News h₀ L s.heap news) (h : ∀ h', Fr h₀ L h' (mp_lh (some x) o1 o2 o3 o4 o5 o6 o7) → News h₀ L h' news → Q () { s with heap := h', toks := s.toks + 1 }) : wpAny M A (storeName (envOf (Str.ofString "_law_heard") sc_lh L a cd) (Str.ofString "paths") x) Q E s :=
  stN F N (fun h' F' N' => h h' (by rw [mp_lh_paths] at F'; exact F') N')
theorem ld_lh_words {Q : Value → Shared → Prop} (F : Fr h₀ L s.heap (mp_lh o0 (some x) o2 o3 o4 o5 o6 o7)) (h : Q x s) : wpAny M A (eval (.Name (Str.ofString "words") pos) (envOf (Str.ofString "_law_heard") sc_lh L a cd)) Q E s := ld F rfl h
theorem mp_lh_words : (fun y => if y = Str.ofString "words" then some x else mp_lh o0 o1 o2 o3 o4 o5 o6 o7 y) = mp_lh o0 (some x) o2 o3 o4 o5 o6 o7 := by
  funext y
  unfold mp_lh
  by_cases h : y = Str.ofString "words"
  · subst h; rfl
  · simp only [if_neg h]
theorem st_lh_words {Q : Unit → Shared → Prop} (F : Fr h₀ L s.heap (mp_lh o0 o1 o2 o3 o4 o5 o6 o7)) (N : News h₀ L s.heap news) (h : ∀ h', Fr h₀ L h' (mp_lh o0 (some x) o2 o3 o4 o5 o6 o7) → News h₀ L h' news → Q () { s with heap := h', toks := s.toks + 1 }) : wpAny M A (storeName (envOf (Str.ofString "_law_heard") sc_lh L a cd) (Str.ofString "words") x) Q E s :=
  stN F N (fun h' F' N' => h h' (by rw [mp_lh_words] at F'; exact F') N')
theorem ld_lh_word {Q : Value → Shared → Prop} (F : Fr h₀ L s.heap (mp_lh o0 o1 (some x) o3 o4 o5 o6 o7)) (h : Q x s) : wpAny M A (eval (.Name (Str.ofString "word") pos) (envOf (Str.ofString "_law_heard") sc_lh L a cd)) Q E s := ld F rfl h
theorem mp_lh_word : (fun y => if y = Str.ofString "word" then some x else mp_lh o0 o1 o2 o3 o4 o5 o6 o7 y) = mp_lh o0 o1 (some x) o3 o4 o5 o6 o7 := by
  funext y
  unfold mp_lh
  by_cases h : y = Str.ofString "word"
  · subst h; rfl
  · simp only [if_neg h]
theorem st_lh_word {Q : Unit → Shared → Prop} (F : Fr h₀ L s.heap (mp_lh o0 o1 o2 o3 o4 o5 o6 o7)) (N : News h₀ L s.heap news) (h : ∀ h', Fr h₀ L h' (mp_lh o0 o1 (some x) o3 o4 o5 o6 o7) → News h₀ L h' news → Q () { s with heap := h', toks := s.toks + 1 }) : wpAny M A (storeName (envOf (Str.ofString "_law_heard") sc_lh L a cd) (Str.ofString "word") x) Q E s :=
  stN F N (fun h' F' N' => h h' (by rw [mp_lh_word] at F'; exact F') N')
theorem ld_lh_inside {Q : Value → Shared → Prop} (F : Fr h₀ L s.heap (mp_lh o0 o1 o2 (some x) o4 o5 o6 o7)) (h : Q x s) : wpAny M A (eval (.Name (Str.ofString "inside") pos) (envOf (Str.ofString "_law_heard") sc_lh L a cd)) Q E s := ld F rfl h
theorem mp_lh_inside : (fun y => if y = Str.ofString "inside" then some x else mp_lh o0 o1 o2 o3 o4 o5 o6 o7 y) = mp_lh o0 o1 o2 (some x) o4 o5 o6 o7 := by
  funext y
  unfold mp_lh
  by_cases h : y = Str.ofString "inside"
  · subst h; rfl
  · simp only [if_neg h]
theorem st_lh_inside {Q : Unit → Shared → Prop} (F : Fr h₀ L s.heap (mp_lh o0 o1 o2 o3 o4 o5 o6 o7)) (N : News h₀ L s.heap news) (h : ∀ h', Fr h₀ L h' (mp_lh o0 o1 o2 (some x) o4 o5 o6 o7) → News h₀ L h' news → Q () { s with heap := h', toks := s.toks + 1 }) : wpAny M A (storeName (envOf (Str.ofString "_law_heard") sc_lh L a cd) (Str.ofString "inside") x) Q E s :=
  stN F N (fun h' F' N' => h h' (by rw [mp_lh_inside] at F'; exact F') N')
theorem ld_lh_place {Q : Value → Shared → Prop} (F : Fr h₀ L s.heap (mp_lh o0 o1 o2 o3 (some x) o5 o6 o7)) (h : Q x s) : wpAny M A (eval (.Name (Str.ofString "place") pos) (envOf (Str.ofString "_law_heard") sc_lh L a cd)) Q E s := ld F rfl h
theorem mp_lh_place : (fun y => if y = Str.ofString "place" then some x else mp_lh o0 o1 o2 o3 o4 o5 o6 o7 y) = mp_lh o0 o1 o2 o3 (some x) o5 o6 o7 := by
  funext y
  unfold mp_lh
  by_cases h : y = Str.ofString "place"
  · subst h; rfl
  · simp only [if_neg h]
theorem st_lh_place {Q : Unit → Shared → Prop} (F : Fr h₀ L s.heap (mp_lh o0 o1 o2 o3 o4 o5 o6 o7)) (N : News h₀ L s.heap news) (h : ∀ h', Fr h₀ L h' (mp_lh o0 o1 o2 o3 (some x) o5 o6 o7) → News h₀ L h' news → Q () { s with heap := h', toks := s.toks + 1 }) : wpAny M A (storeName (envOf (Str.ofString "_law_heard") sc_lh L a cd) (Str.ofString "place") x) Q E s :=
  stN F N (fun h' F' N' => h h' (by rw [mp_lh_place] at F'; exact F') N')
theorem ld_lh_stars {Q : Value → Shared → Prop} (F : Fr h₀ L s.heap (mp_lh o0 o1 o2 o3 o4 (some x) o6 o7)) (h : Q x s) : wpAny M A (eval (.Name (Str.ofString "stars") pos) (envOf (Str.ofString "_law_heard") sc_lh L a cd)) Q E s := ld F rfl h
theorem mp_lh_stars : (fun y => if y = Str.ofString "stars" then some x else mp_lh o0 o1 o2 o3 o4 o5 o6 o7 y) = mp_lh o0 o1 o2 o3 o4 (some x) o6 o7 := by
  funext y
  unfold mp_lh
  by_cases h : y = Str.ofString "stars"
  · subst h; rfl
  · simp only [if_neg h]
theorem st_lh_stars {Q : Unit → Shared → Prop} (F : Fr h₀ L s.heap (mp_lh o0 o1 o2 o3 o4 o5 o6 o7)) (N : News h₀ L s.heap news) (h : ∀ h', Fr h₀ L h' (mp_lh o0 o1 o2 o3 o4 (some x) o6 o7) → News h₀ L h' news → Q () { s with heap := h', toks := s.toks + 1 }) : wpAny M A (storeName (envOf (Str.ofString "_law_heard") sc_lh L a cd) (Str.ofString "stars") x) Q E s :=
  stN F N (fun h' F' N' => h h' (by rw [mp_lh_stars] at F'; exact F') N')
theorem ld_lh_seen {Q : Value → Shared → Prop} (F : Fr h₀ L s.heap (mp_lh o0 o1 o2 o3 o4 o5 (some x) o7)) (h : Q x s) : wpAny M A (eval (.Name (Str.ofString "seen") pos) (envOf (Str.ofString "_law_heard") sc_lh L a cd)) Q E s := ld F rfl h
theorem mp_lh_seen : (fun y => if y = Str.ofString "seen" then some x else mp_lh o0 o1 o2 o3 o4 o5 o6 o7 y) = mp_lh o0 o1 o2 o3 o4 o5 (some x) o7 := by
  funext y
  unfold mp_lh
  by_cases h : y = Str.ofString "seen"
  · subst h; rfl
  · simp only [if_neg h]
theorem st_lh_seen {Q : Unit → Shared → Prop} (F : Fr h₀ L s.heap (mp_lh o0 o1 o2 o3 o4 o5 o6 o7)) (N : News h₀ L s.heap news) (h : ∀ h', Fr h₀ L h' (mp_lh o0 o1 o2 o3 o4 o5 (some x) o7) → News h₀ L h' news → Q () { s with heap := h', toks := s.toks + 1 }) : wpAny M A (storeName (envOf (Str.ofString "_law_heard") sc_lh L a cd) (Str.ofString "seen") x) Q E s :=
  stN F N (fun h' F' N' => h h' (by rw [mp_lh_seen] at F'; exact F') N')
theorem ld_lh_sign {Q : Value → Shared → Prop} (F : Fr h₀ L s.heap (mp_lh o0 o1 o2 o3 o4 o5 o6 (some x))) (h : Q x s) : wpAny M A (eval (.Name (Str.ofString "sign") pos) (envOf (Str.ofString "_law_heard") sc_lh L a cd)) Q E s := ld F rfl h
theorem mp_lh_sign : (fun y => if y = Str.ofString "sign" then some x else mp_lh o0 o1 o2 o3 o4 o5 o6 o7 y) = mp_lh o0 o1 o2 o3 o4 o5 o6 (some x) := by
  funext y
  unfold mp_lh
  by_cases h : y = Str.ofString "sign"
  · subst h; rfl
  · simp only [if_neg h]
theorem st_lh_sign {Q : Unit → Shared → Prop} (F : Fr h₀ L s.heap (mp_lh o0 o1 o2 o3 o4 o5 o6 o7)) (N : News h₀ L s.heap news) (h : ∀ h', Fr h₀ L h' (mp_lh o0 o1 o2 o3 o4 o5 o6 (some x)) → News h₀ L h' news → Q () { s with heap := h', toks := s.toks + 1 }) : wpAny M A (storeName (envOf (Str.ofString "_law_heard") sc_lh L a cd) (Str.ofString "sign") x) Q E s :=
  stN F N (fun h' F' N' => h h' (by rw [mp_lh_sign] at F'; exact F') N')
end
end Mine
namespace Mine
theorem en_lh {x0 : Value} : (fun y => List.lookup y [(Str.ofString "paths", x0)]) = mp_lh (some x0) none none none none none none none := by
  funext y
  unfold mp_lh
  simp only [lkc, List.lookup_nil]
  by_cases h0 : y = Str.ofString "paths"
  · subst h0; rfl
  simp only [if_neg h0, ite_self]
end Mine
namespace Mine
noncomputable abbrev sc_lt : Scope := { kind := .function, names := [(Str.ofString "path", .local), (Str.ofString "names", .local), (Str.ofString "lead", .local)], isGenerator := false, isCoroutine := false, more := [(Str.ofString "fast", Const.str (Str.ofString "path")), (Str.ofString "fast", Const.str (Str.ofString "name")), (Str.ofString "fast", Const.str (Str.ofString "names")), (Str.ofString "fast", Const.str (Str.ofString "lead"))] }
noncomputable def mp_lt (o0 o1 o2 : Option Value) : Str → Option Value := fun y => if y = Str.ofString "path" then o0 else if y = Str.ofString "names" then o1 else if y = Str.ofString "lead" then o2 else none
section
variable {M : Model} {A : Around} {E : Value → Shared → Prop} {s : Shared} {L a : Addr} {cd : Value} {h₀ : Heap} {o0 o1 o2 : Option Value} {x : Value} {pos : Pos} {news : List (Addr × Obj)}
theorem ld_lt_path {Q : Value → Shared → Prop} (F : Fr h₀ L s.heap (mp_lt (some x) o1 o2)) (h : Q x s) : wpAny M A (eval (.Name (Str.ofString "path") pos) (envOf (Str.ofString "_law_thin") sc_lt L a cd)) Q E s := ld F rfl h
theorem mp_lt_path : (fun y => if y = Str.ofString "path" then some x else mp_lt o0 o1 o2 y) = mp_lt (some x) o1 o2 := by
  funext y
  unfold mp_lt
  by_cases h : y = Str.ofString "path"
  · subst h; rfl
  · simp only [if_neg h]
theorem st_lt_path {Q : Unit → Shared → Prop} (F : Fr h₀ L s.heap (mp_lt o0 o1 o2)) (N : News h₀ L s.heap news) (h : ∀ h', Fr h₀ L h' (mp_lt (some x) o1 o2) → News h₀ L h' news → Q () { s with heap := h', toks := s.toks + 1 }) : wpAny M A (storeName (envOf (Str.ofString "_law_thin") sc_lt L a cd) (Str.ofString "path") x) Q E s :=
  stN F N (fun h' F' N' => h h' (by rw [mp_lt_path] at F'; exact F') N')
theorem ld_lt_names {Q : Value → Shared → Prop} (F : Fr h₀ L s.heap (mp_lt o0 (some x) o2)) (h : Q x s) : wpAny M A (eval (.Name (Str.ofString "names") pos) (envOf (Str.ofString "_law_thin") sc_lt L a cd)) Q E s := ld F rfl h
theorem mp_lt_names : (fun y => if y = Str.ofString "names" then some x else mp_lt o0 o1 o2 y) = mp_lt o0 (some x) o2 := by
  funext y
  unfold mp_lt
  by_cases h : y = Str.ofString "names"
  · subst h; rfl
  · simp only [if_neg h]
theorem st_lt_names {Q : Unit → Shared → Prop} (F : Fr h₀ L s.heap (mp_lt o0 o1 o2)) (N : News h₀ L s.heap news) (h : ∀ h', Fr h₀ L h' (mp_lt o0 (some x) o2) → News h₀ L h' news → Q () { s with heap := h', toks := s.toks + 1 }) : wpAny M A (storeName (envOf (Str.ofString "_law_thin") sc_lt L a cd) (Str.ofString "names") x) Q E s :=
  stN F N (fun h' F' N' => h h' (by rw [mp_lt_names] at F'; exact F') N')
theorem ld_lt_lead {Q : Value → Shared → Prop} (F : Fr h₀ L s.heap (mp_lt o0 o1 (some x))) (h : Q x s) : wpAny M A (eval (.Name (Str.ofString "lead") pos) (envOf (Str.ofString "_law_thin") sc_lt L a cd)) Q E s := ld F rfl h
theorem mp_lt_lead : (fun y => if y = Str.ofString "lead" then some x else mp_lt o0 o1 o2 y) = mp_lt o0 o1 (some x) := by
  funext y
  unfold mp_lt
  by_cases h : y = Str.ofString "lead"
  · subst h; rfl
  · simp only [if_neg h]
theorem st_lt_lead {Q : Unit → Shared → Prop} (F : Fr h₀ L s.heap (mp_lt o0 o1 o2)) (N : News h₀ L s.heap news) (h : ∀ h', Fr h₀ L h' (mp_lt o0 o1 (some x)) → News h₀ L h' news → Q () { s with heap := h', toks := s.toks + 1 }) : wpAny M A (storeName (envOf (Str.ofString "_law_thin") sc_lt L a cd) (Str.ofString "lead") x) Q E s :=
  stN F N (fun h' F' N' => h h' (by rw [mp_lt_lead] at F'; exact F') N')
end
end Mine
namespace Mine
theorem en_lt {x0 : Value} : (fun y => List.lookup y [(Str.ofString "path", x0)]) = mp_lt (some x0) none none := by
  funext y
  unfold mp_lt
  simp only [lkc, List.lookup_nil]
  by_cases h0 : y = Str.ofString "path"
  · subst h0; rfl
  simp only [if_neg h0, ite_self]
end Mine
namespace Mine
noncomputable abbrev sc_lw : Scope := { kind := .function, names := [(Str.ofString "script", .local), (Str.ofString "path", .local), (Str.ofString "paths", .local), (Str.ofString "told", .local), (Str.ofString "one", .local), (Str.ofString "_law_read", .globalImplicit), (Str.ofString "_law_heard", .globalImplicit), (Str.ofString "normpath", .globalImplicit), (Str.ofString "translate_pattern", .globalImplicit), (Str.ofString "_law_thin", .globalImplicit)], isGenerator := false, isCoroutine := false, more := [(Str.ofString "fast", Const.str (Str.ofString "script")), (Str.ofString "fast", Const.str (Str.ofString "x")), (Str.ofString "fast", Const.str (Str.ofString "path")), (Str.ofString "fast", Const.str (Str.ofString "paths")), (Str.ofString "fast", Const.str (Str.ofString "told")), (Str.ofString "fast", Const.str (Str.ofString "word")), (Str.ofString "fast", Const.str (Str.ofString "one"))] }
noncomputable def mp_lw (o0 o1 o2 o3 o4 : Option Value) : Str → Option Value := fun y => if y = Str.ofString "script" then o0 else if y = Str.ofString "path" then o1 else if y = Str.ofString "paths" then o2 else if y = Str.ofString "told" then o3 else if y = Str.ofString "one" then o4 else none
section
variable {M : Model} {A : Around} {E : Value → Shared → Prop} {s : Shared} {L a : Addr} {cd : Value} {h₀ : Heap} {o0 o1 o2 o3 o4 : Option Value} {x : Value} {pos : Pos} {news : List (Addr × Obj)}
theorem ld_lw_script {Q : Value → Shared → Prop} (F : Fr h₀ L s.heap (mp_lw (some x) o1 o2 o3 o4)) (h : Q x s) : wpAny M A (eval (.Name (Str.ofString "script") pos) (envOf (Str.ofString "law") sc_lw L a cd)) Q E s := ld F rfl h
theorem mp_lw_script : (fun y => if y = Str.ofString "script" then some x else mp_lw o0 o1 o2 o3 o4 y) = mp_lw (some x) o1 o2 o3 o4 := by
  funext y
  unfold mp_lw
  by_cases h : y = Str.ofString "script"
  · subst h; rfl
  · simp only [if_neg h]
theorem st_lw_script {Q : Unit → Shared → Prop} (F : Fr h₀ L s.heap (mp_lw o0 o1 o2 o3 o4)) (N : News h₀ L s.heap news) (h : ∀ h', Fr h₀ L h' (mp_lw (some x) o1 o2 o3 o4) → News h₀ L h' news → Q () { s with heap := h', toks := s.toks + 1 }) : wpAny M A (storeName (envOf (Str.ofString "law") sc_lw L a cd) (Str.ofString "script") x) Q E s :=
  stN F N (fun h' F' N' => h h' (by rw [mp_lw_script] at F'; exact F') N')
theorem ld_lw_path {Q : Value → Shared → Prop} (F : Fr h₀ L s.heap (mp_lw o0 (some x) o2 o3 o4)) (h : Q x s) : wpAny M A (eval (.Name (Str.ofString "path") pos) (envOf (Str.ofString "law") sc_lw L a cd)) Q E s := ld F rfl h
theorem mp_lw_path : (fun y => if y = Str.ofString "path" then some x else mp_lw o0 o1 o2 o3 o4 y) = mp_lw o0 (some x) o2 o3 o4 := by
  funext y
  unfold mp_lw
  by_cases h : y = Str.ofString "path"
  · subst h; rfl
  · simp only [if_neg h]
theorem st_lw_path {Q : Unit → Shared → Prop} (F : Fr h₀ L s.heap (mp_lw o0 o1 o2 o3 o4)) (N : News h₀ L s.heap news) (h : ∀ h', Fr h₀ L h' (mp_lw o0 (some x) o2 o3 o4) → News h₀ L h' news → Q () { s with heap := h', toks := s.toks + 1 }) : wpAny M A (storeName (envOf (Str.ofString "law") sc_lw L a cd) (Str.ofString "path") x) Q E s :=
  stN F N (fun h' F' N' => h h' (by rw [mp_lw_path] at F'; exact F') N')
theorem ld_lw_paths {Q : Value → Shared → Prop} (F : Fr h₀ L s.heap (mp_lw o0 o1 (some x) o3 o4)) (h : Q x s) : wpAny M A (eval (.Name (Str.ofString "paths") pos) (envOf (Str.ofString "law") sc_lw L a cd)) Q E s := ld F rfl h
theorem mp_lw_paths : (fun y => if y = Str.ofString "paths" then some x else mp_lw o0 o1 o2 o3 o4 y) = mp_lw o0 o1 (some x) o3 o4 := by
  funext y
  unfold mp_lw
  by_cases h : y = Str.ofString "paths"
  · subst h; rfl
  · simp only [if_neg h]
theorem st_lw_paths {Q : Unit → Shared → Prop} (F : Fr h₀ L s.heap (mp_lw o0 o1 o2 o3 o4)) (N : News h₀ L s.heap news) (h : ∀ h', Fr h₀ L h' (mp_lw o0 o1 (some x) o3 o4) → News h₀ L h' news → Q () { s with heap := h', toks := s.toks + 1 }) : wpAny M A (storeName (envOf (Str.ofString "law") sc_lw L a cd) (Str.ofString "paths") x) Q E s :=
  stN F N (fun h' F' N' => h h' (by rw [mp_lw_paths] at F'; exact F') N')
theorem ld_lw_told {Q : Value → Shared → Prop} (F : Fr h₀ L s.heap (mp_lw o0 o1 o2 (some x) o4)) (h : Q x s) : wpAny M A (eval (.Name (Str.ofString "told") pos) (envOf (Str.ofString "law") sc_lw L a cd)) Q E s := ld F rfl h
theorem mp_lw_told : (fun y => if y = Str.ofString "told" then some x else mp_lw o0 o1 o2 o3 o4 y) = mp_lw o0 o1 o2 (some x) o4 := by
  funext y
  unfold mp_lw
  by_cases h : y = Str.ofString "told"
  · subst h; rfl
  · simp only [if_neg h]
theorem st_lw_told {Q : Unit → Shared → Prop} (F : Fr h₀ L s.heap (mp_lw o0 o1 o2 o3 o4)) (N : News h₀ L s.heap news) (h : ∀ h', Fr h₀ L h' (mp_lw o0 o1 o2 (some x) o4) → News h₀ L h' news → Q () { s with heap := h', toks := s.toks + 1 }) : wpAny M A (storeName (envOf (Str.ofString "law") sc_lw L a cd) (Str.ofString "told") x) Q E s :=
  stN F N (fun h' F' N' => h h' (by rw [mp_lw_told] at F'; exact F') N')
theorem ld_lw_one {Q : Value → Shared → Prop} (F : Fr h₀ L s.heap (mp_lw o0 o1 o2 o3 (some x))) (h : Q x s) : wpAny M A (eval (.Name (Str.ofString "one") pos) (envOf (Str.ofString "law") sc_lw L a cd)) Q E s := ld F rfl h
theorem mp_lw_one : (fun y => if y = Str.ofString "one" then some x else mp_lw o0 o1 o2 o3 o4 y) = mp_lw o0 o1 o2 o3 (some x) := by
  funext y
  unfold mp_lw
  by_cases h : y = Str.ofString "one"
  · subst h; rfl
  · simp only [if_neg h]
theorem st_lw_one {Q : Unit → Shared → Prop} (F : Fr h₀ L s.heap (mp_lw o0 o1 o2 o3 o4)) (N : News h₀ L s.heap news) (h : ∀ h', Fr h₀ L h' (mp_lw o0 o1 o2 o3 (some x)) → News h₀ L h' news → Q () { s with heap := h', toks := s.toks + 1 }) : wpAny M A (storeName (envOf (Str.ofString "law") sc_lw L a cd) (Str.ofString "one") x) Q E s :=
  stN F N (fun h' F' N' => h h' (by rw [mp_lw_one] at F'; exact F') N')
end
end Mine
namespace Mine
theorem en_lw {x0 : Value} : (fun y => List.lookup y [(Str.ofString "script", x0)]) = mp_lw (some x0) none none none none := by
  funext y
  unfold mp_lw
  simp only [lkc, List.lookup_nil]
  by_cases h0 : y = Str.ofString "script"
  · subst h0; rfl
  simp only [if_neg h0, ite_self]
end Mine
namespace Mine
theorem laid_pre {ps : List (List Nat)} {i : Nat} (h : 1 + i ≤ ps.length) : (ps.take 1 ++ ((ps.drop 1).take i).map wrapM).length = 1 + i := by
  rw [List.length_append, List.length_map, List.length_take_of_le (Nat.le_trans (Nat.le_add_right 1 i) h), List.length_take_of_le (by rw [List.length_drop]; exact Nat.le_sub_of_add_le' h)]
theorem laid_at {ps : List (List Nat)} {i : Nat} (h : 1 + i ≤ ps.length) : (laid ps i)[1 + i]? = ps[1 + i]? := by
  rw [laid, List.getElem?_append_right (by rw [laid_pre h]; exact Nat.le_refl _), laid_pre h, Nat.sub_self, List.getElem?_drop, Nat.add_zero]
theorem laid_len {ps : List (List Nat)} {i : Nat} (h : 1 + i ≤ ps.length) : (laid ps i).length = ps.length := by
  rw [laid, List.length_append, laid_pre h, List.length_drop]; omega
theorem laid_set {ps : List (List Nat)} {i : Nat} {l : List Nat} (h : 1 + i < ps.length) (hl : ps[1 + i]? = some l) : (laid ps i).set (1 + i) (wrapM l) = laid ps (i + 1) := by
  have h1 := laid_pre (ps := ps) (i := i) (by omega)
  rw [laid, laid, List.set_append_right _ _ (by rw [h1]; exact Nat.le_refl _), h1, Nat.sub_self]
  have e1 : ps.drop (1 + i) = l :: ps.drop (1 + (i + 1)) := by
    rw [List.getElem?_eq_getElem h] at hl
    rw [List.drop_eq_getElem_cons h, Option.some.inj hl]
    rfl
  have e2 : (ps.drop 1).take (i + 1) = (ps.drop 1).take i ++ [l] := by
    rw [List.take_add_one, List.getElem?_drop, hl]; rfl
  rw [e1, e2]
  simp
end Mine
namespace Mine
section
variable {w : World} {A : Around} {E : Value → Shared → Prop} {s : Shared} {h₀ : Heap} {L : Addr} {m : Str → Option Value} {news : List (Addr × Obj)}
theorem itemN {value slice : Expr} {D c : Nat} {k : Int} {u : Tok} {vs : List Value} {x : Value} {Q : Value → Shared → Prop} (N : News h₀ L s.heap news) (hm : (D, listOf vs.toArray c) ∈ news) (h0 : 0 ≤ k) (hf : k < 2 ^ 63) (hx : vs[k.toNat]? = some x) (h : Q x s)
    (hs : subscripted slice false (.ref D) (.int k u) = operate [.ref D, .int k u] (getItem (.ref D) (.int k u)) := by with_unfolding_all rfl) (hg : ∀ r, letTemporaryGo value (.ref D) r = pure () := by intro _; with_unfolding_all rfl) :
    wpAny (model PG w) A (subscriptTail value slice (.ref D) (.int k u)) Q E s :=
  PyProof.Rows.item_list (News.isList N hm) h0 hf (by simpa using hx) h hs hg
theorem kiS {v : Value} : ∀ {l : List Value} {i : Nat}, i < l.length → ki_setL l i v = some (l.set i v)
  | [], _, h => by simp at h
  | a :: r, 0, _ => rfl
  | a :: r, i + 1, h => by
    have := kiS (v := v) (l := r) (i := i) (by simpa using h)
    simp [ki_setL, this]
theorem fieldS {l : List Nat} {t : Tok} {Q : Value → Shared → Prop} (hz : l.length ≤ 16777216) (h : ∀ t' k, Q (.str (S l) t') { s with toks := k }) : wpAny (model PG w) A (formatField (.str (S l) t) Str.empty) Q E s :=
  wpAny_formatField_str (h _ _) (h _ _) (by rw [S_length, sizeLine_eq]; exact hz)
theorem itemLast {value slice : Expr} {D c : Nat} {u : Tok} {vs : List Value} {x : Value} {Q : Value → Shared → Prop} (N : News h₀ L s.heap news) (hm : (D, listOf vs.toArray c) ∈ news) (h1 : 1 ≤ vs.length) (hx : vs[vs.length - 1]? = some x) (h : Q x s)
    (hs : subscripted slice false (.ref D) (.int (-1) u) = operate [.ref D, .int (-1) u] (getItem (.ref D) (.int (-1) u)) := by with_unfolding_all rfl) (hg : ∀ r, letTemporaryGo value (.ref D) r = pure () := by intro _; with_unfolding_all rfl) :
    wpAny (model PG w) A (subscriptTail value slice (.ref D) (.int (-1) u)) Q E s := by
  have hl := News.isList N hm
  exact subscriptTail_builtin hl.typeIs slot_list_getitem.lookup (wpAny_getItem_list_neg hl (by decide) (by rw [List.size_toArray]; omega) (by decide) (by
    rw [List.size_toArray, show ((-1 : Int) + (vs.length : Int)).toNat = vs.length - 1 by omega]; simpa using hx) h) hs hg
theorem setHd {D c : Nat} {k : Int} {t : Tok} {v : Value} {vs : List Value} {Q : Unit → Shared → Prop} (F : Fr h₀ L s.heap m) (N : News h₀ L s.heap ((D, listOf vs.toArray c) :: news)) (hD : ∀ q ∈ news, q.1 ≠ D) (h0 : 0 ≤ k) (hf : k < 2 ^ 63) (hl : k.toNat < vs.length)
    (h : ∀ h', Fr h₀ L h' m → News h₀ L h' ((D, listOf (vs.set k.toNat v).toArray c) :: news) → Q () { s with heap := h' }) : wpAny (model PG w) A (setItem (.ref D) (.int k t) v) Q E s :=
  ki_set F N h0 hf (kiS (by simpa using hl)) (.head hD) h
theorem setHdL {D c : Nat} {t : Tok} {v : Value} {vs : List Value} {Q : Unit → Shared → Prop} (F : Fr h₀ L s.heap m) (N : News h₀ L s.heap ((D, listOf vs.toArray c) :: news)) (hD : ∀ q ∈ news, q.1 ≠ D) (hl : 1 ≤ vs.length)
    (h : ∀ h', Fr h₀ L h' m → News h₀ L h' ((D, listOf (vs.set (vs.length - 1) v).toArray c) :: news) → Q () { s with heap := h' }) : wpAny (model PG w) A (setItem (.ref D) (.int (-1) t) v) Q E s :=
  ki_setNeg F N (by decide) (by decide) (j := vs.length - 1) (by rw [List.size_toArray, PySem.seqIndex_neg (by decide) (by omega)]; congr 1; omega) (kiS (by simpa using (by omega : vs.length - 1 < vs.length))) (.head hD) h
end
end Mine
namespace Mine
theorem laid_last {ps : List (List Nat)} (h : 1 ≤ ps.length) : (laid ps (ps.length - 2))[ps.length - 1]? = ps[ps.length - 1]? := by
  by_cases h1 : ps.length = 1
  · rw [h1, laid_zero]
  · have := laid_at (ps := ps) (i := ps.length - 2) (by omega)
    rw [show 1 + (ps.length - 2) = ps.length - 1 by omega] at this
    exact this
theorem lay_snoc : ∀ (t : List (List Nat)) (z : List Nat), lay (t ++ [z]) = (t.map wrapM).flatten ++ wrapL z
  | [], z => by simp [lay]
  | a :: t, z => by
    have ih := lay_snoc t z
    cases t with
    | nil => simp [lay]
    | cons b t =>
      rw [List.cons_append] at ih
      rw [List.cons_append, List.cons_append, lay, ih]
      simp
noncomputable def layAll : List (List Nat) → List Nat
  | [] => []
  | [p] => wrapL p
  | p :: q :: r => p ++ lay (q :: r)
theorem tpP_all (p : List Nat) : tpP p = layAll ((spl 42 p).map (·.flatMap escS)) := by
  unfold tpP layAll
  rfl
theorem laid_end {ps : List (List Nat)} {l : List Nat} (h : 1 ≤ ps.length) (hl : ps[ps.length - 1]? = some l) :
    ((laid ps (ps.length - 2)).set (ps.length - 1) (wrapL l)).flatten = layAll ps := by
  match ps, h, hl with
  | [p], _, hl =>
    have : p = l := by simpa using hl
    subst this
    simp [laid, layAll]
  | p :: q :: r, _, hl =>
    obtain ⟨t, z, e⟩ : ∃ t z, q :: r = t ++ [z] := ⟨_, _, (List.dropLast_concat_getLast (by simp : q :: r ≠ [])).symm⟩
    have hlen : (p :: q :: r).length = t.length + 2 := by rw [e]; simp
    rw [hlen] at hl ⊢
    have hz : z = l := by
      rw [e] at hl
      simpa using hl
    subst hz
    rw [show t.length + 2 - 2 = t.length by omega, show t.length + 2 - 1 = t.length + 1 by omega]
    show ((laid (p :: (q :: r)) t.length).set (t.length + 1) (wrapL z)).flatten = p ++ lay (q :: r)
    rw [e, lay_snoc, laid]
    rw [show List.take 1 (p :: (t ++ [z])) = [p] from rfl, show List.drop 1 (p :: (t ++ [z])) = t ++ [z] from rfl, show 1 + t.length = t.length + 1 by omega, List.drop_succ_cons]
    simp
theorem gen_len (stars : Nat) : ∀ (p : List Nat) (seen : Nat), (gen stars seen p).length ≤ 7 * p.length
  | [], _ => by simp [gen]
  | c :: r, seen => by
    have ih := gen_len stars r (if c = 42 then seen + 1 else seen)
    have hc : (chunk stars seen c).length ≤ 7 := by
      unfold chunk escS
      repeat' split
      all_goals simp
    rw [gen, List.length_append, List.length_cons]; omega
theorem tpc_len (p : List Nat) : (tpc p).length ≤ 7 * p.length + 2 := by
  have := gen_len (p.count 42) p 0
  rw [tpc, List.length_append]
  split <;> simp <;> omega
theorem glued_S0 (parts : List (List Nat)) : Builtin.Str.glued (S []) (parts.map S) = S parts.flatten := by
  apply Str.ext'
  apply Array.toList_inj.mp
  have key : ∀ (r : List (List Nat)) (a : Array Nat), ((r.map S).foldl (fun acc p => acc ++ (S []).cps ++ p.cps) a).toList = a.toList ++ r.flatten := by
    intro r
    induction r with
    | nil => intro a; simp
    | cons p r ih => intro a; rw [List.map_cons, List.foldl_cons, ih]; simp
  cases parts with
  | nil => rfl
  | cons p r =>
    unfold Builtin.Str.glued
    rw [List.map_cons, List.drop_succ_cons, List.drop_zero]
    show Array.toList _ = _
    rw [key]
    simp
theorem sum_len (ls : List (List Nat)) : ((ls.map S).map (·.length)).sum = ls.flatten.length := by
  induction ls with
  | nil => rfl
  | cons a r ih => rw [List.map_cons, List.map_cons, List.sum_cons, ih, S_length]; simp
theorem strs_set {x : Str} {t : Tok} : ∀ {vs : List Value} {ss : List Str}, StrsAre vs ss → ∀ {i : Nat}, StrsAre (vs.set i (.str x t)) (ss.set i x)
  | _, _, .nil, _ => .nil
  | _, _, .cons y u r, 0 => .cons x t r
  | _, _, .cons y u r, i + 1 => .cons y u (strs_set r)
end Mine
namespace Mine
theorem drop_at {α : Type} {ls : List α} {i : Nat} {l : α} (h : ls[i]? = some l) : ls.drop i = l :: ls.drop (i + 1) := by
  have hi : i < ls.length := by
    rcases Nat.lt_or_ge i ls.length with h' | h'
    · exact h'
    · rw [List.getElem?_eq_none h'] at h; cases h
  rw [List.getElem?_eq_getElem hi] at h
  rw [List.drop_eq_getElem_cons hi, Option.some.inj h]
end Mine
namespace Mine
section
variable {w : World} {A : Around} {E : Value → Shared → Prop} {s : Shared} {h₀ : Heap} {L : Addr} {m : Str → Option Value} {news : List (Addr × Obj)} {env : Env}
theorem joinN0 {D c : Nat} {vs : List Value} {ls : List (List Nat)} {t : Tok} {Q : Value → Shared → Prop} (N : News h₀ L s.heap news) (hm : (D, listOf vs.toArray c) ∈ news) (hv : StrsAre vs (ls.map S)) (hz : ls.flatten.length ≤ 100000)
    (h : ∀ t' k, Q (.str (S ls.flatten) t') { s with toks := k }) : wpAny (model PG w) A (call (.builtin "str.join") [.str (S []) t, .ref D]) Q E s := by
  refine PyProof.Rows.join_list (News.isList N hm) (by simpa using hv) ?_ ?_
  · rw [sum_len, S_length, List.length_nil, Nat.mul_zero]; omega
  · intro t' k
    have e : Txt.join (S []) (ls.map S) = S ls.flatten := glued_S0 ls
    rw [e]; exact h t' k
theorem joinN1 {D c d : Nat} {vs : List Value} {ls : List (List Nat)} {t : Tok} {Q : Value → Shared → Prop} (N : News h₀ L s.heap news) (hm : (D, listOf vs.toArray c) ∈ news) (hv : StrsAre vs (ls.map S)) (hz : ls.flatten.length + ls.length ≤ 100000)
    (h : ∀ t' k, Q (.str (S (joinD d ls)) t') { s with toks := k }) : wpAny (model PG w) A (call (.builtin "str.join") [.str (S [d]) t, .ref D]) Q E s := by
  refine PyProof.Rows.join_list (News.isList N hm) (by simpa using hv) ?_ ?_
  · rw [sum_len, S_length, List.length_singleton, Nat.mul_one, List.length_map]; omega
  · intro t' k
    have e : Txt.join (S [d]) (ls.map S) = S (joinD d ls) := glued_S d ls
    rw [e]; exact h t' k
theorem joinE2 {a b : List Nat} {Q : Value → Shared → Prop} (hz : a.length + b.length ≤ 100000) (h : ∀ t' k, Q (.str (S (a ++ b)) t') { s with toks := k }) : wpAny (model PG w) A (joinParts (Str.empty ++ S a ++ S b) (evalEach [] env)) Q E s := by
  have e : Str.empty ++ S a ++ S b = S (a ++ b) := by
    rw [show Str.empty = S [] from rfl, S_append, S_append]; rfl
  rw [e]
  refine joinParts_nilE (joinParts_nil (h _ _) ?_)
  rw [S_length, sizeLine_eq, List.length_append]; omega
theorem joinE3 {a b c : List Nat} {Q : Value → Shared → Prop} (hz : a.length + b.length + c.length ≤ 100000) (h : ∀ t' k, Q (.str (S (a ++ b ++ c)) t') { s with toks := k }) : wpAny (model PG w) A (joinParts (Str.empty ++ S a ++ S b ++ S c) (evalEach [] env)) Q E s := by
  have e : Str.empty ++ S a ++ S b ++ S c = S (a ++ b ++ c) := by
    rw [show Str.empty = S [] from rfl, S_append, S_append, S_append]; rfl
  rw [e]
  refine joinParts_nilE (joinParts_nil (h _ _) ?_)
  rw [S_length, sizeLine_eq, List.length_append, List.length_append]; omega
theorem szE2 {a b : List Nat} {P : Prop} (hz : a.length + b.length ≤ 100000) (h : P) : (Str.empty ++ S a ++ S b).length ≤ sizeLine ∧ P := by
  refine ⟨?_, h⟩
  rw [show Str.empty = S [] from rfl, S_append, S_append, S_length, sizeLine_eq]; simp; omega
theorem szE3 {a b c : List Nat} {P : Prop} (hz : a.length + b.length + c.length ≤ 100000) (h : P) : (Str.empty ++ S a ++ S b ++ S c).length ≤ sizeLine ∧ P := by
  refine ⟨?_, h⟩
  rw [show Str.empty = S [] from rfl, S_append, S_append, S_append, S_length, sizeLine_eq]; simp; omega
theorem szE1 {a : List Nat} {P : Prop} (hz : a.length ≤ 100000) (h : P) : (Str.empty ++ S a).length ≤ sizeLine ∧ P := by
  refine ⟨?_, h⟩
  rw [show Str.empty = S [] from rfl, S_append, S_length, sizeLine_eq]; simp; omega
end
end Mine
namespace Mine
theorem sn_kind : builtinKind "issubclass.nested" = none := by decide +kernel
theorem sn_plain : plainId "issubclass.nested" = true := by decide +kernel
theorem sn_args (a b c : Value) : argsOk "issubclass.nested" ⟨[a, b, c], []⟩ := by unfold argsOk; kernel_rfl
theorem sn_meta : typeOf (.type "str") = pure (.type "type") := by kernel_rfl
theorem sn_self : isSubtype (.type "str") (.type "str") = pure true := by rw [isSubtype_type]; kernel_rfl
section
variable {prog : Program} {w : World} {A : Around} {E : Value → Shared → Prop} {s : Shared}
theorem sn_in {k : Value} {dep : Int} {tk : Tok} {Q : Fin → Shared → Prop} (hk : k = .int dep tk) (hq : Q (.done (.ret (.bool true))) s) :
    wpAny (model prog w) A (Builtin.«issubclass.nested» ⟨[.type "str", .type "str", k], []⟩) Q E s := by
  subst hk
  have hm := sn_meta
  have hself := sn_self
  repeat (any_goals (first | assumption | (rw [hm]) | (rw [hself]) | wp_step))
theorem sn_meets {dep : Int} {tk : Tok} : Meets (Builtin.«issubclass.nested» ⟨[.type "str", .type "str", .int dep tk], []⟩) (fun _ R s => R (.ok (.ret (.bool true))) s) :=
  fun _ _ _ _ _ hs => sn_in rfl hs
theorem sn_tuple {D : Addr} {tk : Tok} {Q : Fin → Shared → Prop} (hD : s.heap.get? D = some { cls := .type "tuple", data := .seq #[.type "str", .type "bytes"] }) (hq : ∀ tk', Q (.done (.ret (.bool true))) { s with toks := tk' }) :
    wpAny (model prog w) A (Builtin.«issubclass.nested» ⟨[.type "str", .ref D, .int 0 tk], []⟩) Q E s := by
  obtain ⟨h, g, d, t, os⟩ := s
  have hT2 : (⟨h, g, d, t, os⟩ : Shared).TypeIs (.ref D) "tuple" := ⟨_, hD, rfl⟩
  have f1 := F.isi_sub_tuple
  unfold Builtin.«issubclass.nested»
  dsimp only
  refine wpAny_bind (wpAny_typeOf hT2 ?_)
  rw [if_neg (by decide)]
  unfold Builtin.Builtins.unionMembers
  refine wpAny_bind (wpAny_bind (wpAny_typeOf hT2 ?_))
  rw [if_neg (by decide)]
  refine wpAny_pure ?_
  refine wpAny_bind (wpAny_isInstance hT2 f1 ?_)
  rw [if_pos rfl]
  rw [if_neg (by decide)]
  refine wpAny_bind (wpAny_seqItems hD rfl ?_)
  simp only [Option.getD_some]
  rw [show (#[Value.type "str", Value.type "bytes"] : Array Value) = [Value.type "str", Value.type "bytes"].toArray from rfl, List.forIn_toArray]
  refine wpAny_bind ?_
  rw [List.forIn_cons]
  refine wpAny_bind (wpAny_bind (call_function_meets sn_kind sn_plain F.entry_issubclass_nested (sn_args _ _ _) (sn_meets (dep := 1) (tk := 0)) ?_))
  show wpAny _ _ (truthy (.bool true) >>= _) _ _ _
  refine wpAny_bind (m := truthy (.bool true)) (wpAny_pure ?_)
  refine wpAny_bind (wpAny_pure (wpAny_pure (wpAny_pure ?_)))
  repeat (any_goals (first | assumption | wp_step))
  exact hq t
theorem issub_str {D : Addr} {Q : Value → Shared → Prop} (hD : s.heap.get? D = some { cls := .type "tuple", data := .seq #[.type "str", .type "bytes"] }) (h : ∀ tk, Q (.bool true) { s with toks := tk }) :
    wpAny (model prog w) A (call (.builtin "issubclass") [.type "str", .ref D]) Q E s :=
  call_issubclass (S := fun _ R s => s.heap.get? D = some { cls := .type "tuple", data := .seq #[.type "str", .type "bytes"] } ∧ ∀ tk, R (.ok (.ret (.bool true))) { s with toks := tk })
    (fun _ _ _ _ _ hs => issubclass_outer (sn_tuple hs.1 hs.2)) ⟨hD, h⟩
end
end Mine
namespace Mine
section
variable {w : World} {A : Around} {E : Value → Shared → Prop} {s : Shared} {h₀ : Heap} {L : Addr} {m : Str → Option Value} {news : List (Addr × Obj)} {value slice : Expr} {b : List Nat} {t ui uj : Tok} {ii jj : Int} {i j : Nat} {Q : Value → Shared → Prop}
theorem cut_ns (hj : jj = Int.ofNat j) (hF : Fr h₀ L s.heap m) (hN : News h₀ L s.heap news) (hz : b.length ≤ 100000) (h : ∀ h' t' k, Fr h₀ L h' m → News h₀ L h' news → Q (.str (S (b.take j)) t') { s with heap := h', toks := k })
    (hs : subscripted slice false (.str (S b) t) (.ref s.heap.objs.size) = operate [.ref s.heap.objs.size, .str (S b) t] (getItem (.str (S b) t) (.ref s.heap.objs.size)) := by with_unfolding_all rfl)
    (ht : ∀ r, letTemporaryGo value (.str (S b) t) r = pure () := by intro _; with_unfolding_all rfl) :
    wpAny (model PG w) A (subscriptTail value slice (.str (S b) t) (.ref s.heap.objs.size)) Q E { s with heap := s.heap.push { cls := .type "slice", data := .fields #[.none, .int jj uj, .none] } } := by
  subst hj
  refine slice_strN_ns hF hN (fun h' t' k F N => ?_) hs ht (by rw [S_length, sizeLine_eq]; omega)
  have e : Txt.slice (S b) none (some (Int.ofNat j)) = S (b.take j) := slice_ns b j
  rw [e]; exact h h' t' k F N
theorem cut_sn (hi : ii = Int.ofNat i) (hF : Fr h₀ L s.heap m) (hN : News h₀ L s.heap news) (hz : b.length ≤ 100000) (h : ∀ h' t' k, Fr h₀ L h' m → News h₀ L h' news → Q (.str (S (b.drop i)) t') { s with heap := h', toks := k })
    (hs : subscripted slice false (.str (S b) t) (.ref s.heap.objs.size) = operate [.ref s.heap.objs.size, .str (S b) t] (getItem (.str (S b) t) (.ref s.heap.objs.size)) := by with_unfolding_all rfl)
    (ht : ∀ r, letTemporaryGo value (.str (S b) t) r = pure () := by intro _; with_unfolding_all rfl) :
    wpAny (model PG w) A (subscriptTail value slice (.str (S b) t) (.ref s.heap.objs.size)) Q E { s with heap := s.heap.push { cls := .type "slice", data := .fields #[.int ii ui, .none, .none] } } := by
  subst hi
  refine slice_strN_sn hF hN (fun h' t' k F N => ?_) hs ht (by rw [S_length, sizeLine_eq]; omega)
  have e : Txt.slice (S b) (some (Int.ofNat i)) none = S (b.drop i) := slice_sn b i
  rw [e]; exact h h' t' k F N
theorem cut_ss (hi : ii = Int.ofNat i) (hj : jj = Int.ofNat j) (hF : Fr h₀ L s.heap m) (hN : News h₀ L s.heap news) (hz : b.length ≤ 100000) (h : ∀ h' t' k, Fr h₀ L h' m → News h₀ L h' news → Q (.str (S ((b.drop i).take (j - i))) t') { s with heap := h', toks := k })
    (hs : subscripted slice false (.str (S b) t) (.ref s.heap.objs.size) = operate [.ref s.heap.objs.size, .str (S b) t] (getItem (.str (S b) t) (.ref s.heap.objs.size)) := by with_unfolding_all rfl)
    (ht : ∀ r, letTemporaryGo value (.str (S b) t) r = pure () := by intro _; with_unfolding_all rfl) :
    wpAny (model PG w) A (subscriptTail value slice (.str (S b) t) (.ref s.heap.objs.size)) Q E { s with heap := s.heap.push { cls := .type "slice", data := .fields #[.int ii ui, .int jj uj, .none] } } := by
  subst hi; subst hj
  refine slice_strN_ss hF hN (fun h' t' k F N => ?_) hs ht (by rw [S_length, sizeLine_eq]; omega)
  have e : Txt.slice (S b) (some (Int.ofNat i)) (some (Int.ofNat j)) = S ((b.drop i).take (j - i)) := slice_ss b i j
  rw [e]; exact h h' t' k F N
end
theorem root_a {l : List Nat} (h : (l.take 1 != [47]) = true) : rootI l = [] ∧ rootR l = l := by
  have : l.take 1 ≠ [47] := by simpa using h
  exact ⟨by rw [rootI, if_pos this], by rw [rootR, if_pos this]⟩
theorem root_b {l : List Nat} (h : (l.take 1 != [47]) = false) (h2 : ((l.drop 1).take (2 - 1) != [47]) = true) : rootI l = [47] ∧ rootR l = l.drop 1 := by
  have a : ¬ l.take 1 ≠ [47] := by simpa using h
  have b : (l.drop 1).take 1 ≠ [47] ∨ (l.drop 2).take 1 = [47] := .inl (by simpa using h2)
  exact ⟨by rw [rootI, if_neg a, if_pos b], by rw [rootR, if_neg a, if_pos b]⟩
theorem root_c {l : List Nat} (h : (l.take 1 != [47]) = false) (h3 : ((l.drop 2).take (3 - 2) == [47]) = true) : rootI l = [47] ∧ rootR l = l.drop 1 := by
  have a : ¬ l.take 1 ≠ [47] := by simpa using h
  have b : (l.drop 1).take 1 ≠ [47] ∨ (l.drop 2).take 1 = [47] := .inr (by simpa using h3)
  exact ⟨by rw [rootI, if_neg a, if_pos b], by rw [rootR, if_neg a, if_pos b]⟩
theorem root_d {l : List Nat} (h : (l.take 1 != [47]) = false) (h2 : ((l.drop 1).take (2 - 1) != [47]) = false) (h3 : ((l.drop 2).take (3 - 2) == [47]) = false) : rootI l = l.take 2 ∧ rootR l = l.drop 2 := by
  have a : ¬ l.take 1 ≠ [47] := by simpa using h
  have b : ¬ ((l.drop 1).take 1 ≠ [47] ∨ (l.drop 2).take 1 = [47]) := by
    have h2' : (l.drop 1).take 1 = [47] := by simpa using h2
    have h3' : ¬ (l.drop 2).take 1 = [47] := by simpa using h3
    simp only [not_or]
    exact ⟨fun x => x h2', h3'⟩
  exact ⟨by rw [rootI, if_neg a, if_neg b], by rw [rootR, if_neg a, if_neg b]⟩
end Mine
namespace Mine
theorem allLt_mem {d : Nat} : ∀ {l : List (Addr × Obj)}, AllLt d l → ∀ q ∈ l, q.1 < d
  | [], _, _, h => nomatch h
  | _ :: _, x, q, h => by
    rcases List.mem_cons.mp h with rfl | h
    · exact x.1
    · exact allLt_mem x.2 q h
theorem strs_nil {vs : List Value} {ls : List (List Nat)} (h : StrsAre vs (ls.map S)) : vs = [] ↔ ls = [] := by
  have := StrsAre.len_eq h
  rw [List.length_map] at this
  constructor
  · rintro rfl
    exact List.eq_nil_of_length_eq_zero (by simpa using this.symm)
  · rintro rfl
    exact List.eq_nil_of_length_eq_zero (by simpa using this)
theorem strs_snoc {vs : List Value} {ls : List (List Nat)} {l : List Nat} {t : Tok} (h : StrsAre vs (ls.map S)) : StrsAre (vs ++ [.str (S l) t]) ((ls ++ [l]).map S) := by
  rw [List.map_append]
  exact h.append' (.cons _ _ .nil)
theorem strs_drop {vs : List Value} {ls : List (List Nat)} (h : StrsAre vs (ls.map S)) : StrsAre vs.dropLast (ls.dropLast.map S) := by
  have e := StrsAre.len_eq h
  rw [List.length_map] at e
  rw [List.dropLast_eq_take, List.dropLast_eq_take, List.map_take, e]
  exact h.take' _
theorem strs_last {vs : List Value} {ls : List (List Nat)} {l : List Nat} (h : StrsAre vs (ls.map S)) (hl : ls.getLast? = some l) : ∃ t, vs[vs.length - 1]? = some (.str (S l) t) := by
  have e := StrsAre.len_eq h
  rw [List.length_map] at e
  rw [e]
  exact StrsAre.at h (by rw [List.getElem?_map, ← List.getLast?_eq_getElem?, hl]; rfl)
section
variable {w : World} {A : Around} {E : Value → Shared → Prop} {s : Shared} {h₀ : Heap} {L : Addr} {m : Str → Option Value} {news : List (Addr × Obj)} {D c : Nat} {vs : List Value}
theorem truthyL {Q : Bool → Shared → Prop} (N : News h₀ L s.heap news) (hm : (D, listOf vs.toArray c) ∈ news) (hz : vs.length ≤ 100000) (h0 : vs = [] → ∀ k, Q false { s with toks := k }) (h1 : vs ≠ [] → ∀ k, Q true { s with toks := k }) :
    wpAny (model PG w) A (PySem.truthy (.ref D)) Q E s := by
  refine wpAny_truthy_list (News.isList N hm) (by rw [List.size_toArray]; omega) ?_
  by_cases h : vs = []
  · subst h; exact h0 rfl _
  · have : (!vs.toArray.isEmpty) = true := by
      cases vs with
      | nil => exact absurd rfl h
      | cons a r => rfl
    rw [this]; exact h1 h _
theorem truthyL0 {Q : Bool → Shared → Prop} (N : News h₀ L s.heap news) (hm : (D, listOf vs.toArray c) ∈ news) (h0 : vs = []) (h : ∀ k, Q false { s with toks := k }) : wpAny (model PG w) A (PySem.truthy (.ref D)) Q E s :=
  truthyL N hm (by rw [h0]; simp) (fun _ => h) (fun x => absurd h0 x)
theorem truthyL1 {Q : Bool → Shared → Prop} (N : News h₀ L s.heap news) (hm : (D, listOf vs.toArray c) ∈ news) (hz : vs.length ≤ 100000) (h0 : vs ≠ []) (h : ∀ k, Q true { s with toks := k }) : wpAny (model PG w) A (PySem.truthy (.ref D)) Q E s :=
  truthyL N hm hz (fun x => absurd x h0) (fun _ => h)
theorem itemLS {value slice : Expr} {u : Tok} {new : List (List Nat)} {Q : Value → Shared → Prop} (N : News h₀ L s.heap news) (hm : (D, listOf vs.toArray c) ∈ news) (hv : StrsAre vs (new.map S)) (hne : vs ≠ []) (h : ∀ l t, new.getLast? = some l → Q (.str (S l) t) s)
    (hs : subscripted slice false (.ref D) (.int (-1) u) = operate [.ref D, .int (-1) u] (getItem (.ref D) (.int (-1) u)) := by with_unfolding_all rfl) (hg : ∀ r, letTemporaryGo value (.ref D) r = pure () := by intro _; with_unfolding_all rfl) :
    wpAny (model PG w) A (subscriptTail value slice (.ref D) (.int (-1) u)) Q E s := by
  have hn : new ≠ [] := fun e => hne ((strs_nil hv).mpr e)
  obtain ⟨t, ht⟩ := strs_last hv (List.getLast?_eq_some_getLast hn)
  exact itemLast N hm (List.length_pos_iff.mpr hne) ht (h _ t (List.getLast?_eq_some_getLast hn)) hs hg
theorem gmL {name : Str} {id : String} {pl : Sem Bool} {Q : Value × List Value → Shared → Prop} (N : News h₀ L s.heap news) (hm : (D, listOf vs.toArray c) ∈ news) (slot : Slot "list" name id) (hty : typeOf (.builtin id) = pure (.type "method_descriptor"))
    (h : Q (.builtin id, [.ref D]) s) : wpAny (model PG w) A (getMethod (.ref D) name pl) Q E s := listMethod_K N hm slot hty h
theorem appHd {x : Value} {Q : Value → Shared → Prop} (F : Fr h₀ L s.heap m) (N : News h₀ L s.heap ((D, listOf vs.toArray c) :: news)) (hD : ∀ q ∈ news, q.1 ≠ D) (hz : vs.length ≤ 100000)
    (h : ∀ h', Fr h₀ L h' m → News h₀ L h' ((D, listOf (vs ++ [x]).toArray (c + 1)) :: news) → Q .none { s with heap := h' }) : wpAny (model PG w) A (call (.builtin "list.append") [.ref D, x]) Q E s := by
  refine append_K F N (.head hD) (fun h' F' N' => h h' F' ?_) (by rw [List.size_toArray, sizeLine_eq]; omega)
  have e : vs.toArray.push x = (vs ++ [x]).toArray := by simp
  rw [e] at N'; exact N'
theorem popHd {Q : Value → Shared → Prop} (F : Fr h₀ L s.heap m) (N : News h₀ L s.heap ((D, listOf vs.toArray c) :: news)) (hD : ∀ q ∈ news, q.1 ≠ D) (hz : vs.length ≤ 100000) (hne : vs ≠ [])
    (h : ∀ h' x, Fr h₀ L h' m → News h₀ L h' ((D, listOf vs.dropLast.toArray (c + 1)) :: news) → Q x { s with heap := h' }) : wpAny (model PG w) A (call (.builtin "list.pop") [.ref D]) Q E s := by
  have e := kpa_last (vs.getLast hne) vs.dropLast
  rw [List.dropLast_concat_getLast hne] at e
  exact kl_pop F N (p := vs.dropLast) (y := vs.getLast hne) (by simpa using e) (.head hD) (by rw [sizeLine_eq]; simp; omega) fun h' F' N' => h h' _ F' N'
end
theorem strs_values : ∀ l : List (Str × Tok), StrsAre (strValues l) (l.map (·.1))
  | [] => .nil
  | p :: r => .cons p.1 p.2 (strs_values r)
theorem splitS {w : World} {A : Around} {E : Value → Shared → Prop} {s : Shared} {h₀ : Heap} {L : Addr} {m : Str → Option Value} {news : List (Addr × Obj)} {l : List Nat} {d : Nat} {t u : Tok} {Q : Value → Shared → Prop} (F : Fr h₀ L s.heap m) (N : News h₀ L s.heap news) (hz : l.length ≤ 100000)
    (h : ∀ (D : Nat) vs h' k, Fr h₀ L h' m → News h₀ L h' ((D, listOf vs.toArray 0) :: news) → StrsAre vs ((spl d l).map S) → (∀ q ∈ news, q.1 < D) → Q (.ref D) { s with heap := h', toks := k }) :
    wpAny (model PG w) A (call (.builtin "str.split") [.str (S l) t, .str (S [d]) u]) Q E s := by
  refine splitN1 F N (by rw [S_length]; rfl) (fun l' h' k e F' N' => ?_) (by rw [S_length, sizeLine_eq]; omega)
  have hs := strs_values l'
  rw [e, split_spl] at hs
  exact h s.heap.objs.size (strValues l') h' k F' N' hs (fun q hq => Heap.lt_size (N q hq).1)
theorem rootR_len (l : List Nat) : (rootR l).length ≤ l.length := by
  unfold rootR
  repeat' split
  all_goals simp
theorem rootI_len (l : List Nat) : (rootI l).length ≤ 2 := by
  unfold rootI
  repeat' split
  all_goals simp <;> omega
theorem spl_size (d : Nat) : ∀ p : List Nat, (sHd d p).length + (sTl d p).flatten.length + (sTl d p).length = p.length
  | [] => rfl
  | c :: r => by
    have ih := spl_size d r
    rw [sHd, sTl]
    split
    · simp only [List.flatten_cons, List.length_append, List.length_cons, List.length_nil]; omega
    · simp only [List.length_cons]; omega
theorem spl_total (d : Nat) (p : List Nat) : (spl d p).flatten.length + (spl d p).length = p.length + 1 := by
  have := spl_size d p
  rw [spl]
  simp only [List.flatten_cons, List.length_append, List.length_cons]; omega
end Mine
namespace Mine
/-- what normpath's loop holds -/
noncomputable def NpJ (ri : List Nat) (ls new r : List (List Nat)) : Prop := npGo (!ri.isEmpty) new r = npGo (!ri.isEmpty) [] ls ∧ new.flatten.length + new.length + (r.flatten.length + r.length) ≤ 2001
section
variable {ri l0 : List Nat} {ls new r : List (List Nat)}
theorem NpJ.room (h : NpJ ri ls new (l0 :: r)) : new.flatten.length + new.length + (l0.length + r.flatten.length + (r.length + 1)) ≤ 2001 := by
  have := h.2
  rw [List.flatten_cons, List.length_append, List.length_cons] at this
  omega
theorem NpJ.skip0 (h : NpJ ri ls new ([] :: r)) : NpJ ri ls new r := ⟨by rw [← h.1, np_skip (.inl rfl)], by have := h.room; rw [List.length_nil] at this; omega⟩
theorem NpJ.skip1 (h : NpJ ri ls new (l0 :: r)) (h1 : (l0 == [46]) = true) : NpJ ri ls new r := ⟨by rw [← h.1, np_skip (.inr (by simpa using h1))], by have := h.room; omega⟩
theorem NpJ.push (h : NpJ ri ls new (l0 :: r)) (h0 : l0 ≠ []) (h1 : (l0 == [46]) = false) (h2 : l0 ≠ dd ∨ ((!ri.isEmpty) = false ∧ new = []) ∨ (new ≠ [] ∧ new.getLast? = some dd)) : NpJ ri ls (new ++ [l0]) r :=
  ⟨by rw [← h.1, np_push (by rintro (x | x); exact h0 x; rw [x] at h1; simp at h1) h2], by have := h.room; simp only [List.flatten_append, List.flatten_cons, List.flatten_nil, List.append_nil, List.length_append, List.length_cons, List.length_nil]; omega⟩
theorem NpJ.push1 (h : NpJ ri ls new (l0 :: r)) (h0 : l0 ≠ []) (h1 : (l0 == [46]) = false) (h2 : (l0 != dd) = true) : NpJ ri ls (new ++ [l0]) r := h.push h0 h1 (.inl (by simpa using h2))
theorem NpJ.push2 (h : NpJ ri ls new (l0 :: r)) (h0 : l0 ≠ []) (h1 : (l0 == [46]) = false) (h2 : ri = []) (h3 : new = []) : NpJ ri ls (new ++ [l0]) r := h.push h0 h1 (.inr (.inl ⟨by rw [h2]; rfl, h3⟩))
theorem NpJ.push3 {l9 : List Nat} (h : NpJ ri ls new (l0 :: r)) (h0 : l0 ≠ []) (h1 : (l0 == [46]) = false) (h2 : new.getLast? = some l9) (h3 : (l9 == dd) = true) : NpJ ri ls (new ++ [l0]) r :=
  h.push h0 h1 (.inr (.inr ⟨(by intro x; rw [x] at h2; cases h2), (by rw [h2, show l9 = dd by simpa using h3])⟩))
theorem NpJ.pop {l9 : List Nat} (h : NpJ ri ls new (l0 :: r)) (h2 : (l0 != dd) = false) (h3 : new.getLast? = some l9) (h4 : (l9 == dd) = false) : NpJ ri ls new.dropLast r := by
  have e : l0 = dd := by simpa using h2
  subst e
  have hne : new ≠ [] := by intro x; rw [x] at h3; cases h3
  refine ⟨by rw [← h.1, np_pop hne (by rw [h3]; intro x; cases x; simp at h4)], ?_⟩
  have := h.room
  have e2 := List.dropLast_concat_getLast hne
  have e3 : new.flatten.length = new.dropLast.flatten.length + (new.getLast hne).length := by
    conv => lhs; rw [← e2]
    simp
  have e4 : new.dropLast.length ≤ new.length := by simp
  omega
theorem NpJ.drop (h : NpJ ri ls new (l0 :: r)) (h2 : (l0 != dd) = false) (h3 : ri ≠ []) (h4 : new = []) : NpJ ri ls new r := by
  have e : l0 = dd := by simpa using h2
  subst e
  subst h4
  have e : (!ri.isEmpty) = true := by cases ri with
    | nil => exact absurd rfl h3
    | cons a b => rfl
  refine ⟨?_, by have := h.room; omega⟩
  have := h.1
  rw [e, np_drop] at this
  rw [e]; exact this
theorem NpJ.start {p : List Nat} (h : p.length ≤ 2000) : NpJ ri (spl 47 p) [] (spl 47 p) := ⟨rfl, by have := spl_total 47 p; simp only [List.flatten_nil, List.length_nil]; omega⟩
theorem joinD_len (d : Nat) (ls : List (List Nat)) : (joinD d ls).length ≤ ls.flatten.length + ls.length := by
  have key : ∀ r : List (List Nat), (r.flatMap (d :: ·)).length = r.flatten.length + r.length := by
    intro r
    induction r with
    | nil => rfl
    | cons a r ih => rw [List.flatMap_cons, List.length_append, ih]; simp only [List.flatten_cons, List.length_append, List.length_cons]; omega
  cases ls with
  | nil => simp [joinD]
  | cons p r => rw [joinD, List.length_append, key]; simp only [List.flatten_cons, List.length_append, List.length_cons]; omega
end
end Mine
namespace Mine
open PySem.Calls
section
variable {w : World} {A : Around} {h₀ : Heap} {L : Addr} {m : Str → Option Value} {env : Env} {ct elt : Expr} {x : Str} {scope : Scope} {cl : List (Str × Addr)} {s : Shared} {Sx : List (Addr × Obj) → Prop} {P : Nat → Value → Prop} {Fin : List Value → List (Addr × Obj) → Prop} {news : List (Addr × Obj)}
/-- a comprehension without a test, by an invariant over what is laid so far -/
theorem comp_invU {n : Nat} (J : Nat → List Value → Prop) (h0 : J 0 [])
    (turn : ∀ i v I oI C oC D m₂ ys h tk (E' : Value → Shared → Prop), i < n → P i v → J i ys → LCg.NsObj oC m₂ → m₂ x = some v → Fr h₀ L h m → News h₀ L h ((I, oI) :: (C, oC) :: (D, LCg.lst ys) :: news) → LCg.Off3 I C D news → ((@Ne Nat I C) ∧ (@Ne Nat I D) ∧ (@Ne Nat C D)) →
      wpAny (model PG w) A (eval elt (compEnvC scope cl C env)) (LCg.CompEnd h₀ L m { s with heap := h, toks := tk } I oI C oC D (LCg.lst ys) Sx (fun y news' => news' = news ∧ J (i + 1) (ys ++ [y]))) E' { s with heap := h, toks := tk })
    (fin : ∀ ys, J n ys → Fin ys news) : LCg.CompRest PG w A h₀ L m env elt x scope cl s Sx P Fin n 0 [] news := by
  have key : ∀ (j i : Nat) (ys : List Value), i + j = n → J i ys → LCg.CompRest PG w A h₀ L m env elt x scope cl s Sx P Fin j i ys news := by
    intro j
    induction j with
    | zero =>
      intro i ys hi hy
      have e : i = n := by omega
      subst e
      exact LCg.CompRest.zero (fin ys hy)
    | succ j ih =>
      intro i ys hi hy
      refine LCg.CompRest.succ ?_
      intro v I oI C oC D m₂ h tk E' hv hC hx F N off ne
      refine wpAny_mono (turn i v I oI C oC D m₂ ys h tk E' (by omega) hv hy hC hx F N off ne) (fun y s₂ hq => ?_) fun _ _ e => e
      obtain ⟨h', tk', nw, e, F', N', off', hS, hn, hJ⟩ := hq
      subst hn
      exact ⟨h', tk', nw, e, F', N', off', hS, ih (i + 1) _ (by omega) hJ⟩
  exact key n 0 [] (by omega) h0
theorem comp_invT {n : Nat} (J : Nat → List Value → Prop) (h0 : J 0 [])
    (turn : ∀ i v I oI C oC D m₂ ys h tk (E' : Value → Shared → Prop), i < n → P i v → J i ys → LCg.NsObj oC m₂ → m₂ x = some v → Fr h₀ L h m → News h₀ L h ((I, oI) :: (C, oC) :: (D, LCg.lst ys) :: news) → LCg.Off3 I C D news → ((@Ne Nat I C) ∧ (@Ne Nat I D) ∧ (@Ne Nat C D)) →
      wpAny (model PG w) A (isTrue ct (compEnvC scope cl C env) (eval ct (compEnvC scope cl C env))) (fun ok s' => if ok = true then
        wpAny (model PG w) A (eval elt (compEnvC scope cl C env)) (LCg.CompEnd h₀ L m { s with heap := h, toks := tk } I oI C oC D (LCg.lst ys) Sx (fun y news' => news' = news ∧ J (i + 1) (ys ++ [y]))) E' s'
        else LCg.CompEnd h₀ L m { s with heap := h, toks := tk } I oI C oC D (LCg.lst ys) Sx (fun _ news' => news' = news ∧ J (i + 1) ys) Value.none s') E' { s with heap := h, toks := tk })
    (fin : ∀ ys, J n ys → Fin ys news) : LCt.CompRestT PG w A h₀ L m env ct elt x scope cl s Sx P Fin n 0 [] news := by
  have key : ∀ (j i : Nat) (ys : List Value), i + j = n → J i ys → LCt.CompRestT PG w A h₀ L m env ct elt x scope cl s Sx P Fin j i ys news := by
    intro j
    induction j with
    | zero =>
      intro i ys hi hy
      have e : i = n := by omega
      subst e
      exact LCt.CompRestT.zero (fin ys hy)
    | succ j ih =>
      intro i ys hi hy
      refine LCt.CompRestT.succ ?_
      intro v I oI C oC D m₂ h tk E' hv hC hx F N off ne
      refine wpAny_mono (turn i v I oI C oC D m₂ ys h tk E' (by omega) hv hy hC hx F N off ne) (fun ok s₂ hq => ?_) fun _ _ e => e
      cases ok with
      | true =>
        simp only [if_true] at hq ⊢
        refine wpAny_mono hq (fun y s₃ hq => ?_) fun _ _ e => e
        obtain ⟨h', tk', nw, e, F', N', off', hS, hn, hJ⟩ := hq
        subst hn
        exact ⟨h', tk', nw, e, F', N', off', hS, ih (i + 1) _ (by omega) hJ⟩
      | false =>
        simp only [Bool.false_eq_true, if_false] at hq ⊢
        obtain ⟨h', tk', nw, e, F', N', off', hS, hn, hJ⟩ := hq
        subst hn
        exact ⟨h', tk', nw, e, F', N', off', hS, ih (i + 1) _ (by omega) hJ⟩
  exact key n 0 [] (by omega) h0
/-- the end of a turn that leaves the ledger as it was -/
theorem compE {I C D : Addr} {oI oC oD : Obj} {s₁ : Shared} {y : Value} {h' : Heap} {tk : Nat} {J : Value → Prop} (F : Fr h₀ L h' m) (N : News h₀ L h' ((I, oI) :: (C, oC) :: (D, oD) :: news)) (off : LCg.Off3 I C D news) (hS : Sx news) (r : J y) :
    LCg.CompEnd h₀ L m s₁ I oI C oC D oD Sx (fun y news' => news' = news ∧ J y) y { s₁ with heap := h', toks := tk } := ⟨h', tk, news, rfl, F, N, off, hS, rfl, r⟩
end
theorem strs_at {vs : List Value} {ls : List (List Nat)} {i : Nat} {v : Value} (hv : StrsAre vs (ls.map S)) (h : vs.toArray[i]? = some v) : ∃ l t, ls[i]? = some l ∧ v = .str (S l) t := by
  have hl := StrsAre.len_eq hv
  rw [List.length_map] at hl
  have h' : vs[i]? = some v := by simpa using h
  have hi : i < ls.length := by
    rcases Nat.lt_or_ge i vs.length with z | z
    · omega
    · rw [List.getElem?_eq_none z] at h'; cases h'
  obtain ⟨t, e⟩ := StrsAre.at hv (j := i) (y := S ls[i]) (by rw [List.getElem?_map, List.getElem?_eq_getElem hi]; rfl)
  rw [e] at h'
  exact ⟨_, t, List.getElem?_eq_getElem hi, (Option.some.inj h').symm⟩
theorem take_filter {p : List Nat → Bool} {ls : List (List Nat)} {i : Nat} {l : List Nat} (h : ls[i]? = some l) : (ls.take (i + 1)).filter p = if p l = true then (ls.take i).filter p ++ [l] else (ls.take i).filter p := by
  rw [List.take_add_one, h, List.filter_append]
  show _ ++ List.filter p [l] = _
  by_cases e : p l = true
  · rw [if_pos e, List.filter_cons_of_pos e]; rfl
  · rw [if_neg e, List.filter_cons_of_neg e]; simp
theorem take_map {g : List Nat → List Nat} {ls : List (List Nat)} {i : Nat} {l : List Nat} (h : ls[i]? = some l) : (ls.take (i + 1)).map g = (ls.take i).map g ++ [g l] := by
  rw [List.take_add_one, h, List.map_append]; rfl
end Mine
namespace Mine
theorem joinB_D : ∀ ls : List (List Nat), joinB ls = joinD 32 ls
  | [] => rfl
  | [p] => by simp [joinB, joinD]
  | p :: q :: r => by
    have ih := joinB_D (q :: r)
    rw [joinB, ih, joinD, joinD, List.flatMap_cons]; rfl
theorem chunk_nl {stars seen c : Nat} (h : c ≠ 10) : ∀ x ∈ chunk stars seen c, x ≠ 10 := by
  rintro x hx rfl
  exact chunk_not (by decide) h hx
theorem gen_nl (stars : Nat) : ∀ (p : List Nat) (seen : Nat), (∀ c ∈ p, c ≠ 10) → ∀ x ∈ gen stars seen p, x ≠ 10
  | [], _, _, x, hx => by cases hx
  | c :: r, seen, h, x, hx => by
    rw [gen] at hx
    rcases List.mem_append.mp hx with hx | hx
    · exact chunk_nl (h c (.head _)) x hx
    · exact gen_nl stars r _ (fun y hy => h y (.tail _ hy)) x hx
theorem sg_nl {p : List Nat} (h : ∀ c ∈ p, c ∈ sgL) : ∀ c ∈ p, c ≠ 10 := by
  rintro c hc rfl
  exact absurd (h _ hc) (by decide)
theorem tpc_nl {p : List Nat} (h : ∀ c ∈ p, c ∈ sgL) : ∀ x ∈ tpc p, x ≠ 10 := by
  intro x hx
  rw [tpc] at hx
  rcases List.mem_append.mp hx with hx | hx
  · split at hx
    · rcases List.mem_cons.mp hx with rfl | hx
      · decide
      · rw [List.mem_singleton.mp hx]; decide
    · cases hx
  · exact gen_nl _ p 0 (sg_nl h) x hx
theorem joinD_nl {d : Nat} (hd : d ≠ 10) {ls : List (List Nat)} (h : ∀ l ∈ ls, ∀ x ∈ l, x ≠ 10) : ∀ x ∈ joinD d ls, x ≠ 10 := by
  intro x hx
  cases ls with
  | nil => cases hx
  | cons p r =>
    rw [joinD] at hx
    rcases List.mem_append.mp hx with hx | hx
    · exact h p (.head _) x hx
    · obtain ⟨l, hl, hx⟩ := List.mem_flatMap.mp hx
      rcases List.mem_cons.mp hx with rfl | hx
      · exact hd
      · exact h l (.tail _ hl) x hx
theorem flat_len {ls : List (List Nat)} {k : Nat} (h : ∀ l ∈ ls, l.length ≤ k) : ls.flatten.length ≤ k * ls.length := by
  induction ls with
  | nil => simp
  | cons a r ih =>
    have h1 := h a (.head _)
    have h2 := ih (fun l hl => h l (.tail _ hl))
    rw [List.flatten_cons, List.length_append, List.length_cons, Nat.mul_add, Nat.mul_one]; omega
theorem M1' {ls : List (List Nat)} (hn : ls ≠ []) (h : ∀ x ∈ ls, ∀ c ∈ x, c ∈ sgL) :
    lexN ((joinD 32 (ls.map tpc)).length + 1) (joinD 32 (ls.map tpc)) = heard ls := by
  cases ls with
  | nil => exact absurd rfl hn
  | cons p ps => rw [← joinB_D]; exact M1 p ps h
end Mine
namespace Mine
/-- texts of small signs -/
noncomputable def Sm (ls : List (List Nat)) : Prop := ∀ l ∈ ls, ∀ c ∈ l, c < 200
theorem strs_carried : ∀ {vs : List Value} {ss : List Str}, StrsAre vs ss → CarriedAll vs (ss.map PyData.str)
  | _, _, .nil => .nil
  | _, _, .cons _ t r => .cons (.str _ t) (strs_carried r)
theorem sm_shaped {ls : List (List Nat)} (h : Sm ls) : SeqAt.shaped (.list ((ls.map S).map PyData.str)) = true := by
  have h1 : PyData.canLay0 (.list ((ls.map S).map PyData.str)) = true := by
    rw [PyData.canLay0, canLayAll_strs', List.all_eq_true]
    intro x hx
    obtain ⟨l, hl, rfl⟩ := List.mem_map.mp hx
    unfold PyData.strOk
    rw [Array.all_eq_true_iff_forall_mem]
    intro c hc
    have := h l hl c (by simpa using hc)
    exact decide_eq_true (by omega)
  have h2 : PyData.depth (.list ((ls.map S).map PyData.str)) = 1 := by
    rw [PyData.depth, depthAll_strs']
  unfold SeqAt.shaped
  rw [h1, h2]; rfl
theorem eqvAll_strs : ∀ l1 l2 : List (List Nat), PyData.eqvAll ((l1.map S).map PyData.str) ((l2.map S).map PyData.str) = decide (l1 = l2)
  | [], [] => rfl
  | [], _ :: _ => by simp [PyData.eqvAll]
  | _ :: _, [] => by simp [PyData.eqvAll]
  | a :: r, b :: t => by
    have ih := eqvAll_strs r t
    rw [List.map_cons, List.map_cons, List.map_cons, List.map_cons, PyData.eqvAll, ih, PyData.eqv, beq_S]
    by_cases h : a = b <;> by_cases h' : r = t <;> simp [h, h']
section
variable {w : World} {A : Around} {E : Value → Shared → Prop} {s : Shared} {h₀ : Heap} {L : Addr} {m : Str → Option Value} {news : List (Addr × Obj)} {D1 D2 c1 c2 : Nat} {v1 v2 : List Value} {l1 l2 : List (List Nat)} {Q : Value → Shared → Prop}
theorem eqLs (N : News h₀ L s.heap news) (m1 : (D1, listOf v1.toArray c1) ∈ news) (m2 : (D2, listOf v2.toArray c2) ∈ news) (w1 : StrsAre v1 (l1.map S)) (w2 : StrsAre v2 (l2.map S)) (s1 : Sm l1) (s2 : Sm l2) (hu : A.units + 64 < cLine) (h : Q (.bool (decide (l1 = l2))) s) :
    wpAny (model PG w) A (compareOp .Eq (.ref D1) (.ref D2)) Q E s := by
  refine eq_dataH (reads_newData (News.isList N m1) (strs_carried w1)) (reads_newData (News.isList N m2) (strs_carried w2)) (sm_shaped s1) (sm_shaped s2) hu ?_
  rw [PyData.eqv, eqvAll_strs]; exact h
theorem neLs (N : News h₀ L s.heap news) (m1 : (D1, listOf v1.toArray c1) ∈ news) (m2 : (D2, listOf v2.toArray c2) ∈ news) (w1 : StrsAre v1 (l1.map S)) (w2 : StrsAre v2 (l2.map S)) (s1 : Sm l1) (s2 : Sm l2) (hu : A.units + 64 < cLine) (h : Q (.bool (!decide (l1 = l2))) s) :
    wpAny (model PG w) A (compareOp .NotEq (.ref D1) (.ref D2)) Q E s := by
  refine ne_dataH (reads_newData (News.isList N m1) (strs_carried w1)) (reads_newData (News.isList N m2) (strs_carried w2)) (sm_shaped s1) (sm_shaped s2) hu ?_
  rw [PyData.eqv, eqvAll_strs]; exact h
end
theorem sm_nil : Sm [] := fun _ h => nomatch h
theorem sm_sub {l1 l2 : List (List Nat)} (h : Sm l2) (hs : ∀ l ∈ l1, l ∈ l2) : Sm l1 := fun l hl => h l (hs l hl)
theorem sm_spl {d : Nat} {p : List Nat} (h : ∀ c ∈ p, c < 200) : Sm (spl d p) := fun l hl c hc => h c (((spl_sub d p).1 l hl).1 c hc)
end Mine
namespace Mine
/-- what _law_heard's outer loop holds: the rest of the paths, heard from here, is the whole -/
noncomputable def hCont (first : Bool) (rest words : List (List Nat)) (word inside : List Nat) : Option (List (List Nat)) := if first = true then (match rest with
  | [] => if inside = [] then some (words ++ [word]) else none
  | p :: ps => hRest ps words (hPath word inside p).1 (hPath word inside p).2) else hRest rest words word inside
theorem hCont_start (ls : List (List Nat)) : hCont true ls [] [] [] = heard ls := by
  cases ls <;> rfl
theorem hCont_end {b : Bool} {words : List (List Nat)} {word inside : List Nat} : hCont b [] words word inside = if inside = [] then some (words ++ [word]) else none := by
  cases b <;> rfl
theorem hCont_first {p : List Nat} {ps words : List (List Nat)} {word inside : List Nat} : hCont true (p :: ps) words word inside = hCont false ps words (hPath word inside p).1 (hPath word inside p).2 := rfl
theorem hCont_new {p : List Nat} {ps words : List (List Nat)} {word : List Nat} : hCont false (p :: ps) words word [] = hCont false ps (words ++ [word]) (hPath [] [] p).1 (hPath [] [] p).2 := by
  show hRest (p :: ps) words word [] = hRest ps _ _ _
  rw [hRest, if_pos rfl]
theorem hCont_on {p : List Nat} {ps words : List (List Nat)} {word inside : List Nat} (h : inside ≠ []) : hCont false (p :: ps) words word inside = hCont false ps words (hPath (word ++ [32]) inside p).1 (hPath (word ++ [32]) inside p).2 := by
  show hRest (p :: ps) words word inside = hRest ps _ _ _
  rw [hRest, if_neg h]
theorem hWord_len (stars seen : Nat) (word inside : List Nat) (c : Nat) : (hWord stars seen word inside c).length ≤ word.length + 7 := by
  unfold hWord
  repeat' split
  all_goals simp
/-- what the inner loop holds -/
structure HgJ (stars : Nat) (w0 i0 : List Nat) (p : List Nat) (j seen : Nat) (w i : List Nat) : Prop where
  go : hGo stars seen w i (p.drop j) = hGo stars 0 w0 i0 p
  sz : w.length ≤ w0.length + 7 * j
  se : seen ≤ j
  il : i.length ≤ 1
theorem hIn_len {i : List Nat} {c : Nat} (h : i.length ≤ 1) : (hIn i c).length ≤ 1 := by
  unfold hIn
  repeat' split
  all_goals simp [h]
theorem HgJ.step {stars : Nat} {w0 i0 p : List Nat} {j seen : Nat} {w i : List Nat} {c : Nat} (h : HgJ stars w0 i0 p j seen w i) (hc : p[j]? = some c) {w' i' : List Nat} {seen' : Nat} (h1 : w' = hWord stars seen w i c) (h2 : i' = hIn i c) (h3 : seen' = if c = 42 then seen + 1 else seen) : HgJ stars w0 i0 p (j + 1) seen' w' i' := by
  subst h1 h2 h3
  have hd := drop_at hc
  refine ⟨?_, ?_, ?_, hIn_len h.il⟩
  · rw [← h.go, hd, hGo]
  · have := hWord_len stars seen w i c
    have := h.sz
    omega
  · have := h.se
    split <;> omega
theorem HgJ.stop {stars : Nat} {w0 i0 p : List Nat} {seen : Nat} {w i : List Nat} (h : HgJ stars w0 i0 p p.length seen w i) : (hGo stars 0 w0 i0 p) = (w, i) := by
  have := h.go
  rw [List.drop_length] at this
  rw [← this, hGo]
theorem HgJ.start {stars : Nat} {w0 i0 p : List Nat} (h : i0.length ≤ 1) : HgJ stars w0 i0 p 0 0 w0 i0 := ⟨rfl, by omega, Nat.le_refl _, h⟩
theorem hPath_eq {w0 i0 p : List Nat} : hPath w0 i0 p = hGo (p.count 42) 0 (if p.count 42 = 0 then w0 ++ [46, 42] else w0) i0 p := rfl
section
variable {stars : Nat} {w0 i0 p : List Nat} {j seen : Nat} {w i : List Nat} {c : Nat}
theorem HgJ.star (h : HgJ stars w0 i0 p j seen w i) (hc : p[j]? = some c) (a : c = 42) {x y : List Nat} (hx : x = if 0 < seen then [41] else []) (hy : y = if seen + 1 = stars then [46, 42] else [40, 63, 62, 46, 42, 63]) : HgJ stars w0 i0 p (j + 1) (seen + 1) (w ++ x ++ y) i :=
  h.step hc (by rw [hWord, if_pos a, hx, hy]) (by rw [hIn, if_pos a]) (by rw [if_pos a])
theorem HgJ.s1 (h : HgJ stars w0 i0 p j seen w i) (hc : p[j]? = some c) (a : c = 42) (b : 0 < (seen : Int)) (d : (seen : Int) + 1 = (stars : Int)) : HgJ stars w0 i0 p (j + 1) (seen + 1) (w ++ [41] ++ [46, 42]) i := h.star hc a (by rw [if_pos (by omega)]) (by rw [if_pos (by omega)])
theorem HgJ.s2 (h : HgJ stars w0 i0 p j seen w i) (hc : p[j]? = some c) (a : c = 42) (b : 0 < (seen : Int)) (d : (seen : Int) + 1 ≠ (stars : Int)) : HgJ stars w0 i0 p (j + 1) (seen + 1) (w ++ [41] ++ [40, 63, 62, 46, 42, 63]) i := h.star hc a (by rw [if_pos (by omega)]) (by rw [if_neg (by omega)])
theorem HgJ.s3 (h : HgJ stars w0 i0 p j seen w i) (hc : p[j]? = some c) (a : c = 42) (b : ¬ 0 < (seen : Int)) (d : (seen : Int) + 1 = (stars : Int)) : HgJ stars w0 i0 p (j + 1) (seen + 1) (w ++ [46, 42]) i := by
  have := h.star (x := []) hc a (by rw [if_neg (by omega)]) (by rw [if_pos (by omega)])
  rwa [List.append_nil] at this
theorem HgJ.s4 (h : HgJ stars w0 i0 p j seen w i) (hc : p[j]? = some c) (a : c = 42) (b : ¬ 0 < (seen : Int)) (d : (seen : Int) + 1 ≠ (stars : Int)) : HgJ stars w0 i0 p (j + 1) (seen + 1) (w ++ [40, 63, 62, 46, 42, 63]) i := by
  have := h.star (x := []) hc a (by rw [if_neg (by omega)]) (by rw [if_neg (by omega)])
  rwa [List.append_nil] at this
theorem HgJ.s5 (h : HgJ stars w0 i0 p j seen w i) (hc : p[j]? = some c) (a : ¬ c = 42) (b : ([c] == i) = true) : HgJ stars w0 i0 p (j + 1) seen w [] := by
  have b : [c] = i := by simpa using b
  exact h.step hc (by rw [hWord, if_neg a, if_pos b]) (by rw [hIn, if_neg a, if_pos b]) (by rw [if_neg a])
theorem HgJ.s6 (h : HgJ stars w0 i0 p j seen w []) (hc : p[j]? = some c) (a : ¬ c = 42) (b : quL.contains c = true) : HgJ stars w0 i0 p (j + 1) seen w [c] :=
  h.step hc (by rw [hWord, if_neg a, if_neg (by simp), if_pos ⟨rfl, b⟩]) (by rw [hIn, if_neg a, if_neg (by simp), if_pos ⟨rfl, b⟩]) (by rw [if_neg a])
theorem HgJ.plain (h : HgJ stars w0 i0 p j seen w i) (hc : p[j]? = some c) (a : ¬ c = 42) (b : [c] ≠ i) (d : ¬ (i = [] ∧ quL.contains c = true)) (e : ¬ ([92, 46, 43, 35, 32].contains c = true ∧ (i = [39] ∨ (i = [34] ∧ c ≠ 92)))) : HgJ stars w0 i0 p (j + 1) seen (w ++ [c]) i :=
  h.step hc (by rw [hWord, if_neg a, if_neg b, if_neg d, if_neg e]) (by rw [hIn, if_neg a, if_neg b, if_neg d]) (by rw [if_neg a])
theorem HgJ.esc (h : HgJ stars w0 i0 p j seen w i) (hc : p[j]? = some c) (a : ¬ c = 42) (b : ([c] == i) = false) (d : i ≠ []) (e : [92, 46, 43, 35, 32].contains c = true) (f : i = [39] ∨ (i = [34] ∧ c ≠ 92)) : HgJ stars w0 i0 p (j + 1) seen (w ++ ([92] ++ [c])) i := by
  have b : ¬ [c] = i := by simpa using b
  exact h.step hc (by rw [hWord, if_neg a, if_neg b, if_neg (fun x => d x.1), if_pos ⟨e, f⟩]; rfl) (by rw [hIn, if_neg a, if_neg b, if_neg (fun x => d x.1)]) (by rw [if_neg a])
theorem HgJ.s7 (h : HgJ stars w0 i0 p j seen w []) (hc : p[j]? = some c) (a : ¬ c = 42) (b : quL.contains c = false) : HgJ stars w0 i0 p (j + 1) seen (w ++ [c]) [] :=
  h.plain hc a (by simp) (by rintro ⟨_, x⟩; rw [b] at x; cases x) (by rintro ⟨_, x | ⟨x, _⟩⟩ <;> cases x)
theorem HgJ.s9 (h : HgJ stars w0 i0 p j seen w i) (hc : p[j]? = some c) (a : ¬ c = 42) (b : ([c] == i) = false) (d : i ≠ []) (e : [92, 46, 43, 35, 32].contains c = true) (f : (i == [39]) = true) : HgJ stars w0 i0 p (j + 1) seen (w ++ ([92] ++ [c])) i := h.esc hc a b d e (.inl (by simpa using f))
theorem HgJ.s10 (h : HgJ stars w0 i0 p j seen w i) (hc : p[j]? = some c) (a : ¬ c = 42) (b : ([c] == i) = false) (d : i ≠ []) (e : [92, 46, 43, 35, 32].contains c = true) (f : (i == [34]) = true) (g : c ≠ 92) : HgJ stars w0 i0 p (j + 1) seen (w ++ ([92] ++ [c])) i := h.esc hc a b d e (.inr ⟨by simpa using f, g⟩)
theorem HgJ.on (h : HgJ stars w0 i0 p j seen w i) (hc : p[j]? = some c) (a : ¬ c = 42) (b : ([c] == i) = false) (d : i ≠ []) (e : [92, 46, 43, 35, 32].contains c = false ∨ (¬ i = [39] ∧ ¬ (i = [34] ∧ c ≠ 92))) : HgJ stars w0 i0 p (j + 1) seen (w ++ [c]) i :=
  h.plain hc a (by simpa using b) (fun x => d x.1) (by
    rintro ⟨x, y⟩
    rcases e with e | ⟨e, f⟩
    · rw [e] at x; cases x
    · rcases y with y | y
      · exact e y
      · exact f y)
theorem HgJ.s11 (h : HgJ stars w0 i0 p j seen w i) (hc : p[j]? = some c) (a : ¬ c = 42) (b : ([c] == i) = false) (d : i ≠ []) (e : (i == [39]) = false) (g : ¬ c ≠ 92) : HgJ stars w0 i0 p (j + 1) seen (w ++ [c]) i := h.on hc a b d (.inr ⟨by simpa using e, fun x => g x.2⟩)
theorem HgJ.s12 (h : HgJ stars w0 i0 p j seen w i) (hc : p[j]? = some c) (a : ¬ c = 42) (b : ([c] == i) = false) (d : i ≠ []) (e : (i == [39]) = false) (f : (i == [34]) = false) : HgJ stars w0 i0 p (j + 1) seen (w ++ [c]) i := h.on hc a b d (.inr ⟨by simpa using e, fun x => absurd x.1 (by simpa using f)⟩)
theorem HgJ.s13 (h : HgJ stars w0 i0 p j seen w i) (hc : p[j]? = some c) (a : ¬ c = 42) (b : ([c] == i) = false) (d : i ≠ []) (e : [92, 46, 43, 35, 32].contains c = false) : HgJ stars w0 i0 p (j + 1) seen (w ++ [c]) i := h.on hc a b d (.inl e)
end
end Mine
namespace Mine
theorem count_S (p : List Nat) (d : Nat) : Txt.count (S p) (S [d]) = (p.count d : Int) := by
  show Txt.count (S p) ⟨#[d]⟩ = _
  rw [count_cnt]
  show cnt d p = _
  induction p with
  | nil => rfl
  | cons a r ih =>
    rw [cnt_cons, ih, List.count_cons]
    by_cases h : a = d
    · simp [h]; omega
    · simp [h]
section
variable {w : World} {A : Around} {E : Value → Shared → Prop} {s : Shared} {h₀ : Heap} {L : Addr} {m : Str → Option Value} {news : List (Addr × Obj)} {Q : Value → Shared → Prop}
theorem countS {p : List Nat} {d : Nat} {t u : Tok} (h : ∀ k, Q (.int (p.count d : Int) k) { s with toks := k + 1 }) : wpAny (model PG w) A (call (.builtin "str.count") [.str (S p) t, .str (S [d]) u]) Q E s :=
  SC.count (by rw [count_S]; exact h _)
theorem addL {a b c1 c2 : Nat} {v1 v2 : List Value} (F : Fr h₀ L s.heap m) (N : News h₀ L s.heap news) (m1 : (a, listOf v1.toArray c1) ∈ news) (m2 : (b, listOf v2.toArray c2) ∈ news) (hz : v1.length + v2.length ≤ 100000)
    (h : ∀ (D : Nat) h', Fr h₀ L h' m → News h₀ L h' ((D, listOf (v1 ++ v2).toArray 0) :: news) → (∀ q ∈ news, q.1 < D) → Q (.ref D) { s with heap := h' }) : wpAny (model PG w) A (binaryOp .Add (.ref a) (.ref b)) Q E s :=
  kmk_add_lit F N (News.isList N m1) (News.isList N m2) rfl (fun D h' F' N' l => h D h' F' N' l) (by simp only [sizeLine_eq]; omega)
end
end Mine
namespace Mine
theorem nswap {h₀ h : Heap} {L : Addr} {q r : Addr × Obj} {l : List (Addr × Obj)} (N : News h₀ L h (q :: r :: l)) : News h₀ L h (q :: l) := fun p hp => N p (by
  rcases List.mem_cons.mp hp with rfl | hp
  · exact .head _
  · exact .tail _ (.tail _ hp))
theorem bne_ne {l r : List Nat} (h : (l != r) = true) : l ≠ r := by simpa using h
theorem bne_eq {l r : List Nat} (h : (l != r) = false) : l = r := by simpa using h
end Mine
namespace Mine
/-- where two dots stand behind another name -/
noncomputable def prs (ns : List (List Nat)) : Nat → List Nat
  | 0 => []
  | i + 1 => prs ns i ++ (if ns[i + 1]? = some dd ∧ ns[i]? ≠ some dd then [i + 1] else [])
theorem prs_mem {ns : List (List Nat)} {k : Nat} : ∀ {n : Nat}, k ∈ prs ns n → ∃ j, k = j + 1 ∧ ns[j + 1]? = some dd ∧ ns[j]? ≠ some dd
  | 0, h => by cases h
  | n + 1, h => by
    rw [prs] at h
    rcases List.mem_append.mp h with h | h
    · exact prs_mem h
    · split at h
      · rename_i hc
        exact ⟨n, List.mem_singleton.mp h, hc.1, hc.2⟩
      · cases h
theorem prs_nil {ns : List (List Nat)} : ∀ {n : Nat}, prs ns n = [] → ∀ k < n, ns[k + 1]? = some dd → ns[k]? = some dd
  | 0, _, k, hk, _ => by omega
  | n + 1, h, k, hk, h2 => by
    rw [prs] at h
    obtain ⟨h1, h3⟩ := List.append_eq_nil_iff.mp h
    by_cases e : k = n
    · subst e
      by_cases hc : ns[k]? = some dd
      · exact hc
      · rw [if_pos ⟨h2, hc⟩] at h3; cases h3
    · exact prs_nil h1 k (by omega) h2
theorem prs_still {ns : List (List Nat)} (h : prs ns (ns.length - 1) = []) : NoPair ns := fun k hk => by
  have : k + 1 < ns.length := by
    rcases Nat.lt_or_ge (k + 1) ns.length with h' | h'
    · exact h'
    · rw [List.getElem?_eq_none h'] at hk; cases hk
  exact prs_nil h k (by omega) hk
theorem prs_len (ns : List (List Nat)) : ∀ n, (prs ns n).length ≤ n
  | 0 => Nat.le_refl _
  | n + 1 => by
    have := prs_len ns n
    rw [prs, List.length_append]
    split <;> simp <;> omega
theorem flat_cut {ls : List (List Nat)} {a b : Nat} (h : a ≤ b) : (ls.take a ++ ls.drop b).flatten.length + (ls.take a ++ ls.drop b).length ≤ ls.flatten.length + ls.length := by
  have e : ls = ls.take a ++ ((ls.drop a).take (b - a) ++ ls.drop b) := by
    have h1 : ls.drop b = (ls.drop a).drop (b - a) := by rw [List.drop_drop]; congr 1; omega
    rw [h1, List.take_append_drop, List.take_append_drop]
  have e1 := congrArg (fun l : List (List Nat) => l.flatten.length) e
  have e2 := congrArg List.length e
  simp only [List.flatten_append, List.length_append] at e1 e2 ⊢
  omega
/-- what _law_straight's first loop holds -/
structure StJ (ns0 ns : List (List Nat)) : Prop where
  go : npGo false [] ns = npGo false [] ns0
  pr : ∀ c ∈ ns, proper c = true
  sm : Sm ns
  sz : ns.flatten.length + ns.length ≤ 2001
theorem StJ.cut {ns0 ns : List (List Nat)} (h : StJ ns0 ns) {k : Nat} (hk : k ∈ prs ns (ns.length - 1)) : StJ ns0 (ns.take (k - 1) ++ ns.drop (k + 1)) ∧ (ns.take (k - 1) ++ ns.drop (k + 1)).length < ns.length ∧ 1 ≤ k := by
  obtain ⟨j, rfl, h1, h2⟩ := prs_mem hk
  have hj : j + 1 < ns.length := by
    rcases Nat.lt_or_ge (j + 1) ns.length with h' | h'
    · exact h'
    · rw [List.getElem?_eq_none h'] at h1; cases h1
  have hx : ns[j]? = some ns[j] := List.getElem?_eq_getElem (by omega)
  have hn : ns[j] ≠ dd := fun e => h2 (by rw [hx, e])
  have hsub : ∀ c ∈ ns.take (j + 1 - 1) ++ ns.drop (j + 1 + 1), c ∈ ns := by
    intro c hc
    rcases List.mem_append.mp hc with hc | hc
    · exact List.mem_of_mem_take hc
    · exact List.mem_of_mem_drop hc
  refine ⟨⟨?_, fun c hc => h.pr c (hsub c hc), sm_sub h.sm hsub, Nat.le_trans (flat_cut (by omega)) h.sz⟩, ?_, by omega⟩
  · rw [← h.go]
    exact npGo_cut false h1 hx hn (h.pr _ (List.getElem_mem _))
  · simp only [List.length_append, List.length_take, List.length_drop]; omega
theorem StJ.still {ns0 ns : List (List Nat)} (h : StJ ns0 ns) (hp : prs ns (ns.length - 1) = []) : npGo false [] ns0 = ns := by
  rw [← h.go, npGo_still ns [] h.pr (by simpa using prs_still hp)]; rfl
theorem StJ.start {l : List Nat} (hs : ∀ c ∈ l, c < 200) (hz : l.length ≤ 2000) : StJ ((spl 47 l).filter proper) ((spl 47 l).filter proper) := by
  refine ⟨rfl, fun c hc => (List.mem_filter.mp hc).2, sm_sub (sm_spl hs) fun c hc => (List.mem_filter.mp hc).1, ?_⟩
  have h1 := spl_total 47 l
  have h2 : ∀ ls : List (List Nat), (ls.filter proper).flatten.length + (ls.filter proper).length ≤ ls.flatten.length + ls.length := by
    intro ls
    induction ls with
    | nil => simp
    | cons a r ih =>
      by_cases h : proper a = true
      · rw [List.filter_cons_of_pos h]; simp only [List.flatten_cons, List.length_append, List.length_cons]; omega
      · rw [List.filter_cons_of_neg h]; simp only [List.flatten_cons, List.length_append, List.length_cons]; omega
  have := h2 (spl 47 l)
  omega
/-- what its second loop holds -/
structure SuJ (lead : List Nat) (ns0 ns : List (List Nat)) : Prop where
  up : upOff lead ns = upOff lead ns0
  sm : Sm ns
  sz : ns.flatten.length + ns.length ≤ 2001
theorem SuJ.next {lead : List Nat} {ns0 ns : List (List Nat)} (h : SuJ lead ns0 ns) (h1 : lead ≠ []) (h2 : ns.take 1 = [dd]) : SuJ lead ns0 (ns.drop 1) ∧ (ns.drop 1).length < ns.length := by
  cases ns with
  | nil => cases h2
  | cons a r =>
    have ha : a = dd := by simpa using h2
    subst ha
    refine ⟨⟨?_, sm_sub h.sm fun c hc => .tail _ hc, ?_⟩, by simp⟩
    · rw [← h.up, upOff, upOff, if_pos h1, if_pos h1]
      simp [List.dropWhile]
    · have := h.sz
      simp only [List.flatten_cons, List.length_append, List.length_cons, List.drop_succ_cons, List.drop_zero] at this ⊢
      omega
theorem SuJ.stop1 {lead : List Nat} {ns0 ns : List (List Nat)} (h : SuJ lead ns0 ns) (h1 : lead = []) : upOff lead ns0 = ns := by
  rw [← h.up, upOff, if_neg (by simp [h1])]
theorem SuJ.stop2 {lead : List Nat} {ns0 ns : List (List Nat)} (h : SuJ lead ns0 ns) (h1 : lead ≠ []) (h2 : ns.take 1 ≠ [dd]) : upOff lead ns0 = ns := by
  rw [← h.up, upOff, if_pos h1]
  cases ns with
  | nil => rfl
  | cons a r =>
    have ha : a ≠ dd := by simpa using h2
    rw [List.dropWhile_cons_of_neg (by simpa using ha)]
theorem prs_yes {ns : List (List Nat)} {i : Nat} {a b : List Nat} (ha : ns[i + 1]? = some a) (hb : ns[i]? = some b) (h1 : (a == dd) = true) (h2 : (b != dd) = true) : prs ns (i + 1) = prs ns i ++ [i + 1] := by
  have e1 : a = dd := by simpa using h1
  have e2 : b ≠ dd := by simpa using h2
  rw [prs, if_pos ⟨by rw [ha, e1], by rw [hb]; simpa using e2⟩]
theorem prs_no {ns : List (List Nat)} {i : Nat} {a b : List Nat} (ha : ns[i + 1]? = some a) (hb : ns[i]? = some b) (h : (a == dd) = false ∨ (b != dd) = false) : prs ns (i + 1) = prs ns i := by
  rw [prs, if_neg, List.append_nil]
  rintro ⟨x, y⟩
  rw [ha] at x
  rw [hb] at y
  rcases h with h | h
  · exact (by simpa using h : ¬ a = dd) (Option.some.inj x)
  · exact y (by rw [(by simpa using h : b = dd)])
theorem ints_snoc {k : Int} {t : Tok} : ∀ {vs : List Value} {ns : List Int}, IntsAre vs ns → IntsAre (vs ++ [.int k t]) (ns ++ [k])
  | _, _, .nil => .cons _ _ .nil
  | _, _, .cons a u r => .cons a u (ints_snoc r)
theorem ints_yes {zs : List Value} {ns : List (List Nat)} {i : Nat} {t : Tok} (h : IntsAre zs ((prs ns i).map fun k : Nat => (k : Int))) (e : prs ns (i + 1) = prs ns i ++ [i + 1]) : IntsAre (zs ++ [.int (1 + (i : Int)) t]) ((prs ns (i + 1)).map fun k : Nat => (k : Int)) := by
  rw [e, List.map_append]
  have : ((i + 1 : Nat) : Int) = 1 + (i : Int) := by omega
  show IntsAre _ (_ ++ [((i + 1 : Nat) : Int)])
  rw [this]
  exact ints_snoc h
end Mine
namespace Mine
theorem pick_upto (vs : List Value) (k : Nat) : slicePick vs.toArray none (some (k : Int)) none = (vs.take k).toArray := by
  have e : sliceBounds none (some (k : Int)) none vs.toArray.size = (((0 : Nat) : Int), ((min k vs.toArray.size : Nat) : Int), 1) := by
    simp only [sliceBounds, Option.getD_none, show (1 : Int) > 0 by decide, if_true, if_neg (show ¬ ((k : Int) < 0) by omega)]
    congr 1
    congr 1
    omega
  rw [kmk_pick_nat _ e]
  show ((vs.drop 0).take (min k vs.toArray.size - 0)).toArray = _
  rw [List.drop_zero, Nat.sub_zero, List.size_toArray, kmk_take_min]
theorem pick_from (vs : List Value) (k : Nat) : slicePick vs.toArray (some (k : Int)) none none = (vs.drop k).toArray := by
  have e : sliceBounds (some (k : Int)) none none vs.toArray.size = (((min k vs.toArray.size : Nat) : Int), ((vs.toArray.size : Nat) : Int), 1) := by
    simp only [sliceBounds, Option.getD_none, show (1 : Int) > 0 by decide, if_true, if_neg (show ¬ ((k : Int) < 0) by omega)]
    congr 1
    omega
  rw [kmk_pick_nat _ e]
  show ((vs.drop (min k vs.toArray.size)).take (vs.toArray.size - min k vs.toArray.size)).toArray = _
  rw [List.size_toArray, kmk_drop_min, List.take_of_length_le (by rw [List.length_drop]; omega)]
section
variable {w : World} {A : Around} {E : Value → Shared → Prop} {s : Shared} {h₀ : Heap} {L : Addr} {m : Str → Option Value} {news : List (Addr × Obj)} {value slice : Expr} {l c k : Nat} {vs : List Value} {y : Int} {t : Tok} {Q : Value → Shared → Prop}
theorem upto_L (hy : y = (k : Int)) (F : Fr h₀ L s.heap m) (N : News h₀ L s.heap news) (hm : (l, listOf vs.toArray c) ∈ news) (hz : vs.length ≤ 100000)
    (h : ∀ (D : Nat) h', Fr h₀ L h' m → News h₀ L h' ((D, listOf (vs.take k).toArray 0) :: news) → (∀ p ∈ news, p.1 < D) → Q (.ref D) { s with heap := h' })
    (hs : subscripted slice false (.ref l) (.ref s.heap.objs.size) = operate [.ref s.heap.objs.size, .ref l] (getItem (.ref l) (.ref s.heap.objs.size)) := by with_unfolding_all rfl) (ht : ∀ r, letTemporaryGo value (.ref l) r = pure () := by intro _; with_unfolding_all rfl) :
    wpAny (model PG w) A (subscriptTail value slice (.ref l) (.ref s.heap.objs.size)) Q E { s with heap := s.heap.push { cls := .type "slice", data := .fields #[.none, .int y t, .none] } } := by
  subst hy
  refine kmk_slice F N (News.isList N hm) .none (.int _ _) (fun D h' F' N' l' => h D h' F' ?_ l') hs ht (by rw [List.size_toArray, sizeLine_eq]; omega)
  rw [pick_upto] at N'; exact N'
theorem from_L (hy : y = (k : Int)) (F : Fr h₀ L s.heap m) (N : News h₀ L s.heap news) (hm : (l, listOf vs.toArray c) ∈ news) (hz : vs.length ≤ 100000)
    (h : ∀ (D : Nat) h', Fr h₀ L h' m → News h₀ L h' ((D, listOf (vs.drop k).toArray 0) :: news) → (∀ p ∈ news, p.1 < D) → Q (.ref D) { s with heap := h' })
    (hs : subscripted slice false (.ref l) (.ref s.heap.objs.size) = operate [.ref s.heap.objs.size, .ref l] (getItem (.ref l) (.ref s.heap.objs.size)) := by with_unfolding_all rfl) (ht : ∀ r, letTemporaryGo value (.ref l) r = pure () := by intro _; with_unfolding_all rfl) :
    wpAny (model PG w) A (subscriptTail value slice (.ref l) (.ref s.heap.objs.size)) Q E { s with heap := s.heap.push { cls := .type "slice", data := .fields #[.int y t, .none, .none] } } := by
  subst hy
  refine kmk_slice F N (News.isList N hm) (.int _ _) .none (fun D h' F' N' l' => h D h' F' ?_ l') hs ht (by rw [List.size_toArray, sizeLine_eq]; omega)
  rw [pick_from] at N'; exact N'
theorem neIs {D1 D2 c1 c2 : Nat} {v1 v2 : List Value} {n1 n2 : List Int} (N : News h₀ L s.heap news) (m1 : (D1, listOf v1.toArray c1) ∈ news) (m2 : (D2, listOf v2.toArray c2) ∈ news) (w1 : IntsAre v1 n1) (w2 : IntsAre v2 n2) (hu : A.units + 64 < cLine) (h : Q (.bool (!decide (n1 = n2))) s) :
    wpAny (model PG w) A (compareOp .NotEq (.ref D1) (.ref D2)) Q E s := ke_ne_ints (News.isList N m1) (News.isList N m2) w1 w2 hu h
end
section
variable {M : Model} {A : Around} {E : Value → Shared → Prop} {s : Shared} {h₀ : Heap} {L a : Addr} {m : Str → Option Value} {cn : Str} {cs : Scope} {ccd : Value} {cl : List (Str × Addr)} {x : Str} {v : Value} {news : List (Addr × Obj)} {C : Addr} {o : Obj} {v₀ : Option Value}
theorem stCell {Q : Unit → Shared → Prop} (F : Fr h₀ L s.heap m) (N : News h₀ L s.heap ((C, o) :: news)) (hD : ∀ q ∈ news, q.1 ≠ C) (hc : cl.lookup x = some C) (hd : o.data = .cell v₀)
    (h : ∀ h' o', Fr h₀ L h' m → News h₀ L h' ((C, o') :: news) → o'.data = .cell (some v) → Q () { s with heap := h' })
    (hk : cs.kind = .function := by rfl) (hx : (envX cn cs L a ccd cl).kindOf x = some .cell := by rfl) : wpAny M A (storeName (envX cn cs L a ccd cl) x v) Q E s :=
  storeX_C F N hc (.head hD) hd h hk hx
end
end Mine
namespace Mine
noncomputable abbrev sc_ls : Scope := { kind := .function, names := [(Str.ofString "text", .local), (Str.ofString "lead", .local), (Str.ofString "names", .cell), (Str.ofString "pairs", .local), (Str.ofString "made", .local), (Str.ofString "range", .globalImplicit), (Str.ofString "len", .globalImplicit)], isGenerator := false, isCoroutine := false, more := [(Str.ofString "fast", Const.str (Str.ofString "text")), (Str.ofString "fast", Const.str (Str.ofString "lead")), (Str.ofString "fast", Const.str (Str.ofString "name")), (Str.ofString "fast", Const.str (Str.ofString "names")), (Str.ofString "fast", Const.str (Str.ofString "pairs")), (Str.ofString "fast", Const.str (Str.ofString "k")), (Str.ofString "fast", Const.str (Str.ofString "made"))] }
noncomputable def mp_ls (o0 o1 o2 o3 : Option Value) : Str → Option Value := fun y => if y = Str.ofString "text" then o0 else if y = Str.ofString "lead" then o1 else if y = Str.ofString "pairs" then o2 else if y = Str.ofString "made" then o3 else none
section
variable {M : Model} {A : Around} {E : Value → Shared → Prop} {s : Shared} {L a : Addr} {cd : Value} {h₀ : Heap} {o0 o1 o2 o3 : Option Value} {x : Value} {pos : Pos} {news : List (Addr × Obj)} {cl : List (Str × Addr)}
theorem ld_ls_text {Q : Value → Shared → Prop} (F : Fr h₀ L s.heap (mp_ls (some x) o1 o2 o3)) (h : Q x s) : wpAny M A (eval (.Name (Str.ofString "text") pos) (envX (Str.ofString "_law_straight") sc_ls L a cd cl)) Q E s := nameX_L F rfl h
theorem mp_ls_text : (fun y => if y = Str.ofString "text" then some x else mp_ls o0 o1 o2 o3 y) = mp_ls (some x) o1 o2 o3 := by
  funext y
  unfold mp_ls
  by_cases h : y = Str.ofString "text"
  · subst h; rfl
  · simp only [if_neg h]
theorem st_ls_text {Q : Unit → Shared → Prop} (F : Fr h₀ L s.heap (mp_ls o0 o1 o2 o3)) (N : News h₀ L s.heap news) (h : ∀ h', Fr h₀ L h' (mp_ls (some x) o1 o2 o3) → News h₀ L h' news → Q () { s with heap := h', toks := s.toks + 1 }) : wpAny M A (storeName (envX (Str.ofString "_law_straight") sc_ls L a cd cl) (Str.ofString "text") x) Q E s :=
  storeX_L F N (fun h' F' N' => h h' (by rw [mp_ls_text] at F'; exact F') N')
theorem ld_ls_lead {Q : Value → Shared → Prop} (F : Fr h₀ L s.heap (mp_ls o0 (some x) o2 o3)) (h : Q x s) : wpAny M A (eval (.Name (Str.ofString "lead") pos) (envX (Str.ofString "_law_straight") sc_ls L a cd cl)) Q E s := nameX_L F rfl h
theorem mp_ls_lead : (fun y => if y = Str.ofString "lead" then some x else mp_ls o0 o1 o2 o3 y) = mp_ls o0 (some x) o2 o3 := by
  funext y
  unfold mp_ls
  by_cases h : y = Str.ofString "lead"
  · subst h; rfl
  · simp only [if_neg h]
theorem st_ls_lead {Q : Unit → Shared → Prop} (F : Fr h₀ L s.heap (mp_ls o0 o1 o2 o3)) (N : News h₀ L s.heap news) (h : ∀ h', Fr h₀ L h' (mp_ls o0 (some x) o2 o3) → News h₀ L h' news → Q () { s with heap := h', toks := s.toks + 1 }) : wpAny M A (storeName (envX (Str.ofString "_law_straight") sc_ls L a cd cl) (Str.ofString "lead") x) Q E s :=
  storeX_L F N (fun h' F' N' => h h' (by rw [mp_ls_lead] at F'; exact F') N')
theorem ld_ls_pairs {Q : Value → Shared → Prop} (F : Fr h₀ L s.heap (mp_ls o0 o1 (some x) o3)) (h : Q x s) : wpAny M A (eval (.Name (Str.ofString "pairs") pos) (envX (Str.ofString "_law_straight") sc_ls L a cd cl)) Q E s := nameX_L F rfl h
theorem mp_ls_pairs : (fun y => if y = Str.ofString "pairs" then some x else mp_ls o0 o1 o2 o3 y) = mp_ls o0 o1 (some x) o3 := by
  funext y
  unfold mp_ls
  by_cases h : y = Str.ofString "pairs"
  · subst h; rfl
  · simp only [if_neg h]
theorem st_ls_pairs {Q : Unit → Shared → Prop} (F : Fr h₀ L s.heap (mp_ls o0 o1 o2 o3)) (N : News h₀ L s.heap news) (h : ∀ h', Fr h₀ L h' (mp_ls o0 o1 (some x) o3) → News h₀ L h' news → Q () { s with heap := h', toks := s.toks + 1 }) : wpAny M A (storeName (envX (Str.ofString "_law_straight") sc_ls L a cd cl) (Str.ofString "pairs") x) Q E s :=
  storeX_L F N (fun h' F' N' => h h' (by rw [mp_ls_pairs] at F'; exact F') N')
theorem ld_ls_made {Q : Value → Shared → Prop} (F : Fr h₀ L s.heap (mp_ls o0 o1 o2 (some x))) (h : Q x s) : wpAny M A (eval (.Name (Str.ofString "made") pos) (envX (Str.ofString "_law_straight") sc_ls L a cd cl)) Q E s := nameX_L F rfl h
theorem mp_ls_made : (fun y => if y = Str.ofString "made" then some x else mp_ls o0 o1 o2 o3 y) = mp_ls o0 o1 o2 (some x) := by
  funext y
  unfold mp_ls
  by_cases h : y = Str.ofString "made"
  · subst h; rfl
  · simp only [if_neg h]
theorem st_ls_made {Q : Unit → Shared → Prop} (F : Fr h₀ L s.heap (mp_ls o0 o1 o2 o3)) (N : News h₀ L s.heap news) (h : ∀ h', Fr h₀ L h' (mp_ls o0 o1 o2 (some x)) → News h₀ L h' news → Q () { s with heap := h', toks := s.toks + 1 }) : wpAny M A (storeName (envX (Str.ofString "_law_straight") sc_ls L a cd cl) (Str.ofString "made") x) Q E s :=
  storeX_L F N (fun h' F' N' => h h' (by rw [mp_ls_made] at F'; exact F') N')
end
end Mine
namespace Mine
theorem en_ls {x0 : Value} : (fun y => List.lookup y [(Str.ofString "text", x0)]) = mp_ls (some x0) none none none := by
  funext y
  unfold mp_ls
  simp only [lkc, List.lookup_nil]
  by_cases h0 : y = Str.ofString "text"
  · subst h0; rfl
  simp only [if_neg h0, ite_self]
end Mine
namespace Mine
section
variable {prog : Program} {w : World} {A₀ A : Around} {s : Shared} {base h₀ : Heap} {outer : List Env} {L : Addr} {m m₀ : Str → Option Value} {env : Env} {news : List (Addr × Obj)} {K : Frag} {p : Program} {loose : List Str} {mean : ExcName → Option Value} {mg mb : Str → Option Value}
  {R : Result → Shared → Prop} {name qual : Str} {params : Arguments} {body : List Stmt} {scope : Scope} {dV kV doc pm cdv ct oc : Value} {an od : Option Addr} {osl : Array (Option Value)} {f : Addr} {args : Args} {binds : List (Str × Value)} {x : Str}
/-- entering a def with one captured name -/
theorem code_defX (B : Below A₀ base outer h₀) (F : Fr h₀ L s.heap m) (X₀ : K.In h₀) (N : News h₀ L s.heap news) (T : Top p loose mean mg mb h₀) (hA : A.frames = some (env :: outer)) (hf : env.frame = some L) (hke : env.scope.kind = .function)
    (ho : K.lookup f = some ⟨oc, od, .func (fnOf name qual params body scope dV kV doc pm an cdv ct), osl⟩) (hcd : codeIn K cdv qual = true) (hroom : A.depth < recursionLimit)
    (hbind : BindsTo s (fnOf name qual params body scope dV kV doc pm an cdv ct) args binds) (hkind : (binds.all fun y => scope.names.lookup y.1 == some .local || scope.names.lookup y.1 == some .cell) = true)
    (hx1 : ∀ n, cellsFrom n scope.names [] = [(x, n)]) (hm₀ : ∀ L', bindL (envOfC qual scope L' f cdv).kindOf binds (fun _ => none) = m₀)
    (h : ∀ g (L' : Nat) h₁ tk o v, Fr h₀ L g m → Fr g L' h₁ m₀ → News g L' h₁ ((L' + 1, o) :: news) → o.data = .cell v → Below A base (env :: outer) g → K.In g → Top p loose mean mg mb g → (∀ p ∈ news, p.1 < L') →
      wpAny (model prog w) (A.deeper (envX qual scope L' f cdv [(x, L' + 1)])) (execs body (envX qual scope L' f cdv [(x, L' + 1)]))
        (fun fl s' => LeaveK h₀ L m g R (match fl with | .ret v => v | _ => .none) s')
        (fun e s' => wpAny (model prog w) (A.deeper (envX qual scope L' f cdv [(x, L' + 1)])) (leaving (envX qual scope L' f cdv [(x, L' + 1)]) e) (fun _ s'' => R (.error e) s'') (fun e' s'' => R (.error e') s'') s')
        { s with heap := h₁, toks := tk })
    (hco : scope.isCoroutine = false) (hgen : scope.isGenerator = false) (hk : scope.kind = .function) : codeAny (model prog w) A (.call (.ref f) args) R s := by
  refine code_defC B F X₀ N T hA hf hke ho hcd hroom hbind hkind (by rw [hx1]; simp) (fun g L' h₁ tk cells FG F' N' Y B' X' T' l => ?_) hco hgen hk
  have e : envOfC qual scope L' f cdv = envX qual scope L' f cdv [(x, L' + 1)] := by unfold envOfC; rw [hx1]
  rw [hx1] at Y
  obtain ⟨o, hc, hd⟩ := CellsAre.one Y
  subst hc
  rw [hm₀] at F'
  rw [e]
  exact h g L' h₁ tk o _ FG F' N' hd B' X' T' l
end
theorem bind_ls {L' a : Addr} {cd v : Value} : bindL (envOfC (Str.ofString "_law_straight") sc_ls L' a cd).kindOf [(Str.ofString "text", v)] (fun _ => none) = mp_ls (some v) none none none := by
  have e : (envOfC (Str.ofString "_law_straight") sc_ls L' a cd).kindOf (Str.ofString "text") = some .local := by rfl
  rw [bindL, if_pos e, bindL]
  exact en_ls ▸ (by funext y; simp only [lkc, List.lookup_nil])
end Mine
namespace Mine
theorem sg_sm {p : List Nat} (h : ∀ c ∈ p, c ∈ sgL) : ∀ c ∈ p, c < 200 := fun c hc => by
  have k : ∀ x ∈ sgL, x < 200 := by decide
  exact k c (h c hc)
theorem joinD_all {P : Nat → Prop} {d : Nat} (hd : P d) {ls : List (List Nat)} (h : ∀ l ∈ ls, ∀ c ∈ l, P c) : ∀ c ∈ joinD d ls, P c := by
  intro x hx
  cases ls with
  | nil => cases hx
  | cons p r =>
    rw [joinD] at hx
    rcases List.mem_append.mp hx with hx | hx
    · exact h p (.head _) x hx
    · obtain ⟨l, hl, hx⟩ := List.mem_flatMap.mp hx
      rcases List.mem_cons.mp hx with rfl | hx
      · exact hd
      · exact h l (.tail _ hl) x hx
theorem npGo_mem (ini : Bool) : ∀ (l new : List (List Nat)), ∀ c ∈ npGo ini new l, c ∈ new ∨ c ∈ l
  | [], new, c, h => .inl h
  | a :: r, new, c, h => by
    rw [npGo] at h
    split at h
    · rcases npGo_mem ini r new c h with h | h
      · exact .inl h
      · exact .inr (.tail _ h)
    · split at h
      · rcases npGo_mem ini r _ c h with h | h
        · rcases List.mem_append.mp h with h | h
          · exact .inl h
          · exact .inr (by rw [List.mem_singleton.mp h]; exact .head _)
        · exact .inr (.tail _ h)
      · split at h
        · rcases npGo_mem ini r _ c h with h | h
          · exact .inl (List.dropLast_subset _ h)
          · exact .inr (.tail _ h)
        · rcases npGo_mem ini r new c h with h | h
          · exact .inl h
          · exact .inr (.tail _ h)
theorem norm_sm {l : List Nat} (h : ∀ c ∈ l, c < 200) : ∀ c ∈ normP l, c < 200 := by
  have h46 : ∀ c ∈ [46], c < 200 := by intro c hc; rw [List.mem_singleton.mp hc]; decide
  unfold normP
  split
  · exact h46
  · unfold orDot
    split
    · exact h46
    · intro c hc
      rcases List.mem_append.mp hc with hc | hc
      · unfold rootI at hc
        repeat' split at hc
        · cases hc
        · rw [List.mem_singleton.mp hc]; decide
        · exact h c (List.mem_of_mem_take hc)
      · refine joinD_all (P := (· < 200)) (by decide) (fun x hx y hy => ?_) c hc
        rcases npGo_mem _ _ _ _ hx with hx | hx
        · cases hx
        · have h2 : ∀ c ∈ rootR l, c < 200 := by
            intro c hc
            unfold rootR at hc
            repeat' split at hc
            · exact h c hc
            · exact h c (List.mem_of_mem_drop hc)
            · exact h c (List.mem_of_mem_drop hc)
          exact sm_spl h2 x hx y hy
theorem thin_sub {p : List Nat} (h : ∀ c ∈ p, c ∈ sgL) : ∀ c ∈ thinP p, c ∈ sgL := by
  intro c hc
  unfold thinP at hc
  rcases List.mem_append.mp hc with hc | hc
  · unfold leadT at hc
    repeat' split at hc
    · rcases List.mem_cons.mp hc with rfl | hc
      · decide
      · rw [List.mem_singleton.mp hc]; decide
    · rw [List.mem_singleton.mp hc]; decide
    · cases hc
  · exact joinD_all (P := (· ∈ sgL)) (by decide) (fun x hx y hy => h y (((spl_sub 47 p).1 x (List.mem_filter.mp hx).1).1 y hy)) c hc
theorem thin_len (p : List Nat) : (thinP p).length ≤ p.length + 3 := by
  have h1 : (leadT p).length ≤ 2 := by
    unfold leadT
    repeat' split
    all_goals simp
  have h2 := joinD_len 47 ((spl 47 p).filter nz)
  have h3 := spl_total 47 p
  have h4 : ∀ ls : List (List Nat), (ls.filter nz).flatten.length + (ls.filter nz).length ≤ ls.flatten.length + ls.length := by
    intro ls
    induction ls with
    | nil => simp
    | cons a r ih =>
      by_cases h : nz a = true
      · rw [List.filter_cons_of_pos h]; simp only [List.flatten_cons, List.length_append, List.length_cons]; omega
      · rw [List.filter_cons_of_neg h]; simp only [List.flatten_cons, List.length_append, List.length_cons]; omega
  have := h4 (spl 47 p)
  rw [thinP, List.length_append]
  omega
/-- the words heard are small -/
noncomputable def Wd (k : Nat) (w : List Nat) : Prop := (∀ c ∈ w, c < 200) ∧ w.length ≤ k
theorem hWord_wd {stars seen : Nat} {w i : List Nat} {c k : Nat} (h : Wd k w) (hc : c < 200) : Wd (k + 7) (hWord stars seen w i c) := by
  refine ⟨?_, Nat.le_trans (hWord_len stars seen w i c) (by have := h.2; omega)⟩
  intro x hx
  obtain ⟨h1, _⟩ := h
  unfold hWord at hx
  repeat' split at hx
  all_goals (try simp only [List.mem_append, List.mem_cons, List.not_mem_nil, or_false] at hx)
  all_goals first
    | exact h1 x hx
    | (rcases hx with hx | hx
       · first | exact h1 x hx | (rcases hx with hx | hx; exact h1 x hx; omega)
       · omega)
theorem hGo_wd {stars : Nat} : ∀ (p : List Nat) {seen k : Nat} {w i : List Nat}, Wd k w → (∀ c ∈ p, c < 200) → Wd (k + 7 * p.length) (hGo stars seen w i p).1
  | [], _, _, _, _, h, _ => h
  | c :: r, seen, k, w, i, h, hp => by
    rw [hGo]
    have := hGo_wd (stars := stars) r (seen := if c = 42 then seen + 1 else seen) (i := hIn i c) (hWord_wd (stars := stars) (seen := seen) (i := i) h (hp c (.head _))) (fun x hx => hp x (.tail _ hx))
    refine ⟨this.1, Nat.le_trans this.2 ?_⟩
    rw [List.length_cons]; omega
theorem hPath_wd {k : Nat} {w i p : List Nat} (h : Wd k w) (hp : ∀ c ∈ p, c < 200) (hz : p.length ≤ 100) : Wd (k + 702) (hPath w i p).1 := by
  have h2 : Wd (k + 2) (if p.count 42 = 0 then w ++ [46, 42] else w) := by
    split
    · refine ⟨fun c hc => ?_, by have := h.2; simp only [List.length_append, List.length_cons, List.length_nil]; omega⟩
      rcases List.mem_append.mp hc with hc | hc
      · exact h.1 c hc
      · simp only [List.mem_cons, List.not_mem_nil, or_false] at hc; omega
    · exact ⟨h.1, by have := h.2; omega⟩
  have := hGo_wd (stars := p.count 42) p (seen := 0) (i := i) h2 hp
  exact ⟨this.1, Nat.le_trans this.2 (by omega)⟩
theorem hRest_wd : ∀ (ps : List (List Nat)) (words : List (List Nat)) (w i : List Nat) (k : Nat), Wd k w → (∀ x ∈ words, Wd k x) → (∀ p ∈ ps, (∀ c ∈ p, c < 200) ∧ p.length ≤ 100) → ∀ ts, hRest ps words w i = some ts → (∀ x ∈ ts, Wd (k + 703 * ps.length) x) ∧ ts.length ≤ words.length + 1 + ps.length
  | [], words, w, i, k, h, hw, _, ts, e => by
    rw [hRest] at e
    split at e
    · cases e
      refine ⟨fun x hx => ?_, by simp⟩
      rcases List.mem_append.mp hx with hx | hx
      · exact hw x hx
      · rw [List.mem_singleton.mp hx]; exact h
    · cases e
  | p :: ps, words, w, i, k, h, hw, hp, ts, e => by
    have hpp := hp p (.head _)
    have hps := fun x hx => hp x (List.mem_cons_of_mem p hx)
    have up : ∀ {a : List Nat}, Wd k a → Wd (k + 703) a := fun ha => ⟨ha.1, Nat.le_trans ha.2 (by omega)⟩
    rw [hRest] at e
    split at e
    · have h1 : Wd (k + 703) (hPath [] i p).1 := by
        have := hPath_wd (k := k) (w := []) (i := i) ⟨fun c hc => (nomatch hc), Nat.zero_le _⟩ hpp.1 hpp.2
        exact ⟨this.1, Nat.le_trans this.2 (by omega)⟩
      have := hRest_wd ps (words ++ [w]) _ _ (k + 703) h1 (fun x hx => by
        rcases List.mem_append.mp hx with hx | hx
        · exact up (hw x hx)
        · rw [List.mem_singleton.mp hx]; exact up h) hps ts e
      refine ⟨fun x hx => ⟨(this.1 x hx).1, Nat.le_trans (this.1 x hx).2 (by rw [List.length_cons]; omega)⟩, ?_⟩
      have := this.2
      simp only [List.length_append, List.length_cons, List.length_nil] at this ⊢; omega
    · have h0 : Wd (k + 1) (w ++ [32]) := by
        refine ⟨fun c hc => ?_, by have := h.2; simp only [List.length_append, List.length_singleton]; omega⟩
        rcases List.mem_append.mp hc with hc | hc
        · exact h.1 c hc
        · rw [List.mem_singleton.mp hc]; decide
      have h1 := hPath_wd (i := i) h0 hpp.1 hpp.2
      have := hRest_wd ps words _ _ (k + 703) h1 (fun x hx => up (hw x hx)) hps ts e
      refine ⟨fun x hx => ⟨(this.1 x hx).1, Nat.le_trans (this.1 x hx).2 (by rw [List.length_cons]; omega)⟩, ?_⟩
      have := this.2
      rw [List.length_cons]; omega
theorem heard_wd {ls ts : List (List Nat)} (hp : ∀ p ∈ ls, (∀ c ∈ p, c ∈ sgL) ∧ p.length ≤ 100) (hz : ls.length ≤ 2) (h : heard ls = some ts) : (∀ x ∈ ts, (∀ c ∈ x, c < 200) ∧ x.length ≤ 2000) ∧ ts.length ≤ 3 := by
  have hp2 : ∀ p ∈ ls, (∀ c ∈ p, c < 200) ∧ p.length ≤ 100 := fun p hp1 => ⟨sg_sm (hp p hp1).1, (hp p hp1).2⟩
  cases ls with
  | nil =>
    cases h
    refine ⟨fun x hx => ?_, by simp⟩
    rw [List.mem_singleton.mp hx]
    exact ⟨fun c hc => (nomatch hc), Nat.zero_le _⟩
  | cons p ps =>
    rw [heard] at h
    have h1 := hPath_wd (k := 0) (w := []) (i := []) ⟨fun c hc => (nomatch hc), Nat.zero_le _⟩ (hp2 p (.head _)).1 (hp2 p (.head _)).2
    have := hRest_wd ps [] _ _ 702 ⟨h1.1, by have := h1.2; omega⟩ (fun x hx => (nomatch hx)) (fun x hx => hp2 x (.tail _ hx)) ts h
    rw [List.length_cons] at hz
    refine ⟨fun x hx => ⟨(this.1 x hx).1, Nat.le_trans (this.1 x hx).2 (by omega)⟩, ?_⟩
    have := this.2
    simp only [List.length_nil] at this; omega
/-- the law's table -/
noncomputable abbrev tabL : List Nat := [97, 47, 46, 42, 39, 34, 92, 32, 43, 35, 98, 47, 46, 42]
noncomputable def sgn (x : Int) : Nat := tabL.getD (x.fmod 14).toNat 97
theorem sgn_mem (x : Int) : sgn x ∈ sgL := by
  unfold sgn
  have h1 : 0 ≤ x.fmod 14 := Int.fmod_nonneg_of_pos x (by decide)
  have h2 : x.fmod 14 < 14 := Int.fmod_lt_of_pos x (by decide)
  obtain ⟨k, hk⟩ : ∃ k : Nat, x.fmod 14 = (k : Int) := ⟨(x.fmod 14).toNat, by omega⟩
  rw [hk]
  have : k < 14 := by omega
  have key : ∀ k < 14, tabL.getD ((k : Nat) : Int).toNat 97 ∈ sgL := by decide
  exact key k this
theorem item_sgn (x : Int) : Txt.item (S tabL) (x.fmod 14) = S [sgn x] := by
  unfold sgn
  have h1 : 0 ≤ x.fmod 14 := Int.fmod_nonneg_of_pos x (by decide)
  have h2 : x.fmod 14 < 14 := Int.fmod_lt_of_pos x (by decide)
  obtain ⟨k, hk⟩ : ∃ k : Nat, x.fmod 14 = (k : Int) := ⟨(x.fmod 14).toNat, by omega⟩
  rw [hk]
  have : k < 14 := by omega
  have key : ∀ k < 14, Txt.item (S tabL) ((k : Nat) : Int) = S [tabL.getD ((k : Nat) : Int).toNat 97] := by decide +kernel
  exact key k this
/-- the two paths -/
noncomputable def path1 (ns : List Int) : List Nat := (ns.take 12).map sgn
noncomputable def path2 (ns : List Int) : List Nat := [39] ++ (path1 ns).filter (· != 39) ++ [39]
theorem path1_ok (ns : List Int) : (∀ c ∈ path1 ns, c ∈ sgL) ∧ (path1 ns).length ≤ 12 := by
  refine ⟨fun c hc => ?_, ?_⟩
  · obtain ⟨x, _, rfl⟩ := List.mem_map.mp hc
    exact sgn_mem x
  · rw [path1, List.length_map, List.length_take]; omega
theorem path2_ok (ns : List Int) : (∀ c ∈ path2 ns, c ∈ sgL) ∧ (path2 ns).length ≤ 14 := by
  obtain ⟨h1, h2⟩ := path1_ok ns
  refine ⟨fun c hc => ?_, ?_⟩
  · rw [path2] at hc
    rcases List.mem_append.mp hc with hc | hc
    · rcases List.mem_append.mp hc with hc | hc
      · rw [List.mem_singleton.mp hc]; decide
      · exact h1 c (List.mem_filter.mp hc).1
    · rw [List.mem_singleton.mp hc]; decide
  · have := List.length_filter_le (· != 39) (path1 ns)
    rw [path2]
    simp only [List.length_append, List.length_singleton]; omega
end Mine
namespace Mine
section
variable {w : World} {A : Around} {E : Value → Shared → Prop} {s : Shared} {h₀ : Heap} {L : Addr} {m : Str → Option Value} {news : List (Addr × Obj)} {value slice : Expr} {l k : Nat} {vs : List Value} {y : Int} {t : Tok} {Q : Value → Shared → Prop}
theorem upto_H (hy : y = (k : Int)) (hl : h₀.IsList l vs.toArray) (F : Fr h₀ L s.heap m) (N : News h₀ L s.heap news) (hz : vs.length ≤ 100000)
    (h : ∀ (D : Nat) h', Fr h₀ L h' m → News h₀ L h' ((D, listOf (vs.take k).toArray 0) :: news) → (∀ p ∈ news, p.1 < D) → Q (.ref D) { s with heap := h' })
    (hs : subscripted slice false (.ref l) (.ref s.heap.objs.size) = operate [.ref s.heap.objs.size, .ref l] (getItem (.ref l) (.ref s.heap.objs.size)) := by with_unfolding_all rfl) (ht : ∀ r, letTemporaryGo value (.ref l) r = pure () := by intro _; with_unfolding_all rfl) :
    wpAny (model PG w) A (subscriptTail value slice (.ref l) (.ref s.heap.objs.size)) Q E { s with heap := s.heap.push { cls := .type "slice", data := .fields #[.none, .int y t, .none] } } := by
  subst hy
  refine kmk_slice F N (let ⟨o, e, r⟩ := hl; ⟨o, F.keep _ _ e, r⟩) .none (.int _ _) (fun D h' F' N' l' => h D h' F' ?_ l') hs ht (by rw [List.size_toArray, sizeLine_eq]; omega)
  rw [pick_upto] at N'; exact N'
theorem itemT {x : Int} {u : Tok} (h : ∀ tk, Q (.str (S [sgn x]) tk) { s with toks := tk + 1 })
    (hs : subscripted slice false (.str (S tabL) t) (.int (x.fmod 14) u) = operate [.str (S tabL) t, .int (x.fmod 14) u] (getItem (.str (S tabL) t) (.int (x.fmod 14) u)) := by with_unfolding_all rfl) (ht : ∀ r, letTemporaryGo value (.str (S tabL) t) r = pure () := by intro _; with_unfolding_all rfl) :
    wpAny (model PG w) A (subscriptTail value slice (.str (S tabL) t) (.int (x.fmod 14) u)) Q E s :=
  item_str_fmod (by decide) (by rw [S_length]; decide) (by rw [S_length]; decide) (fun _ => by rw [item_sgn]; exact h _) hs ht
theorem replS {p : List Nat} {u v : Nat} (hu : u ≠ 0) (hv : v ≠ 0) (huv : u ≠ v) (hz : p.length ≤ 100000) (h : ∀ t' k, Q (.str (S (p.filter (· != 39))) t') { s with toks := k }) :
    wpAny (model PG w) A (call (.builtin "str.replace") [.str (S p) t, .str (S [39]) u, .str (S []) v]) Q E s := by
  refine SC.replaceW hu hv huv (by decide) (by rw [S_length]; omega) (by decide) fun t' k => ?_
  have e : Txt.replace (S p) (S [39]) (S []) = S (p.filter (· != 39)) := by
    rw [S_of (Txt.replace (S p) (S [39]) (S []))]
    show S (Txt.replace (S p) ⟨#[39]⟩ ⟨#[]⟩).cps.toList = _
    rw [replace_strikes]
  rw [e]; exact h t' k
end
theorem ints_at {vs : List Value} {ns : List Int} {i : Nat} {v : Value} (hv : IntsAre vs ns) (h : vs.toArray[i]? = some v) : ∃ x t, ns[i]? = some x ∧ v = .int x t := by
  have h' : vs[i]? = some v := by simpa using h
  clear h
  induction hv generalizing i with
  | nil => simp at h'
  | cons a u r ih =>
    cases i with
    | zero => exact ⟨_, _, rfl, by simpa using h'.symm⟩
    | succ i => exact ih (by simpa using h')
theorem flat_single (l : List Nat) : (l.map fun x => [x]).flatten = l := by
  induction l with
  | nil => rfl
  | cons a r ih => rw [List.map_cons, List.flatten_cons, ih]; rfl
noncomputable abbrev lawBody : List Stmt := (⟨_, by conv => lhs; whnf⟩ : { y // bodyOf (defAt 43 none) = y }).val
theorem take_mapI {g : Int → List Nat} {ls : List Int} {i : Nat} {x : Int} (h : ls[i]? = some x) : (ls.take (i + 1)).map g = (ls.take i).map g ++ [g x] := by
  rw [List.take_add_one, h, List.map_append]; rfl
section
variable {w : World} {A : Around} {E : Value → Shared → Prop} {s : Shared} {h₀ : Heap} {L : Addr} {news : List (Addr × Obj)} {Q : Value → Shared → Prop}
theorem joinP {D c : Nat} {vs : List Value} {ns : List Int} {t : Tok} (N : News h₀ L s.heap news) (hm : (D, listOf vs.toArray c) ∈ news) (hv : StrsAre vs (((ns.take 12).map fun x => [sgn x]).map S))
    (h : ∀ t' k, Q (.str (S (path1 ns)) t') { s with toks := k }) : wpAny (model PG w) A (call (.builtin "str.join") [.str (S []) t, .ref D]) Q E s := by
  have e : ((ns.take 12).map fun x => [sgn x]).flatten = path1 ns := by
    have := flat_single ((ns.take 12).map sgn)
    rw [List.map_map] at this
    exact this
  refine joinN0 N hm hv (by rw [e]; have := (path1_ok ns).2; omega) ?_
  rw [e]; exact h
theorem neSame {D1 D2 c1 c2 : Nat} {v1 v2 : List Value} {l : List (List Nat)} (N : News h₀ L s.heap news) (m1 : (D1, listOf v1.toArray c1) ∈ news) (m2 : (D2, listOf v2.toArray c2) ∈ news) (w1 : StrsAre v1 (l.map S)) (w2 : StrsAre v2 (l.map S)) (s1 : Sm l) (hu : A.units + 64 < cLine) (h : Q (.bool false) s) :
    wpAny (model PG w) A (compareOp .NotEq (.ref D1) (.ref D2)) Q E s := neLs N m1 m2 w1 w2 s1 s1 hu (by rw [decide_eq_true rfl]; exact h)
end
/-- what the law holds of a reading -/
noncomputable def ToldOk (h₀ : Heap) (L : Addr) (h' : Heap) (base : List (Addr × Obj)) (ls : List (List Nat)) (tv : Value) : Prop :=
  (heard ls = none ∧ tv = .none ∧ News h₀ L h' base) ∨ ∃ ts, ∃ D : Nat, ∃ vals c, heard ls = some ts ∧ tv = .ref D ∧ News h₀ L h' ((D, listOf vals.toArray c) :: base) ∧ StrsAre vals (ts.map S)
end Mine
namespace Mine
variable {w : World} {dp un : Nat} {gd : Option (List Code)} {cn : Str} {cs : Scope} {a : Addr} {ccd : Value} {cl : List (Str × Addr)} {outer : List Env} {A₀ : Around} {base h₀ : Heap} {L : Addr} {m mg mb : Str → Option Value} {mean : ExcName → Option Value} {s : Shared} {Q E : Value → Shared → Prop} {news : List (Addr × Obj)}
local macro_rules | `(tactic| k_room) => `(tactic| (simp only [depth_under_make, depth_under_kw, depth_in1, depth_deeper, recursionLimit]; omega))
local macro_rules | `(tactic| ktr_room) => `(tactic| ((try simp only [depth_under_make, depth_under_kw, depth_in1, depth_deeper]); (try dsimp only [ktrTop]); (try simp only [recursionLimit]); omega))
local macro_rules | `(tactic| k_units) => `(tactic| ((try simp only [units_in1, units_deeper, Around.mark_units]); (try dsimp only [ktrTop]); (try simp only [cLine]); omega))
local macro_rules | `(tactic| k_all) => `(tactic| assumption)
local macro_rules | `(tactic| walk_at "eval Name") => `(tactic| (k_here; k_dflt (refine' ld ?k1 ?k2 ?_; (case k1 => k_asm); (case k2 => first | exact rfl | assumption); k_whole)))
local macro_rules | `(tactic| walk_at "exec If") => `(tactic| refine wpAny_If ?_)
local macro_rules | `(tactic| walk_at "execs cons") => `(tactic| (with_reducible refine consE (by first | (dsimp only; done) | exact rfl) ?_; intro tk))
local macro_rules | `(tactic| walk_at "execs nil") => `(tactic| with_reducible refine wpAny_execs_nil ?_)
local macro_rules | `(tactic| walk_at "ExecsK") => `(tactic| first | with_reducible refine ExecsK.nx ?_ | with_reducible refine ExecsK.rt ?_ | with_reducible refine ExecsK.br ?_ | with_reducible refine ExecsK.ct ?_)
local macro_rules | `(tactic| walk_at "k4") => `(tactic| first | exact rfl | assumption)

local macro_rules | `(tactic| walk_at "eval Constant str") => `(tactic| (refine' ConstS ?hx ?_; (case hx => with_reducible first | exact lit0 | exact lit1 | exact lit2 | exact lit3 | exact lit4 | exact lit5 | exact lit6 | exact lit7 | exact lit8 | exact lit9 | exact lit10 | exact lit11 | exact lit12 | exact lit13 | exact lit14 | exact lit15 | exact lit16 | exact lit17 | exact lit18 | exact lit19)))
local macro_rules | `(tactic| walk_at "compareOp In str str") => `(tactic| refine inS ?_)
local macro_rules | `(tactic| walk_at "compareOp NotIn str str") => `(tactic| refine notInS ?_)
local macro_rules | `(tactic| walk_at "compareOp Eq str str") => `(tactic| refine eqS rfl ?_)
local macro_rules | `(tactic| walk_at "compareOp Eq str str") => `(tactic| refine eqS1 ?_)
local macro_rules | `(tactic| walk_at "compareOp NotEq str str") => `(tactic| refine neS rfl ?_)
local macro_rules | `(tactic| walk_at "compareOp NotEq str str") => `(tactic| refine neS1 ?_)
local macro_rules | `(tactic| walk_at "truthy str") => `(tactic| (refine' truthyS ?hz ?_; (case hz => walk_at "my size"); intro tk))
local macro_rules | `(tactic| walk_at "my size") => `(tactic| first | omega | ((try simp only [S_length, sizeLine_eq, List.length_append, List.length_cons, List.length_nil, List.length_singleton]); omega) | ((try simp only [List.length_append, List.length_cons, List.length_nil, List.length_singleton]); omega))
local macro_rules | `(tactic| walk_at "compareOp In str str") => `(tactic| with_reducible refine in0 ?_)
local macro_rules | `(tactic| walk_at "compareOp NotIn str str") => `(tactic| with_reducible refine notIn0 ?_)
local macro_rules | `(tactic| walk_at "truthy str") => `(tactic| ((with_reducible refine truthyV (by walk_at "my size") ?_ ?_) <;> (intro hq tk; (try subst hq))))
local macro_rules | `(tactic| walk_at "truthy str") => `(tactic| first | ((with_reducible refine truthy0 ?_); intro tk) | ((with_reducible refine' truthyC ?hz ?_); (case hz => walk_at "my size"); intro tk))
local macro_rules | `(tactic| walk_at "ite") => `(tactic| first | with_reducible refine ite_tt ?_ | with_reducible refine ite_ff ?_ | ((with_reducible refine ite_var ?_ ?_) <;> (intro hq; subst hq)) | (k_closed; k_dflt (first | refine ite_bt rfl ?_ | refine ite_bf rfl ?_)))
local macro_rules | `(tactic| walk_at "WTurn") => `(tactic| first | with_reducible refine WTurn.br ?_ | with_reducible refine WTurn.rt ?_)
local macro_rules | `(tactic| walk_at "compareOp Eq str str") => `(tactic| ((with_reducible refine' eqV (fun hq => ?_) (fun hq => ?_)) <;> (first | exact absurd rfl hq | (try subst hq))))
local macro_rules | `(tactic| walk_at "compareOp Eq str str") => `(tactic| with_reducible refine eqNe (by assumption) ?_)
local macro_rules | `(tactic| walk_at "leaving ref") => `(tactic| (k_here; k_dflt (refine' leave_raiseS ?k1 ?k0 ?k2 ?k3 ?_; (case k0 => first | assumption | exact Heap.MadeExc.of (by assumption)); (case k2 => assumption); (case k1 => assumption); (case k3 => k_asm); intro h' t' S' R' U'; (try dsimp only at S' R' U' ⊢))))
local macro_rules | `(tactic| walk_at "leaving ref") => `(tactic| (k_here; k_dflt (refine' leave_onS ?k1 ?k2 ?k3 ?k4 ?_; (case k3 => assumption); (case k2 => assumption); (case k1 => assumption); (case k4 => assumption); intro h' S' R' U'; (try dsimp only at S' R' U' ⊢))))

section
theorem index_ok {i : Int} {t t2 : Tok} {x : Str} (H : Here w A₀ base h₀ outer cs mean mg mb) (F : Fr h₀ L s.heap m) (N : News h₀ L s.heap news) (hdp : dp ≤ 800) (hun : un ≤ 2000) (hi : -10 ≤ i ∧ i ≤ 10)
    (h : ∀ h' tk, Fr h₀ L h' m → News h₀ L h' news → Q (.int i t) { s with heap := h', toks := tk }) :
    wpAny (model PG w) (ktrTop dp un gd cn cs L a ccd cl outer) (call (.ref 72) [.int i t, .str x t2]) Q E s := by
  obtain ⟨B, X, T, hk⟩ := H
  refine wpAny_call ?_
  k_dflt cell_enter
  (repeat' ((fail_if_success (with_reducible show wpAny _ _ (exec (Stmt.While _ _ _ _) _) _ _ _)); (fail_if_success (with_reducible show wpAny _ _ (exec (Stmt.For _ _ _ _ _) _) _ _ _)); first  | (k_unfold; (try dsimp only)) | walk1 | dsimp only))
  all_goals exact h _ _ (by assumption) (by assumption)


theorem scheck_ok {io dio : Nat} {ki vi : Nat → Tok} {tp : Tok} {b : List Nat} {p : Nat} (H : Here w A₀ base h₀ outer cs mean mg mb) (F : Fr h₀ L s.heap m) (N : News h₀ L s.heap ((io, instObj 606 dio) :: (dio, dictOf (ioD w ki vi b p tp) 3) :: news)) (hdp : dp ≤ 800) (hun : un ≤ 2000)
    (h : ∀ h' tk, Fr h₀ L h' m → News h₀ L h' ((io, instObj 606 dio) :: (dio, dictOf (ioD w ki vi b p tp) 3) :: news) → Q .none { s with heap := h', toks := tk }) :
    wpAny (model PG w) (ktrTop dp un gd cn cs L a ccd cl outer) (call (.ref 390) [.ref io]) Q E s := by
  obtain ⟨HB, X, T, hk⟩ := H
  refine wpAny_call ?_
  refine' code_def (binds := [(Str.ofString "self", .ref io)]) ?k1 ?k2 ?k3 ?k4 ?k5 ?kA ?kF ?kK ?k6 ?k7 ?k8 ?k9 ?kB ?_ ?c2 ?c3 ?c4 ?c5
  (case kA => exact rfl); (case kF => exact rfl); (case kK => assumption); (case k1 => k_asm); (case k2 => k_asm); (case k3 => k_asm); (case k4 => k_asm); (case k5 => k_asm); (case k6 => k_is)
  (case k7 => k_is); (case k8 => ktr_room); (case k9 => exact BindsTo.of_eq rfl); (case c5 => decide); (case kB => exact locs rfl); (case c2 => exact rfl); (case c3 => exact rfl); (case c4 => exact rfl)
  intro g' L' h' FG' F' N' B' X' T'
  (try dsimp only)
  dsimp only [List.reverse, List.reverseAux] at F'
  k_fold
  (repeat' ((fail_if_success (with_reducible show wpAny _ _ (exec (Stmt.While _ _ _ _) _) _ _ _)); (fail_if_success (with_reducible show wpAny _ _ (exec (Stmt.For _ _ _ _ _) _) _ _ _)); first | ((with_reducible show wpAny _ _ (getAttr (Value.ref _) _ _) _ _ _); (k_here; (with_reducible refine' getA (by k_dflt k_asm) (by k_dflt k_asm) (by k_dflt k_asm) (by k_dflt k_mem) (by k_dflt k_mem) (by with_reducible first | exact cls741 | exact cls606) (by with_reducible first | exact shA_state1 | exact shA_token | exact shA_posix | exact shA_debug | exact shA_quotes | exact shA_escape | exact shA_whitespace | exact shA_instream | exact shA_whitespace_split | exact shA_commenters | exact shA_wordchars | exact shA_escapedquotes | exact shA__punctuation_chars | exact shA_eof | exact shA_state0 | exact shA_infile | exact shA_pushback | exact shA_lineno | exact shA_filestack | exact shA_source | exact ioA_buf | exact ioA_pos | exact ioA_newline) ?_))) | ((with_reducible show wpAny _ _ (getAttr (Value.ref _) _ _) _ _ _); (k_here; k_dflt (refine' get_own (by k_asm) (by k_asm) (by k_inst) (by k_is) (by k_is) (by k_is) (by k_is) (by k_get) (by k_handed) ?_; k_whole))) | (k_unfold; (try dsimp only)) | walk1 | dsimp only))
  all_goals exact h _ _ (by assumption) (by assumption)



theorem sread_one {io dio : Nat} {ki vi : Nat → Tok} {tp t : Tok} {b : List Nat} {p c : Nat} (H : Here w A₀ base h₀ outer cs mean mg mb) (F : Fr h₀ L s.heap m) (N : News h₀ L s.heap ((io, instObj 606 dio) :: (dio, dictOf (ioD w ki vi b p tp) 3) :: news)) (hdp : dp ≤ 790) (hun : un ≤ 1900)
    (hne : dio < io) (hnew : ∀ q ∈ news, q.1 ≠ dio) (hB : b.length ≤ 1000000) (hc : b[p]? = some c)
    (h : ∀ h' tk t3' t', Fr h₀ L h' m → News h₀ L h' ((io, instObj 606 dio) :: (dio, dictOf (ioD w ki vi b (p + 1) t3') 3) :: news) → Q (.str (S [c]) t') { s with heap := h', toks := tk }) :
    wpAny (model PG w) (ktrTop dp un gd cn cs L a ccd cl outer) (call (.ref 552) [.ref io, .int 1 t]) Q E s := by
  obtain ⟨HB, X, T, hk⟩ := H
  have hp2 : p < (S b).length := by
    rw [S_length]
    rcases Nat.lt_or_ge p b.length with h | h
    · exact h
    · rw [List.getElem?_eq_none h] at hc; cases hc
  have hB2 : (S b).length ≤ 1000000 := by rw [S_length]; exact hB
  refine wpAny_call ?_
  refine' code_def (binds := [(Str.ofString "self", .ref io), (Str.ofString "size", .int 1 t)]) ?k1 ?k2 ?k3 ?k4 ?k5 ?kA ?kF ?kK ?k6 ?k7 ?k8 ?k9 ?kB ?_ ?c2 ?c3 ?c4 ?c5
  (case kA => exact rfl); (case kF => exact rfl); (case kK => assumption); (case k1 => k_asm); (case k2 => k_asm); (case k3 => k_asm); (case k4 => k_asm); (case k5 => k_asm); (case k6 => k_is)
  (case k7 => k_is); (case k8 => ktr_room); (case k9 => exact binds_K (by k_in) rfl (by k_is) rfl rfl rfl); (case c5 => decide); (case kB => exact locs rfl); (case c2 => exact rfl); (case c3 => exact rfl); (case c4 => exact rfl)
  intro g' L' h' FG' F' N' B' X' T'
  (try dsimp only)
  dsimp only [List.reverse, List.reverseAux] at F'
  k_fold
  rw [en_rd] at F'
  (repeat' ((fail_if_success (with_reducible show wpAny _ _ (exec (Stmt.While _ _ _ _) _) _ _ _)); (fail_if_success (with_reducible show wpAny _ _ (exec (Stmt.For _ _ _ _ _) _) _ _ _)); first | ((with_reducible show wpAny _ _ (call (Value.ref 390) _ _) _ _ _); k_dflt (refine' scheck_ok ⟨by k_asm, by k_asm, by k_asm, by walk_at "k4"⟩ (by k_asm) (by k_asm) (by ktr_room) (by k_units)  ?_; intros; (try k_sweep))) | ((with_reducible show wpAny _ _ (call (Value.ref 72) _ _) _ _ _); k_dflt (refine' index_ok ⟨by k_asm, by k_asm, by k_asm, by walk_at "k4"⟩ (by k_asm) (by k_asm) (by ktr_room) (by k_units) (by decide) ?_; intros; (try k_sweep))) | ((with_reducible show wpAny _ _ (setAttr (Value.ref _) _ _) _ _ _); (k_here; (with_reducible refine' setA (by k_dflt k_asm) (by k_dflt k_asm) (by k_dflt k_asm) (by k_dflt k_mem) (by k_dflt k_mem) (by with_reducible first | exact cls741 | exact cls606) (by first | with_reducible exact shP_token | with_reducible exact shP_state1 | with_reducible exact shP_state0 | k_dflt exact ioP_pos) (by k_dflt k_upd) ?_); intro _ _ _; (try k_sweep))) | ((with_reducible show wpAny _ _ (storeName _ _ _) _ _ _); ((with_reducible first | refine' st_rd_self (by k_dflt k_asm) (by k_dflt k_asm) ?_ | refine' st_rd_size (by k_dflt k_asm) (by k_dflt k_asm) ?_ | refine' st_rd_start (by k_dflt k_asm) (by k_dflt k_asm) ?_ | refine' st_rd_stop (by k_dflt k_asm) (by k_dflt k_asm) ?_); intro _ _ _; (try k_sweep))) | ((with_reducible show wpAny _ _ (eval (Expr.Name _ _) _) _ _ _); ((with_reducible first | refine' ld_rd_self (by k_dflt k_asm) ?_ | refine' ld_rd_size (by k_dflt k_asm) ?_ | refine' ld_rd_start (by k_dflt k_asm) ?_ | refine' ld_rd_stop (by k_dflt k_asm) ?_))) | ((with_reducible show wpAny _ _ (eval (Expr.Attribute (Expr.Name _ _) _ _) _) _ _ _); (k_here; (with_reducible first | refine' self_rd (by k_dflt k_asm) (by k_dflt k_asm) (by k_dflt k_asm) (by k_dflt k_mem) (by k_dflt k_mem) (by with_reducible first | exact cls741 | exact cls606) (by with_reducible first | exact shA_state1 | exact shA_token | exact shA_posix | exact shA_debug | exact shA_quotes | exact shA_escape | exact shA_whitespace | exact shA_instream | exact shA_whitespace_split | exact shA_commenters | exact shA_wordchars | exact shA_escapedquotes | exact shA__punctuation_chars | exact shA_eof | exact shA_state0 | exact shA_infile | exact shA_pushback | exact shA_lineno | exact shA_filestack | exact shA_source | exact ioA_buf | exact ioA_pos | exact ioA_newline) ?_))) | ((with_reducible show wpAny _ _ (subscriptTail _ _ _ _) _ _ _); ((with_reducible show wpAny _ _ (subscriptTail _ (Expr.Slice (some _) none none _) (Value.str _ _) _) _ _ _); (with_reducible rename Fr _ _ _ _ => F'); (with_reducible rename News _ _ _ _ => N'); (refine slice_strN_sn (hsz := (by walk_at "my size")) (s := ⟨_, _, _, _, _⟩) F' N' ?_); intro _ _ _ _ _; (try k_sweep))) | ((with_reducible show wpAny _ _ (subscriptTail _ _ _ _) _ _ _); ((with_reducible show wpAny _ _ (subscriptTail _ (Expr.Slice none (some _) none _) (Value.str _ _) _) _ _ _); (with_reducible rename Fr _ _ _ _ => F'); (with_reducible rename News _ _ _ _ => N'); (refine slice_strN_ns (hsz := (by walk_at "my size")) (s := ⟨_, _, _, _, _⟩) F' N' ?_); intro _ _ _ _ _; (try k_sweep))) | ((with_reducible show wpAny _ _ (subscriptTail _ _ _ _) _ _ _); ((with_reducible show wpAny _ _ (subscriptTail _ (Expr.Slice (some _) (some _) none _) (Value.str _ _) _) _ _ _); (with_reducible rename Fr _ _ _ _ => F'); (with_reducible rename News _ _ _ _ => N'); (refine slice_strN_ss (hsz := (by walk_at "my size")) (s := ⟨_, _, _, _, _⟩) F' N' ?_); intro _ _ _ _ _; (try k_sweep))) | (k_unfold; (try dsimp only)) | walk1 | dsimp only))
  · have e : Txt.slice (S b) (some (p : Int)) (some ((p : Int) + 1)) = S [c] := slice_one hc
    rw [e]
    exact h _ _ _ _ (by assumption) (by assumption)
  · have e : Txt.slice (S b) (some (p : Int)) (some ((p + 1 : Nat) : Int)) = S [c] := slice_one hc
    have e2 : ((S b).length : Int) = ((p + 1 : Nat) : Int) := by omega
    rename News h₀ _ _ _ => kN
    have e3 : (S b).length = p + 1 := by omega
    rw [e3] at kN
    rw [e2, e]
    exact h _ _ _ _ (by assumption) kN
theorem sread_end {io dio : Nat} {ki vi : Nat → Tok} {tp t : Tok} {b : List Nat} {p : Nat} (H : Here w A₀ base h₀ outer cs mean mg mb) (F : Fr h₀ L s.heap m) (N : News h₀ L s.heap ((io, instObj 606 dio) :: (dio, dictOf (ioD w ki vi b p tp) 3) :: news)) (hdp : dp ≤ 790) (hun : un ≤ 1900)
    (hB : b.length ≤ 1000000) (hc : b.length ≤ p)
    (h : ∀ h' tk t', Fr h₀ L h' m → News h₀ L h' ((io, instObj 606 dio) :: (dio, dictOf (ioD w ki vi b p tp) 3) :: news) → Q (.str (S []) t') { s with heap := h', toks := tk }) :
    wpAny (model PG w) (ktrTop dp un gd cn cs L a ccd cl outer) (call (.ref 552) [.ref io, .int 1 t]) Q E s := by
  obtain ⟨HB, X, T, hk⟩ := H
  have hp2 : (S b).length ≤ p := by
    rw [S_length]; exact hc
  have hB2 : (S b).length ≤ 1000000 := by rw [S_length]; exact hB
  refine wpAny_call ?_
  refine' code_def (binds := [(Str.ofString "self", .ref io), (Str.ofString "size", .int 1 t)]) ?k1 ?k2 ?k3 ?k4 ?k5 ?kA ?kF ?kK ?k6 ?k7 ?k8 ?k9 ?kB ?_ ?c2 ?c3 ?c4 ?c5
  (case kA => exact rfl); (case kF => exact rfl); (case kK => assumption); (case k1 => k_asm); (case k2 => k_asm); (case k3 => k_asm); (case k4 => k_asm); (case k5 => k_asm); (case k6 => k_is)
  (case k7 => k_is); (case k8 => ktr_room); (case k9 => exact binds_K (by k_in) rfl (by k_is) rfl rfl rfl); (case c5 => decide); (case kB => exact locs rfl); (case c2 => exact rfl); (case c3 => exact rfl); (case c4 => exact rfl)
  intro g' L' h' FG' F' N' B' X' T'
  (try dsimp only)
  dsimp only [List.reverse, List.reverseAux] at F'
  k_fold
  rw [en_rd] at F'
  (repeat' ((fail_if_success (with_reducible show wpAny _ _ (exec (Stmt.While _ _ _ _) _) _ _ _)); (fail_if_success (with_reducible show wpAny _ _ (exec (Stmt.For _ _ _ _ _) _) _ _ _)); first | ((with_reducible show wpAny _ _ (call (Value.ref 390) _ _) _ _ _); k_dflt (refine' scheck_ok ⟨by k_asm, by k_asm, by k_asm, by walk_at "k4"⟩ (by k_asm) (by k_asm) (by ktr_room) (by k_units)  ?_; intros; (try k_sweep))) | ((with_reducible show wpAny _ _ (call (Value.ref 72) _ _) _ _ _); k_dflt (refine' index_ok ⟨by k_asm, by k_asm, by k_asm, by walk_at "k4"⟩ (by k_asm) (by k_asm) (by ktr_room) (by k_units) (by decide) ?_; intros; (try k_sweep))) | ((with_reducible show wpAny _ _ (storeName _ _ _) _ _ _); ((with_reducible first | refine' st_rd_self (by k_dflt k_asm) (by k_dflt k_asm) ?_ | refine' st_rd_size (by k_dflt k_asm) (by k_dflt k_asm) ?_ | refine' st_rd_start (by k_dflt k_asm) (by k_dflt k_asm) ?_ | refine' st_rd_stop (by k_dflt k_asm) (by k_dflt k_asm) ?_); intro _ _ _; (try k_sweep))) | ((with_reducible show wpAny _ _ (eval (Expr.Name _ _) _) _ _ _); ((with_reducible first | refine' ld_rd_self (by k_dflt k_asm) ?_ | refine' ld_rd_size (by k_dflt k_asm) ?_ | refine' ld_rd_start (by k_dflt k_asm) ?_ | refine' ld_rd_stop (by k_dflt k_asm) ?_))) | ((with_reducible show wpAny _ _ (eval (Expr.Attribute (Expr.Name _ _) _ _) _) _ _ _); (k_here; (with_reducible first | refine' self_rd (by k_dflt k_asm) (by k_dflt k_asm) (by k_dflt k_asm) (by k_dflt k_mem) (by k_dflt k_mem) (by with_reducible first | exact cls741 | exact cls606) (by with_reducible first | exact shA_state1 | exact shA_token | exact shA_posix | exact shA_debug | exact shA_quotes | exact shA_escape | exact shA_whitespace | exact shA_instream | exact shA_whitespace_split | exact shA_commenters | exact shA_wordchars | exact shA_escapedquotes | exact shA__punctuation_chars | exact shA_eof | exact shA_state0 | exact shA_infile | exact shA_pushback | exact shA_lineno | exact shA_filestack | exact shA_source | exact ioA_buf | exact ioA_pos | exact ioA_newline) ?_))) | (k_unfold; (try dsimp only)) | walk1 | dsimp only))
  exact h _ _ _ (by assumption) (by assumption)


section
noncomputable def StOk (st es : Nat) : Prop := st = 32 ∨ st = 39 ∨ st = 34 ∨ (st = 92 ∧ (es = 97 ∨ es = 34)) ∨ st = 97
/-- what the reader's loop holds -/
inductive RtI (w : World) (g : Heap) (L x dx io dio pb fs : Nat) (k v ki vi : Nat → Tok) (b wl : List Nat) (p : Nat) (news : List (Addr × Obj)) (s : Shared) : Nat → Shared → Prop
  | mk {n : Nat} {h₁ : Heap} {tk₁ : Nat} {nc : Option Value} {p₁ st es : Nat} {q : Bool} {tok : List Nat} {tp₁ ts₁ tt₁ te : Tok} (F : Fr g L h₁ (mp_rt (some (.ref x)) (some (.bool q)) (some (.str (S [es]) te)) nc none))
      (N : News g L h₁ ((io, instObj 606 dio) :: (dio, dictOf (ioD w ki vi b p₁ tp₁) 3) :: (x, instObj 741 dx) :: (dx, dictOf (shD w k v io pb fs wl (some st) ts₁ tok tt₁) 19) :: news))
      (h1 : n + p₁ = b.length + 1) (h2 : p ≤ p₁) (h3 : p₁ ≤ b.length) (h4 : tok.length ≤ 2 * p₁) (h5 : rt (b.drop p₁) st es q tok = rt (b.drop p) 32 32 false []) (h6 : StOk st es) : RtI w g L x dx io dio pb fs k v ki vi b wl p news s n { s with heap := h₁, toks := tk₁ }
/-- what stands behind it -/
inductive RtB (w : World) (g : Heap) (L x dx io dio pb fs : Nat) (k v ki vi : Nat → Tok) (b wl : List Nat) (p : Nat) (news : List (Addr × Obj)) (s : Shared) : Shared → Prop
  | mk {h₁ : Heap} {tk₁ : Nat} {nc : Option Value} {p₁ es : Nat} {st : Option Nat} {q : Bool} {tok : List Nat} {tp₁ ts₁ tt₁ te : Tok} (F : Fr g L h₁ (mp_rt (some (.ref x)) (some (.bool q)) (some (.str (S [es]) te)) nc none))
      (N : News g L h₁ ((io, instObj 606 dio) :: (dio, dictOf (ioD w ki vi b p₁ tp₁) 3) :: (x, instObj 741 dx) :: (dx, dictOf (shD w k v io pb fs wl st ts₁ tok tt₁) 19) :: news))
      (e : rt (b.drop p) 32 32 false [] = .got q tok st (b.drop p₁)) (h2 : p ≤ p₁) (h3 : p₁ ≤ b.length) (h4 : tok.length ≤ 2 * p₁) : RtB w g L x dx io dio pb fs k v ki vi b wl p news s { s with heap := h₁, toks := tk₁ }
theorem rtok_ok {x dx io dio pb fs : Nat} {k v ki vi : Nat → Tok} {tp ts tt : Tok} {b wl : List Nat} {p : Nat} (H : Here w A₀ base h₀ outer cs mean mg mb) (F : Fr h₀ L s.heap m)
    (N : News h₀ L s.heap ((io, instObj 606 dio) :: (dio, dictOf (ioD w ki vi b p tp) 3) :: (x, instObj 741 dx) :: (dx, dictOf (shD w k v io pb fs wl (some 32) ts [] tt) 19) :: news)) (hdp : dp ≤ 750) (hun : un ≤ 1500)
    (h1 : dx < x) (h2 : x < dio) (h3 : dio < io) (hnew : ∀ q ∈ news, q.1 ≠ dio) (hnew2 : ∀ q ∈ news, q.1 ≠ dx) (hB : b.length ≤ 100000) (hb : ∀ c ∈ b, c ≠ 10) (hp : p ≤ b.length) (hwl : ∀ c, wl.contains c = true → quL.contains c = false)
    (h : ∀ val q tok st p' tp' ts' tt' h' tk, rt (b.drop p) 32 32 false [] = .got q tok st (b.drop p') → RetOk q tok val → p ≤ p' → p' ≤ b.length → tok.length ≤ 2 * p' → Fr h₀ L h' m →
      News h₀ L h' ((io, instObj 606 dio) :: (dio, dictOf (ioD w ki vi b p' tp') 3) :: (x, instObj 741 dx) :: (dx, dictOf (shD w k v io pb fs wl st ts' [] tt') 19) :: news) → Q val { s with heap := h', toks := tk })
    (hE : rt (b.drop p) 32 32 false [] = .bad → ∀ e t vs h' tk g, Fr h₀ L g m → RaisedS base g (envX cn cs L a ccd cl :: outer) e (.type "ValueError") t vs news h' → g.UpToSlots h' → E (.ref e) { s with heap := h', toks := tk }) :
    wpAny (model PG w) (ktrTop dp un gd cn cs L a ccd cl outer) (call (.ref 709) [.ref x]) Q E s := by
  obtain ⟨HB, X, T, hk⟩ := H
  refine wpAny_call ?_
  refine' code_def (binds := [(Str.ofString "self", .ref x)]) ?k1 ?k2 ?k3 ?k4 ?k5 ?kA ?kF ?kK ?k6 ?k7 ?k8 ?k9 ?kB ?_ ?c2 ?c3 ?c4 ?c5
  (case kA => exact rfl); (case kF => exact rfl); (case kK => assumption); (case k1 => k_asm); (case k2 => k_asm); (case k3 => k_asm); (case k4 => k_asm); (case k5 => k_asm); (case k6 => k_is)
  (case k7 => k_is); (case k8 => ktr_room); (case k9 => exact BindsTo.of_eq rfl); (case c5 => decide); (case kB => exact locs rfl); (case c2 => exact rfl); (case c3 => exact rfl); (case c4 => exact rfl)
  intro g' L' h' FG' F' N' B' X' T'
  (try dsimp only)
  dsimp only [List.reverse, List.reverseAux] at F'
  k_fold
  rw [en_rt] at F'
  (repeat' ((fail_if_success (with_reducible show MidP _ _ _)); (fail_if_success (with_reducible show wpAny _ _ (exec (Stmt.While _ _ _ _) _) _ _ _)); first | ((with_reducible show wpAny _ _ (storeName _ _ _) _ _ _); ((with_reducible first | refine' st_rt_self (by k_dflt k_asm) (by k_dflt k_asm) ?_ | refine' st_rt_quoted (by k_dflt k_asm) (by k_dflt k_asm) ?_ | refine' st_rt_escapedstate (by k_dflt k_asm) (by k_dflt k_asm) ?_ | refine' st_rt_nextchar (by k_dflt k_asm) (by k_dflt k_asm) ?_ | refine' st_rt_result (by k_dflt k_asm) (by k_dflt k_asm) ?_); intro _ _ _; (try k_sweep))) | (k_unfold; (try dsimp only)) | walk1 | dsimp only))
  refine exec_mid (RtB w g' L' x dx io dio pb fs k v ki vi b wl p news s) ?_ ?_
  rotate_left
  · intro s' hs
    obtain ⟨kF, kN, e, h2, h3, h4⟩ := hs
    (repeat' ((fail_if_success (with_reducible show MidP _ _ _)); (fail_if_success (with_reducible show wpAny _ _ (exec (Stmt.While _ _ _ _) _) _ _ _)); first | ((with_reducible show wpAny _ _ (call (Value.ref 552) _ _) _ _ _); k_dflt (refine' sread_end ⟨by k_asm, by k_asm, by k_asm, by walk_at "k4"⟩ (by k_asm) (by k_asm) (by ktr_room) (by k_units) (by omega) (by omega) ?_; intros; (try k_sweep))) | ((with_reducible show wpAny _ _ (call (Value.ref 552) _ _) _ _ _); k_dflt (refine' sread_one ⟨by k_asm, by k_asm, by k_asm, by walk_at "k4"⟩ (by k_asm) (by k_asm) (by ktr_room) (by k_units) (by omega) (by k_all) (by omega) (by assumption) ?_; intros; (try k_sweep))) | ((with_reducible show wpAny _ _ (call (Value.ref 390) _ _) _ _ _); k_dflt (refine' scheck_ok ⟨by k_asm, by k_asm, by k_asm, by walk_at "k4"⟩ (by k_asm) (by k_asm) (by ktr_room) (by k_units)  ?_; intros; (try k_sweep))) | ((with_reducible show wpAny _ _ (call (Value.ref 72) _ _) _ _ _); k_dflt (refine' index_ok ⟨by k_asm, by k_asm, by k_asm, by walk_at "k4"⟩ (by k_asm) (by k_asm) (by ktr_room) (by k_units) (by decide) ?_; intros; (try k_sweep))) | ((with_reducible show wpAny _ _ (setAttr (Value.ref _) _ _) _ _ _); (k_here; (with_reducible refine' setA (by k_dflt k_asm) (by k_dflt k_asm) (by k_dflt k_asm) (by k_dflt k_mem) (by k_dflt k_mem) (by with_reducible first | exact cls741 | exact cls606) (by first | with_reducible exact shP_token | with_reducible exact shP_state1 | with_reducible exact shP_state0 | k_dflt exact ioP_pos) (by k_dflt k_upd) ?_); intro _ _ _; (try k_sweep))) | ((with_reducible show wpAny _ _ (getAttr (Value.ref _) _ _) _ _ _); (k_here; (with_reducible refine' getA (by k_dflt k_asm) (by k_dflt k_asm) (by k_dflt k_asm) (by k_dflt k_mem) (by k_dflt k_mem) (by with_reducible first | exact cls741 | exact cls606) (by with_reducible first | exact shA_state1 | exact shA_token | exact shA_posix | exact shA_debug | exact shA_quotes | exact shA_escape | exact shA_whitespace | exact shA_instream | exact shA_whitespace_split | exact shA_commenters | exact shA_wordchars | exact shA_escapedquotes | exact shA__punctuation_chars | exact shA_eof | exact shA_state0 | exact shA_infile | exact shA_pushback | exact shA_lineno | exact shA_filestack | exact shA_source | exact ioA_buf | exact ioA_pos | exact ioA_newline) ?_))) | ((with_reducible show wpAny _ _ (storeName _ _ _) _ _ _); ((with_reducible first | refine' st_rt_self (by k_dflt k_asm) (by k_dflt k_asm) ?_ | refine' st_rt_quoted (by k_dflt k_asm) (by k_dflt k_asm) ?_ | refine' st_rt_escapedstate (by k_dflt k_asm) (by k_dflt k_asm) ?_ | refine' st_rt_nextchar (by k_dflt k_asm) (by k_dflt k_asm) ?_ | refine' st_rt_result (by k_dflt k_asm) (by k_dflt k_asm) ?_); intro _ _ _; (try k_sweep))) | ((with_reducible show wpAny _ _ (eval (Expr.Name _ _) _) _ _ _); ((with_reducible first | refine' ld_rt_self (by k_dflt k_asm) ?_ | refine' ld_rt_quoted (by k_dflt k_asm) ?_ | refine' ld_rt_escapedstate (by k_dflt k_asm) ?_ | refine' ld_rt_nextchar (by k_dflt k_asm) ?_ | refine' ld_rt_result (by k_dflt k_asm) ?_))) | ((with_reducible show wpAny _ _ (eval (Expr.Attribute (Expr.Name _ _) _ _) _) _ _ _); (k_here; (with_reducible first | refine' self_rt (by k_dflt k_asm) (by k_dflt k_asm) (by k_dflt k_asm) (by k_dflt k_mem) (by k_dflt k_mem) (by with_reducible first | exact cls741 | exact cls606) (by with_reducible first | exact shA_state1 | exact shA_token | exact shA_posix | exact shA_debug | exact shA_quotes | exact shA_escape | exact shA_whitespace | exact shA_instream | exact shA_whitespace_split | exact shA_commenters | exact shA_wordchars | exact shA_escapedquotes | exact shA__punctuation_chars | exact shA_eof | exact shA_state0 | exact shA_infile | exact shA_pushback | exact shA_lineno | exact shA_filestack | exact shA_source | exact ioA_buf | exact ioA_pos | exact ioA_newline) ?_))) | ((with_reducible show wpAny _ _ (getAttr (Value.ref _) _ _) _ _ _); (k_here; k_dflt (refine' get_own (by k_asm) (by k_asm) (by k_inst) (by k_is) (by k_is) (by k_is) (by k_is) (by k_get) (by k_handed) ?_; k_whole))) | (k_unfold; (try dsimp only)) | walk1 | dsimp only))
    all_goals
      refine' h _ _ _ _ _ _ _ _ _ _ e ?e2 h2 h3 h4 ?e6 ?e7
      (case e6 => assumption)
      (case e7 => first | assumption | exact ntl (by assumption))
      (case e2 => first | exact .inl ⟨rfl, rfl, rfl⟩ | exact .inr ⟨_, rfl, .inl rfl⟩ | exact .inr ⟨_, rfl, .inr (by assumption)⟩)
  intro P' hP'
  refine While_my (RtI w g' L' x dx io dio pb fs k v ki vi b wl p news s) ?_ (b.length + 1 - p) ?_
  case refine_2 =>
    exact .mk (p₁ := p) (st := 32) (es := 32) (q := false) (tok := []) (by assumption) (by assumption) (by omega) (Nat.le_refl _) hp (by simp) rfl (.inl rfl)
  intro n s' Jw hJw hs
  obtain ⟨F₁, N₁, hn, hp0, hp₁, htok, hrt, hst⟩ := hs
  rename_i h₁ tk₁ nc p₁ st es q tok tp₁ ts₁ tt₁ te
  k_fold
  have hts : tok.length ≤ 200000 := by omega
  cases hc : b[p₁]? with
  | some c =>
    have hc10 : c ≠ 10 := hb c (List.mem_of_getElem? hc)
    have hp2 : p₁ < b.length := by
      rcases Nat.lt_or_ge p₁ b.length with h' | h'
      · exact h'
      · rw [List.getElem?_eq_none h'] at hc; cases hc
    have n1 : Hid (n - 1 < n) := (by omega : n - 1 < n)
    have n2 : Hid (n - 1 + (p₁ + 1) = b.length + 1) := (by omega : n - 1 + (p₁ + 1) = b.length + 1)
    have n3 : Hid (p ≤ p₁ + 1) := Nat.le_succ_of_le hp0
    have n4 : Hid (p₁ + 1 ≤ b.length) := hp2
    have ht0 : Hid (tok.length ≤ 2 * (p₁ + 1)) := Nat.le_trans htok (Nat.mul_le_mul_left 2 (Nat.le_succ p₁))
    have ht1 : ∀ c, (tok ++ [c]).length ≤ 2 * (p₁ + 1) := fun c => by simp only [List.length_append, List.length_singleton]; omega
    have ht2 : ∀ a c, (tok ++ [a] ++ [c]).length ≤ 2 * (p₁ + 1) := fun a c => by simp only [List.length_append, List.length_singleton]; omega
    have ht3 : ∀ c : Nat, [c].length ≤ 2 * (p₁ + 1) := fun c => by simp only [List.length_singleton]; omega
    have ht4 : Hid (([] : List Nat).length ≤ 2 * (p₁ + 1)) := Nat.zero_le (2 * (p₁ + 1))
    clear hn hp0 hp₁ htok
    repeat' ((fail_if_success (with_reducible show wpAny _ _ (exec (Stmt.If (Expr.Compare _ [CmpOp.Is] _ _) _ _ _) _) _ _ _)); (first | ((with_reducible show wpAny _ _ (call (Value.ref 552) _ _) _ _ _); k_dflt (refine' sread_end ⟨by k_asm, by k_asm, by k_asm, by walk_at "k4"⟩ (by k_asm) (by k_asm) (by ktr_room) (by k_units) (by omega) (by omega) ?_; intros; (try k_sweep))) | ((with_reducible show wpAny _ _ (call (Value.ref 552) _ _) _ _ _); k_dflt (refine' sread_one ⟨by k_asm, by k_asm, by k_asm, by walk_at "k4"⟩ (by k_asm) (by k_asm) (by ktr_room) (by k_units) (by omega) (by k_all) (by omega) (by assumption) ?_; intros; (try k_sweep))) | ((with_reducible show wpAny _ _ (call (Value.ref 390) _ _) _ _ _); k_dflt (refine' scheck_ok ⟨by k_asm, by k_asm, by k_asm, by walk_at "k4"⟩ (by k_asm) (by k_asm) (by ktr_room) (by k_units)  ?_; intros; (try k_sweep))) | ((with_reducible show wpAny _ _ (call (Value.ref 72) _ _) _ _ _); k_dflt (refine' index_ok ⟨by k_asm, by k_asm, by k_asm, by walk_at "k4"⟩ (by k_asm) (by k_asm) (by ktr_room) (by k_units) (by decide) ?_; intros; (try k_sweep))) | ((with_reducible show wpAny _ _ (setAttr (Value.ref _) _ _) _ _ _); (k_here; (with_reducible refine' setA (by k_dflt k_asm) (by k_dflt k_asm) (by k_dflt k_asm) (by k_dflt k_mem) (by k_dflt k_mem) (by with_reducible first | exact cls741 | exact cls606) (by first | with_reducible exact shP_token | with_reducible exact shP_state1 | with_reducible exact shP_state0 | k_dflt exact ioP_pos) (by k_dflt k_upd) ?_); intro _ _ _; (try k_sweep))) | ((with_reducible show wpAny _ _ (getAttr (Value.ref _) _ _) _ _ _); (k_here; (with_reducible refine' getA (by k_dflt k_asm) (by k_dflt k_asm) (by k_dflt k_asm) (by k_dflt k_mem) (by k_dflt k_mem) (by with_reducible first | exact cls741 | exact cls606) (by with_reducible first | exact shA_state1 | exact shA_token | exact shA_posix | exact shA_debug | exact shA_quotes | exact shA_escape | exact shA_whitespace | exact shA_instream | exact shA_whitespace_split | exact shA_commenters | exact shA_wordchars | exact shA_escapedquotes | exact shA__punctuation_chars | exact shA_eof | exact shA_state0 | exact shA_infile | exact shA_pushback | exact shA_lineno | exact shA_filestack | exact shA_source | exact ioA_buf | exact ioA_pos | exact ioA_newline) ?_))) | ((with_reducible show wpAny _ _ (storeName _ _ _) _ _ _); ((with_reducible first | refine' st_rt_self (by k_dflt k_asm) (by k_dflt k_asm) ?_ | refine' st_rt_quoted (by k_dflt k_asm) (by k_dflt k_asm) ?_ | refine' st_rt_escapedstate (by k_dflt k_asm) (by k_dflt k_asm) ?_ | refine' st_rt_nextchar (by k_dflt k_asm) (by k_dflt k_asm) ?_ | refine' st_rt_result (by k_dflt k_asm) (by k_dflt k_asm) ?_); intro _ _ _; (try k_sweep))) | ((with_reducible show wpAny _ _ (eval (Expr.Name _ _) _) _ _ _); ((with_reducible first | refine' ld_rt_self (by k_dflt k_asm) ?_ | refine' ld_rt_quoted (by k_dflt k_asm) ?_ | refine' ld_rt_escapedstate (by k_dflt k_asm) ?_ | refine' ld_rt_nextchar (by k_dflt k_asm) ?_ | refine' ld_rt_result (by k_dflt k_asm) ?_))) | ((with_reducible show wpAny _ _ (eval (Expr.Attribute (Expr.Name _ _) _ _) _) _ _ _); (k_here; (with_reducible first | refine' self_rt (by k_dflt k_asm) (by k_dflt k_asm) (by k_dflt k_asm) (by k_dflt k_mem) (by k_dflt k_mem) (by with_reducible first | exact cls741 | exact cls606) (by with_reducible first | exact shA_state1 | exact shA_token | exact shA_posix | exact shA_debug | exact shA_quotes | exact shA_escape | exact shA_whitespace | exact shA_instream | exact shA_whitespace_split | exact shA_commenters | exact shA_wordchars | exact shA_escapedquotes | exact shA__punctuation_chars | exact shA_eof | exact shA_state0 | exact shA_infile | exact shA_pushback | exact shA_lineno | exact shA_filestack | exact shA_source | exact ioA_buf | exact ioA_pos | exact ioA_newline) ?_))) | ((with_reducible show wpAny _ _ (getAttr (Value.ref _) _ _) _ _ _); (k_here; k_dflt (refine' get_own (by k_asm) (by k_asm) (by k_inst) (by k_is) (by k_is) (by k_is) (by k_is) (by k_get) (by k_handed) ?_; k_whole))) | ((with_reducible show wpAny _ _ (inplaceOp Operator.Add (Value.str _ _) (Value.str _ _)) _ _ _); (refine' iaddS (by walk_at "my size") ?_; intro _ _)) | (k_unfold; (try dsimp only)) | walk1 | dsimp only))
    rcases hst with rfl | rfl | rfl | ⟨rfl, rfl | rfl⟩ | rfl
    all_goals (repeat' ((fail_if_success (with_reducible show MidP _ _ _)); (fail_if_success (with_reducible show wpAny _ _ (exec (Stmt.While _ _ _ _) _) _ _ _)); first | ((with_reducible show wpAny _ _ (call (Value.ref 552) _ _) _ _ _); k_dflt (refine' sread_end ⟨by k_asm, by k_asm, by k_asm, by walk_at "k4"⟩ (by k_asm) (by k_asm) (by ktr_room) (by k_units) (by omega) (by omega) ?_; intros; (try k_sweep))) | ((with_reducible show wpAny _ _ (call (Value.ref 552) _ _) _ _ _); k_dflt (refine' sread_one ⟨by k_asm, by k_asm, by k_asm, by walk_at "k4"⟩ (by k_asm) (by k_asm) (by ktr_room) (by k_units) (by omega) (by k_all) (by omega) (by assumption) ?_; intros; (try k_sweep))) | ((with_reducible show wpAny _ _ (call (Value.ref 390) _ _) _ _ _); k_dflt (refine' scheck_ok ⟨by k_asm, by k_asm, by k_asm, by walk_at "k4"⟩ (by k_asm) (by k_asm) (by ktr_room) (by k_units)  ?_; intros; (try k_sweep))) | ((with_reducible show wpAny _ _ (call (Value.ref 72) _ _) _ _ _); k_dflt (refine' index_ok ⟨by k_asm, by k_asm, by k_asm, by walk_at "k4"⟩ (by k_asm) (by k_asm) (by ktr_room) (by k_units) (by decide) ?_; intros; (try k_sweep))) | ((with_reducible show wpAny _ _ (setAttr (Value.ref _) _ _) _ _ _); (k_here; (with_reducible refine' setA (by k_dflt k_asm) (by k_dflt k_asm) (by k_dflt k_asm) (by k_dflt k_mem) (by k_dflt k_mem) (by with_reducible first | exact cls741 | exact cls606) (by first | with_reducible exact shP_token | with_reducible exact shP_state1 | with_reducible exact shP_state0 | k_dflt exact ioP_pos) (by k_dflt k_upd) ?_); intro _ _ _; (try k_sweep))) | ((with_reducible show wpAny _ _ (getAttr (Value.ref _) _ _) _ _ _); (k_here; (with_reducible refine' getA (by k_dflt k_asm) (by k_dflt k_asm) (by k_dflt k_asm) (by k_dflt k_mem) (by k_dflt k_mem) (by with_reducible first | exact cls741 | exact cls606) (by with_reducible first | exact shA_state1 | exact shA_token | exact shA_posix | exact shA_debug | exact shA_quotes | exact shA_escape | exact shA_whitespace | exact shA_instream | exact shA_whitespace_split | exact shA_commenters | exact shA_wordchars | exact shA_escapedquotes | exact shA__punctuation_chars | exact shA_eof | exact shA_state0 | exact shA_infile | exact shA_pushback | exact shA_lineno | exact shA_filestack | exact shA_source | exact ioA_buf | exact ioA_pos | exact ioA_newline) ?_))) | ((with_reducible show wpAny _ _ (storeName _ _ _) _ _ _); ((with_reducible first | refine' st_rt_self (by k_dflt k_asm) (by k_dflt k_asm) ?_ | refine' st_rt_quoted (by k_dflt k_asm) (by k_dflt k_asm) ?_ | refine' st_rt_escapedstate (by k_dflt k_asm) (by k_dflt k_asm) ?_ | refine' st_rt_nextchar (by k_dflt k_asm) (by k_dflt k_asm) ?_ | refine' st_rt_result (by k_dflt k_asm) (by k_dflt k_asm) ?_); intro _ _ _; (try k_sweep))) | ((with_reducible show wpAny _ _ (eval (Expr.Name _ _) _) _ _ _); ((with_reducible first | refine' ld_rt_self (by k_dflt k_asm) ?_ | refine' ld_rt_quoted (by k_dflt k_asm) ?_ | refine' ld_rt_escapedstate (by k_dflt k_asm) ?_ | refine' ld_rt_nextchar (by k_dflt k_asm) ?_ | refine' ld_rt_result (by k_dflt k_asm) ?_))) | ((with_reducible show wpAny _ _ (eval (Expr.Attribute (Expr.Name _ _) _ _) _) _ _ _); (k_here; (with_reducible first | refine' self_rt (by k_dflt k_asm) (by k_dflt k_asm) (by k_dflt k_asm) (by k_dflt k_mem) (by k_dflt k_mem) (by with_reducible first | exact cls741 | exact cls606) (by with_reducible first | exact shA_state1 | exact shA_token | exact shA_posix | exact shA_debug | exact shA_quotes | exact shA_escape | exact shA_whitespace | exact shA_instream | exact shA_whitespace_split | exact shA_commenters | exact shA_wordchars | exact shA_escapedquotes | exact shA__punctuation_chars | exact shA_eof | exact shA_state0 | exact shA_infile | exact shA_pushback | exact shA_lineno | exact shA_filestack | exact shA_source | exact ioA_buf | exact ioA_pos | exact ioA_newline) ?_))) | ((with_reducible show wpAny _ _ (getAttr (Value.ref _) _ _) _ _ _); (k_here; k_dflt (refine' get_own (by k_asm) (by k_asm) (by k_inst) (by k_is) (by k_is) (by k_is) (by k_is) (by k_get) (by k_handed) ?_; k_whole))) | ((with_reducible show wpAny _ _ (inplaceOp Operator.Add (Value.str _ _) (Value.str _ _)) _ _ _); (refine' iaddS (by walk_at "my size") ?_; intro _ _)) | (k_unfold; (try dsimp only)) | walk1 | dsimp only))
    all_goals first
      | ((first | with_reducible refine WTurn.nx ?_ | with_reducible refine WTurn.ct ?_)
         refine hJw _ _ n1 (.mk (p₁ := p₁ + 1) (by assumption) (by first | assumption | exact ntl (by assumption)) n2 n3 n4 ?_ (leaf hc hrt ?_) ?_)
         · first | exact ht0 | exact ht1 _ | exact ht2 _ _ | exact ht3 _ | exact ht4
         · first | exact rt_s_ws0 (by assumption) | exact rt_s_es (by assumption) (by assumption) | exact rt_s_qu (by assumption) (by assumption) (by assumption) | exact rt_s_ot (by assumption) (by assumption) (by assumption) | exact rt_q_cl (by assumption) (by decide) (by decide) | exact rt_q_es (by assumption) (by assumption) | exact rt_q_ot (by assumption) (by assumption) | exact rt_p_ot (by assumption) | exact rt_e_a | exact rt_e_q0 (by assumption) (by assumption) | exact rt_e_q1 (by omega) | exact rt_e_q2 (by omega) | exact rt_s_ot (by assumption) (by assumption) (hwl _ (by assumption)) | exact rt_a_ws0 (by assumption) | exact rt_a_qu (by assumption) (by assumption) | exact rt_a_es (by assumption) (by assumption) (by assumption) | exact rt_a_ot (by assumption) (by assumption) (by assumption)
         · first | exact .inl rfl | exact .inr (.inl rfl) | exact .inr (.inr (.inl rfl)) | exact .inr (.inr (.inr (.inr rfl))) | exact .inr (.inr (.inr (.inl ⟨mem_es (by assumption), .inl rfl⟩))) | exact .inr (.inr (.inr (.inl ⟨mem_es (by assumption), .inr rfl⟩))) | exact (mem_qu (by assumption)).elim (fun e => .inr (.inl e)) (fun e => .inr (.inr (.inl e))))
      | (refine MidP.mk ?_
         refine hP' _ (.mk (p₁ := p₁ + 1) (by assumption) (by first | assumption | exact ntl (by assumption)) (leaf hc hrt ?_).symm n3 n4 ?_)
         · first | exact rt_s_ws1 (by assumption) | exact rt_s_ws2 (by assumption) (by assumption) | exact rt_a_ws1 (by assumption) | exact rt_a_ws2 (by assumption) (by assumption)
         · first | exact ht0 | exact ht1 _ | exact ht2 _ _ | exact ht3 _ | exact ht4)
  | none =>
    have hc2 : b.length ≤ p₁ := List.getElem?_eq_none_iff.mp hc
    have i1 : Hid (p ≤ p₁) := hp0
    have i2 : Hid (p₁ ≤ b.length) := hp₁
    have i3 : Hid (tok.length ≤ 2 * p₁) := htok
    clear hn hp0 hp₁ htok
    repeat' ((fail_if_success (with_reducible show wpAny _ _ (exec (Stmt.If (Expr.Compare _ [CmpOp.Is] _ _) _ _ _) _) _ _ _)); (first | ((with_reducible show wpAny _ _ (call (Value.ref 552) _ _) _ _ _); k_dflt (refine' sread_end ⟨by k_asm, by k_asm, by k_asm, by walk_at "k4"⟩ (by k_asm) (by k_asm) (by ktr_room) (by k_units) (by omega) (by omega) ?_; intros; (try k_sweep))) | ((with_reducible show wpAny _ _ (call (Value.ref 552) _ _) _ _ _); k_dflt (refine' sread_one ⟨by k_asm, by k_asm, by k_asm, by walk_at "k4"⟩ (by k_asm) (by k_asm) (by ktr_room) (by k_units) (by omega) (by k_all) (by omega) (by assumption) ?_; intros; (try k_sweep))) | ((with_reducible show wpAny _ _ (call (Value.ref 390) _ _) _ _ _); k_dflt (refine' scheck_ok ⟨by k_asm, by k_asm, by k_asm, by walk_at "k4"⟩ (by k_asm) (by k_asm) (by ktr_room) (by k_units)  ?_; intros; (try k_sweep))) | ((with_reducible show wpAny _ _ (call (Value.ref 72) _ _) _ _ _); k_dflt (refine' index_ok ⟨by k_asm, by k_asm, by k_asm, by walk_at "k4"⟩ (by k_asm) (by k_asm) (by ktr_room) (by k_units) (by decide) ?_; intros; (try k_sweep))) | ((with_reducible show wpAny _ _ (setAttr (Value.ref _) _ _) _ _ _); (k_here; (with_reducible refine' setA (by k_dflt k_asm) (by k_dflt k_asm) (by k_dflt k_asm) (by k_dflt k_mem) (by k_dflt k_mem) (by with_reducible first | exact cls741 | exact cls606) (by first | with_reducible exact shP_token | with_reducible exact shP_state1 | with_reducible exact shP_state0 | k_dflt exact ioP_pos) (by k_dflt k_upd) ?_); intro _ _ _; (try k_sweep))) | ((with_reducible show wpAny _ _ (getAttr (Value.ref _) _ _) _ _ _); (k_here; (with_reducible refine' getA (by k_dflt k_asm) (by k_dflt k_asm) (by k_dflt k_asm) (by k_dflt k_mem) (by k_dflt k_mem) (by with_reducible first | exact cls741 | exact cls606) (by with_reducible first | exact shA_state1 | exact shA_token | exact shA_posix | exact shA_debug | exact shA_quotes | exact shA_escape | exact shA_whitespace | exact shA_instream | exact shA_whitespace_split | exact shA_commenters | exact shA_wordchars | exact shA_escapedquotes | exact shA__punctuation_chars | exact shA_eof | exact shA_state0 | exact shA_infile | exact shA_pushback | exact shA_lineno | exact shA_filestack | exact shA_source | exact ioA_buf | exact ioA_pos | exact ioA_newline) ?_))) | ((with_reducible show wpAny _ _ (storeName _ _ _) _ _ _); ((with_reducible first | refine' st_rt_self (by k_dflt k_asm) (by k_dflt k_asm) ?_ | refine' st_rt_quoted (by k_dflt k_asm) (by k_dflt k_asm) ?_ | refine' st_rt_escapedstate (by k_dflt k_asm) (by k_dflt k_asm) ?_ | refine' st_rt_nextchar (by k_dflt k_asm) (by k_dflt k_asm) ?_ | refine' st_rt_result (by k_dflt k_asm) (by k_dflt k_asm) ?_); intro _ _ _; (try k_sweep))) | ((with_reducible show wpAny _ _ (eval (Expr.Name _ _) _) _ _ _); ((with_reducible first | refine' ld_rt_self (by k_dflt k_asm) ?_ | refine' ld_rt_quoted (by k_dflt k_asm) ?_ | refine' ld_rt_escapedstate (by k_dflt k_asm) ?_ | refine' ld_rt_nextchar (by k_dflt k_asm) ?_ | refine' ld_rt_result (by k_dflt k_asm) ?_))) | ((with_reducible show wpAny _ _ (eval (Expr.Attribute (Expr.Name _ _) _ _) _) _ _ _); (k_here; (with_reducible first | refine' self_rt (by k_dflt k_asm) (by k_dflt k_asm) (by k_dflt k_asm) (by k_dflt k_mem) (by k_dflt k_mem) (by with_reducible first | exact cls741 | exact cls606) (by with_reducible first | exact shA_state1 | exact shA_token | exact shA_posix | exact shA_debug | exact shA_quotes | exact shA_escape | exact shA_whitespace | exact shA_instream | exact shA_whitespace_split | exact shA_commenters | exact shA_wordchars | exact shA_escapedquotes | exact shA__punctuation_chars | exact shA_eof | exact shA_state0 | exact shA_infile | exact shA_pushback | exact shA_lineno | exact shA_filestack | exact shA_source | exact ioA_buf | exact ioA_pos | exact ioA_newline) ?_))) | ((with_reducible show wpAny _ _ (getAttr (Value.ref _) _ _) _ _ _); (k_here; k_dflt (refine' get_own (by k_asm) (by k_asm) (by k_inst) (by k_is) (by k_is) (by k_is) (by k_is) (by k_get) (by k_handed) ?_; k_whole))) | ((with_reducible show wpAny _ _ (inplaceOp Operator.Add (Value.str _ _) (Value.str _ _)) _ _ _); (refine' iaddS (by walk_at "my size") ?_; intro _ _)) | (k_unfold; (try dsimp only)) | walk1 | dsimp only))
    rcases hst with rfl | rfl | rfl | ⟨rfl, _⟩ | rfl
    all_goals (repeat' ((fail_if_success (with_reducible show MidP _ _ _)); (fail_if_success (with_reducible show wpAny _ _ (exec (Stmt.While _ _ _ _) _) _ _ _)); first | ((with_reducible show wpAny _ _ (setAttr (Value.ref _) _ _) _ _ _); (k_here; (with_reducible refine' setA (by k_dflt k_asm) (by k_dflt k_asm) (by k_dflt k_asm) (by k_dflt k_mem) (by k_dflt k_mem) (by with_reducible first | exact cls741 | exact cls606) (by first | with_reducible exact shP_token | with_reducible exact shP_state1 | with_reducible exact shP_state0 | k_dflt exact ioP_pos) (by k_dflt k_upd) ?_); intro _ _ _; (try k_sweep))) | ((with_reducible show wpAny _ _ (storeName _ _ _) _ _ _); ((with_reducible first | refine' st_rt_self (by k_dflt k_asm) (by k_dflt k_asm) ?_ | refine' st_rt_quoted (by k_dflt k_asm) (by k_dflt k_asm) ?_ | refine' st_rt_escapedstate (by k_dflt k_asm) (by k_dflt k_asm) ?_ | refine' st_rt_nextchar (by k_dflt k_asm) (by k_dflt k_asm) ?_ | refine' st_rt_result (by k_dflt k_asm) (by k_dflt k_asm) ?_); intro _ _ _; (try k_sweep))) | ((with_reducible show wpAny _ _ (eval (Expr.Name _ _) _) _ _ _); ((with_reducible first | refine' ld_rt_self (by k_dflt k_asm) ?_ | refine' ld_rt_quoted (by k_dflt k_asm) ?_ | refine' ld_rt_escapedstate (by k_dflt k_asm) ?_ | refine' ld_rt_nextchar (by k_dflt k_asm) ?_ | refine' ld_rt_result (by k_dflt k_asm) ?_))) | ((with_reducible show wpAny _ _ (eval (Expr.Attribute (Expr.Name _ _) _ _) _) _ _ _); (k_here; (with_reducible first | refine' self_rt (by k_dflt k_asm) (by k_dflt k_asm) (by k_dflt k_asm) (by k_dflt k_mem) (by k_dflt k_mem) (by with_reducible first | exact cls741 | exact cls606) (by with_reducible first | exact shA_state1 | exact shA_token | exact shA_posix | exact shA_debug | exact shA_quotes | exact shA_escape | exact shA_whitespace | exact shA_instream | exact shA_whitespace_split | exact shA_commenters | exact shA_wordchars | exact shA_escapedquotes | exact shA__punctuation_chars | exact shA_eof | exact shA_state0 | exact shA_infile | exact shA_pushback | exact shA_lineno | exact shA_filestack | exact shA_source | exact ioA_buf | exact ioA_pos | exact ioA_newline) ?_))) | (k_unfold; (try dsimp only)) | walk1 | dsimp only))
    all_goals first
      | (refine MidP.mk ?_
         exact hP' _ (.mk (p₁ := p₁) (by assumption) (by first | assumption | exact ntl (by assumption)) (rt_end hc2 hrt (by decide)) i1 i2 i3))
      | exact hE (rt_bad hc2 hrt (by decide)) _ _ _ _ _ _ FG' (RaisedS.drop (by assumption) (fun _ hq => .tail _ (.tail _ (.tail _ (.tail _ hq))))) (by assumption)

end
section
theorem rtok_two {x dx io dio pb fs : Nat} {k v ki vi : Nat → Tok} {tp ts tt : Tok} {b wl : List Nat} {p : Nat} (H : Here w A₀ base h₀ outer cs mean mg mb) (F : Fr h₀ L s.heap m)
    (N : News h₀ L s.heap ((io, instObj 606 dio) :: (dio, dictOf (ioD w ki vi b p tp) 3) :: (x, instObj 741 dx) :: (dx, dictOf (shD w k v io pb fs wl (some 32) ts [] tt) 19) :: news)) (hdp : dp ≤ 750) (hun : un ≤ 1500)
    (h1 : dx < x) (h2 : x < dio) (h3 : dio < io) (hnew : ∀ q ∈ news, q.1 ≠ dio) (hnew2 : ∀ q ∈ news, q.1 ≠ dx) (hB : b.length ≤ 100000) (hb : ∀ c ∈ b, c ≠ 10) (hp : p ≤ b.length) (hwl : ∀ c, wl.contains c = true → quL.contains c = false)
    (hs0 : ∀ st p' tp' ts' tt' h' tk, rt (b.drop p) 32 32 false [] = .got false [] st (b.drop p') → p ≤ p' → p' ≤ b.length → Fr h₀ L h' m →
      News h₀ L h' ((io, instObj 606 dio) :: (dio, dictOf (ioD w ki vi b p' tp') 3) :: (x, instObj 741 dx) :: (dx, dictOf (shD w k v io pb fs wl st ts' [] tt') 19) :: news) → Q .none { s with heap := h', toks := tk })
    (hs1 : ∀ q tok st t p' tp' ts' tt' h' tk, rt (b.drop p) 32 32 false [] = .got q tok st (b.drop p') → (q = true ∨ tok ≠ []) → p ≤ p' → p' ≤ b.length → tok.length ≤ 2 * p' → Fr h₀ L h' m →
      News h₀ L h' ((io, instObj 606 dio) :: (dio, dictOf (ioD w ki vi b p' tp') 3) :: (x, instObj 741 dx) :: (dx, dictOf (shD w k v io pb fs wl st ts' [] tt') 19) :: news) → Q (.str (S tok) t) { s with heap := h', toks := tk })
    (hE : rt (b.drop p) 32 32 false [] = .bad → ∀ e t vs h' tk g, Fr h₀ L g m → RaisedS base g (envX cn cs L a ccd cl :: outer) e (.type "ValueError") t vs news h' → g.UpToSlots h' → E (.ref e) { s with heap := h', toks := tk }) :
    wpAny (model PG w) (ktrTop dp un gd cn cs L a ccd cl outer) (call (.ref 709) [.ref x]) Q E s := by
  refine rtok_ok H F N hdp hun h1 h2 h3 hnew hnew2 hB hb hp hwl ?_ hE
  intro val q tok st p' tp' ts' tt' h' tk hr hret a1 a2 a3 F' N'
  rcases hret with ⟨rfl, rfl, rfl⟩ | ⟨t, rfl, hq⟩
  · exact hs0 _ _ _ _ _ _ _ hr a1 a2 F' N'
  · exact hs1 _ _ _ _ _ _ _ _ _ _ hr hq a1 a2 a3 F' N'
theorem rtok_none {x dx io dio pb fs : Nat} {k v ki vi : Nat → Tok} {tp ts tt : Tok} {b wl : List Nat} {p : Nat} (H : Here w A₀ base h₀ outer cs mean mg mb) (F : Fr h₀ L s.heap m)
    (N : News h₀ L s.heap ((io, instObj 606 dio) :: (dio, dictOf (ioD w ki vi b p tp) 3) :: (x, instObj 741 dx) :: (dx, dictOf (shD w k v io pb fs wl none ts [] tt) 19) :: news)) (hdp : dp ≤ 750) (hun : un ≤ 1500)
    (h1 : dx < x) (h2 : x < dio) (h3 : dio < io) (hnew2 : ∀ q ∈ news, q.1 ≠ dx) (hB : b.length ≤ 100000) (hp : b.length ≤ p)
    (hs0 : ∀ ts' tt' h' tk, Fr h₀ L h' m →
      News h₀ L h' ((io, instObj 606 dio) :: (dio, dictOf (ioD w ki vi b p tp) 3) :: (x, instObj 741 dx) :: (dx, dictOf (shD w k v io pb fs wl none ts' [] tt') 19) :: news) → Q .none { s with heap := h', toks := tk }) :
    wpAny (model PG w) (ktrTop dp un gd cn cs L a ccd cl outer) (call (.ref 709) [.ref x]) Q E s := by
  obtain ⟨HB, X, T, hk⟩ := H
  refine wpAny_call ?_
  refine' code_def (binds := [(Str.ofString "self", .ref x)]) ?k1 ?k2 ?k3 ?k4 ?k5 ?kA ?kF ?kK ?k6 ?k7 ?k8 ?k9 ?kB ?_ ?c2 ?c3 ?c4 ?c5
  (case kA => exact rfl); (case kF => exact rfl); (case kK => assumption); (case k1 => k_asm); (case k2 => k_asm); (case k3 => k_asm); (case k4 => k_asm); (case k5 => k_asm); (case k6 => k_is)
  (case k7 => k_is); (case k8 => ktr_room); (case k9 => exact BindsTo.of_eq rfl); (case c5 => decide); (case kB => exact locs rfl); (case c2 => exact rfl); (case c3 => exact rfl); (case c4 => exact rfl)
  intro g' L' h' FG' F' N' B' X' T'
  (try dsimp only)
  dsimp only [List.reverse, List.reverseAux] at F'
  k_fold
  rw [en_rt] at F'
  (repeat' ((fail_if_success (with_reducible show wpAny _ _ (exec (Stmt.While _ _ _ _) _) _ _ _)); (fail_if_success (with_reducible show wpAny _ _ (exec (Stmt.For _ _ _ _ _) _) _ _ _)); first | ((with_reducible show wpAny _ _ (storeName _ _ _) _ _ _); ((with_reducible first | refine' st_rt_self (by k_dflt k_asm) (by k_dflt k_asm) ?_ | refine' st_rt_quoted (by k_dflt k_asm) (by k_dflt k_asm) ?_ | refine' st_rt_escapedstate (by k_dflt k_asm) (by k_dflt k_asm) ?_ | refine' st_rt_nextchar (by k_dflt k_asm) (by k_dflt k_asm) ?_ | refine' st_rt_result (by k_dflt k_asm) (by k_dflt k_asm) ?_); intro _ _ _; (try k_sweep))) | (k_unfold; (try dsimp only)) | walk1 | dsimp only))
  refine While_my (fun _ s' => ∃ h₁ tk₁ te, s' = { s with heap := h₁, toks := tk₁ } ∧ Fr g' L' h₁ (mp_rt (some (.ref x)) (some (.bool false)) (some (.str (S [32]) te)) none none) ∧
      News g' L' h₁ ((io, instObj 606 dio) :: (dio, dictOf (ioD w ki vi b p tp) 3) :: (x, instObj 741 dx) :: (dx, dictOf (shD w k v io pb fs wl none ts [] tt) 19) :: news)) ?_ 1 ⟨_, _, _, rfl, by assumption, by assumption⟩
  rintro n s' Jw hJw ⟨h₁, tk₁, te, rfl, F₁, N₁⟩
  k_fold
  (repeat' ((fail_if_success (with_reducible show wpAny _ _ (exec (Stmt.While _ _ _ _) _) _ _ _)); (fail_if_success (with_reducible show wpAny _ _ (exec (Stmt.For _ _ _ _ _) _) _ _ _)); first | ((with_reducible show wpAny _ _ (call (Value.ref 552) _ _) _ _ _); k_dflt (refine' sread_end ⟨by k_asm, by k_asm, by k_asm, by walk_at "k4"⟩ (by k_asm) (by k_asm) (by ktr_room) (by k_units) (by omega) (by omega) ?_; intros; (try k_sweep))) | ((with_reducible show wpAny _ _ (call (Value.ref 552) _ _) _ _ _); k_dflt (refine' sread_one ⟨by k_asm, by k_asm, by k_asm, by walk_at "k4"⟩ (by k_asm) (by k_asm) (by ktr_room) (by k_units) (by omega) (by k_all) (by omega) (by assumption) ?_; intros; (try k_sweep))) | ((with_reducible show wpAny _ _ (call (Value.ref 390) _ _) _ _ _); k_dflt (refine' scheck_ok ⟨by k_asm, by k_asm, by k_asm, by walk_at "k4"⟩ (by k_asm) (by k_asm) (by ktr_room) (by k_units)  ?_; intros; (try k_sweep))) | ((with_reducible show wpAny _ _ (call (Value.ref 72) _ _) _ _ _); k_dflt (refine' index_ok ⟨by k_asm, by k_asm, by k_asm, by walk_at "k4"⟩ (by k_asm) (by k_asm) (by ktr_room) (by k_units) (by decide) ?_; intros; (try k_sweep))) | ((with_reducible show wpAny _ _ (setAttr (Value.ref _) _ _) _ _ _); (k_here; (with_reducible refine' setA (by k_dflt k_asm) (by k_dflt k_asm) (by k_dflt k_asm) (by k_dflt k_mem) (by k_dflt k_mem) (by with_reducible first | exact cls741 | exact cls606) (by first | with_reducible exact shP_token | with_reducible exact shP_state1 | with_reducible exact shP_state0 | k_dflt exact ioP_pos) (by k_dflt k_upd) ?_); intro _ _ _; (try k_sweep))) | ((with_reducible show wpAny _ _ (getAttr (Value.ref _) _ _) _ _ _); (k_here; (with_reducible refine' getA (by k_dflt k_asm) (by k_dflt k_asm) (by k_dflt k_asm) (by k_dflt k_mem) (by k_dflt k_mem) (by with_reducible first | exact cls741 | exact cls606) (by with_reducible first | exact shA_state1 | exact shA_token | exact shA_posix | exact shA_debug | exact shA_quotes | exact shA_escape | exact shA_whitespace | exact shA_instream | exact shA_whitespace_split | exact shA_commenters | exact shA_wordchars | exact shA_escapedquotes | exact shA__punctuation_chars | exact shA_eof | exact shA_state0 | exact shA_infile | exact shA_pushback | exact shA_lineno | exact shA_filestack | exact shA_source | exact ioA_buf | exact ioA_pos | exact ioA_newline) ?_))) | ((with_reducible show wpAny _ _ (storeName _ _ _) _ _ _); ((with_reducible first | refine' st_rt_self (by k_dflt k_asm) (by k_dflt k_asm) ?_ | refine' st_rt_quoted (by k_dflt k_asm) (by k_dflt k_asm) ?_ | refine' st_rt_escapedstate (by k_dflt k_asm) (by k_dflt k_asm) ?_ | refine' st_rt_nextchar (by k_dflt k_asm) (by k_dflt k_asm) ?_ | refine' st_rt_result (by k_dflt k_asm) (by k_dflt k_asm) ?_); intro _ _ _; (try k_sweep))) | ((with_reducible show wpAny _ _ (eval (Expr.Name _ _) _) _ _ _); ((with_reducible first | refine' ld_rt_self (by k_dflt k_asm) ?_ | refine' ld_rt_quoted (by k_dflt k_asm) ?_ | refine' ld_rt_escapedstate (by k_dflt k_asm) ?_ | refine' ld_rt_nextchar (by k_dflt k_asm) ?_ | refine' ld_rt_result (by k_dflt k_asm) ?_))) | ((with_reducible show wpAny _ _ (eval (Expr.Attribute (Expr.Name _ _) _ _) _) _ _ _); (k_here; (with_reducible first | refine' self_rt (by k_dflt k_asm) (by k_dflt k_asm) (by k_dflt k_asm) (by k_dflt k_mem) (by k_dflt k_mem) (by with_reducible first | exact cls741 | exact cls606) (by with_reducible first | exact shA_state1 | exact shA_token | exact shA_posix | exact shA_debug | exact shA_quotes | exact shA_escape | exact shA_whitespace | exact shA_instream | exact shA_whitespace_split | exact shA_commenters | exact shA_wordchars | exact shA_escapedquotes | exact shA__punctuation_chars | exact shA_eof | exact shA_state0 | exact shA_infile | exact shA_pushback | exact shA_lineno | exact shA_filestack | exact shA_source | exact ioA_buf | exact ioA_pos | exact ioA_newline) ?_))) | ((with_reducible show wpAny _ _ (getAttr (Value.ref _) _ _) _ _ _); (k_here; k_dflt (refine' get_own (by k_asm) (by k_asm) (by k_inst) (by k_is) (by k_is) (by k_is) (by k_is) (by k_get) (by k_handed) ?_; k_whole))) | (k_unfold; (try dsimp only)) | walk1 | dsimp only))
  exact hs0 _ _ _ _ (by assumption) (by assumption)

end

section
theorem gtok_ok {x dx io dio pb fs : Nat} {k v ki vi : Nat → Tok} {tp ts tt : Tok} {b wl : List Nat} {p : Nat} (H : Here w A₀ base h₀ outer cs mean mg mb) (F : Fr h₀ L s.heap m)
    (N : News h₀ L s.heap ((io, instObj 606 dio) :: (dio, dictOf (ioD w ki vi b p tp) 3) :: (x, instObj 741 dx) :: (dx, dictOf (shD w k v io pb fs wl (some 32) ts [] tt) 19) :: news)) (hdp : dp ≤ 740) (hun : un ≤ 1400)
    (h1 : dx < x) (h2 : x < dio) (h3 : dio < io) (hnew : ∀ q ∈ news, q.1 ≠ dio) (hnew2 : ∀ q ∈ news, q.1 ≠ dx) (hB : b.length ≤ 100000) (hb : ∀ c ∈ b, c ≠ 10) (hp : p ≤ b.length) (hwl : ∀ c, wl.contains c = true → quL.contains c = false) (hpb : (pb, dqO) ∈ news) (hfs : (fs, dqO) ∈ news)
    (hs0 : ∀ st p' tp' ts' tt' h' tk, rt (b.drop p) 32 32 false [] = .got false [] st (b.drop p') → p ≤ p' → p' ≤ b.length → Fr h₀ L h' m →
      News h₀ L h' ((io, instObj 606 dio) :: (dio, dictOf (ioD w ki vi b p' tp') 3) :: (x, instObj 741 dx) :: (dx, dictOf (shD w k v io pb fs wl st ts' [] tt') 19) :: news) → Q .none { s with heap := h', toks := tk })
    (hs1 : ∀ q tok st t p' tp' ts' tt' h' tk, rt (b.drop p) 32 32 false [] = .got q tok st (b.drop p') → (q = true ∨ tok ≠ []) → p ≤ p' → p' ≤ b.length → tok.length ≤ 2 * p' → Fr h₀ L h' m →
      News h₀ L h' ((io, instObj 606 dio) :: (dio, dictOf (ioD w ki vi b p' tp') 3) :: (x, instObj 741 dx) :: (dx, dictOf (shD w k v io pb fs wl st ts' [] tt') 19) :: news) → Q (.str (S tok) t) { s with heap := h', toks := tk })
    (hE : rt (b.drop p) 32 32 false [] = .bad → ∀ e t vs h' tk g, Fr h₀ L g m → RaisedS base g (envX cn cs L a ccd cl :: outer) e (.type "ValueError") t vs news h' → g.UpToSlots h' → E (.ref e) { s with heap := h', toks := tk }) :
    wpAny (model PG w) (ktrTop dp un gd cn cs L a ccd cl outer) (call (.ref 702) [.ref x]) Q E s := by
  obtain ⟨HB, X, T, hk⟩ := H
  refine wpAny_call ?_
  refine' code_def (binds := [(Str.ofString "self", .ref x)]) ?k1 ?k2 ?k3 ?k4 ?k5 ?kA ?kF ?kK ?k6 ?k7 ?k8 ?k9 ?kB ?_ ?c2 ?c3 ?c4 ?c5
  (case kA => exact rfl); (case kF => exact rfl); (case kK => assumption); (case k1 => k_asm); (case k2 => k_asm); (case k3 => k_asm); (case k4 => k_asm); (case k5 => k_asm); (case k6 => k_is)
  (case k7 => k_is); (case k8 => ktr_room); (case k9 => exact BindsTo.of_eq rfl); (case c5 => decide); (case kB => exact locs rfl); (case c2 => exact rfl); (case c3 => exact rfl); (case c4 => exact rfl)
  intro g' L' h' FG' F' N' B' X' T'
  (try dsimp only)
  dsimp only [List.reverse, List.reverseAux] at F'
  k_fold
  rw [en_gt] at F'
  (repeat' ((fail_if_success (with_reducible show wpAny _ _ (exec (Stmt.While _ _ _ _) _) _ _ _)); (fail_if_success (with_reducible show wpAny _ _ (exec (Stmt.For _ _ _ _ _) _) _ _ _)); first | ((with_reducible show wpAny _ _ (call (Value.ref _) _ _) _ _ _); k_dflt (refine' rtok_two ⟨by k_asm, by k_asm, by k_asm, by walk_at "k4"⟩ (by k_asm) (by k_asm) (by ktr_room) (by k_units) (by omega) (by omega) (by omega) (by k_all) (by k_all) (by omega) (by assumption) (by assumption) (by assumption) ?_ ?_ ?_; (all_goals (intros; (try k_sweep))))) | ((with_reducible show wpAny _ _ (call (Value.ref _) _ _) _ _ _); k_dflt (refine' rtok_none ⟨by k_asm, by k_asm, by k_asm, by walk_at "k4"⟩ (by k_asm) (by k_asm) (by ktr_room) (by k_units) (by omega) (by omega) (by omega) (by k_all) (by omega) (by omega) ?_; intros; (try k_sweep))) | ((with_reducible show wpAny _ _ (call (Value.ref 552) _ _) _ _ _); k_dflt (refine' sread_end ⟨by k_asm, by k_asm, by k_asm, by walk_at "k4"⟩ (by k_asm) (by k_asm) (by ktr_room) (by k_units) (by omega) (by omega) ?_; intros; (try k_sweep))) | ((with_reducible show wpAny _ _ (call (Value.ref 552) _ _) _ _ _); k_dflt (refine' sread_one ⟨by k_asm, by k_asm, by k_asm, by walk_at "k4"⟩ (by k_asm) (by k_asm) (by ktr_room) (by k_units) (by omega) (by k_all) (by omega) (by assumption) ?_; intros; (try k_sweep))) | ((with_reducible show wpAny _ _ (call (Value.ref 390) _ _) _ _ _); k_dflt (refine' scheck_ok ⟨by k_asm, by k_asm, by k_asm, by walk_at "k4"⟩ (by k_asm) (by k_asm) (by ktr_room) (by k_units)  ?_; intros; (try k_sweep))) | ((with_reducible show wpAny _ _ (call (Value.ref 72) _ _) _ _ _); k_dflt (refine' index_ok ⟨by k_asm, by k_asm, by k_asm, by walk_at "k4"⟩ (by k_asm) (by k_asm) (by ktr_room) (by k_units) (by decide) ?_; intros; (try k_sweep))) | ((with_reducible show wpAny _ _ (storeName _ _ _) _ _ _); ((with_reducible first | refine' st_gt_self (by k_dflt k_asm) (by k_dflt k_asm) ?_ | refine' st_gt_tok (by k_dflt k_asm) (by k_dflt k_asm) ?_ | refine' st_gt_raw (by k_dflt k_asm) (by k_dflt k_asm) ?_ | refine' st_gt_spec (by k_dflt k_asm) (by k_dflt k_asm) ?_ | refine' st_gt_newfile (by k_dflt k_asm) (by k_dflt k_asm) ?_ | refine' st_gt_newstream (by k_dflt k_asm) (by k_dflt k_asm) ?_); intro _ _ _; (try k_sweep))) | ((with_reducible show wpAny _ _ (eval (Expr.Name _ _) _) _ _ _); ((with_reducible first | refine' ld_gt_self (by k_dflt k_asm) ?_ | refine' ld_gt_tok (by k_dflt k_asm) ?_ | refine' ld_gt_raw (by k_dflt k_asm) ?_ | refine' ld_gt_spec (by k_dflt k_asm) ?_ | refine' ld_gt_newfile (by k_dflt k_asm) ?_ | refine' ld_gt_newstream (by k_dflt k_asm) ?_))) | ((with_reducible show wpAny _ _ (eval (Expr.Attribute (Expr.Name _ _) _ _) _) _ _ _); (k_here; (with_reducible first | refine' self_gt (by k_dflt k_asm) (by k_dflt k_asm) (by k_dflt k_asm) (by k_dflt k_mem) (by k_dflt k_mem) (by with_reducible first | exact cls741 | exact cls606) (by with_reducible first | exact shA_state1 | exact shA_token | exact shA_posix | exact shA_debug | exact shA_quotes | exact shA_escape | exact shA_whitespace | exact shA_instream | exact shA_whitespace_split | exact shA_commenters | exact shA_wordchars | exact shA_escapedquotes | exact shA__punctuation_chars | exact shA_eof | exact shA_state0 | exact shA_infile | exact shA_pushback | exact shA_lineno | exact shA_filestack | exact shA_source | exact ioA_buf | exact ioA_pos | exact ioA_newline) ?_))) | ((with_reducible show wpAny _ _ (PySem.truthy (Value.ref _)) _ _ _); ((with_reducible refine' truthy_dqN (by k_dflt k_asm) (by k_dflt (first | assumption | k_mem | exact .tail _ (.tail _ (.tail _ (.tail _ (by assumption)))))) ?_); intro _)) | (k_unfold; (try dsimp only)) | walk1 | dsimp only))
  · refine While_once ?_
    (repeat' ((fail_if_success (with_reducible show wpAny _ _ (exec (Stmt.While _ _ _ _) _) _ _ _)); (fail_if_success (with_reducible show wpAny _ _ (exec (Stmt.For _ _ _ _ _) _) _ _ _)); first | ((with_reducible show wpAny _ _ (eval (Expr.Name _ _) _) _ _ _); ((with_reducible first | refine' ld_gt_self (by k_dflt k_asm) ?_ | refine' ld_gt_tok (by k_dflt k_asm) ?_ | refine' ld_gt_raw (by k_dflt k_asm) ?_ | refine' ld_gt_spec (by k_dflt k_asm) ?_ | refine' ld_gt_newfile (by k_dflt k_asm) ?_ | refine' ld_gt_newstream (by k_dflt k_asm) ?_))) | ((with_reducible show wpAny _ _ (eval (Expr.Attribute (Expr.Name _ _) _ _) _) _ _ _); (k_here; (with_reducible first | refine' self_gt (by k_dflt k_asm) (by k_dflt k_asm) (by k_dflt k_asm) (by k_dflt k_mem) (by k_dflt k_mem) (by with_reducible first | exact cls741 | exact cls606) (by with_reducible first | exact shA_state1 | exact shA_token | exact shA_posix | exact shA_debug | exact shA_quotes | exact shA_escape | exact shA_whitespace | exact shA_instream | exact shA_whitespace_split | exact shA_commenters | exact shA_wordchars | exact shA_escapedquotes | exact shA__punctuation_chars | exact shA_eof | exact shA_state0 | exact shA_infile | exact shA_pushback | exact shA_lineno | exact shA_filestack | exact shA_source | exact ioA_buf | exact ioA_pos | exact ioA_newline) ?_))) | ((with_reducible show WOnce _ _ _); first | with_reducible refine WOnce.br ?_ | with_reducible refine WOnce.rt ?_) | ((with_reducible show wpAny _ _ (PySem.truthy (Value.ref _)) _ _ _); ((with_reducible refine' truthy_dqN (by k_dflt k_asm) (by k_dflt (first | assumption | k_mem | exact .tail _ (.tail _ (.tail _ (.tail _ (by assumption)))))) ?_); intro _)) | (k_unfold; (try dsimp only)) | walk1 | dsimp only))
    exact hs0 _ _ _ _ _ _ _ (by assumption) (by assumption) (by assumption) (by assumption) (by assumption)
  · refine While_once ?_
    (repeat' ((fail_if_success (with_reducible show wpAny _ _ (exec (Stmt.While _ _ _ _) _) _ _ _)); (fail_if_success (with_reducible show wpAny _ _ (exec (Stmt.For _ _ _ _ _) _) _ _ _)); first | ((with_reducible show wpAny _ _ (eval (Expr.Name _ _) _) _ _ _); ((with_reducible first | refine' ld_gt_self (by k_dflt k_asm) ?_ | refine' ld_gt_tok (by k_dflt k_asm) ?_ | refine' ld_gt_raw (by k_dflt k_asm) ?_ | refine' ld_gt_spec (by k_dflt k_asm) ?_ | refine' ld_gt_newfile (by k_dflt k_asm) ?_ | refine' ld_gt_newstream (by k_dflt k_asm) ?_))) | ((with_reducible show wpAny _ _ (eval (Expr.Attribute (Expr.Name _ _) _ _) _) _ _ _); (k_here; (with_reducible first | refine' self_gt (by k_dflt k_asm) (by k_dflt k_asm) (by k_dflt k_asm) (by k_dflt k_mem) (by k_dflt k_mem) (by with_reducible first | exact cls741 | exact cls606) (by with_reducible first | exact shA_state1 | exact shA_token | exact shA_posix | exact shA_debug | exact shA_quotes | exact shA_escape | exact shA_whitespace | exact shA_instream | exact shA_whitespace_split | exact shA_commenters | exact shA_wordchars | exact shA_escapedquotes | exact shA__punctuation_chars | exact shA_eof | exact shA_state0 | exact shA_infile | exact shA_pushback | exact shA_lineno | exact shA_filestack | exact shA_source | exact ioA_buf | exact ioA_pos | exact ioA_newline) ?_))) | (k_unfold; (try dsimp only)) | walk1 | dsimp only))
    exact hs1 _ _ _ _ _ _ _ _ _ _ (by assumption) (by assumption) (by assumption) (by assumption) (by assumption) (by assumption) (by assumption)
  · exact hE (by assumption) _ _ _ _ _ _ FG' (by assumption) (by assumption)
theorem gtok_none {x dx io dio pb fs : Nat} {k v ki vi : Nat → Tok} {tp ts tt : Tok} {b wl : List Nat} {p : Nat} (H : Here w A₀ base h₀ outer cs mean mg mb) (F : Fr h₀ L s.heap m)
    (N : News h₀ L s.heap ((io, instObj 606 dio) :: (dio, dictOf (ioD w ki vi b p tp) 3) :: (x, instObj 741 dx) :: (dx, dictOf (shD w k v io pb fs wl none ts [] tt) 19) :: news)) (hdp : dp ≤ 740) (hun : un ≤ 1400)
    (h1 : dx < x) (h2 : x < dio) (h3 : dio < io) (hnew2 : ∀ q ∈ news, q.1 ≠ dx) (hB : b.length ≤ 100000) (hp : b.length ≤ p) (hpb : (pb, dqO) ∈ news) (hfs : (fs, dqO) ∈ news)
    (hs0 : ∀ ts' tt' h' tk, Fr h₀ L h' m →
      News h₀ L h' ((io, instObj 606 dio) :: (dio, dictOf (ioD w ki vi b p tp) 3) :: (x, instObj 741 dx) :: (dx, dictOf (shD w k v io pb fs wl none ts' [] tt') 19) :: news) → Q .none { s with heap := h', toks := tk }) :
    wpAny (model PG w) (ktrTop dp un gd cn cs L a ccd cl outer) (call (.ref 702) [.ref x]) Q E s := by
  obtain ⟨HB, X, T, hk⟩ := H
  refine wpAny_call ?_
  refine' code_def (binds := [(Str.ofString "self", .ref x)]) ?k1 ?k2 ?k3 ?k4 ?k5 ?kA ?kF ?kK ?k6 ?k7 ?k8 ?k9 ?kB ?_ ?c2 ?c3 ?c4 ?c5
  (case kA => exact rfl); (case kF => exact rfl); (case kK => assumption); (case k1 => k_asm); (case k2 => k_asm); (case k3 => k_asm); (case k4 => k_asm); (case k5 => k_asm); (case k6 => k_is)
  (case k7 => k_is); (case k8 => ktr_room); (case k9 => exact BindsTo.of_eq rfl); (case c5 => decide); (case kB => exact locs rfl); (case c2 => exact rfl); (case c3 => exact rfl); (case c4 => exact rfl)
  intro g' L' h' FG' F' N' B' X' T'
  (try dsimp only)
  dsimp only [List.reverse, List.reverseAux] at F'
  k_fold
  rw [en_gt] at F'
  (repeat' ((fail_if_success (with_reducible show wpAny _ _ (exec (Stmt.While _ _ _ _) _) _ _ _)); (fail_if_success (with_reducible show wpAny _ _ (exec (Stmt.For _ _ _ _ _) _) _ _ _)); first | ((with_reducible show wpAny _ _ (call (Value.ref _) _ _) _ _ _); k_dflt (refine' rtok_two ⟨by k_asm, by k_asm, by k_asm, by walk_at "k4"⟩ (by k_asm) (by k_asm) (by ktr_room) (by k_units) (by omega) (by omega) (by omega) (by k_all) (by k_all) (by omega) (by assumption) (by assumption) (by assumption) ?_ ?_ ?_; (all_goals (intros; (try k_sweep))))) | ((with_reducible show wpAny _ _ (call (Value.ref _) _ _) _ _ _); k_dflt (refine' rtok_none ⟨by k_asm, by k_asm, by k_asm, by walk_at "k4"⟩ (by k_asm) (by k_asm) (by ktr_room) (by k_units) (by omega) (by omega) (by omega) (by k_all) (by omega) (by omega) ?_; intros; (try k_sweep))) | ((with_reducible show wpAny _ _ (call (Value.ref 552) _ _) _ _ _); k_dflt (refine' sread_end ⟨by k_asm, by k_asm, by k_asm, by walk_at "k4"⟩ (by k_asm) (by k_asm) (by ktr_room) (by k_units) (by omega) (by omega) ?_; intros; (try k_sweep))) | ((with_reducible show wpAny _ _ (call (Value.ref 552) _ _) _ _ _); k_dflt (refine' sread_one ⟨by k_asm, by k_asm, by k_asm, by walk_at "k4"⟩ (by k_asm) (by k_asm) (by ktr_room) (by k_units) (by omega) (by k_all) (by omega) (by assumption) ?_; intros; (try k_sweep))) | ((with_reducible show wpAny _ _ (call (Value.ref 390) _ _) _ _ _); k_dflt (refine' scheck_ok ⟨by k_asm, by k_asm, by k_asm, by walk_at "k4"⟩ (by k_asm) (by k_asm) (by ktr_room) (by k_units)  ?_; intros; (try k_sweep))) | ((with_reducible show wpAny _ _ (call (Value.ref 72) _ _) _ _ _); k_dflt (refine' index_ok ⟨by k_asm, by k_asm, by k_asm, by walk_at "k4"⟩ (by k_asm) (by k_asm) (by ktr_room) (by k_units) (by decide) ?_; intros; (try k_sweep))) | ((with_reducible show wpAny _ _ (storeName _ _ _) _ _ _); ((with_reducible first | refine' st_gt_self (by k_dflt k_asm) (by k_dflt k_asm) ?_ | refine' st_gt_tok (by k_dflt k_asm) (by k_dflt k_asm) ?_ | refine' st_gt_raw (by k_dflt k_asm) (by k_dflt k_asm) ?_ | refine' st_gt_spec (by k_dflt k_asm) (by k_dflt k_asm) ?_ | refine' st_gt_newfile (by k_dflt k_asm) (by k_dflt k_asm) ?_ | refine' st_gt_newstream (by k_dflt k_asm) (by k_dflt k_asm) ?_); intro _ _ _; (try k_sweep))) | ((with_reducible show wpAny _ _ (eval (Expr.Name _ _) _) _ _ _); ((with_reducible first | refine' ld_gt_self (by k_dflt k_asm) ?_ | refine' ld_gt_tok (by k_dflt k_asm) ?_ | refine' ld_gt_raw (by k_dflt k_asm) ?_ | refine' ld_gt_spec (by k_dflt k_asm) ?_ | refine' ld_gt_newfile (by k_dflt k_asm) ?_ | refine' ld_gt_newstream (by k_dflt k_asm) ?_))) | ((with_reducible show wpAny _ _ (eval (Expr.Attribute (Expr.Name _ _) _ _) _) _ _ _); (k_here; (with_reducible first | refine' self_gt (by k_dflt k_asm) (by k_dflt k_asm) (by k_dflt k_asm) (by k_dflt k_mem) (by k_dflt k_mem) (by with_reducible first | exact cls741 | exact cls606) (by with_reducible first | exact shA_state1 | exact shA_token | exact shA_posix | exact shA_debug | exact shA_quotes | exact shA_escape | exact shA_whitespace | exact shA_instream | exact shA_whitespace_split | exact shA_commenters | exact shA_wordchars | exact shA_escapedquotes | exact shA__punctuation_chars | exact shA_eof | exact shA_state0 | exact shA_infile | exact shA_pushback | exact shA_lineno | exact shA_filestack | exact shA_source | exact ioA_buf | exact ioA_pos | exact ioA_newline) ?_))) | ((with_reducible show wpAny _ _ (PySem.truthy (Value.ref _)) _ _ _); ((with_reducible refine' truthy_dqN (by k_dflt k_asm) (by k_dflt (first | assumption | k_mem | exact .tail _ (.tail _ (.tail _ (.tail _ (by assumption)))))) ?_); intro _)) | (k_unfold; (try dsimp only)) | walk1 | dsimp only))
  refine While_once ?_
  (repeat' ((fail_if_success (with_reducible show wpAny _ _ (exec (Stmt.While _ _ _ _) _) _ _ _)); (fail_if_success (with_reducible show wpAny _ _ (exec (Stmt.For _ _ _ _ _) _) _ _ _)); first | ((with_reducible show wpAny _ _ (eval (Expr.Name _ _) _) _ _ _); ((with_reducible first | refine' ld_gt_self (by k_dflt k_asm) ?_ | refine' ld_gt_tok (by k_dflt k_asm) ?_ | refine' ld_gt_raw (by k_dflt k_asm) ?_ | refine' ld_gt_spec (by k_dflt k_asm) ?_ | refine' ld_gt_newfile (by k_dflt k_asm) ?_ | refine' ld_gt_newstream (by k_dflt k_asm) ?_))) | ((with_reducible show wpAny _ _ (eval (Expr.Attribute (Expr.Name _ _) _ _) _) _ _ _); (k_here; (with_reducible first | refine' self_gt (by k_dflt k_asm) (by k_dflt k_asm) (by k_dflt k_asm) (by k_dflt k_mem) (by k_dflt k_mem) (by with_reducible first | exact cls741 | exact cls606) (by with_reducible first | exact shA_state1 | exact shA_token | exact shA_posix | exact shA_debug | exact shA_quotes | exact shA_escape | exact shA_whitespace | exact shA_instream | exact shA_whitespace_split | exact shA_commenters | exact shA_wordchars | exact shA_escapedquotes | exact shA__punctuation_chars | exact shA_eof | exact shA_state0 | exact shA_infile | exact shA_pushback | exact shA_lineno | exact shA_filestack | exact shA_source | exact ioA_buf | exact ioA_pos | exact ioA_newline) ?_))) | ((with_reducible show WOnce _ _ _); first | with_reducible refine WOnce.br ?_ | with_reducible refine WOnce.rt ?_) | ((with_reducible show wpAny _ _ (PySem.truthy (Value.ref _)) _ _ _); ((with_reducible refine' truthy_dqN (by k_dflt k_asm) (by k_dflt (first | assumption | k_mem | exact .tail _ (.tail _ (.tail _ (.tail _ (by assumption)))))) ?_); intro _)) | (k_unfold; (try dsimp only)) | walk1 | dsimp only))
  exact hs0 _ _ _ _ (by assumption) (by assumption)

end

section
theorem nx_ok {x dx io dio pb fs : Nat} {k v ki vi : Nat → Tok} {tp ts tt : Tok} {b wl : List Nat} {p : Nat} (H : Here w A₀ base h₀ outer cs mean mg mb) (F : Fr h₀ L s.heap m)
    (N : News h₀ L s.heap ((io, instObj 606 dio) :: (dio, dictOf (ioD w ki vi b p tp) 3) :: (x, instObj 741 dx) :: (dx, dictOf (shD w k v io pb fs wl (some 32) ts [] tt) 19) :: news)) (hdp : dp ≤ 730) (hun : un ≤ 1300)
    (h1 : dx < x) (h2 : x < dio) (h3 : dio < io) (hnew : ∀ q ∈ news, q.1 ≠ dio) (hnew2 : ∀ q ∈ news, q.1 ≠ dx) (hB : b.length ≤ 100000) (hb : ∀ c ∈ b, c ≠ 10) (hp : p ≤ b.length) (hwl : ∀ c, wl.contains c = true → quL.contains c = false) (hpb : (pb, dqO) ∈ news) (hfs : (fs, dqO) ∈ news)
    (hst : ∀ st p', rt (b.drop p) 32 32 false [] = .got false [] st (b.drop p') → ∀ e t vs h' tk g, Fr h₀ L g m → RaisedS base g (envX cn cs L a ccd cl :: outer) e (.type "StopIteration") t vs news h' → g.UpToSlots h' → E (.ref e) { s with heap := h', toks := tk })
    (hs1 : ∀ q tok st t p' tp' ts' tt' h' tk, rt (b.drop p) 32 32 false [] = .got q tok st (b.drop p') → (q = true ∨ tok ≠ []) → p ≤ p' → p' ≤ b.length → tok.length ≤ 2 * p' → Fr h₀ L h' m →
      News h₀ L h' ((io, instObj 606 dio) :: (dio, dictOf (ioD w ki vi b p' tp') 3) :: (x, instObj 741 dx) :: (dx, dictOf (shD w k v io pb fs wl st ts' [] tt') 19) :: news) → Q (.str (S tok) t) { s with heap := h', toks := tk })
    (hE : rt (b.drop p) 32 32 false [] = .bad → ∀ e t vs h' tk g, Fr h₀ L g m → RaisedS base g (envX cn cs L a ccd cl :: outer) e (.type "ValueError") t vs news h' → g.UpToSlots h' → E (.ref e) { s with heap := h', toks := tk }) :
    wpAny (model PG w) (ktrTop dp un gd cn cs L a ccd cl outer) (call (.ref 738) [.ref x]) Q E s := by
  obtain ⟨HB, X, T, hk⟩ := H
  refine wpAny_call ?_
  refine' code_def (binds := [(Str.ofString "self", .ref x)]) ?k1 ?k2 ?k3 ?k4 ?k5 ?kA ?kF ?kK ?k6 ?k7 ?k8 ?k9 ?kB ?_ ?c2 ?c3 ?c4 ?c5
  (case kA => exact rfl); (case kF => exact rfl); (case kK => assumption); (case k1 => k_asm); (case k2 => k_asm); (case k3 => k_asm); (case k4 => k_asm); (case k5 => k_asm); (case k6 => k_is)
  (case k7 => k_is); (case k8 => ktr_room); (case k9 => exact BindsTo.of_eq rfl); (case c5 => decide); (case kB => exact locs rfl); (case c2 => exact rfl); (case c3 => exact rfl); (case c4 => exact rfl)
  intro g' L' h' FG' F' N' B' X' T'
  (try dsimp only)
  dsimp only [List.reverse, List.reverseAux] at F'
  k_fold
  rw [en_nx] at F'
  (repeat' ((fail_if_success (with_reducible show wpAny _ _ (exec (Stmt.While _ _ _ _) _) _ _ _)); (fail_if_success (with_reducible show wpAny _ _ (exec (Stmt.For _ _ _ _ _) _) _ _ _)); first | ((with_reducible show wpAny _ _ (call (Value.ref _) _ _) _ _ _); k_dflt (refine' gtok_ok ⟨by k_asm, by k_asm, by k_asm, by walk_at "k4"⟩ (by k_asm) (by k_asm) (by ktr_room) (by k_units) (by omega) (by omega) (by omega) (by k_all) (by k_all) (by omega) (by assumption) (by assumption) (by assumption) (by assumption) (by assumption) ?_ ?_ ?_; (all_goals (intros; (try k_sweep))))) | ((with_reducible show wpAny _ _ (call (Value.ref _) _ _) _ _ _); k_dflt (refine' gtok_none ⟨by k_asm, by k_asm, by k_asm, by walk_at "k4"⟩ (by k_asm) (by k_asm) (by ktr_room) (by k_units) (by omega) (by omega) (by omega) (by k_all) (by omega) (by omega) (by assumption) (by assumption) ?_; intros; (try k_sweep))) | ((with_reducible show wpAny _ _ (call (Value.ref _) _ _) _ _ _); k_dflt (refine' rtok_two ⟨by k_asm, by k_asm, by k_asm, by walk_at "k4"⟩ (by k_asm) (by k_asm) (by ktr_room) (by k_units) (by omega) (by omega) (by omega) (by k_all) (by k_all) (by omega) (by assumption) (by assumption) (by assumption) ?_ ?_ ?_; (all_goals (intros; (try k_sweep))))) | ((with_reducible show wpAny _ _ (call (Value.ref _) _ _) _ _ _); k_dflt (refine' rtok_none ⟨by k_asm, by k_asm, by k_asm, by walk_at "k4"⟩ (by k_asm) (by k_asm) (by ktr_room) (by k_units) (by omega) (by omega) (by omega) (by k_all) (by omega) (by omega) ?_; intros; (try k_sweep))) | ((with_reducible show wpAny _ _ (call (Value.ref 552) _ _) _ _ _); k_dflt (refine' sread_end ⟨by k_asm, by k_asm, by k_asm, by walk_at "k4"⟩ (by k_asm) (by k_asm) (by ktr_room) (by k_units) (by omega) (by omega) ?_; intros; (try k_sweep))) | ((with_reducible show wpAny _ _ (call (Value.ref 552) _ _) _ _ _); k_dflt (refine' sread_one ⟨by k_asm, by k_asm, by k_asm, by walk_at "k4"⟩ (by k_asm) (by k_asm) (by ktr_room) (by k_units) (by omega) (by k_all) (by omega) (by assumption) ?_; intros; (try k_sweep))) | ((with_reducible show wpAny _ _ (call (Value.ref 390) _ _) _ _ _); k_dflt (refine' scheck_ok ⟨by k_asm, by k_asm, by k_asm, by walk_at "k4"⟩ (by k_asm) (by k_asm) (by ktr_room) (by k_units)  ?_; intros; (try k_sweep))) | ((with_reducible show wpAny _ _ (call (Value.ref 72) _ _) _ _ _); k_dflt (refine' index_ok ⟨by k_asm, by k_asm, by k_asm, by walk_at "k4"⟩ (by k_asm) (by k_asm) (by ktr_room) (by k_units) (by decide) ?_; intros; (try k_sweep))) | ((with_reducible show wpAny _ _ (storeName _ _ _) _ _ _); ((with_reducible first | refine' st_nx_self (by k_dflt k_asm) (by k_dflt k_asm) ?_ | refine' st_nx_token (by k_dflt k_asm) (by k_dflt k_asm) ?_); intro _ _ _; (try k_sweep))) | ((with_reducible show wpAny _ _ (eval (Expr.Name _ _) _) _ _ _); ((with_reducible first | refine' ld_nx_self (by k_dflt k_asm) ?_ | refine' ld_nx_token (by k_dflt k_asm) ?_))) | ((with_reducible show wpAny _ _ (eval (Expr.Attribute (Expr.Name _ _) _ _) _) _ _ _); (k_here; (with_reducible first | refine' self_nx (by k_dflt k_asm) (by k_dflt k_asm) (by k_dflt k_asm) (by k_dflt k_mem) (by k_dflt k_mem) (by with_reducible first | exact cls741 | exact cls606) (by with_reducible first | exact shA_state1 | exact shA_token | exact shA_posix | exact shA_debug | exact shA_quotes | exact shA_escape | exact shA_whitespace | exact shA_instream | exact shA_whitespace_split | exact shA_commenters | exact shA_wordchars | exact shA_escapedquotes | exact shA__punctuation_chars | exact shA_eof | exact shA_state0 | exact shA_infile | exact shA_pushback | exact shA_lineno | exact shA_filestack | exact shA_source | exact ioA_buf | exact ioA_pos | exact ioA_newline) ?_))) | (k_unfold; (try dsimp only)) | walk1 | dsimp only))
  · exact hst _ _ (by assumption) _ _ _ _ _ _ FG' (RaisedS.drop (by assumption) (fun _ hq => .tail _ (.tail _ (.tail _ (.tail _ hq))))) (by assumption)
  · exact hs1 _ _ _ _ _ _ _ _ _ _ (by assumption) (by assumption) (by assumption) (by assumption) (by assumption) (by assumption) (by assumption)
  · exact hE (by assumption) _ _ _ _ _ _ FG' (by assumption) (by assumption)
theorem nx_none {x dx io dio pb fs : Nat} {k v ki vi : Nat → Tok} {tp ts tt : Tok} {b wl : List Nat} {p : Nat} (H : Here w A₀ base h₀ outer cs mean mg mb) (F : Fr h₀ L s.heap m)
    (N : News h₀ L s.heap ((io, instObj 606 dio) :: (dio, dictOf (ioD w ki vi b p tp) 3) :: (x, instObj 741 dx) :: (dx, dictOf (shD w k v io pb fs wl none ts [] tt) 19) :: news)) (hdp : dp ≤ 730) (hun : un ≤ 1300)
    (h1 : dx < x) (h2 : x < dio) (h3 : dio < io) (hnew2 : ∀ q ∈ news, q.1 ≠ dx) (hB : b.length ≤ 100000) (hp : b.length ≤ p) (hpb : (pb, dqO) ∈ news) (hfs : (fs, dqO) ∈ news)
    (hst : ∀ e t vs h' tk g, Fr h₀ L g m → RaisedS base g (envX cn cs L a ccd cl :: outer) e (.type "StopIteration") t vs news h' → g.UpToSlots h' → E (.ref e) { s with heap := h', toks := tk }) :
    wpAny (model PG w) (ktrTop dp un gd cn cs L a ccd cl outer) (call (.ref 738) [.ref x]) Q E s := by
  obtain ⟨HB, X, T, hk⟩ := H
  refine wpAny_call ?_
  refine' code_def (binds := [(Str.ofString "self", .ref x)]) ?k1 ?k2 ?k3 ?k4 ?k5 ?kA ?kF ?kK ?k6 ?k7 ?k8 ?k9 ?kB ?_ ?c2 ?c3 ?c4 ?c5
  (case kA => exact rfl); (case kF => exact rfl); (case kK => assumption); (case k1 => k_asm); (case k2 => k_asm); (case k3 => k_asm); (case k4 => k_asm); (case k5 => k_asm); (case k6 => k_is)
  (case k7 => k_is); (case k8 => ktr_room); (case k9 => exact BindsTo.of_eq rfl); (case c5 => decide); (case kB => exact locs rfl); (case c2 => exact rfl); (case c3 => exact rfl); (case c4 => exact rfl)
  intro g' L' h' FG' F' N' B' X' T'
  (try dsimp only)
  dsimp only [List.reverse, List.reverseAux] at F'
  k_fold
  rw [en_nx] at F'
  (repeat' ((fail_if_success (with_reducible show wpAny _ _ (exec (Stmt.While _ _ _ _) _) _ _ _)); (fail_if_success (with_reducible show wpAny _ _ (exec (Stmt.For _ _ _ _ _) _) _ _ _)); first | ((with_reducible show wpAny _ _ (call (Value.ref _) _ _) _ _ _); k_dflt (refine' gtok_ok ⟨by k_asm, by k_asm, by k_asm, by walk_at "k4"⟩ (by k_asm) (by k_asm) (by ktr_room) (by k_units) (by omega) (by omega) (by omega) (by k_all) (by k_all) (by omega) (by assumption) (by assumption) (by assumption) (by assumption) (by assumption) ?_ ?_ ?_; (all_goals (intros; (try k_sweep))))) | ((with_reducible show wpAny _ _ (call (Value.ref _) _ _) _ _ _); k_dflt (refine' gtok_none ⟨by k_asm, by k_asm, by k_asm, by walk_at "k4"⟩ (by k_asm) (by k_asm) (by ktr_room) (by k_units) (by omega) (by omega) (by omega) (by k_all) (by omega) (by omega) (by assumption) (by assumption) ?_; intros; (try k_sweep))) | ((with_reducible show wpAny _ _ (call (Value.ref _) _ _) _ _ _); k_dflt (refine' rtok_two ⟨by k_asm, by k_asm, by k_asm, by walk_at "k4"⟩ (by k_asm) (by k_asm) (by ktr_room) (by k_units) (by omega) (by omega) (by omega) (by k_all) (by k_all) (by omega) (by assumption) (by assumption) (by assumption) ?_ ?_ ?_; (all_goals (intros; (try k_sweep))))) | ((with_reducible show wpAny _ _ (call (Value.ref _) _ _) _ _ _); k_dflt (refine' rtok_none ⟨by k_asm, by k_asm, by k_asm, by walk_at "k4"⟩ (by k_asm) (by k_asm) (by ktr_room) (by k_units) (by omega) (by omega) (by omega) (by k_all) (by omega) (by omega) ?_; intros; (try k_sweep))) | ((with_reducible show wpAny _ _ (call (Value.ref 552) _ _) _ _ _); k_dflt (refine' sread_end ⟨by k_asm, by k_asm, by k_asm, by walk_at "k4"⟩ (by k_asm) (by k_asm) (by ktr_room) (by k_units) (by omega) (by omega) ?_; intros; (try k_sweep))) | ((with_reducible show wpAny _ _ (call (Value.ref 552) _ _) _ _ _); k_dflt (refine' sread_one ⟨by k_asm, by k_asm, by k_asm, by walk_at "k4"⟩ (by k_asm) (by k_asm) (by ktr_room) (by k_units) (by omega) (by k_all) (by omega) (by assumption) ?_; intros; (try k_sweep))) | ((with_reducible show wpAny _ _ (call (Value.ref 390) _ _) _ _ _); k_dflt (refine' scheck_ok ⟨by k_asm, by k_asm, by k_asm, by walk_at "k4"⟩ (by k_asm) (by k_asm) (by ktr_room) (by k_units)  ?_; intros; (try k_sweep))) | ((with_reducible show wpAny _ _ (call (Value.ref 72) _ _) _ _ _); k_dflt (refine' index_ok ⟨by k_asm, by k_asm, by k_asm, by walk_at "k4"⟩ (by k_asm) (by k_asm) (by ktr_room) (by k_units) (by decide) ?_; intros; (try k_sweep))) | ((with_reducible show wpAny _ _ (storeName _ _ _) _ _ _); ((with_reducible first | refine' st_nx_self (by k_dflt k_asm) (by k_dflt k_asm) ?_ | refine' st_nx_token (by k_dflt k_asm) (by k_dflt k_asm) ?_); intro _ _ _; (try k_sweep))) | ((with_reducible show wpAny _ _ (eval (Expr.Name _ _) _) _ _ _); ((with_reducible first | refine' ld_nx_self (by k_dflt k_asm) ?_ | refine' ld_nx_token (by k_dflt k_asm) ?_))) | ((with_reducible show wpAny _ _ (eval (Expr.Attribute (Expr.Name _ _) _ _) _) _ _ _); (k_here; (with_reducible first | refine' self_nx (by k_dflt k_asm) (by k_dflt k_asm) (by k_dflt k_asm) (by k_dflt k_mem) (by k_dflt k_mem) (by with_reducible first | exact cls741 | exact cls606) (by with_reducible first | exact shA_state1 | exact shA_token | exact shA_posix | exact shA_debug | exact shA_quotes | exact shA_escape | exact shA_whitespace | exact shA_instream | exact shA_whitespace_split | exact shA_commenters | exact shA_wordchars | exact shA_escapedquotes | exact shA__punctuation_chars | exact shA_eof | exact shA_state0 | exact shA_infile | exact shA_pushback | exact shA_lineno | exact shA_filestack | exact shA_source | exact ioA_buf | exact ioA_pos | exact ioA_newline) ?_))) | (k_unfold; (try dsimp only)) | walk1 | dsimp only))
  exact hst _ _ _ _ _ _ FG' (RaisedS.drop (by assumption) (fun _ hq => .tail _ (.tail _ (.tail _ (.tail _ hq))))) (by assumption)

theorem stop_ground {G g : Heap} {e t : Addr} {clv : Value} {vs : List Value} {h' : Heap} (R : RaisedS base G (envX cn cs L a ccd [] :: outer) e clv t vs news h') (F : Fr g L G m) (K : Below A₀ base outer g) (hsm : G.UpToSlots h')
    (XB : (KK w.params).In base) (TB : Top VV LS mean mg mb base) :
    ∃ g', KtsTurn (outer.filterMap (·.frame)) g g' ∧ Fr g' L h' m ∧ News g' L h' news ∧ Below A₀ base outer g' ∧ (KK w.params).In g' ∧ Top VV LS mean mg mb g' := by
  obtain ⟨⟨B, hB, hBG, hl, hfl, hnew⟩, htup⟩ := R
  have hL : B.get? L = none := by
    obtain ⟨_, ⟨L', _, hf, hn', _⟩, _⟩ := hfl.2.2.1
    obtain rfl : L = L' := Option.some.inj hf
    exact hn'
  obtain ⟨g', T', F', K'⟩ := kts_ground (name := cn) (scope := cs) (a := a) (cd := ccd) K F hBG hfl.1 hsm
  exact ⟨g', T', F', fun q hq => ⟨hfl.1 _ _ (hl q hq).1, (fun z => by have := (hl q hq).1; rw [z, hL] at this; cases this), T'.none_ _ (kts_none F.keep (hl q hq).2.1)⟩, K', XB.keeps K'.stays, TB.keeps K'.stays⟩
/-- what the list loop hands on -/
noncomputable def LexOk (w : World) (A₀ : Around) (base h₀ : Heap) (outer : List Env) (L : Addr) (m mg mb : Str → Option Value) (mean : ExcName → Option Value) (news : List (Addr × Obj)) (s : Shared) (D : Nat) (acc : List (List Nat)) (R : Shared → Prop) : Prop :=
  ∀ g' h' tk vals c, KtsTurn (outer.filterMap (·.frame)) h₀ g' → Fr g' L h' m → News g' L h' ((D, listOf vals.toArray c) :: news) → StrsAre vals (acc.map S) → Below A₀ base outer g' → (KK w.params).In g' → Top VV LS mean mg mb g' →
    R { s with heap := h', toks := tk }
theorem lex_stop {G : Heap} {e t : Addr} {vs : List Value} {D : Nat} {acc : List (List Nat)} {vals : List Value} {c : Nat} {A' : Around} {Qn : Option Value → Shared → Prop} {Em : Value → Shared → Prop} {h' : Heap} {tk : Nat}
    (HB : Below A₀ base outer h₀) (XB : (KK w.params).In base) (TB : Top VV LS mean mg mb base)
    (R : RaisedS base G (envX cn cs L a ccd [] :: outer) e (.type "StopIteration") t vs ((D, listOf vals.toArray c) :: news) h') (F : Fr h₀ L G m) (hsm : G.UpToSlots h') (hv : StrsAre vals (acc.map S))
    (hok : LexOk w A₀ base h₀ outer L m mg mb mean news s D acc (Qn none)) :
    OwitStop (model PG w) A' Qn Em (.ref e) { s with heap := h', toks := tk } := by
  have ⟨⟨B, hB, hBG, hl, hfl, hnew⟩, htup⟩ := R
  obtain ⟨ob, hob, hobc⟩ := hfl.there
  have hT : Shared.TypeIs { s with heap := h', toks := tk } (.ref e) "StopIteration" := (show ∃ o, h'.get? e = some o ∧ o.cls = .type "StopIteration" from ⟨ob, hob, hobc⟩)
  unfold OwitStop
  refine wpAny_isInstance hT (U := "StopIteration") (b := true) (by rw [isSubtype_type]; kernel_rfl) ?_
  rw [if_pos rfl]
  obtain ⟨g', T', F', N', K', X', P'⟩ := stop_ground (w := w) (mean := mean) (mg := mg) (mb := mb) R F HB hsm XB TB
  exact hok g' h' tk vals c T' F' N' hv K' X' P'

noncomputable def lexS (st : Option Nat) (n : Nat) (r : List Nat) : Option (List (List Nat)) := match st with
  | none => some []
  | some _ => lexN n r
theorem lex_last {x dx io dio pb fs D : Nat} {k v ki vi : Nat → Tok} {tp ts tt : Tok} {b wl : List Nat} {p c : Nat} {acc : List (List Nat)} {vals : List Value} (H : Here w A₀ base h₀ outer cs mean mg mb) (XB : (KK w.params).In base) (TB : Top VV LS mean mg mb base) (hdp : dp ≤ 720) (hun : un ≤ 1200)
    (h1 : dx < x) (h2 : x < dio) (h3 : dio < io) (h4 : io < D) (hnew2 : ∀ q ∈ news, q.1 ≠ dx) (hB : b.length ≤ 100000) (hpb : (pb, dqO) ∈ news) (hfs : (fs, dqO) ∈ news)
    {Rk : Result → Shared → Prop} {s₀ : Shared} {h₁ : Heap} {tk₁ : Nat} (F : Fr h₀ L h₁ m)
    (N : News h₀ L h₁ ((io, instObj 606 dio) :: (dio, dictOf (ioD w ki vi b p tp) 3) :: (x, instObj 741 dx) :: (dx, dictOf (shD w k v io pb fs wl none ts [] tt) 19) :: (D, listOf vals.toArray c) :: news))
    (hv : StrsAre vals (acc.map S)) (hp : b.length ≤ p)
    (hok : LexOk w A₀ base h₀ outer L m mg mb mean news s₀ D acc (fun s' => Rk (.ok (.ret .none)) s')) :
    codeAny (model PG w) (ktrTop dp un gd cn cs L a ccd [] outer) (.builtin "list.extend.loop" ⟨[.ref D, .ref x, .none], []⟩) Rk { s₀ with heap := h₁, toks := tk₁ } := by
  refine codeAny_builtin PySem.F.entry_extend_loop ?_
  rw [Around.under_plainId PySem.F.plain_extend_loop _]
  show wpAny _ _ (pyNext (.ref x) >>= _) _ _ _
  refine wpAny_bind (owit_next (K := KK w.params) (C := 741) (f := 738) F H.X (InstAt.of_news N (.tail _ (.tail _ (.head _))) (.tail _ (.tail _ (.tail _ (.head _))))) (by k_is) (by k_is) ?_)
  refine nx_none (dp := dp) (un := un + 1) (gd := gd) (cn := cn) (cs := cs) (a := a) (ccd := ccd) (cl := []) (outer := outer) H F N (by omega) (by omega) h1 h2 h3 ?_ hB hp (.tail _ hpb) (.tail _ hfs) ?_
  · intro q hq
    rcases List.mem_cons.mp hq with rfl | hq
    · show D ≠ dx; omega
    · exact hnew2 q hq
  · intro e t vs h' tk g Fg R U
    refine lex_stop (s := { s₀ with heap := h₁, toks := tk₁ }) H.B XB TB R Fg U hv ?_
    intro g' h' tk vals' c' T' F' N' hv' K' X' P'
    exact wpAny_pure (hok g' h' tk vals' c' T' F' N' hv' K' X' P')
theorem lex_loop {x dx io dio pb fs D : Nat} {k v ki vi : Nat → Tok} {b wl : List Nat} (H : Here w A₀ base h₀ outer cs mean mg mb) (XB : (KK w.params).In base) (TB : Top VV LS mean mg mb base) (hdp : dp ≤ 720) (hun : un ≤ 1200)
    (h1 : dx < x) (h2 : x < dio) (h3 : dio < io) (h4 : io < D) (hnew : ∀ q ∈ news, q.1 ≠ dio) (hnew2 : ∀ q ∈ news, q.1 ≠ dx) (hnewD : ∀ q ∈ news, q.1 ≠ D) (hB : b.length ≤ 100000) (hb : ∀ c ∈ b, c ≠ 10) (hwl : ∀ c, wl.contains c = true → quL.contains c = false) (hpb : (pb, dqO) ∈ news) (hfs : (fs, dqO) ∈ news)
    {Rk : Result → Shared → Prop} {s₀ : Shared} : ∀ (n : Nat) (h₁ : Heap) (tk₁ : Nat) (p : Nat) (tp ts tt : Tok) (acc : List (List Nat)) (vals : List Value) (c : Nat), Fr h₀ L h₁ m →
    News h₀ L h₁ ((io, instObj 606 dio) :: (dio, dictOf (ioD w ki vi b p tp) 3) :: (x, instObj 741 dx) :: (dx, dictOf (shD w k v io pb fs wl (some 32) ts [] tt) 19) :: (D, listOf vals.toArray c) :: news) →
    StrsAre vals (acc.map S) → vals.length + n ≤ 200001 → p ≤ b.length → b.length - p < n →
    (∀ ts', lexN n (b.drop p) = some ts' → LexOk w A₀ base h₀ outer L m mg mb mean news s₀ D (acc ++ ts') (fun s' => Rk (.ok (.ret .none)) s')) →
    (lexN n (b.drop p) = none → ∀ e t vs h' tk g, Fr h₀ L g m → RaisedS base g (envX cn cs L a ccd [] :: outer) e (.type "ValueError") t vs news h' → g.UpToSlots h' → Rk (.error (.ref e)) { s₀ with heap := h', toks := tk }) →
    codeAny (model PG w) (ktrTop dp un gd cn cs L a ccd [] outer) (.builtin "list.extend.loop" ⟨[.ref D, .ref x, .none], []⟩) Rk { s₀ with heap := h₁, toks := tk₁ } := by
  intro n
  induction n with
  | zero => intro h₁ tk₁ p tp ts tt acc vals c F N hv hl hp hn; omega
  | succ n ih =>
    intro h₁ tk₁ p tp ts tt acc vals c F N hv hl hp hn hok hbad
    refine codeAny_builtin PySem.F.entry_extend_loop ?_
    rw [Around.under_plainId PySem.F.plain_extend_loop _]
    show wpAny _ _ (pyNext (.ref x) >>= _) _ _ _
    refine wpAny_bind (owit_next (K := KK w.params) (C := 741) (f := 738) F H.X (InstAt.of_news N (.tail _ (.tail _ (.head _))) (.tail _ (.tail _ (.tail _ (.head _))))) (by k_is) (by k_is) ?_)
    have hne1 : ∀ q ∈ (D, listOf vals.toArray c) :: news, q.1 ≠ dio := by
      intro q hq
      rcases List.mem_cons.mp hq with rfl | hq
      · show D ≠ dio; omega
      · exact hnew q hq
    have hne2 : ∀ q ∈ (D, listOf vals.toArray c) :: news, q.1 ≠ dx := by
      intro q hq
      rcases List.mem_cons.mp hq with rfl | hq
      · show D ≠ dx; omega
      · exact hnew2 q hq
    refine nx_ok (dp := dp) (un := un + 1) (gd := gd) (cn := cn) (cs := cs) (a := a) (ccd := ccd) (cl := []) (outer := outer) H F N (by omega) (by omega) h1 h2 h3 hne1 hne2 hB hb hp hwl (.tail _ hpb) (.tail _ hfs) ?_ ?_ ?_
    · intro st p' hr e t vs h' tk g Fg R U
      have e1 : lexN (n + 1) (b.drop p) = some [] := by rw [lexN, hr]; simp
      refine lex_stop (s := { s₀ with heap := h₁, toks := tk₁ }) H.B XB TB R Fg U hv ?_
      intro g' h' tk vals' c' T' F' N' hv' K' X' P'
      exact wpAny_pure (hok [] e1 g' h' tk vals' c' T' F' N' (by rw [List.append_nil]; exact hv') K' X' P')
    · intro q tok st t p' tp' ts' tt' h' tk hr hq a1 a2 a3 F' N'
      have hnq : ¬ (q = false ∧ tok = []) := by
        rintro ⟨rfl, rfl⟩
        rcases hq with hq | hq
        · cases hq
        · exact hq rfl
      show wpAny _ _ (Builtin.List.listUpdate (.ref D) (·.push (.str (S tok) t)) >>= fun _ => again (.builtin "list.extend.loop" ⟨[.ref D, .ref x, .none], []⟩)) _ _ _
      refine wpAny_bind ?_
      show wpAny _ _ (updateSeq D (·.push (.str (S tok) t))) _ _ _
      have hD := N'.get (a := D) (o := listOf vals.toArray c) (.tail _ (.tail _ (.tail _ (.tail _ (.head _)))))
      refine wpAny_updateSeq hD rfl ?_ (by simp only [List.size_toArray, sizeLine_eq]; omega) (by simp only [Array.size_push, List.size_toArray, sizeLine_eq]; omega)
      obtain ⟨F2, N2⟩ := news_upd (pre := [(io, instObj 606 dio), (dio, dictOf (ioD w ki vi b p' tp') 3), (x, instObj 741 dx), (dx, dictOf (shD w k v io pb fs wl st ts' [] tt') 19)]) (post := news) (d := D) (o := listOf vals.toArray c) (o' := listOf (vals ++ [Value.str (S tok) t]).toArray (c + 1)) (f := Obj.mapSeq (·.push (Value.str (S tok) t))) F' N'
        (by intro q hq
            simp only [List.mem_cons, List.not_mem_nil, or_false] at hq
            rcases hq with rfl | rfl | rfl | rfl
            · show io ≠ D; omega
            · show dio ≠ D; omega
            · show x ≠ D; omega
            · show dx ≠ D; omega) hnewD
        (by simp [Obj.mapSeq]) rfl
      have hv2 : StrsAre (vals ++ [Value.str (S tok) t]) ((acc ++ [tok]).map S) := by
        rw [List.map_append]
        exact hv.append' (.cons _ _ .nil)
      refine wpAny_pure ⟨plainId_quiet PySem.F.plain_extend_loop _, ?_⟩
      cases st with
      | none =>
        have hrest := rt_none_rest _ hr
        have hp' : b.length ≤ p' := by
          have := congrArg List.length hrest
          simp only [List.length_drop, List.length_nil] at this
          omega
        have e1 : lexN (n + 1) (b.drop p) = some [tok] := by rw [lexN, hr]; simp only [if_neg hnq]
        exact lex_last (s₀ := s₀) H XB TB hdp hun h1 h2 h3 h4 hnew2 hB hpb hfs F2 N2 hv2 hp' (hok [tok] e1)
      | some s' =>
        obtain ⟨rfl, hlt⟩ := rt_some_rest _ hr
        simp only [List.length_drop] at hlt
        have e1 : lexN (n + 1) (b.drop p) = (lexN n (b.drop p')).map (tok :: ·) := by rw [lexN, hr]; simp only [if_neg hnq]
        refine ih _ _ p' _ _ _ (acc ++ [tok]) _ _ F2 N2 hv2 (by simp only [List.length_append, List.length_cons, List.length_nil]; omega) a2 (by omega) ?_ ?_
        · intro ts2 h2'
          have := hok (tok :: ts2) (by rw [e1, h2']; rfl)
          rw [List.append_assoc]
          exact this
        · intro h2'
          exact hbad (by rw [e1, h2']; rfl)
    · intro hr e t vs h' tk g Fg R U
      have e1 : lexN (n + 1) (b.drop p) = none := by rw [lexN, hr]
      have ⟨⟨B, hB', hBG, hl', hfl, hnew'⟩, htup⟩ := R
      obtain ⟨ob, hob, hobc⟩ := hfl.there
      have hT : Shared.TypeIs { s₀ with heap := h', toks := tk } (.ref e) "ValueError" := (show ∃ o, h'.get? e = some o ∧ o.cls = .type "ValueError" from ⟨ob, hob, hobc⟩)
      show wpAny _ _ (isInstance (.ref e) (.type "StopIteration")) _ _ _
      refine wpAny_isInstance (U := "StopIteration") (b := false) hT (by rw [isSubtype_type]; kernel_rfl) ?_
      rw [if_neg (by simp)]
      exact hbad e1 _ _ _ _ _ _ Fg (RaisedS.drop R fun _ hq => .tail _ hq) U

theorem iter_ok {x : Nat} (H : Here w A₀ base h₀ outer cs mean mg mb) (F : Fr h₀ L s.heap m) (N : News h₀ L s.heap news) (hdp : dp ≤ 800) (hun : un ≤ 2000)
    (h : ∀ h' tk, Fr h₀ L h' m → News h₀ L h' news → Q (.ref x) { s with heap := h', toks := tk }) :
    wpAny (model PG w) (ktrTop dp un gd cn cs L a ccd cl outer) (call (.ref 731) [.ref x]) Q E s := by
  obtain ⟨HB, X, T, hk⟩ := H
  refine wpAny_call ?_
  refine' code_def (binds := [(Str.ofString "self", .ref x)]) ?k1 ?k2 ?k3 ?k4 ?k5 ?kA ?kF ?kK ?k6 ?k7 ?k8 ?k9 ?kB ?_ ?c2 ?c3 ?c4 ?c5
  (case kA => exact rfl); (case kF => exact rfl); (case kK => assumption); (case k1 => k_asm); (case k2 => k_asm); (case k3 => k_asm); (case k4 => k_asm); (case k5 => k_asm); (case k6 => k_is)
  (case k7 => k_is); (case k8 => ktr_room); (case k9 => exact BindsTo.of_eq rfl); (case c5 => decide); (case kB => exact locs rfl); (case c2 => exact rfl); (case c3 => exact rfl); (case c4 => exact rfl)
  intro g' L' h' FG' F' N' B' X' T'
  (try dsimp only)
  dsimp only [List.reverse, List.reverseAux] at F'
  k_fold
  rw [en_it] at F'
  (repeat' ((fail_if_success (with_reducible show wpAny _ _ (exec (Stmt.While _ _ _ _) _) _ _ _)); (fail_if_success (with_reducible show wpAny _ _ (exec (Stmt.For _ _ _ _ _) _) _ _ _)); first | ((with_reducible show wpAny _ _ (eval (Expr.Name _ _) _) _ _ _); ((with_reducible first | refine' ld_it_self (by k_dflt k_asm) ?_))) | (k_unfold; (try dsimp only)) | walk1 | dsimp only))
  exact h _ _ (by assumption) (by assumption)

end
section
theorem list_lex {x dx io dio pb fs : Nat} {k v ki vi : Nat → Tok} {tp ts tt : Tok} {b wl : List Nat} (H : Here w A₀ base h₀ outer cs mean mg mb) (XB : (KK w.params).In base) (TB : Top VV LS mean mg mb base) (F : Fr h₀ L s.heap m)
    (N : News h₀ L s.heap ((io, instObj 606 dio) :: (dio, dictOf (ioD w ki vi b 0 tp) 3) :: (x, instObj 741 dx) :: (dx, dictOf (shD w k v io pb fs wl (some 32) ts [] tt) 19) :: news)) (hdp : dp ≤ 710) (hun : un ≤ 1100)
    (h1 : dx < x) (h2 : x < dio) (h3 : dio < io) (hnew : ∀ q ∈ news, q.1 ≠ dio) (hnew2 : ∀ q ∈ news, q.1 ≠ dx) (hB : b.length ≤ 100000) (hb : ∀ c ∈ b, c ≠ 10) (hwl : ∀ c, wl.contains c = true → quL.contains c = false) (hpb : (pb, dqO) ∈ news) (hfs : (fs, dqO) ∈ news)
    (hok : ∀ D ts', lexN (b.length + 1) b = some ts' → (∀ q ∈ news, q.1 < D) → LexOk w A₀ base h₀ outer L m mg mb mean news s D ts' (fun s' => Q (.ref D) s'))
    (hbad : lexN (b.length + 1) b = none → ∀ e t vs h' tk g, Fr h₀ L g m → RaisedS base g (envX cn cs L a ccd [] :: outer) e (.type "ValueError") t vs news h' → g.UpToSlots h' → E (.ref e) { s with heap := h', toks := tk }) :
    wpAny (model PG w) (ktrTop dp un gd cn cs L a ccd [] outer) (call (.type "list") [.ref x]) Q E s := by
  have hlt : ∀ q ∈ ((io, instObj 606 dio) :: (dio, dictOf (ioD w ki vi b 0 tp) 3) :: (x, instObj 741 dx) :: (dx, dictOf (shD w k v io pb fs wl (some 32) ts [] tt) 19) :: news), q.1 < s.heap.objs.size := fun q hq => Heap.lt_size (N q hq).1
  have hioD : io < s.heap.objs.size := hlt _ (.head _)
  refine callType_codes (Q₁ := fun obj s₁ => obj = .ref s.heap.objs.size ∧ s₁ = { s with heap := s.heap.push { cls := .type "list", data := .seq #[] } }) PySem.F.called_list (PySem.F.typeCall_list_1 _) PySem.F.entry_list_init
    (code_list_new _ ⟨rfl, rfl⟩) fun obj s₁ h₁ => ?_
  obtain ⟨rfl, rfl⟩ := h₁
  generalize hDe : s.heap.objs.size = D at *
  have F1 : Fr h₀ L (s.heap.push { cls := .type "list", data := .seq #[] }) m := F.push _
  have N1 := News.push F N ({ cls := .type "list", data := .seq #[] } : Obj) rfl
  rw [hDe] at N1
  have hS := N1.get (.head _)
  refine ⟨⟨_, hS, rfl⟩, PySem.F.args_list_init_2 _ _, ?_⟩
  show wpAny _ _ (do let old ← Builtin.List.listItems (.ref D); Builtin.List.listUpdate (.ref D) (fun _ => #[]); letGo old.toList.reverse; Builtin.List.listExtendWith (.ref D) (.ref x) .none) _ _ _
  refine wpAny_bind ?_
  unfold Builtin.List.listItems
  refine wpAny_bind (wpAny_seqItems hS rfl (wpAny_pure ?_))
  show wpAny _ _ (updateSeq D (fun _ => #[]) >>= fun _ => letGo (#[] : Array Value).toList.reverse >>= fun _ => Builtin.List.listExtendWith (.ref D) (.ref x) .none) _ _ _
  refine wpAny_bind (wpAny_updateSeq hS rfl ?_)
  have hpost : ∀ q ∈ ((io, instObj 606 dio) :: (dio, dictOf (ioD w ki vi b 0 tp) 3) :: (x, instObj 741 dx) :: (dx, dictOf (shD w k v io pb fs wl (some 32) ts [] tt) 19) :: news), q.1 ≠ D := fun q hq => Nat.ne_of_lt (hlt q hq)
  obtain ⟨F2, N2⟩ := news_upd (pre := []) (d := D) (o := { cls := .type "list", data := .seq #[] }) (o' := listOf #[] 0) (f := Obj.mapSeq (fun _ => (#[] : Array Value))) F1 N1 (fun _ hq => nomatch hq) hpost rfl rfl
  refine wpAny_bind (wpAny_letGo ?_)
  unfold Builtin.List.listExtendWith
  have I2 : InstAt _ x (instObj 741 dx) 741 (some (dictOf (shD w k v io pb fs wl (some 32) ts [] tt) 19)) := InstAt.of_news N2 (.tail _ (.tail _ (.tail _ (.head _)))) (.tail _ (.tail _ (.tail _ (.tail _ (.head _)))))
  refine wpAny_bind (I2.type.here ?_)
  have hDx : D ≠ x := by omega
  have e1 : Builtin.List.listSameRef (.ref D) (.ref x) = false := by simp [Builtin.List.listSameRef, hDx]
  have e2 : (Value.ref 741 == Value.type "list") = false := by decide
  have e3 : (Value.ref 741 == Value.type "tuple") = false := by decide
  simp only [e1, e2, e3, Bool.or_false, Bool.false_eq_true, if_false]
  refine wpAny_bind (owit_iter (K := KK w.params) (C := 741) (f := 731) F2 H.X I2 (by k_is) (by k_is) ?_)
  refine iter_ok (dp := dp) (un := un + 2) (gd := gd) (cn := cn) (cs := cs) (a := a) (ccd := ccd) (cl := []) (outer := outer) H F2 N2 (by omega) (by omega) ?_
  intro h3' tk3 F3 N3
  have I3 : InstAt h3' x (instObj 741 dx) 741 (some (dictOf (shD w k v io pb fs wl (some 32) ts [] tt) 19)) := InstAt.of_news N3 (.tail _ (.tail _ (.tail _ (.head _)))) (.tail _ (.tail _ (.tail _ (.tail _ (.head _)))))
  refine owit_it (K := KK w.params) (C := 741) (g := .ref 738) F3 H.X I3 (by k_is) ?_
  refine wpAny_bind (wpAny_holding ?_)
  unfold Builtin.List.listLengthHint
  have X3 := H.X.keeps F3.keep
  refine wpAny_bind (wpAny_bind (I3.type.here ((looks_findIn (r := none) X3 (by k_is)).here ?_)))
  show wpAny _ _ (specialOf (Value.ref x) (Str.ofString "__length_hint__") >>= _) _ _ _
  refine wpAny_bind (wpAny_bind (I3.type.here ((looks_findIn (r := none) X3 (by k_is)).here ?_)))
  refine wpAny_pure ?_
  show wpAny _ _ (rule "list.extend.makes-room" >>= fun _ => Builtin.List.listTouch (.ref D) >>= fun _ => again (.builtin "list.extend.loop" ⟨[.ref D, .ref x, .none], []⟩)) _ _ _
  refine wpAny_bind (wpAny_rule (wpAny_bind ?_))
  show wpAny _ _ (updateSeq D (·.push .none) >>= fun _ => updateSeq D (·.pop)) _ _ _
  refine wpAny_bind (wpAny_updateSeq (N3.get (.head _)) rfl ?_)
  obtain ⟨F4, N4⟩ := news_upd (pre := []) (d := D) (o := listOf #[] 0) (o' := listOf #[.none] 1) (f := Obj.mapSeq (·.push .none)) F3 N3 (fun _ hq => nomatch hq) hpost rfl rfl
  refine wpAny_updateSeq (hz := by seq_fits) (N4.get (.head _)) rfl ?_
  obtain ⟨F5, N5⟩ := news_upd (pre := []) (d := D) (o := listOf #[.none] 1) (o' := listOf #[] 2) (f := Obj.mapSeq (·.pop)) F4 N4 (fun _ hq => nomatch hq) hpost rfl rfl
  have N6 := fun (q : Addr × Obj) (hq : q ∈ ((io, instObj 606 dio) :: (dio, dictOf (ioD w ki vi b 0 tp) 3) :: (x, instObj 741 dx) :: (dx, dictOf (shD w k v io pb fs wl (some 32) ts [] tt) 19) :: (D, listOf ([] : List Value).toArray 2) :: news)) => N5 q (by
    simp only [List.nil_append, List.mem_cons] at hq ⊢
    rcases hq with h | h | h | h | h | h <;> simp [h])
  refine wpAny_pure ⟨plainId_quiet PySem.F.plain_extend_loop _, ?_⟩
  refine lex_loop (s₀ := s) (dp := dp) (un := un + 1) (gd := gd) (cn := cn) (cs := cs) (a := a) (ccd := ccd) (outer := outer) H XB TB (by omega) (by omega) h1 h2 h3 (by omega) hnew hnew2 (fun q hq => Nat.ne_of_lt (hlt q (.tail _ (.tail _ (.tail _ (.tail _ hq)))))) hB hb hwl hpb hfs (b.length + 1) _ _ 0 _ _ _ [] [] 2 F5 N6 .nil (by simp; omega) (by omega) (by omega) ?_ ?_
  · intro ts' hts g' h' tk vals' c' T' F' N' hv' K' X' P'
    exact ⟨rfl, hok D ts' hts (fun q hq => hlt q (.tail _ (.tail _ (.tail _ (.tail _ hq))))) g' h' tk vals' c' T' F' N' hv' K' X' P'⟩
  · intro hts e t vs h' tk g Fg R U
    exact hbad hts e t vs h' tk g Fg R U

end
section
noncomputable abbrev DF (w : World) (n : String) (k : Tok) (v : Value) : DictEntry := ⟨PyData.keyHash w.params (Str.ofString n), .str (Str.ofString n) k, v⟩
theorem strans_ok {io dio : Nat} {b : List Nat} {t k0 k1 k2 t0 t1 t2 : Tok} (H : Here w A₀ base h₀ outer cs mean mg mb) (F : Fr h₀ L s.heap m)
    (N : News h₀ L s.heap ((io, instObj 606 dio) :: (dio, dictOf [DF w "_StringIO__newline" k0 (.str (S [10]) t0), DF w "_StringIO__buf" k1 (.str (S []) t1), DF w "_StringIO__pos" k2 (.int 0 t2)] 3) :: news)) (hdp : dp ≤ 780) (hun : un ≤ 1800)
    (h : ∀ h' tk, Fr h₀ L h' m → News h₀ L h' ((io, instObj 606 dio) :: (dio, dictOf [DF w "_StringIO__newline" k0 (.str (S [10]) t0), DF w "_StringIO__buf" k1 (.str (S []) t1), DF w "_StringIO__pos" k2 (.int 0 t2)] 3) :: news) → Q (.str (S b) t) { s with heap := h', toks := tk }) :
    wpAny (model PG w) (ktrTop dp un gd cn cs L a ccd cl outer) (call (.ref 383) [.ref io, .str (S b) t]) Q E s := by
  obtain ⟨HB, X, T, hk⟩ := H
  refine wpAny_call ?_
  refine' code_def (binds := [(Str.ofString "self", .ref io), (Str.ofString "s", .str (S b) t)]) ?k1 ?k2 ?k3 ?k4 ?k5 ?kA ?kF ?kK ?k6 ?k7 ?k8 ?k9 ?kB ?_ ?c2 ?c3 ?c4 ?c5
  (case kA => exact rfl); (case kF => exact rfl); (case kK => assumption); (case k1 => k_asm); (case k2 => k_asm); (case k3 => k_asm); (case k4 => k_asm); (case k5 => k_asm); (case k6 => k_is)
  (case k7 => k_is); (case k8 => ktr_room); (case k9 => exact BindsTo.of_eq rfl); (case c5 => decide); (case kB => exact locs rfl); (case c2 => exact rfl); (case c3 => exact rfl); (case c4 => exact rfl)
  intro g' L' h' FG' F' N' B' X' T'
  (try dsimp only)
  dsimp only [List.reverse, List.reverseAux] at F'
  k_fold
  (repeat' ((fail_if_success (with_reducible show wpAny _ _ (exec (Stmt.While _ _ _ _) _) _ _ _)); (fail_if_success (with_reducible show wpAny _ _ (exec (Stmt.For _ _ _ _ _) _) _ _ _)); first | ((with_reducible show wpAny _ _ (getAttr (Value.ref _) _ _) _ _ _); (k_here; (with_reducible refine' getA (by k_dflt k_asm) (by k_dflt k_asm) (by k_dflt k_asm) (by k_dflt k_mem) (by k_dflt k_mem) (by with_reducible first | exact cls741 | exact cls606) (by with_reducible first | exact shA_state1 | exact shA_token | exact shA_posix | exact shA_debug | exact shA_quotes | exact shA_escape | exact shA_whitespace | exact shA_instream | exact shA_whitespace_split | exact shA_commenters | exact shA_wordchars | exact shA_escapedquotes | exact shA__punctuation_chars | exact shA_eof | exact shA_state0 | exact shA_infile | exact shA_pushback | exact shA_lineno | exact shA_filestack | exact shA_source | exact ioA_buf | exact ioA_pos | exact ioA_newline) ?_))) | ((with_reducible show wpAny _ _ (getAttr (Value.ref _) _ _) _ _ _); (k_here; k_dflt (refine' get_own (by k_asm) (by k_asm) (by k_inst) (by k_is) (by k_is) (by k_is) (by k_is) (by k_get) (by k_handed) ?_; k_whole))) | (k_unfold; (try dsimp only)) | walk1 | dsimp only))
  exact h _ _ (by assumption) (by assumption)
theorem sinit_ok {io dio : Nat} {b : List Nat} {t : Tok} (H : Here w A₀ base h₀ outer cs mean mg mb) (F : Fr h₀ L s.heap m)
    (N : News h₀ L s.heap ((io, instObj 606 dio) :: (dio, dictOf [] 0) :: news)) (hdp : dp ≤ 750) (hun : un ≤ 1500) (h1 : dio < io) (h2 : ∀ q ∈ news, q.1 < dio)
    (h : ∀ k v tp h' tk, Fr h₀ L h' m → News h₀ L h' ((io, instObj 606 dio) :: (dio, dictOf (ioD w k v b 0 tp) 3) :: news) → Q .none { s with heap := h', toks := tk }) :
    wpAny (model PG w) (ktrTop dp un gd cn cs L a ccd cl outer) (call (.ref 376) [.ref io, .str (S b) t]) Q E s := by
  obtain ⟨HB, X, T, hk⟩ := H
  refine wpAny_call ?_
  refine' code_def (binds := [(Str.ofString "self", .ref io), (Str.ofString "initial_value", .str (S b) t), (Str.ofString "newline", .str (S [10]) 837)]) ?k1 ?k2 ?k3 ?k4 ?k5 ?kA ?kF ?kK ?k6 ?k7 ?k8 ?k9 ?kB ?_ ?c2 ?c3 ?c4 ?c5
  (case kA => exact rfl); (case kF => exact rfl); (case kK => assumption); (case k1 => k_asm); (case k2 => k_asm); (case k3 => k_asm); (case k4 => k_asm); (case k5 => k_asm); (case k6 => k_is)
  (case k7 => k_is); (case k8 => ktr_room); (case k9 => exact binds_K (by k_in) rfl (by k_is) rfl rfl rfl); (case c5 => decide); (case kB => exact locs rfl); (case c2 => exact rfl); (case c3 => exact rfl); (case c4 => exact rfl)
  intro g' L' h' FG' F' N' B' X' T'
  (try dsimp only)
  dsimp only [List.reverse, List.reverseAux] at F'
  k_fold
  (repeat' ((fail_if_success (with_reducible show wpAny _ _ (exec (Stmt.While _ _ _ _) _) _ _ _)); (fail_if_success (with_reducible show wpAny _ _ (exec (Stmt.For _ _ _ _ _) _) _ _ _)); first | ((with_reducible show wpAny _ _ (call (Value.ref 383) _ _) _ _ _); k_dflt (refine' strans_ok ⟨by k_asm, by k_asm, by k_asm, by walk_at "k4"⟩ (by k_asm) (by k_asm) (by ktr_room) (by k_units)  ?_; intros; (try k_sweep))) | ((with_reducible show wpAny _ _ (call (Value.ref _) _ _) _ _ _); k_dflt (refine' gtok_ok ⟨by k_asm, by k_asm, by k_asm, by walk_at "k4"⟩ (by k_asm) (by k_asm) (by ktr_room) (by k_units) (by omega) (by omega) (by omega) (by k_all) (by k_all) (by omega) (by assumption) (by assumption) (by assumption) (by assumption) (by assumption) ?_ ?_ ?_; (all_goals (intros; (try k_sweep))))) | ((with_reducible show wpAny _ _ (call (Value.ref _) _ _) _ _ _); k_dflt (refine' gtok_none ⟨by k_asm, by k_asm, by k_asm, by walk_at "k4"⟩ (by k_asm) (by k_asm) (by ktr_room) (by k_units) (by omega) (by omega) (by omega) (by k_all) (by omega) (by omega) (by assumption) (by assumption) ?_; intros; (try k_sweep))) | ((with_reducible show wpAny _ _ (call (Value.ref _) _ _) _ _ _); k_dflt (refine' rtok_two ⟨by k_asm, by k_asm, by k_asm, by walk_at "k4"⟩ (by k_asm) (by k_asm) (by ktr_room) (by k_units) (by omega) (by omega) (by omega) (by k_all) (by k_all) (by omega) (by assumption) (by assumption) (by assumption) ?_ ?_ ?_; (all_goals (intros; (try k_sweep))))) | ((with_reducible show wpAny _ _ (call (Value.ref _) _ _) _ _ _); k_dflt (refine' rtok_none ⟨by k_asm, by k_asm, by k_asm, by walk_at "k4"⟩ (by k_asm) (by k_asm) (by ktr_room) (by k_units) (by omega) (by omega) (by omega) (by k_all) (by omega) (by omega) ?_; intros; (try k_sweep))) | ((with_reducible show wpAny _ _ (call (Value.ref 552) _ _) _ _ _); k_dflt (refine' sread_end ⟨by k_asm, by k_asm, by k_asm, by walk_at "k4"⟩ (by k_asm) (by k_asm) (by ktr_room) (by k_units) (by omega) (by omega) ?_; intros; (try k_sweep))) | ((with_reducible show wpAny _ _ (call (Value.ref 552) _ _) _ _ _); k_dflt (refine' sread_one ⟨by k_asm, by k_asm, by k_asm, by walk_at "k4"⟩ (by k_asm) (by k_asm) (by ktr_room) (by k_units) (by omega) (by k_all) (by omega) (by assumption) ?_; intros; (try k_sweep))) | ((with_reducible show wpAny _ _ (call (Value.ref 390) _ _) _ _ _); k_dflt (refine' scheck_ok ⟨by k_asm, by k_asm, by k_asm, by walk_at "k4"⟩ (by k_asm) (by k_asm) (by ktr_room) (by k_units)  ?_; intros; (try k_sweep))) | ((with_reducible show wpAny _ _ (call (Value.ref 72) _ _) _ _ _); k_dflt (refine' index_ok ⟨by k_asm, by k_asm, by k_asm, by walk_at "k4"⟩ (by k_asm) (by k_asm) (by ktr_room) (by k_units) (by decide) ?_; intros; (try k_sweep))) | ((with_reducible show wpAny _ _ (setAttr (Value.ref _) _ _) _ _ _); (k_here; (with_reducible refine' setA (by k_dflt k_asm) (by k_dflt k_asm) (by k_dflt k_asm) (by k_dflt k_mem) (by k_dflt k_mem) (by with_reducible first | exact cls741 | exact cls606) (by first | with_reducible exact shP_token | with_reducible exact shP_state1 | with_reducible exact shP_state0 | k_dflt exact ioP_pos) (by k_dflt k_upd) ?_); intro _ _ _; (try k_sweep))) | (k_unfold; (try dsimp only)) | walk1 | dsimp only))
  rename_i kF kN _ _
  exact h (fun i => List.getD [_, _, _] i 0) (fun i => List.getD [_, _] i 0) _ _ _ kF kN

theorem ionew_ok {b : List Nat} {t : Tok} (H : Here w A₀ base h₀ outer cs mean mg mb) (F : Fr h₀ L s.heap m)
    (N : News h₀ L s.heap news) (hdp : dp ≤ 750) (hun : un ≤ 1500)
    (h : ∀ (x dx : Nat) h' tk, Fr h₀ L h' m → News h₀ L h' ((x, instObj 606 dx) :: (dx, dictOf [] 0) :: news) → (∀ p ∈ news, p.1 < dx) → dx < x → Q (.ref x) { s with heap := h', toks := tk }) :
    wpAny (model PG w) (ktrTop dp un gd cn cs L a ccd cl outer) (call (.ref 99) [.ref 606, .str (S b) t]) Q E s := by
  obtain ⟨HB, X, T, hk⟩ := H
  refine wpAny_call ?_
  refine' kp_both ?k1 ?k2 ?k3 ?k4 ?k5 ?kA ?kF ?kK ?k6 ?k7 ?k8 ?kV ?kX ?kQ ?kM ?kN ?kD ?kR ?kP ?kS ?kT ?kB ?_ ?c2 ?c3 ?c4 ?c5
  (case kA => exact rfl); (case kF => exact rfl); (case kK => assumption); (case k1 => k_asm); (case k2 => k_asm); (case k3 => k_asm); (case k4 => k_asm); (case k5 => k_asm); (case k6 => k_is); (case k7 => k_is); (case k8 => ktr_room); (case kV => kp_lit); (case kX => kp_lit); (case kQ => exact rfl); (case kM => exact rfl); (case kN => exact rfl); (case kD => kp_flats); (case kR => exact rfl); (case kP => exact rfl); (case kS => exact fun _ => rfl); (case kT => exact fun _ _ => rfl); (case kB => exact fun _ _ => locs rfl); (case c5 => decide); (case c2 => exact rfl); (case c3 => exact rfl); (case c4 => exact rfl)
  intro C' D' o' g' L' h' tk' l1 l2 lo' hs' fs' FG' F' N' B' X' T'
  (try dsimp only)
  k_fold
  (repeat' ((fail_if_success (with_reducible show wpAny _ _ (exec (Stmt.While _ _ _ _) _) _ _ _)); (fail_if_success (with_reducible show wpAny _ _ (exec (Stmt.For _ _ _ _ _) _) _ _ _)); first  | (k_unfold; (try dsimp only)) | walk1 | dsimp only))
  refine onew606 (by assumption) (by assumption) (by assumption) ?_
  intro x' dx' h2 F2 N2 l3 l4
  (repeat' ((fail_if_success (with_reducible show wpAny _ _ (exec (Stmt.While _ _ _ _) _) _ _ _)); (fail_if_success (with_reducible show wpAny _ _ (exec (Stmt.For _ _ _ _ _) _) _ _ _)); first  | (k_unfold; (try dsimp only)) | walk1 | dsimp only))
  rename_i kF kN _ _
  exact h _ _ _ _ kF (News.cut2 kN) (fun p hp => l3 p (.tail _ (.tail _ hp))) l4

end
section
theorem sio_ok {b : List Nat} {t : Tok} (H : Here w A₀ base h₀ outer cs mean mg mb) (F : Fr h₀ L s.heap m)
    (N : News h₀ L s.heap news) (hdp : dp ≤ 740) (hun : un ≤ 1400)
    (h : ∀ (io dio : Nat) k v tp h' tk, Fr h₀ L h' m → News h₀ L h' ((io, instObj 606 dio) :: (dio, dictOf (ioD w k v b 0 tp) 3) :: news) → (∀ p ∈ news, p.1 < dio) → dio < io → Q (.ref io) { s with heap := h', toks := tk }) :
    wpAny (model PG w) (ktrTop dp un gd cn cs L a ccd cl outer) (call (.ref 606) [.str (S b) t]) Q E s := by
  have X := H.X.keeps F.keep
  obtain ⟨hh, g, d, tt, os⟩ := s
  have call : Looks (model PG w) hh (specialOf (.ref 606) "__call__") (some (.builtin "type.__call__")) := looks_specialIn X (by k_is)
  have typ : Looks (model PG w) hh (isInstance (.ref 606) (.type "type")) true := Looks.of_peek X (by kernel_rfl)
  have made := made606 (w := w) X
  have hm : Looks (model PG w) hh (mroOf (.ref 606)) [.ref 606, .ref 129, .ref 102, .type "object"] := Looks.of_peek X (by kernel_rfl)
  refine wpAny_call (codeAny_of_tree ?_)
  obtain ⟨oc, od, cd, sl, hC⟩ : ∃ oc od cd sl, hh.get? 606 = some ⟨oc, od, .cls cd, sl⟩ := by
    have ok := ok606 (w := w)
    unfold okCls at ok
    split at ok
    case h_2 => cases ok
    rename_i ho
    exact ⟨_, _, _, _, X _ _ ho⟩
  show wpAny _ _ (callAny (.ref 606) _) _ _ _
  refine nd_load hC ?_
  show wpAny _ _ (callAny.viaDunder (.ref 606) _) _ _ _
  unfold callAny.viaDunder
  refine wpAny_bind (call.at ?_)
  dsimp only
  rw [tc_bind]
  refine wpAny_bind (wpAny_pure (wpAny_bind (wpAny_pure ?_)))
  refine wpAny_pure (a := Fin.again (.call (.builtin "type.__call__") ⟨.ref 606 :: [.str (S b) t], []⟩)) (And.intro rfl ?_)
  refine codeAny_call_builtin_at (Code.quiet_builtin _ (by decide +kernel)) entry_typeCall (check_slot tc_kind tc_split typ (tc_args _ _ _) ?_)
  unfold Builtin.«type.__call__»
  repeat (first | ((fail_if_success (with_reducible show wpAny _ _ (getAttr _ _ _) _ _ _)); (first | simp only [List.isEmpty_cons, Bool.false_eq_true, if_false] | lk)))
  refine cls_sm (K := KK w.params) (F := F) H.X (by k_is) (by k_is) (by k_is) (by k_is) rfl ?_
  refine wpAny_bind (wpAny_holding ?_)
  have e1 : (ktrTop dp un gd cn cs L a ccd cl outer).under (.builtin "type.__call__" ⟨.ref 606 :: [.str (S b) t], []⟩) = ktrTop (dp + 1) (un + (Code.builtin "type.__call__" ⟨.ref 606 :: [.str (S b) t], []⟩).cUnits) (pushGuards (Code.builtin "type.__call__" ⟨.ref 606 :: [.str (S b) t], []⟩).guards gd) cn cs L a ccd cl outer := rfl
  rw [e1]
  have e2 : (Code.builtin "type.__call__" ⟨.ref 606 :: [.str (S b) t], []⟩).cUnits ≤ 3 := Nat.le_of_ble_eq_true (by kernel_rfl)
  refine ionew_ok H F N (by omega) (by omega) ?_
  intro x dx h' tk F' N' l1 l2
  dsimp only
  have X2 := H.X.keeps F'.keep
  have I2 : InstAt h' x (instObj 606 dx) 606 (some (dictOf [] 0)) := InstAt.of_news N' (.head _) (.tail _ (.head _))
  have s1 : Looks (model PG w) h' (isInstance (.ref x) (.ref 606)) true := I2.type.andThen (looks_mroIn X2 (by k_is))
  refine wpAny_bind (s1.at ?_)
  rw [if_neg (by simp)]
  refine wpAny_bind (wpAny_holding ?_)
  refine special_fn (K := KK w.params) (C := 606) (f := 376) X2 I2 (by k_is) (by k_is) ?_
  refine sinit_ok H F' N' (by omega) (by omega) l2 l1 ?_
  intro k v tp h3 tk3 F3 N3
  exact wpAny_pure (h _ _ _ _ _ _ _ F3 N3 l1 l2)

end
section

noncomputable def wlL : List Nat := [97, 98, 99, 100, 102, 101, 103, 104, 105, 106, 107, 108, 109, 110, 111, 112, 113, 114, 115, 116, 117, 118, 119, 120, 121, 122, 65, 66, 67, 68, 69, 70, 71, 72, 73, 74, 75, 76, 77, 78, 79, 80, 81, 82, 83, 84, 85, 86, 87, 88, 89, 90, 48, 49, 50, 51, 52, 53, 54, 55, 56, 57, 95, 223, 224, 225, 226, 227, 228, 229, 230, 231, 232, 233, 234, 235, 236, 237, 238, 239, 240, 241, 242, 243, 244, 245, 246, 248, 249, 250, 251, 252, 253, 254, 255, 192, 193, 194, 195, 196, 197, 198, 199, 200, 201, 202, 203, 204, 205, 206, 207, 208, 209, 210, 211, 212, 213, 214, 216, 217, 218, 219, 220, 221, 222]
theorem litW : Str.ofString "abcdfeghijklmnopqrstuvwxyzABCDEFGHIJKLMNOPQRSTUVWXYZ0123456789_ßàáâãäåæçèéêëìíîïðñòóôõöøùúûüýþÿÀÁÂÃÄÅÆÇÈÉÊËÌÍÎÏÐÑÒÓÔÕÖØÙÚÛÜÝÞ" = S wlL := by decide +kernel
theorem litH : Str.ofString "#" = S [35] := by decide +kernel
theorem litWs : Str.ofString " \t\r\n" = S wsL := by decide +kernel
theorem hwlL : ∀ c, wlL.contains c = true → quL.contains c = false := by
  intro c h
  have h2 : ∀ x ∈ wlL, quL.contains x = false := by decide +kernel
  exact h2 c (by simpa using h)
noncomputable def shI (w : World) (k v : Nat → Tok) (io pb fs : Nat) (wl : List Nat) (ws : Bool) (cm : List Nat) : List DictEntry :=
  [DE w "instream" (k 0) (.ref io), DE w "infile" (k 1) .none, DE w "posix" (k 2) (.bool true), DE w "eof" (k 3) .none, DE w "commenters" (k 4) (.str (S cm) (v 4)), DE w "wordchars" (k 5) (.str (S wl) (v 5)),
   DE w "whitespace" (k 6) (.str (S wsL) (v 6)), DE w "whitespace_split" (k 7) (.bool ws), DE w "quotes" (k 8) (.str (S quL) (v 8)), DE w "escape" (k 9) (.str (S esL) (v 9)), DE w "escapedquotes" (k 10) (.str (S eqL) (v 10)),
   DE w "state" (k 11) (.str (S [32]) (v 11)), DE w "pushback" (k 12) (.ref pb), DE w "lineno" (k 13) (.int 1 (v 13)), DE w "debug" (k 14) (.int 0 (v 14)), DE w "token" (k 15) (.str (S []) (v 15)),
   DE w "filestack" (k 16) (.ref fs), DE w "source" (k 17) .none, DE w "_punctuation_chars" (k 18) (.str (S []) (v 18))]
theorem shinit_ok {R : Result → Shared → Prop} {x dx : Nat} {b : List Nat} {t : Tok} (H : Here w A₀ base h₀ outer cs mean mg mb) (F : Fr h₀ L s.heap m)
    (N : News h₀ L s.heap ((x, instObj 741 dx) :: (dx, dictOf [] 0) :: news)) (hdp : dp ≤ 700) (hun : un ≤ 1000)
    (h1 : dx < x) (hnew2 : ∀ q ∈ news, q.1 < dx) (hnew3 : ∀ q ∈ news, q.1 ≠ dx) (hB : b.length ≤ 100000)
    (h : ∀ (io dio pb fs : Nat) k v ki vi tp h' tk, Fr h₀ L h' m → News h₀ L h' ((fs, dqO) :: (pb, dqO) :: (io, instObj 606 dio) :: (dio, dictOf (ioD w ki vi b 0 tp) 3) :: (x, instObj 741 dx) :: (dx, dictOf (shI w k v io pb fs wlL false [35]) 19) :: news) → x < dio → dio < io → io < pb → pb < fs → (∀ q ∈ news, q.1 < dio) → R (.ok (.ret .none)) { s with heap := h', toks := tk }) :
    codeAny (model PG w) (ktrTop dp un gd cn cs L a ccd cl outer) (.call (.ref 665) ⟨[.ref x, .str (S b) t], [(Str.ofString "posix", .bool true)]⟩) R s := by
  obtain ⟨HB, X, T, hk⟩ := H
  refine' code_def (binds := [(Str.ofString "self", .ref x), (Str.ofString "instream", .str (S b) t), (Str.ofString "infile", .none), (Str.ofString "posix", .bool true), (Str.ofString "punctuation_chars", .bool false)]) ?k1 ?k2 ?k3 ?k4 ?k5 ?kA ?kF ?kK ?k6 ?k7 ?k8 ?k9 ?kB ?_ ?c2 ?c3 ?c4 ?c5
  (case kA => exact rfl); (case kF => exact rfl); (case kK => assumption); (case k1 => k_asm); (case k2 => k_asm); (case k3 => k_asm); (case k4 => k_asm); (case k5 => k_asm); (case k6 => k_is)
  (case k7 => k_is); (case k8 => ktr_room); (case k9 => exact binds_K (by k_in) rfl (by k_is) rfl rfl rfl); (case c5 => decide); (case kB => exact locs rfl); (case c2 => exact rfl); (case c3 => exact rfl); (case c4 => exact rfl)
  intro g' L' h' FG' F' N' B' X' T'
  (try dsimp only)
  dsimp only [List.reverse, List.reverseAux] at F'
  k_fold
  (repeat' ((fail_if_success (with_reducible show wpAny _ _ (exec (Stmt.While _ _ _ _) _) _ _ _)); (fail_if_success (with_reducible show wpAny _ _ (exec (Stmt.For _ _ _ _ _) _) _ _ _)); first | ((with_reducible show wpAny _ _ (call (Value.type "collections.deque") _ _) _ _ _); ((with_reducible show wpAny _ _ (call (Value.type "collections.deque") _ _) _ _ _); k_dflt (refine' deque_new (by k_asm) (by k_asm) ?_); intro D' h' F' N' l1; (have l3 := l1 _ (.head _)); (try dsimp only at l3); (k_lt2 l3); (try k_sweep))) | ((with_reducible show wpAny _ _ (call (Value.ref 606) _ _) _ _ _); k_dflt (refine' sio_ok ⟨by k_asm, by k_asm, by k_asm, by walk_at "k4"⟩ (by k_asm) (by k_asm) (by ktr_room) (by k_units)  ?_; intro io dio k v tp h' tk F' N' l1 l2; (have l3 := l1 _ (.head _)); (have l4 := l1 _ (.tail _ (.head _))); (try dsimp only at l3 l4); (k_lt2 l3); (k_lt2 l4); (try k_sweep))) | ((with_reducible show wpAny _ _ (call (Value.ref _) _ _) _ _ _); k_dflt (refine' gtok_ok ⟨by k_asm, by k_asm, by k_asm, by walk_at "k4"⟩ (by k_asm) (by k_asm) (by ktr_room) (by k_units) (by omega) (by omega) (by omega) (by k_all) (by k_all) (by omega) (by assumption) (by assumption) (by assumption) (by assumption) (by assumption) ?_ ?_ ?_; (all_goals (intros; (try k_sweep))))) | ((with_reducible show wpAny _ _ (call (Value.ref _) _ _) _ _ _); k_dflt (refine' gtok_none ⟨by k_asm, by k_asm, by k_asm, by walk_at "k4"⟩ (by k_asm) (by k_asm) (by ktr_room) (by k_units) (by omega) (by omega) (by omega) (by k_all) (by omega) (by omega) (by assumption) (by assumption) ?_; intros; (try k_sweep))) | ((with_reducible show wpAny _ _ (call (Value.ref _) _ _) _ _ _); k_dflt (refine' rtok_two ⟨by k_asm, by k_asm, by k_asm, by walk_at "k4"⟩ (by k_asm) (by k_asm) (by ktr_room) (by k_units) (by omega) (by omega) (by omega) (by k_all) (by k_all) (by omega) (by assumption) (by assumption) (by assumption) ?_ ?_ ?_; (all_goals (intros; (try k_sweep))))) | ((with_reducible show wpAny _ _ (call (Value.ref _) _ _) _ _ _); k_dflt (refine' rtok_none ⟨by k_asm, by k_asm, by k_asm, by walk_at "k4"⟩ (by k_asm) (by k_asm) (by ktr_room) (by k_units) (by omega) (by omega) (by omega) (by k_all) (by omega) (by omega) ?_; intros; (try k_sweep))) | ((with_reducible show wpAny _ _ (call (Value.ref 552) _ _) _ _ _); k_dflt (refine' sread_end ⟨by k_asm, by k_asm, by k_asm, by walk_at "k4"⟩ (by k_asm) (by k_asm) (by ktr_room) (by k_units) (by omega) (by omega) ?_; intros; (try k_sweep))) | ((with_reducible show wpAny _ _ (call (Value.ref 552) _ _) _ _ _); k_dflt (refine' sread_one ⟨by k_asm, by k_asm, by k_asm, by walk_at "k4"⟩ (by k_asm) (by k_asm) (by ktr_room) (by k_units) (by omega) (by k_all) (by omega) (by assumption) ?_; intros; (try k_sweep))) | ((with_reducible show wpAny _ _ (call (Value.ref 390) _ _) _ _ _); k_dflt (refine' scheck_ok ⟨by k_asm, by k_asm, by k_asm, by walk_at "k4"⟩ (by k_asm) (by k_asm) (by ktr_room) (by k_units)  ?_; intros; (try k_sweep))) | ((with_reducible show wpAny _ _ (call (Value.ref 72) _ _) _ _ _); k_dflt (refine' index_ok ⟨by k_asm, by k_asm, by k_asm, by walk_at "k4"⟩ (by k_asm) (by k_asm) (by ktr_room) (by k_units) (by decide) ?_; intros; (try k_sweep))) | ((with_reducible show wpAny _ _ (setAttr (Value.ref _) _ _) _ _ _); (k_here; (with_reducible refine' setA (by k_dflt k_asm) (by k_dflt k_asm) (by k_dflt k_asm) (by k_dflt k_mem) (by k_dflt k_mem) (by with_reducible first | exact cls741 | exact cls606) (by first | with_reducible exact shP_token | with_reducible exact shP_state1 | with_reducible exact shP_state0 | k_dflt exact ioP_pos) (by k_dflt k_upd) ?_); intro _ _ _; (try k_sweep))) | ((with_reducible show wpAny _ _ (getAttr (Value.ref _) _ _) _ _ _); (k_here; (with_reducible refine' getA (by k_dflt k_asm) (by k_dflt k_asm) (by k_dflt k_asm) (by k_dflt k_mem) (by k_dflt k_mem) (by with_reducible first | exact cls741 | exact cls606) (by with_reducible first | exact shA_state1 | exact shA_token | exact shA_posix | exact shA_debug | exact shA_quotes | exact shA_escape | exact shA_whitespace | exact shA_instream | exact shA_whitespace_split | exact shA_commenters | exact shA_wordchars | exact shA_escapedquotes | exact shA__punctuation_chars | exact shA_eof | exact shA_state0 | exact shA_infile | exact shA_pushback | exact shA_lineno | exact shA_filestack | exact shA_source | exact ioA_buf | exact ioA_pos | exact ioA_newline) ?_))) | ((with_reducible show wpAny _ _ (getAttr (Value.ref _) _ _) _ _ _); (k_here; k_dflt (refine' get_own (by k_asm) (by k_asm) (by k_inst) (by k_is) (by k_is) (by k_is) (by k_is) (by k_get) (by k_handed) ?_; k_whole))) | ((with_reducible show wpAny _ _ (inplaceOp Operator.Add (Value.str _ _) (Value.str _ _)) _ _ _); (refine' iaddS (by walk_at "my size") ?_; intro _ _)) | (k_unfold; (try dsimp only)) | walk1 | dsimp only))
  rename_i kF kN _ _
  rw [litW, litH, litWs] at kN
  exact h _ _ _ _ (fun i => List.getD [_, _, _, _, _, _, _, _, _, _, _, _, _, _, _, _, _, _, _] i 0) (fun i => List.getD [0, 0, 0, 0, _, _, _, 0, _, _, _, _, 0, _, _, _, 0, 0, _] i 0) _ _ _ _ _ kF kN (by omega) (by omega) (by omega) (by omega) (fun q hq => Nat.lt_trans (hnew2 q hq) (by omega))

end
section
theorem shmake_ok {b : List Nat} {t : Tok} (H : Here w A₀ base h₀ outer cs mean mg mb) (F : Fr h₀ L s.heap m)
    (N : News h₀ L s.heap news) (hdp : dp ≤ 690) (hun : un ≤ 900) (hB : b.length ≤ 100000)
    (h : ∀ (x dx io dio pb fs : Nat) k v ki vi tp h' tk, Fr h₀ L h' m → News h₀ L h' ((fs, dqO) :: (pb, dqO) :: (io, instObj 606 dio) :: (dio, dictOf (ioD w ki vi b 0 tp) 3) :: (x, instObj 741 dx) :: (dx, dictOf (shI w k v io pb fs wlL false [35]) 19) :: news) →
      (∀ q ∈ news, q.1 < dx) → (∀ q ∈ news, q.1 ≠ dx) → dx < x → x < dio → dio < io → io < pb → pb < fs → Q (.ref x) { s with heap := h', toks := tk }) :
    wpAny (model PG w) (ktrTop dp un gd cn cs L a ccd cl outer) (call (.ref 741) [.str (S b) t] [(Str.ofString "posix", .bool true)]) Q E s := by
  refine call_cls (K := KK w.params) (C := 741) (fI := 665) F H.X N (by k_is) (by k_is) (by k_is) ?_
  intro x dx h' F' N' l1 l2
  have e1 : (ktrTop dp un gd cn cs L a ccd cl outer).under (.builtin "type.__call__" ⟨.ref 741 :: [.str (S b) t], [(Str.ofString "posix", .bool true)]⟩) = ktrTop (dp + 1) (un + (Code.builtin "type.__call__" ⟨.ref 741 :: [.str (S b) t], [(Str.ofString "posix", .bool true)]⟩).cUnits) (pushGuards (Code.builtin "type.__call__" ⟨.ref 741 :: [.str (S b) t], [(Str.ofString "posix", .bool true)]⟩).guards gd) cn cs L a ccd cl outer := rfl
  rw [e1]
  have e2 : (Code.builtin "type.__call__" ⟨.ref 741 :: [.str (S b) t], [(Str.ofString "posix", .bool true)]⟩).cUnits ≤ 3 := Nat.le_of_ble_eq_true (by kernel_rfl)
  refine shinit_ok H F' N' (by omega) (by omega) l2 l1 (fun q hq => Nat.ne_of_lt (l1 q hq)) hB ?_
  intro io dio pb fs k v ki vi tp h3 tk3 F3 N3 a1 a2 a3 a4 _
  exact ⟨rfl, h x dx io dio pb fs k v ki vi tp h3 tk3 F3 N3 l1 (fun q hq => Nat.ne_of_lt (l1 q hq)) l2 a1 a2 a3 a4⟩

end
section
theorem newsReo {h₀ h : Heap} {L : Addr} {f p i d x y : Addr × Obj} {l : List (Addr × Obj)} (N : News h₀ L h (f :: p :: i :: d :: x :: y :: l)) : News h₀ L h (i :: d :: x :: y :: f :: p :: l) := fun q hq => N q (by
  simp only [List.mem_cons] at hq ⊢
  rcases hq with h | h | h | h | h | h | h <;> simp [h])
theorem shIP_ws {k v : Nat → Tok} {io pb fs : Nat} {wl cm : List Nat} : PutOf w 741 (shI w k v io pb fs wl false cm) 19 (Str.ofString "whitespace_split") (.bool true) (shI w k v io pb fs wl true cm) := ⟨rfl, by k_is, fun _ _ => rfl, rfl, Nat.le_of_ble_eq_true rfl⟩
theorem shIP_cm {k v : Nat → Tok} {io pb fs : Nat} {wl cm : List Nat} {t : Tok} : PutOf w 741 (shI w k v io pb fs wl true cm) 19 (Str.ofString "commenters") (.str (S []) t) (shD w k (fun i => if i = 4 then t else v i) io pb fs wl (some 32) (v 11) [] (v 15)) := ⟨rfl, by k_is, fun _ _ => rfl, rfl, Nat.le_of_ble_eq_true rfl⟩
theorem split_ok {b : List Nat} {t : Tok} (H : Here w A₀ base h₀ outer cs mean mg mb) (XB : (KK w.params).In base) (TB : Top VV LS mean mg mb base) (D : KtsDicts (outer.filterMap (·.frame)) h₀) (F : Fr h₀ L s.heap m)
    (N : News h₀ L s.heap news) (hdp : dp ≤ 680) (hun : un ≤ 800) (hB : b.length ≤ 100000) (hb : ∀ c ∈ b, c ≠ 10)
    (hok : ∀ ts', lexN (b.length + 1) b = some ts' → ∀ (D : Nat) g' h' tk vals c, KtsTurn (outer.filterMap (·.frame)) h₀ g' → Fr g' L h' m → News g' L h' ((D, listOf vals.toArray c) :: news) → StrsAre vals (ts'.map S) → Below A₀ base outer g' → (KK w.params).In g' → Top VV LS mean mg mb g' →
      KtsDicts (outer.filterMap (·.frame)) g' → (∀ q ∈ news, q.1 < D) → Q (.ref D) { s with heap := h', toks := tk })
    (hbad : lexN (b.length + 1) b = none → ∀ e t vs h' tk g, Fr h₀ L g m → RaisedS base g (envX cn cs L a ccd [] :: outer) e (.type "ValueError") t vs news h' → g.UpToSlots h' → E (.ref e) { s with heap := h', toks := tk }) :
    wpAny (model PG w) (ktrTop dp un gd cn cs L a ccd [] outer) (call (.ref 753) [.str (S b) t]) Q E s := by
  obtain ⟨HB, X, T, hk⟩ := H
  refine wpAny_call ?_
  refine' code_defS (binds := [(Str.ofString "s", .str (S b) t), (Str.ofString "comments", .bool false), (Str.ofString "posix", .bool true)]) ?k1 ?k2 ?k3 ?k4 ?k5 XB TB D KtsTurn.refl ?kA ?k6 ?k7 ?k8 ?k9 ?kB ?_ ?kK ?c2 ?c3 ?c4 ?c5
  (case kA => exact rfl); (case kK => assumption); (case k1 => k_asm); (case k2 => k_asm); (case k3 => k_asm); (case k4 => k_asm); (case k5 => k_asm); (case k6 => k_is)
  (case k7 => k_is); (case k8 => ktr_room); (case k9 => exact binds_K (by k_in) rfl (by k_is) rfl rfl rfl); (case c5 => decide); (case kB => exact locs rfl); (case c2 => exact rfl); (case c3 => exact rfl); (case c4 => exact rfl)
  intro g' L' h' FG' F' N' B' X' T' D'
  (try dsimp only)
  dsimp only [List.reverse, List.reverseAux] at F'
  k_fold
  (repeat' ((fail_if_success (with_reducible show wpAny _ _ (call (Value.ref 741) _ _) _ _ _)); first  | (k_unfold; (try dsimp only)) | walk1 | dsimp only))
  refine' shmake_ok (b := b) ⟨?k1, ?k2, ?k3, ?k4⟩ ?k5 ?k6 ?k7 ?k8 ?k9 ?_
  (case k1 => k_asm); (case k2 => k_asm); (case k3 => k_asm); (case k4 => first | exact rfl | assumption); (case k5 => k_asm); (case k6 => k_asm); (case k7 => ktr_room); (case k8 => k_units); (case k9 => assumption)
  intro x dx io dio pb fs k v ki vi tp h2 tk2 F2 N2 l1 l7 l2 l3 l4 l5 l6
  (repeat' ((fail_if_success (with_reducible show wpAny _ _ (call (Value.ref 741) _ _) _ _ _)); first | ((with_reducible show wpAny _ _ (setAttr (Value.ref _) _ _) _ _ _); (k_here; (with_reducible refine' setA (by k_dflt k_asm) (by k_dflt k_asm) (by k_dflt k_asm) (by k_dflt k_mem) (by k_dflt k_mem) cls741 (by first | with_reducible exact shIP_ws | with_reducible exact shIP_cm) (by k_dflt k_upd) ?_); intro _ _ _; (try k_sweep))) | ((with_reducible show wpAny _ _ (setAttr (Value.ref _) _ _) _ _ _); (k_here; (with_reducible refine' setA (by k_dflt k_asm) (by k_dflt k_asm) (by k_dflt k_asm) (by k_dflt k_mem) (by k_dflt k_mem) (by with_reducible first | exact cls741 | exact cls606) (by first | with_reducible exact shP_token | with_reducible exact shP_state1 | with_reducible exact shP_state0 | k_dflt exact ioP_pos) (by k_dflt k_upd) ?_); intro _ _ _; (try k_sweep))) | (k_unfold; (try dsimp only)) | walk1 | dsimp only))
  rename Fr g' L' _ _ => kF
  rename News g' L' _ _ => kN
  have lt1 : ∀ q ∈ (fs, dqO) :: (pb, dqO) :: news, q.1 ≠ dio := by
    intro q hq
    rcases List.mem_cons.mp hq with rfl | hq
    · show fs ≠ dio; omega
    · rcases List.mem_cons.mp hq with rfl | hq
      · show pb ≠ dio; omega
      · exact Nat.ne_of_lt (Nat.lt_trans (l1 q hq) (by omega))
  have lt2 : ∀ q ∈ (fs, dqO) :: (pb, dqO) :: news, q.1 ≠ dx := by
    intro q hq
    rcases List.mem_cons.mp hq with rfl | hq
    · show fs ≠ dx; omega
    · rcases List.mem_cons.mp hq with rfl | hq
      · show pb ≠ dx; omega
      · exact Nat.ne_of_lt (l1 q hq)
  refine' list_lex (news := (fs, dqO) :: (pb, dqO) :: news) ⟨?k1, ?k2, ?k3, ?k4⟩ XB TB kF (newsReo kN) ?k7 ?k8 l2 l3 l4 lt1 lt2 hB hb hwlL (.tail _ (.head _)) (.head _) ?_ ?_
  (case k1 => k_asm); (case k2 => k_asm); (case k3 => k_asm); (case k4 => exact rfl); (case k7 => ktr_room); (case k8 => k_units)
  · intro D₂ ts' hts hD g2 h2' tk2 vals c T2 F2 N2 hv B2 X2 P2
    have N5 : News g2 L' h2' ((D₂, listOf vals.toArray c) :: news) := fun q hq => N2 q (by
      rcases List.mem_cons.mp hq with rfl | hq
      · exact .head _
      · exact .tail _ (.tail _ (.tail _ hq)))
    refine ExecsK.rt ?_
    refine leaveS_r (s' := { s with heap := h2', toks := tk2 }) F2 N5 T2 ?_
    intro h₀' T3 F3 N3 B3 X3 P3 D3
    exact hok ts' hts D₂ h₀' _ _ vals c T3 F3 N3 hv B3 X3 P3 D3 (fun q hq => hD q (.tail _ (.tail _ hq)))
  · intro hts e t vs h' tk g Fg R U
    (repeat' ((fail_if_success (with_reducible show wpAny _ _ (call (Value.ref 741) _ _) _ _ _)); first  | (k_unfold; (try dsimp only)) | walk1 | dsimp only))
    exact hbad hts _ _ _ _ _ _ FG' (RaisedS.drop (by assumption) (fun _ hq => .tail _ (.tail _ hq))) (by assumption)

end
end
section
theorem gm_translate {A : Around} {x : Str} {t : Tok} {pl : Sem Bool} {Q : Value × List Value → Shared → Prop} (h : Q (.builtin "str.translate", [.str x t]) s) : wpAny (model PG w) A (getMethod (.str x t) (Str.ofString "translate") pl) Q E s :=
  getMethod_builtin (typeIs_str _ _ _) PySem.F.plainAttrs_str PySem.F.slot_str_translate PySem.F.type_str_translate (fun a e => by cases e) h
theorem escape_ok {l : List Nat} {t : Tok} (H : Here w A₀ base h₀ outer cs mean mg mb) (F : Fr h₀ L s.heap m) (N : News h₀ L s.heap news) (hdp : dp ≤ 800) (hun : un ≤ 2000) (hl : ∀ c ∈ l, c ∈ sgL) (hz : l.length ≤ 1000)
    (h : ∀ h' tk t', Fr h₀ L h' m → News h₀ L h' news → Q (.str (S (l.flatMap escS)) t') { s with heap := h', toks := tk }) :
    wpAny (model PG w) (ktrTop dp un gd cn cs L a ccd cl outer) (call (.ref 51) [.str (S l) t]) Q E s := by
  obtain ⟨HB, X, T, hk⟩ := H
  refine wpAny_call ?_
  refine' code_def (binds := [(Str.ofString "pattern", .str (S l) t)]) ?k1 ?k2 ?k3 ?k4 ?k5 ?kA ?kF ?kK ?k6 ?k7 ?k8 ?k9 ?kB ?_ ?c2 ?c3 ?c4 ?c5
  (case kA => exact rfl); (case kF => exact rfl); (case kK => assumption); (case k1 => k_asm); (case k2 => k_asm); (case k3 => k_asm); (case k4 => k_asm); (case k5 => k_asm); (case k6 => k_is)
  (case k7 => k_is); (case k8 => ktr_room); (case k9 => exact BindsTo.of_eq rfl); (case c5 => decide); (case kB => exact locs rfl); (case c2 => exact rfl); (case c3 => exact rfl); (case c4 => exact rfl)
  intro g' L' h' FG' F' N' B' X' T'
  (try dsimp only)
  dsimp only [List.reverse, List.reverseAux] at F'
  k_fold
  (repeat' ((fail_if_success (with_reducible show wpAny _ _ (exec (Stmt.While _ _ _ _) _) _ _ _)); (fail_if_success (with_reducible show wpAny _ _ (exec (Stmt.For _ _ _ _ _) _) _ _ _)); first | ((with_reducible show wpAny _ _ (call (Value.builtin "str.translate") _ _) _ _ _); (k_here; k_dflt (refine' translate_call (by k_asm) (by k_asm) (by k_asm) (by assumption) (by omega) (by exact rfl) ?_); intro _ _ _ _ _; (try k_sweep))) | ((with_reducible show wpAny _ _ (getMethod (Value.str _ _) _ _) _ _ _); with_reducible refine gm_translate ?_) | (k_unfold; (try dsimp only)) | walk1 | dsimp only))
  all_goals exact h _ _ _ (by assumption) (by assumption)

end
section
theorem map_nolen : typeLookup (.type "map") "__len__" = pure none := by rw [typeLookup_type, builtinLookup_eq_fast]; kernel_rfl
theorem map_nohint : typeLookup (.type "map") "__length_hint__" = pure none := by rw [typeLookup_type, builtinLookup_eq_fast]; kernel_rfl
theorem newsMv {h₀ h : Heap} {L : Addr} {d x y i : Addr × Obj} {l : List (Addr × Obj)} (N : News h₀ L h (d :: x :: y :: i :: l)) : News h₀ L h (i :: x :: y :: d :: l) := fun q hq => N q (by
  simp only [List.mem_cons] at hq ⊢
  rcases hq with h | h | h | h | h <;> simp [h])
theorem map_loop {M T D P n : Nat} {vals : List Value} (H : Here w A₀ base h₀ outer cs mean mg mb) (hdp : dp ≤ 780) (hun : un ≤ 1900) (hP : (P, listOf vals.toArray n) ∈ news) {I : Nat}
    (hlt : ∀ q ∈ news, q.1 < I) (hIT : I < T) (hTM : T < M) (hMD : M < D) (hz : vals.length ≤ 100000)
    {Rk : Result → Shared → Prop} {s₀ : Shared} : ∀ (lsr : List (List Nat)) (rest pre acc : List Value) (accL : List (List Nat)) (c tk₁ : Nat) (h₁ : Heap), vals = pre ++ rest → StrsAre rest (lsr.map S) → (∀ l ∈ lsr, (∀ x ∈ l, x ∈ sgL) ∧ l.length ≤ 1000) →
    StrsAre acc (accL.map S) → acc.length = pre.length → Fr h₀ L h₁ m → News h₀ L h₁ ((I, itO P pre.length) :: (M, mpO T) :: (T, tuO I) :: (D, listOf acc.toArray c) :: news) →
    (∀ h' tk vals' c', Fr h₀ L h' m → News h₀ L h' ((D, listOf vals'.toArray c') :: news) → StrsAre vals' ((accL ++ lsr.map (·.flatMap escS)).map S) → Rk (.ok (.ret .none)) { s₀ with heap := h', toks := tk }) →
    codeAny (model PG w) (ktrTop dp un gd cn cs L a ccd cl outer) (.builtin "list.extend.loop" ⟨[.ref D, .ref M, .none], []⟩) Rk { s₀ with heap := h₁, toks := tk₁ } := by
  intro lsr
  induction lsr with
  | nil =>
    intro rest pre acc accL c tk₁ h₁ hv hr hsg ha hlen F N hok
    cases hr
    rw [List.append_nil] at hv
    refine codeAny_builtin PySem.F.entry_extend_loop ?_
    rw [Around.under_plainId PySem.F.plain_extend_loop _]
    show wpAny _ _ (pyNext (.ref M) >>= _) _ _ _
    refine wpAny_bind (map_next_end (I := I) (T := T) (P := P) (i := pre.length) (items := vals.toArray) rfl (N.get (.tail _ (.head _))) (N.get (.tail _ (.tail _ (.head _)))) (N.get (.head _)) (News.isList N (.tail _ (.tail _ (.tail _ (.tail _ hP))))) (by rw [hv]; simp) ?_)
    intro h' hext
    have hne : ∀ q ∈ (M, mpO T) :: (T, tuO I) :: (D, listOf acc.toArray c) :: news, q.1 ≠ I := by
      intro q hq
      simp only [List.mem_cons] at hq
      rcases hq with rfl | rfl | rfl | hq
      · show M ≠ I; omega
      · show T ≠ I; omega
      · show D ≠ I; omega
      · exact Nat.ne_of_lt (hlt q hq)
    have hIL : I ≠ L := (N _ (.head _)).2.1
    have hI0 : h₀.get? I = none := (N _ (.head _)).2.2
    have F2 : Fr h₀ L h' m := by
      obtain ⟨⟨oL, es, ep, hL, hLd, hLk, hLf⟩, hk, hab⟩ := F
      exact ⟨⟨oL, es, ep, hext L oL (Ne.symm hIL) hL, hLd, hLk, hLf⟩, fun b o e => hext b o (fun z => by rw [z, hI0] at e; cases e) (hk b o e), hab⟩
    have N2 : News h₀ L h' ((D, listOf acc.toArray c) :: news) := fun q hq => by
      have h5 := N q (.tail _ (.tail _ (.tail _ hq)))
      exact ⟨hext _ _ (hne q (.tail _ (.tail _ hq))) h5.1, h5.2⟩
    exact wpAny_pure (hok h' tk₁ acc c F2 N2 (by simpa using ha))
  | cons l lsr ih =>
    intro rest pre acc accL c tk₁ h₁ hv hr hsg ha hlen F N hok
    cases hr with
    | cons x t hr' =>
    rename_i rest'
    refine codeAny_builtin PySem.F.entry_extend_loop ?_
    rw [Around.under_plainId PySem.F.plain_extend_loop _]
    show wpAny _ _ (pyNext (.ref M) >>= _) _ _ _
    have hne : ∀ q ∈ (M, mpO T) :: (T, tuO I) :: (D, listOf acc.toArray c) :: news, q.1 ≠ I := by
      intro q hq
      simp only [List.mem_cons] at hq
      rcases hq with rfl | rfl | rfl | hq
      · show M ≠ I; omega
      · show T ≠ I; omega
      · show D ≠ I; omega
      · exact Nat.ne_of_lt (hlt q hq)
    have hIL : I ≠ L := (N _ (.head _)).2.1
    have hI0 : h₀.get? I = none := (N _ (.head _)).2.2
    refine wpAny_bind (map_next_item (I := I) (T := T) (P := P) (i := pre.length) (items := vals.toArray) (x := .str (S l) t) (N.get (.tail _ (.head _))) (N.get (.tail _ (.tail _ (.head _)))) (N.get (.head _)) (News.isList N (.tail _ (.tail _ (.tail _ (.tail _ hP))))) (by rw [hv]; simp) (by omega) ?_)
    intro h' hI' hsame
    have F2 := Fr.change F hsame hIL hI0
    have N2 := News.setHead N hne hsame hI'
    refine escape_ok (dp := dp) (un := un + 2) (gd := gd) (cn := cn) (cs := cs) (a := a) (ccd := ccd) (cl := cl) (outer := outer) (s := { s₀ with heap := h', toks := tk₁ }) H F2 N2 (by omega) (by omega) (hsg l (.head _)).1 (hsg l (.head _)).2 ?_
    intro h3 tk3 t3 F3 N3
    show wpAny _ _ (Builtin.List.listUpdate (.ref D) (·.push (.str (S (l.flatMap escS)) t3)) >>= fun _ => again (.builtin "list.extend.loop" ⟨[.ref D, .ref M, .none], []⟩)) _ _ _
    refine wpAny_bind ?_
    show wpAny _ _ (updateSeq D (·.push (.str (S (l.flatMap escS)) t3))) _ _ _
    have hD := N3.get (a := D) (o := listOf acc.toArray c) (.tail _ (.tail _ (.tail _ (.head _))))
    have hl1 : acc.length + 1 ≤ 100000 := by
      rw [hlen]
      have := congrArg List.length hv
      simp only [List.length_append, List.length_cons] at this
      omega
    refine wpAny_updateSeq hD rfl ?_ (by simp only [List.size_toArray, sizeLine_eq]; omega) (by simp only [Array.size_push, List.size_toArray, sizeLine_eq]; omega)
    obtain ⟨F4, N4⟩ := news_upd (pre := [(I, itO P (pre.length + 1)), (M, mpO T), (T, tuO I)]) (post := news) (d := D) (o := listOf acc.toArray c) (o' := listOf (acc ++ [Value.str (S (l.flatMap escS)) t3]).toArray (c + 1)) (f := Obj.mapSeq (·.push (Value.str (S (l.flatMap escS)) t3))) F3 N3
      (by intro q hq
          simp only [List.mem_cons, List.not_mem_nil, or_false] at hq
          rcases hq with rfl | rfl | rfl
          · show I ≠ D; omega
          · show M ≠ D; omega
          · show T ≠ D; omega) (fun q hq => Nat.ne_of_lt (Nat.lt_trans (hlt q hq) (by omega)))
      (by simp [Obj.mapSeq]) rfl
    refine wpAny_pure ⟨plainId_quiet PySem.F.plain_extend_loop _, ?_⟩
    refine ih rest' (pre ++ [.str (S l) t]) (acc ++ [Value.str (S (l.flatMap escS)) t3]) (accL ++ [l.flatMap escS]) (c + 1) _ _ (by rw [hv]; simp) hr' (fun z hz => hsg z (.tail _ hz)) ?_ (by simp [hlen]) F4 ?_ ?_
    · rw [List.map_append]
      exact ha.append' (.cons _ _ .nil)
    · rw [List.length_append]
      exact N4
    · intro h' tk vals' c' F' N' hv'
      refine hok h' tk vals' c' F' N' ?_
      rw [List.append_assoc] at hv'
      exact hv'
theorem list_map {M T I P n : Nat} {vals : List Value} {ls : List (List Nat)} (H : Here w A₀ base h₀ outer cs mean mg mb) (F : Fr h₀ L s.heap m)
    (N : News h₀ L s.heap ((M, mpO T) :: (T, tuO I) :: (I, itO P 0) :: news)) (hdp : dp ≤ 770) (hun : un ≤ 1800) (hP : (P, listOf vals.toArray n) ∈ news) (hv : StrsAre vals (ls.map S)) (hsg : ∀ l ∈ ls, (∀ x ∈ l, x ∈ sgL) ∧ l.length ≤ 1000)
    (hlt : ∀ q ∈ news, q.1 < I) (hIT : I < T) (hTM : T < M) (hz : vals.length ≤ 100000)
    (hok : ∀ (D : Nat) h' tk vals' c', Fr h₀ L h' m → News h₀ L h' ((D, listOf vals'.toArray c') :: news) → StrsAre vals' ((ls.map (·.flatMap escS)).map S) → M < D → Q (.ref D) { s with heap := h', toks := tk }) :
    wpAny (model PG w) (ktrTop dp un gd cn cs L a ccd cl outer) (call (.type "list") [.ref M]) Q E s := by
  have hlt2 : ∀ q ∈ ((M, mpO T) :: (T, tuO I) :: (I, itO P 0) :: news), q.1 < s.heap.objs.size := fun q hq => Heap.lt_size (N q hq).1
  have hMD : M < s.heap.objs.size := hlt2 _ (.head _)
  refine callType_codes (Q₁ := fun obj s₁ => obj = .ref s.heap.objs.size ∧ s₁ = { s with heap := s.heap.push { cls := .type "list", data := .seq #[] } }) PySem.F.called_list (PySem.F.typeCall_list_1 _) PySem.F.entry_list_init
    (code_list_new _ ⟨rfl, rfl⟩) fun obj s₁ h₁ => ?_
  obtain ⟨rfl, rfl⟩ := h₁
  generalize hDe : s.heap.objs.size = D at *
  have F1 : Fr h₀ L (s.heap.push { cls := .type "list", data := .seq #[] }) m := F.push _
  have N1 := News.push F N ({ cls := .type "list", data := .seq #[] } : Obj) rfl
  rw [hDe] at N1
  have hS := N1.get (.head _)
  refine ⟨⟨_, hS, rfl⟩, PySem.F.args_list_init_2 _ _, ?_⟩
  show wpAny _ _ (do let old ← Builtin.List.listItems (.ref D); Builtin.List.listUpdate (.ref D) (fun _ => #[]); letGo old.toList.reverse; Builtin.List.listExtendWith (.ref D) (.ref M) .none) _ _ _
  refine wpAny_bind ?_
  unfold Builtin.List.listItems
  refine wpAny_bind (wpAny_seqItems hS rfl (wpAny_pure ?_))
  show wpAny _ _ (updateSeq D (fun _ => #[]) >>= fun _ => letGo (#[] : Array Value).toList.reverse >>= fun _ => Builtin.List.listExtendWith (.ref D) (.ref M) .none) _ _ _
  refine wpAny_bind (wpAny_updateSeq hS rfl ?_)
  have hpost : ∀ q ∈ ((M, mpO T) :: (T, tuO I) :: (I, itO P 0) :: news), q.1 ≠ D := fun q hq => Nat.ne_of_lt (hlt2 q hq)
  obtain ⟨F2, N2⟩ := news_upd (pre := []) (d := D) (o := { cls := .type "list", data := .seq #[] }) (o' := listOf #[] 0) (f := Obj.mapSeq (fun _ => (#[] : Array Value))) F1 N1 (fun _ hq => nomatch hq) hpost rfl rfl
  refine wpAny_bind (wpAny_letGo ?_)
  unfold Builtin.List.listExtendWith
  have hM2 := N2.get (a := M) (o := mpO T) (.tail _ (.head _))
  have tM : Shared.TypeIs { s with heap := _ } (.ref M) "map" := (show ∃ o, _ ∧ _ from ⟨_, hM2, rfl⟩)
  refine wpAny_bind (wpAny_typeOf tM ?_)
  have hDM : D ≠ M := by omega
  have e1 : Builtin.List.listSameRef (.ref D) (.ref M) = false := by simp [Builtin.List.listSameRef, hDM]
  have e2 : (Value.type "map" == Value.type "list") = false := by decide
  have e3 : (Value.type "map" == Value.type "tuple") = false := by decide
  simp only [e1, e2, e3, Bool.or_false, Bool.false_eq_true, if_false]
  refine wpAny_bind (map_iter hM2 rfl ?_)
  refine wpAny_bind (wpAny_holding ?_)
  unfold Builtin.List.listLengthHint
  refine wpAny_bind (wpAny_specialOf tM map_nolen ?_)
  show wpAny _ _ (specialOf (Value.ref M) (Str.ofString "__length_hint__") >>= _) _ _ _
  refine wpAny_bind (wpAny_specialOf tM map_nohint ?_)
  refine wpAny_pure ?_
  show wpAny _ _ (rule "list.extend.makes-room" >>= fun _ => Builtin.List.listTouch (.ref D) >>= fun _ => again (.builtin "list.extend.loop" ⟨[.ref D, .ref M, .none], []⟩)) _ _ _
  refine wpAny_bind (wpAny_rule (wpAny_bind ?_))
  show wpAny _ _ (updateSeq D (·.push .none) >>= fun _ => updateSeq D (·.pop)) _ _ _
  refine wpAny_bind (wpAny_updateSeq (N2.get (.head _)) rfl ?_)
  obtain ⟨F4, N4⟩ := news_upd (pre := []) (d := D) (o := listOf #[] 0) (o' := listOf #[.none] 1) (f := Obj.mapSeq (·.push .none)) F2 N2 (fun _ hq => nomatch hq) hpost rfl rfl
  refine wpAny_updateSeq (hz := by seq_fits) (N4.get (.head _)) rfl ?_
  obtain ⟨F5, N5⟩ := news_upd (pre := []) (d := D) (o := listOf #[.none] 1) (o' := listOf #[] 2) (f := Obj.mapSeq (·.pop)) F4 N4 (fun _ hq => nomatch hq) hpost rfl rfl
  refine wpAny_pure ⟨plainId_quiet PySem.F.plain_extend_loop _, ?_⟩
  refine map_loop (s₀ := s) (dp := dp) (un := un + 1) (gd := gd) (cn := cn) (cs := cs) (a := a) (ccd := ccd) (cl := cl) (outer := outer) (vals := vals) (n := n) H (by omega) (by omega) hP hlt hIT hTM hMD hz ls vals [] [] [] 2 _ _ rfl hv hsg .nil rfl F5 (newsMv N5) ?_
  intro h' tk vals' c' F' N' hv'
  exact ⟨rfl, hok D h' tk vals' c' F' N' (by simpa using hv') hMD⟩

end
section

/-- what translate_pattern's loop holds -/
inductive TpI (o0 o1 : Option Value) (ps : List (List Nat)) : Nat → (Str → Option Value) → Obj → Prop
  | mk {i : Nat} {iv : Option Value} {vs : List Value} {c : Nat} (hv : StrsAre vs ((laid ps i).map S)) : TpI o0 o1 ps i (mp_tp o0 o1 iv) (listOf vs.toArray c)
theorem seg400 {p : List Nat} {ps : List (List Nat)} (hz : p.length ≤ 100) (hpd : (spl 42 p).map (·.flatMap escS) = ps) : ∀ l ∈ ps, l.length ≤ 400 := by
  intro l hm
  rw [← hpd] at hm
  obtain ⟨z, hz1, rfl⟩ := List.mem_map.mp hm
  have a1 := ((spl_sub 42 p).1 z hz1).2
  have a2 := escL_len z
  omega
theorem tp_ok {p : List Nat} {t : Tok} (H : Here w A₀ base h₀ outer cs mean mg mb) (F : Fr h₀ L s.heap m) (N : News h₀ L s.heap news) (hdp : dp ≤ 750) (hun : un ≤ 1700) (hl : ∀ c ∈ p, c ∈ sgL) (hz : p.length ≤ 100)
    (h : ∀ h' tk t', Fr h₀ L h' m → News h₀ L h' news → Q (.str (S (tpc p)) t') { s with heap := h', toks := tk }) :
    wpAny (model PG w) (ktrTop dp un gd cn cs L a ccd cl outer) (call (.ref 58) [.str (S p) t]) Q E s := by
  obtain ⟨HB, X, T, hk⟩ := H
  refine wpAny_call ?_
  refine' code_def (binds := [(Str.ofString "path", .str (S p) t)]) ?k1 ?k2 ?k3 ?k4 ?k5 ?kA ?kF ?kK ?k6 ?k7 ?k8 ?k9 ?kB ?_ ?c2 ?c3 ?c4 ?c5
  (case kA => exact rfl); (case kF => exact rfl); (case kK => assumption); (case k1 => k_asm); (case k2 => k_asm); (case k3 => k_asm); (case k4 => k_asm); (case k5 => k_asm); (case k6 => k_is)
  (case k7 => k_is); (case k8 => ktr_room); (case k9 => exact BindsTo.of_eq rfl); (case c5 => decide); (case kB => exact locs rfl); (case c2 => exact rfl); (case c3 => exact rfl); (case c4 => exact rfl)
  intro g' L' h' FG' F' N' B' X' T'
  (try dsimp only)
  dsimp only [List.reverse, List.reverseAux] at F'
  k_fold
  rw [en_tp] at F'
  (repeat' ((fail_if_success (with_reducible show wpAny _ _ (exec (Stmt.While _ _ _ _) _) _ _ _)); (fail_if_success (with_reducible show wpAny _ _ (exec (Stmt.For _ _ _ _ _) _) _ _ _)); (fail_if_success (with_reducible show wpAny _ _ (pyIter _) _ _ _)); first | ((with_reducible show wpAny _ _ (eval (Expr.Name _ _) _) _ _ _); ((with_reducible first | refine' ld_tp_path (by k_dflt k_asm) ?_ | refine' ld_tp_parts (by k_dflt k_asm) ?_ | refine' ld_tp_i (by k_dflt k_asm) ?_))) | (k_unfold; (try dsimp only)) | walk1 | dsimp only))
  rename Fr g' L' _ _ => kF
  rename News g' L' _ _ => kN
  rename StrsAre _ _ => kS
  rename _ = Txt.split _ _ => kE
  rw [kE, split_spl] at kS
  refine map_make kF kN (.head _) ?_
  intro M T I h2 F2 N2 l1 l2 l3
  (repeat' ((fail_if_success (with_reducible show wpAny _ _ (exec (Stmt.While _ _ _ _) _) _ _ _)); (fail_if_success (with_reducible show wpAny _ _ (exec (Stmt.For _ _ _ _ _) _) _ _ _)); (fail_if_success (with_reducible show wpAny _ _ (pyIter _) _ _ _)); first  | (k_unfold; (try dsimp only)) | walk1 | dsimp only))
  refine' list_map (ls := spl 42 p) ⟨?k1, ?k2, ?k3, ?k4⟩ F2 N2 ?k7 ?k8 (.head _) kS ?k9 l1 l2 l3 ?kz ?_
  (case k1 => k_asm); (case k2 => k_asm); (case k3 => k_asm); (case k4 => exact rfl); (case k7 => ktr_room); (case k8 => k_units)
  case k9 =>
    intro l hm
    have := (spl_sub 42 p).1 l hm
    exact ⟨fun x hx => hl x (this.1 x hx), by omega⟩
  case kz =>
    have := StrsAre.length kS
    rw [List.length_map] at this
    have h2 := (spl_sub 42 p).2
    omega
  intro D h3 tk3 vals c F3 N3 hv hMD
  obtain ⟨n, hn⟩ : ∃ n, (spl 42 p).length = n := ⟨_, rfl⟩
  have hvl : vals.length = n := by
    have := StrsAre.len_eq hv
    rw [List.length_map, List.length_map] at this
    omega
  have hn1 : n ≤ 101 := by
    have := (spl_sub 42 p).2
    omega
  have hn0 : 1 ≤ n := by rw [← hn, spl]; simp
  obtain ⟨ps, hpd⟩ : ∃ ps : List (List Nat), (spl 42 p).map (·.flatMap escS) = ps := ⟨_, rfl⟩
  rw [hpd] at hv
  have hps : ps.length = n := by rw [← hpd, List.length_map, hn]
  have hlz : ∀ l ∈ ps, l.length ≤ 400 := seg400 hz hpd
  clear hn
  (repeat' ((fail_if_success (with_reducible show wpAny _ _ (exec (Stmt.While _ _ _ _) _) _ _ _)); (fail_if_success (with_reducible show wpAny _ _ (exec (Stmt.For _ _ _ _ _) _) _ _ _)); (fail_if_success (with_reducible show wpAny _ _ (pyIter _) _ _ _)); first | ((with_reducible show wpAny _ _ (storeName _ _ _) _ _ _); ((with_reducible first | refine' st_tp_path (by k_dflt k_asm) (by k_dflt k_asm) ?_ | refine' st_tp_parts (by k_dflt k_asm) (by k_dflt k_asm) ?_ | refine' st_tp_i (by k_dflt k_asm) (by k_dflt k_asm) ?_); intro _ _ _; (try k_sweep))) | (k_unfold; (try dsimp only)) | walk1 | dsimp only))
  refine For_invV g' rfl rfl ?_
  (repeat' ((fail_if_success (with_reducible show wpAny _ _ (exec (Stmt.While _ _ _ _) _) _ _ _)); (fail_if_success (with_reducible show wpAny _ _ (exec (Stmt.For _ _ _ _ _) _) _ _ _)); (fail_if_success (with_reducible show wpAny _ _ (pyIter _) _ _ _)); first | ((with_reducible show wpAny _ _ (call (Value.builtin "len") _ _) _ _ _); (k_here; (with_reducible show wpAny _ _ (call (Value.builtin "len") [Value.ref _]) _ _ _); k_dflt (refine' lenN (by k_asm) (by k_mem) (by assumption) (by omega) ?_))) | ((with_reducible show wpAny _ _ (eval (Expr.Name _ _) _) _ _ _); ((with_reducible first | refine' ld_tp_path (by k_dflt k_asm) ?_ | refine' ld_tp_parts (by k_dflt k_asm) ?_ | refine' ld_tp_i (by k_dflt k_asm) ?_))) | (k_unfold; (try dsimp only)) | walk1 | dsimp only))
  rename_i kh ktk kt ku kv kR kF kN kK
  clear hvl
  have hDne : ∀ q ∈ ((_, _) :: news : List (Addr × Obj)), q.1 ≠ D := fun q hq => Nat.ne_of_lt (Nat.lt_trans (l1 q hq) (by omega))
  refine iterR (n := n - 2) (o₀ := listOf vals.toArray c) (TpI (some (.str (S p) t)) (some (.ref D)) ps) rfl kR (by decide) (rngA hn1) (rngB n) kF kN hDne (.mk (by rw [laid_zero]; exact hv)) ?_ ?_
  · intro i tt m₁ o₁ h4 tk4 rest Jn hJn hi hs hrest hsub F4 N4
    obtain ⟨hvs⟩ := hs
    rename_i iv vs c'
    rw [mp_tp_i] at F4
    have hi1 : 1 + i < n := lt_two hi
    have hi2 : 1 + i < ps.length := by rw [hps]; exact hi1
    have hi5 : i ≤ 100000 := by omega
    clear hi
    obtain ⟨l, hlm⟩ : ∃ l, ps[1 + i]? = some l := ⟨_, List.getElem?_eq_getElem hi2⟩
    obtain ⟨t5, hx5⟩ := StrsAre.at hvs (j := 1 + i) (y := S l) (by rw [List.getElem?_map, laid_at (Nat.le_of_lt hi2), hlm]; rfl)
    have hll : l.length ≤ 400 := hlz l (List.mem_of_getElem? hlm)
    have hx : vs[(1 + (i : Int)).toNat]? = some (.str (S l) t5) := by rw [toNat1]; exact hx5
    have hvn : vs.length = ps.length := by
      have := StrsAre.len_eq hvs
      rw [List.length_map, laid_len (Nat.le_of_lt hi2)] at this
      exact this
    have hi3 : 1 + i < vs.length := by rw [hvn]; exact hi2
    (repeat' ((fail_if_success (with_reducible show wpAny _ _ (exec (Stmt.While _ _ _ _) _) _ _ _)); (fail_if_success (with_reducible show wpAny _ _ (exec (Stmt.For _ _ _ _ _) _) _ _ _)); (fail_if_success (with_reducible show wpAny _ _ (pyIter _) _ _ _)); first | ((with_reducible show And _ _); first | ((with_reducible refine szE3 (by walk_at "my size") ?_)) | ((with_reducible refine szE2 (by walk_at "my size") ?_)) | ((with_reducible refine szE1 (by walk_at "my size") ?_))) | ((with_reducible show wpAny _ _ (joinParts _ _) _ _ _); first | ((with_reducible refine joinE3 (by walk_at "my size") ?_); intro _ _) | ((with_reducible refine joinE2 (by walk_at "my size") ?_); intro _ _)) | ((with_reducible show wpAny _ _ (setItem (Value.ref _) (Value.int _ _) _) _ _ _); first | ((with_reducible show wpAny _ _ (setItem _ (Value.int (-1) _) _) _ _ _); k_dflt (refine' setHdL (by k_asm) (by k_asm) (by assumption) (by assumption) ?_); intro _ _ _; (try k_sweep)) | (k_dflt (refine' setHd (by k_asm) (by k_asm) (by assumption) (by exact nn1 _) (by exact lt1 (by assumption)) (by rw [toNat1]; assumption) ?_); intro _ _ _; (try k_sweep))) | ((with_reducible show wpAny _ _ (subscriptTail (Expr.Name _ _) (Expr.Name _ _) (Value.ref _) (Value.int _ _)) _ _ _); ((with_reducible show wpAny _ _ (subscriptTail _ _ (Value.ref _) (Value.int (1 + _) _)) _ _ _); k_dflt (refine' itemN (by k_asm) (by exact .head _) (by exact nn1 _) (by exact lt1 (by assumption)) (by assumption) ?_))) | ((with_reducible show wpAny _ _ (formatField (Value.str _ _) _) _ _ _); ((with_reducible refine' fieldS (by walk_at "my size") ?_); intro _ _)) | ((with_reducible show wpAny _ _ (eval (Expr.Name _ _) _) _ _ _); ((with_reducible first | refine' ld_tp_path (by k_dflt k_asm) ?_ | refine' ld_tp_parts (by k_dflt k_asm) ?_ | refine' ld_tp_i (by k_dflt k_asm) ?_))) | (k_unfold; (try dsimp only)) | walk1 | dsimp only))
    refine TurnR.mk (by assumption) (by assumption) (hJn _ _ <| .mk ?_)
    rw [← laid_set hi2 hlm, List.map_set, toNat1]
    exact strs_set hvs
  · intro m₁ o₁ h4 tk4 hs F4 N4
    obtain ⟨hvs⟩ := hs
    rename_i iv vs c'
    have hp1 : 1 ≤ ps.length := by rw [hps]; exact hn0
    have hvn : vs.length = n := by
      have := StrsAre.len_eq hvs
      rw [List.length_map, laid_len (by rw [hps]; exact le_two hn0)] at this
      exact this.trans hps
    have hv1 : 1 ≤ vs.length := by rw [hvn]; exact hn0
    have hla := laid_last hp1
    rw [hps] at hla
    obtain ⟨l, hlm⟩ : ∃ l, ps[n - 1]? = some l := ⟨_, List.getElem?_eq_getElem (by rw [hps]; exact Nat.sub_lt hn0 Nat.one_pos)⟩
    rw [hlm] at hla
    obtain ⟨t5, hx5⟩ := StrsAre.at hvs (j := n - 1) (y := S l) (by rw [List.getElem?_map, hla]; rfl)
    have hx : vs[vs.length - 1]? = some (.str (S l) t5) := by rw [hvn]; exact hx5
    have hll : l.length ≤ 400 := hlz l (List.mem_of_getElem? hlm)
    have hend := laid_end hp1 (l := l) (by rw [hps]; exact hlm)
    rw [hps, ← hpd, ← tpP_all, tpP_tpc, hpd] at hend
    have hfv : ∀ t', StrsAre (vs.set (vs.length - 1) (.str (S ([46, 42] ++ l)) t')) (((laid ps (n - 2)).set (n - 1) (wrapL l)).map S) := fun t' => by
      rw [List.map_set, hvn]; exact strs_set hvs
    obtain ⟨ys, hyd⟩ : ∃ ys, (laid ps (n - 2)).set (n - 1) (wrapL l) = ys := ⟨_, rfl⟩
    rw [hyd] at hend hfv
    clear hyd hla hlm hvs hn1 hps hn0 hp1 hvn
    have hfz : ys.flatten.length ≤ 100000 := by
      rw [hend]
      have := tpc_len p
      omega
    (repeat' ((fail_if_success (with_reducible show wpAny _ _ (exec (Stmt.While _ _ _ _) _) _ _ _)); (fail_if_success (with_reducible show wpAny _ _ (exec (Stmt.For _ _ _ _ _) _) _ _ _)); (fail_if_success (with_reducible show wpAny _ _ (pyIter _) _ _ _)); first | ((with_reducible show And _ _); first | ((with_reducible refine szE3 (by walk_at "my size") ?_)) | ((with_reducible refine szE2 (by walk_at "my size") ?_)) | ((with_reducible refine szE1 (by walk_at "my size") ?_))) | ((with_reducible show wpAny _ _ (joinParts _ _) _ _ _); first | ((with_reducible refine joinE3 (by walk_at "my size") ?_); intro _ _) | ((with_reducible refine joinE2 (by walk_at "my size") ?_); intro _ _)) | ((with_reducible show wpAny _ _ (setItem (Value.ref _) (Value.int _ _) _) _ _ _); first | ((with_reducible show wpAny _ _ (setItem _ (Value.int (-1) _) _) _ _ _); k_dflt (refine' setHdL (by k_asm) (by k_asm) (by assumption) (by assumption) ?_); intro _ _ _; (try k_sweep)) | (k_dflt (refine' setHd (by k_asm) (by k_asm) (by assumption) (by exact nn1 _) (by exact lt1 (by assumption)) (by rw [toNat1]; assumption) ?_); intro _ _ _; (try k_sweep))) | ((with_reducible show wpAny _ _ (subscriptTail (Expr.Name _ _) (Expr.UnaryOp _ _ _) (Value.ref _) (Value.int _ _)) _ _ _); ((with_reducible show wpAny _ _ (subscriptTail _ _ (Value.ref _) (Value.int (-1) _)) _ _ _); k_dflt (refine' itemLast (by k_asm) (by exact .head _) (by assumption) (by assumption) ?_))) | ((with_reducible show wpAny _ _ (formatField (Value.str _ _) _) _ _ _); ((with_reducible refine' fieldS (by walk_at "my size") ?_); intro _ _)) | ((with_reducible show wpAny _ _ (eval (Expr.Name _ _) _) _ _ _); ((with_reducible first | refine' ld_tp_path (by k_dflt k_asm) ?_ | refine' ld_tp_parts (by k_dflt k_asm) ?_ | refine' ld_tp_i (by k_dflt k_asm) ?_))) | (k_unfold; (try dsimp only)) | walk1 | dsimp only))
    refine joinN0 (by k_asm) (.head _) (hfv _) hfz ?_
    intro t' tk'
    rw [hend]
    (repeat' ((fail_if_success (with_reducible show wpAny _ _ (exec (Stmt.While _ _ _ _) _) _ _ _)); (fail_if_success (with_reducible show wpAny _ _ (exec (Stmt.For _ _ _ _ _) _) _ _ _)); (fail_if_success (with_reducible show wpAny _ _ (pyIter _) _ _ _)); first  | (k_unfold; (try dsimp only)) | walk1 | dsimp only))
    exact h _ _ _ (by assumption) (ntl (ntl (by assumption)))

end
section

theorem fspath_ok {l : List Nat} {t : Tok} (H : Here w A₀ base h₀ outer cs mean mg mb) (F : Fr h₀ L s.heap m) (N : News h₀ L s.heap news) (hdp : dp ≤ 800) (hun : un ≤ 2000)
    (h : ∀ h' tk, Fr h₀ L h' m → News h₀ L h' news → Q (.str (S l) t) { s with heap := h', toks := tk }) :
    wpAny (model PG w) (ktrTop dp un gd cn cs L a ccd cl outer) (call (.ref 826) [.str (S l) t]) Q E s := by
  obtain ⟨HB, X, T, hk⟩ := H
  refine wpAny_call ?_
  refine' code_def (binds := [(Str.ofString "path", .str (S l) t)]) ?k1 ?k2 ?k3 ?k4 ?k5 ?kA ?kF ?kK ?k6 ?k7 ?k8 ?k9 ?kB ?_ ?c2 ?c3 ?c4 ?c5
  (case kA => exact rfl); (case kF => exact rfl); (case kK => assumption); (case k1 => k_asm); (case k2 => k_asm); (case k3 => k_asm); (case k4 => k_asm); (case k5 => k_asm); (case k6 => k_is)
  (case k7 => k_is); (case k8 => ktr_room); (case k9 => exact BindsTo.of_eq rfl); (case c5 => decide); (case kB => exact locs rfl); (case c2 => exact rfl); (case c3 => exact rfl); (case c4 => exact rfl)
  intro g' L' h' FG' F' N' B' X' T'
  (try dsimp only)
  dsimp only [List.reverse, List.reverseAux] at F'
  k_fold
  rw [en_fs] at F'
  (repeat' ((fail_if_success (with_reducible show wpAny _ _ (exec (Stmt.While _ _ _ _) _) _ _ _)); (fail_if_success (with_reducible show wpAny _ _ (exec (Stmt.For _ _ _ _ _) _) _ _ _)); first | ((with_reducible show wpAny _ _ (call (Value.builtin "issubclass") _ _) _ _ _); (k_dflt (refine' issub_str (by exact News.get (by k_asm) (.head _)) ?_); intro _)) | ((with_reducible show wpAny _ _ (storeName _ _ _) _ _ _); ((with_reducible first | refine' st_fs_path (by k_dflt k_asm) (by k_dflt k_asm) ?_ | refine' st_fs_kind (by k_dflt k_asm) (by k_dflt k_asm) ?_ | refine' st_fs_hook (by k_dflt k_asm) (by k_dflt k_asm) ?_ | refine' st_fs_given (by k_dflt k_asm) (by k_dflt k_asm) ?_); intro _ _ _; (try k_sweep))) | ((with_reducible show wpAny _ _ (eval (Expr.Name _ _) _) _ _ _); ((with_reducible first | refine' ld_fs_path (by k_dflt k_asm) ?_ | refine' ld_fs_kind (by k_dflt k_asm) ?_ | refine' ld_fs_hook (by k_dflt k_asm) ?_ | refine' ld_fs_given (by k_dflt k_asm) ?_))) | (k_unfold; (try dsimp only)) | walk1 | dsimp only))
  exact h _ _ (by assumption) (ntl (by assumption))

end

section

theorem nz_ne {l : List Nat} (h : (l != []) = true) : nz l = true := by cases l with
  | nil => cases h
  | cons a r => rfl
theorem nz_eq {l : List Nat} (h : (l != []) = false) : ¬ nz l = true := by cases l with
  | nil => simp [nz]
  | cons a r => cases h
theorem thin_a {p : List Nat} (h : (p.take 1 == [47]) = false) : leadT p = [] := by
  have : p.take 1 ≠ [47] := by simpa using h
  rw [leadT, if_neg (fun x => this x.1)]
theorem thin_b {p : List Nat} (h : decide ((spl 47 p).filter nz = []) = true) : leadT p = [] := by
  have : (spl 47 p).filter nz = [] := by simpa using h
  rw [leadT, if_neg (fun x => x.2 this)]
theorem thin_1 {p : List Nat} (h : (p.take 1 == [47]) = true) (h2 : decide ((spl 47 p).filter nz = []) = false) (h3 : p.contains 42 = false ∨ (p.take 2 == [47, 47]) = false ∨ (p.take 3 != [47, 47, 47]) = false) : leadT p = [47] := by
  have a : p.take 1 = [47] := by simpa using h
  have b : (spl 47 p).filter nz ≠ [] := by simpa using h2
  rw [leadT, if_pos ⟨a, b⟩, if_neg]
  rintro ⟨c, d, e⟩
  rcases h3 with x | x | x
  · rw [c] at x; cases x
  · exact (by simpa using x : ¬ p.take 2 = [47, 47]) d
  · exact e (by simpa using x)
theorem thin_2 {p : List Nat} (h : (p.take 1 == [47]) = true) (h2 : decide ((spl 47 p).filter nz = []) = false) (h3 : p.contains 42 = true) (h4 : (p.take 2 == [47, 47]) = true) (h5 : (p.take 3 != [47, 47, 47]) = true) : leadT p = [47, 47] := by
  have a : p.take 1 = [47] := by simpa using h
  have b : (spl 47 p).filter nz ≠ [] := by simpa using h2
  rw [leadT, if_pos ⟨a, b⟩, if_pos ⟨h3, by simpa using h4, by simpa using h5⟩]
theorem thin_sz {p : List Nat} (hz : p.length ≤ 100) : ((spl 47 p).filter nz).flatten.length + ((spl 47 p).filter nz).length ≤ 100000 := by
  have h1 := flat_len (ls := (spl 47 p).filter nz) (k := 100) (fun l hl => by
    have := ((spl_sub 47 p).1 l (List.mem_filter.mp hl).1).2
    omega)
  have h2 := (spl_sub 47 p).2
  have h3 : ((spl 47 p).filter nz).length ≤ (spl 47 p).length := List.length_filter_le _ _
  generalize ((spl 47 p).filter nz).length = a at h1 h3 ⊢
  generalize ((spl 47 p).filter nz).flatten.length = b at h1 ⊢
  omega
theorem thin_ok {p : List Nat} {t : Tok} (H : Here w A₀ base h₀ outer cs mean mg mb) (F : Fr h₀ L s.heap m) (N : News h₀ L s.heap news) (hdp : dp ≤ 750) (hun : un ≤ 1700) (hl : ∀ c ∈ p, c ∈ sgL) (hz : p.length ≤ 100)
    (h : ∀ h' tk t', Fr h₀ L h' m → News h₀ L h' news → Q (.str (S (thinP p)) t') { s with heap := h', toks := tk }) :
    wpAny (model PG w) (ktrTop dp un gd cn cs L a ccd cl outer) (call (.ref 862) [.str (S p) t]) Q E s := by
  obtain ⟨HB, X, T, hk⟩ := H
  have hsm : Sm ((spl 47 p).filter nz) := sm_sub (sm_spl (p := p) (d := 47) fun c hc => (by decide : ∀ x ∈ sgL, x < 200) c (hl c hc)) fun l hl => (List.mem_filter.mp hl).1
  have hzf := thin_sz hz
  have hjz : (joinD 47 ((spl 47 p).filter nz)).length ≤ 100000 := Nat.le_trans (joinD_len 47 ((spl 47 p).filter nz)) hzf
  refine wpAny_call ?_
  refine' code_def (binds := [(Str.ofString "path", .str (S p) t)]) ?k1 ?k2 ?k3 ?k4 ?k5 ?kA ?kF ?kK ?k6 ?k7 ?k8 ?k9 ?kB ?_ ?c2 ?c3 ?c4 ?c5
  (case kA => exact rfl); (case kF => exact rfl); (case kK => assumption); (case k1 => k_asm); (case k2 => k_asm); (case k3 => k_asm); (case k4 => k_asm); (case k5 => k_asm); (case k6 => k_is)
  (case k7 => k_is); (case k8 => ktr_room); (case k9 => exact BindsTo.of_eq rfl); (case c5 => decide); (case kB => exact locs rfl); (case c2 => exact rfl); (case c3 => exact rfl); (case c4 => exact rfl)
  intro g' L' h' FG' F' N' B' X' T'
  (try dsimp only)
  dsimp only [List.reverse, List.reverseAux] at F'
  k_fold
  rw [en_lt] at F'
  (repeat' ((fail_if_success (with_reducible show wpAny _ _ (exec (Stmt.Assign _ (Expr.ListComp _ _ _ _) _) _) _ _ _)); (fail_if_success (with_reducible show LCt.CompSrcT _ _ _ _ _ _ _ _ _ _ _ _ _ _ _)); first  | (k_unfold; (try dsimp only)) | walk1 | dsimp only))
  refine LCt.Assign_ListComp_T (F₀ := by k_asm) (by rfl) (by with_unfolding_all rfl) (by with_unfolding_all rfl) (by decide) (by rfl) (by decide) (by rfl) (by rfl) (by rfl) ?_
  (repeat' ((fail_if_success (with_reducible show wpAny _ _ (exec (Stmt.Assign _ (Expr.ListComp _ _ _ _) _) _) _ _ _)); (fail_if_success (with_reducible show LCt.CompSrcT _ _ _ _ _ _ _ _ _ _ _ _ _ _ _)); first | ((with_reducible show wpAny _ _ (call (Value.builtin "str.split") _ _) _ _ _); ((with_reducible refine' splitS (by k_dflt k_asm) (by k_dflt k_asm) (by first | assumption | omega) ?_); intro _ _ _ _ _ _ _ _; (try k_sweep))) | ((with_reducible show wpAny _ _ (eval (Expr.Name _ _) _) _ _ _); ((with_reducible first | refine' ld_lt_path (by k_dflt k_asm) ?_ | refine' ld_lt_names (by k_dflt k_asm) ?_ | refine' ld_lt_lead (by k_dflt k_asm) ?_))) | (k_unfold; (try dsimp only)) | walk1 | dsimp only))
  rename_i D' vs' h1' tk1' kF kN kS lD'
  have hvl := StrsAre.len_eq kS
  rw [List.length_map] at hvl
  have h2 := (spl_sub 47 p).2
  refine LCt.CompSrcT.ledger (k := 0) rfl kF kN (.head _) (by rw [List.size_toArray, sizeLine_eq]; omega) ?_
  intro g₁
  refine comp_invT (fun i ys => StrsAre ys ((((spl 47 p).take i).filter nz).map S)) .nil ?_ ?_
  · intro i v I oI C oC D m₂ ys h tk E' hi hv hJ hC hx F2 N2 off ne
    obtain ⟨l, t, hll, rfl⟩ := strs_at kS hv
    have hlz : l.length ≤ 100 := by
      have := ((spl_sub 47 p).1 l (List.mem_of_getElem? hll)).2
      omega
    have hsr : LCg.SrcAt g' D' vs'.toArray ((D', listOf vs'.toArray 0) :: news) := Or.inr ⟨_, .head _, rfl, _, rfl⟩
    (repeat' ((fail_if_success (with_reducible show wpAny _ _ (exec (Stmt.Assign _ (Expr.ListComp _ _ _ _) _) _) _ _ _)); (fail_if_success (with_reducible show LCt.CompSrcT _ _ _ _ _ _ _ _ _ _ _ _ _ _ _)); first | ((with_reducible show wpAny _ _ (eval (Expr.Name _ _) _) _ _ _); ((with_reducible first | refine' ld_lt_path (by k_dflt k_asm) ?_ | refine' ld_lt_names (by k_dflt k_asm) ?_ | refine' ld_lt_lead (by k_dflt k_asm) ?_))) | (k_unfold; (try dsimp only)) | walk1 | dsimp only))
    · refine compE (by assumption) (by assumption) off hsr ?_
      rw [take_filter hll, if_pos (nz_ne (by assumption))]
      exact strs_snoc hJ
    · refine compE (by assumption) (by assumption) off hsr ?_
      rw [take_filter hll, if_neg (nz_eq (by assumption))]
      exact hJ
  · intro ys hJ D h9 tk F2 N2 off
    rw [List.size_toArray, hvl, List.take_length] at hJ
    rw [mp_lt_names] at F2
    obtain ⟨zs, hzd⟩ : ∃ zs, (spl 47 p).filter nz = zs := ⟨_, rfl⟩
    rw [hzd] at hJ hjz hzf hsm
    clear h2 hvl
    (repeat' ((fail_if_success (with_reducible show wpAny _ _ (exec (Stmt.Assign _ (Expr.ListComp _ _ _ _) _) _) _ _ _)); (fail_if_success (with_reducible show LCt.CompSrcT _ _ _ _ _ _ _ _ _ _ _ _ _ _ _)); first | ((with_reducible show wpAny _ _ (compareOp CmpOp.NotEq (Value.ref _) (Value.ref _)) _ _ _); ((with_reducible refine' neLs (l2 := []) (by k_dflt k_asm) (by k_dflt (first | exact .tail _ (.head _))) (by k_dflt exact .head _) (by assumption) (by k_dflt exact .nil) (by assumption) (by exact sm_nil) (by k_units) ?_))) | ((with_reducible show wpAny _ _ (call (Value.builtin "str.join") _ _) _ _ _); ((with_reducible refine' joinN1 (by k_dflt k_asm) (by k_dflt (first | exact .head _ | exact .tail _ (.head _))) (by assumption) (by assumption) ?_); intro _ _)) | ((with_reducible show wpAny _ _ (storeName _ _ _) _ _ _); ((with_reducible first | refine' st_lt_path (by k_dflt k_asm) (by k_dflt k_asm) ?_ | refine' st_lt_names (by k_dflt k_asm) (by k_dflt k_asm) ?_ | refine' st_lt_lead (by k_dflt k_asm) (by k_dflt k_asm) ?_); intro _ _ _; (try k_sweep))) | ((with_reducible show wpAny _ _ (eval (Expr.Name _ _) _) _ _ _); ((with_reducible first | refine' ld_lt_path (by k_dflt k_asm) ?_ | refine' ld_lt_names (by k_dflt k_asm) ?_ | refine' ld_lt_lead (by k_dflt k_asm) ?_))) | ((with_reducible show wpAny _ _ (subscriptTail (Expr.Name _ _) (Expr.Slice _ _ _ _) (Value.str _ _) (Value.ref _)) _ _ _); ((with_reducible rename Fr _ _ _ _ => F'); (with_reducible rename News _ _ _ _ => N'); (first | ((with_reducible show wpAny _ _ (subscriptTail _ (Expr.Slice none (some _) none _) (Value.str (S _) _) _) _ _ _); refine' cut_ns (s := ⟨_, _, _, _, _⟩) (by k_dflt exact rfl) F' N' (by walk_at "my size") ?_) | ((with_reducible show wpAny _ _ (subscriptTail _ (Expr.Slice (some _) none none _) (Value.str (S _) _) _) _ _ _); refine' cut_sn (s := ⟨_, _, _, _, _⟩) (by k_dflt exact rfl) F' N' (by walk_at "my size") ?_) | ((with_reducible show wpAny _ _ (subscriptTail _ (Expr.Slice (some _) (some _) none _) (Value.str (S _) _) _) _ _ _); refine' cut_ss (s := ⟨_, _, _, _, _⟩) (by k_dflt exact rfl) (by k_dflt exact rfl) F' N' (by walk_at "my size") ?_)); intro _ _ _ _ _; (try k_sweep))) | ((with_reducible show wpAny _ _ (binaryOp Operator.Add (Value.str _ _) (Value.str _ _)) _ _ _); (refine' addS (by walk_at "my size") ?_; intro _ _)) | (k_unfold; (try dsimp only)) | walk1 | dsimp only))
    · have e : thinP p = [] ++ joinD 47 zs := by rw [thinP, thin_b (by rw [hzd]; assumption), hzd]
      rw [e] at h
      exact h _ _ _ (by assumption) (ntl (ntl (ntl (by assumption))))
    · have e : thinP p = [47, 47] ++ joinD 47 zs := by rw [thinP, thin_2 (by assumption) (by rw [hzd]; assumption) (by assumption) (by assumption) (by assumption), hzd]
      rw [e] at h
      exact h _ _ _ (by assumption) (ntl (ntl (ntl (by assumption))))
    · have e : thinP p = [47] ++ joinD 47 zs := by rw [thinP, thin_1 (by assumption) (by rw [hzd]; assumption) (.inr (.inr (by assumption))), hzd]
      rw [e] at h
      exact h _ _ _ (by assumption) (ntl (ntl (ntl (by assumption))))
    · have e : thinP p = [47] ++ joinD 47 zs := by rw [thinP, thin_1 (by assumption) (by rw [hzd]; assumption) (.inr (.inl (by assumption))), hzd]
      rw [e] at h
      exact h _ _ _ (by assumption) (ntl (ntl (ntl (by assumption))))
    · have e : thinP p = [47] ++ joinD 47 zs := by rw [thinP, thin_1 (by assumption) (by rw [hzd]; assumption) (.inl (by assumption)), hzd]
      rw [e] at h
      exact h _ _ _ (by assumption) (ntl (ntl (ntl (by assumption))))
    · have e : thinP p = [] ++ joinD 47 zs := by rw [thinP, thin_a (by assumption), hzd]
      rw [e] at h
      exact h _ _ _ (by assumption) (ntl (ntl (by assumption)))

end
section


theorem splitroot_ok {l : List Nat} {t : Tok} (H : Here w A₀ base h₀ outer cs mean mg mb) (F : Fr h₀ L s.heap m) (N : News h₀ L s.heap news) (hdp : dp ≤ 790) (hun : un ≤ 1900) (hz : l.length ≤ 100000)
    (h : ∀ (D : Nat) h' tk t1 t2 t3, Fr h₀ L h' m → News h₀ L h' ((D, { cls := .type "tuple", data := .seq #[.str (S []) t1, .str (S (rootI l)) t2, .str (S (rootR l)) t3] }) :: news) → (∀ q ∈ news, q.1 < D) → Q (.ref D) { s with heap := h', toks := tk }) :
    wpAny (model PG w) (ktrTop dp un gd cn cs L a ccd cl outer) (call (.ref 833) [.str (S l) t]) Q E s := by
  obtain ⟨HB, X, T, hk⟩ := H
  refine wpAny_call ?_
  refine' code_def (binds := [(Str.ofString "p", .str (S l) t)]) ?k1 ?k2 ?k3 ?k4 ?k5 ?kA ?kF ?kK ?k6 ?k7 ?k8 ?k9 ?kB ?_ ?c2 ?c3 ?c4 ?c5
  (case kA => exact rfl); (case kF => exact rfl); (case kK => assumption); (case k1 => k_asm); (case k2 => k_asm); (case k3 => k_asm); (case k4 => k_asm); (case k5 => k_asm); (case k6 => k_is)
  (case k7 => k_is); (case k8 => ktr_room); (case k9 => exact BindsTo.of_eq rfl); (case c5 => decide); (case kB => exact locs rfl); (case c2 => exact rfl); (case c3 => exact rfl); (case c4 => exact rfl)
  intro g' L' h' FG' F' N' B' X' T'
  (try dsimp only)
  dsimp only [List.reverse, List.reverseAux] at F'
  k_fold
  rw [en_sr] at F'
  (repeat' ((fail_if_success (with_reducible show wpAny _ _ (exec (Stmt.While _ _ _ _) _) _ _ _)); (fail_if_success (with_reducible show wpAny _ _ (exec (Stmt.For _ _ _ _ _) _) _ _ _)); first | ((with_reducible show wpAny _ _ (call (Value.ref 826) _ _) _ _ _); k_dflt (refine' fspath_ok ⟨by k_asm, by k_asm, by k_asm, by walk_at "k4"⟩ (by k_asm) (by k_asm) (by ktr_room) (by k_units)  ?_; intros; (try k_sweep))) | ((with_reducible show wpAny _ _ (storeName _ _ _) _ _ _); ((with_reducible first | refine' st_sr_p (by k_dflt k_asm) (by k_dflt k_asm) ?_ | refine' st_sr_sep (by k_dflt k_asm) (by k_dflt k_asm) ?_ | refine' st_sr_empty (by k_dflt k_asm) (by k_dflt k_asm) ?_); intro _ _ _; (try k_sweep))) | ((with_reducible show wpAny _ _ (eval (Expr.Name _ _) _) _ _ _); ((with_reducible first | refine' ld_sr_p (by k_dflt k_asm) ?_ | refine' ld_sr_sep (by k_dflt k_asm) ?_ | refine' ld_sr_empty (by k_dflt k_asm) ?_))) | ((with_reducible show wpAny _ _ (subscriptTail (Expr.Name _ _) (Expr.Slice _ _ _ _) (Value.str _ _) (Value.ref _)) _ _ _); ((with_reducible rename Fr _ _ _ _ => F'); (with_reducible rename News _ _ _ _ => N'); (first | ((with_reducible show wpAny _ _ (subscriptTail _ (Expr.Slice none (some _) none _) (Value.str (S _) _) _) _ _ _); refine' cut_ns (s := ⟨_, _, _, _, _⟩) (by k_dflt exact rfl) F' N' (by walk_at "my size") ?_) | ((with_reducible show wpAny _ _ (subscriptTail _ (Expr.Slice (some _) none none _) (Value.str (S _) _) _) _ _ _); refine' cut_sn (s := ⟨_, _, _, _, _⟩) (by k_dflt exact rfl) F' N' (by walk_at "my size") ?_) | ((with_reducible show wpAny _ _ (subscriptTail _ (Expr.Slice (some _) (some _) none _) (Value.str (S _) _) _) _ _ _); refine' cut_ss (s := ⟨_, _, _, _, _⟩) (by k_dflt exact rfl) (by k_dflt exact rfl) F' N' (by walk_at "my size") ?_)); intro _ _ _ _ _; (try k_sweep))) | (k_unfold; (try dsimp only)) | walk1 | dsimp only))
  · obtain ⟨e1, e2⟩ := root_a (l := l) (by assumption)
    rw [e1, e2] at h
    exact h _ _ _ _ _ _ (by assumption) (by assumption) (by assumption)
  · obtain ⟨e1, e2⟩ := root_b (l := l) (by assumption) (by assumption)
    rw [e1, e2] at h
    exact h _ _ _ _ _ _ (by assumption) (by assumption) (by assumption)
  · obtain ⟨e1, e2⟩ := root_c (l := l) (by assumption) (by assumption)
    rw [e1, e2] at h
    exact h _ _ _ _ _ _ (by assumption) (by assumption) (by assumption)
  · obtain ⟨e1, e2⟩ := root_d (l := l) (by assumption) (by assumption) (by assumption)
    rw [e1, e2] at h
    exact h _ _ _ _ _ _ (by assumption) (by assumption) (by assumption)

end
section

section



/-- what normpath's loop holds by names and objects -/
inductive NpI (o0 o1 o2 o3 o4 o5 o6 o7 : Option Value) (ri : List Nat) (ls : List (List Nat)) : Nat → (Str → Option Value) → Obj → Prop
  | mk {i : Nat} {cv : Option Value} {vs : List Value} {c : Nat} {new : List (List Nat)} (hv : StrsAre vs (new.map S)) (hJ : NpJ ri ls new (ls.drop i)) : NpI o0 o1 o2 o3 o4 o5 o6 o7 ri ls i (mp_np o0 o1 o2 o3 o4 o5 o6 o7 cv) (listOf vs.toArray c)
theorem normpath_ok {l : List Nat} {t : Tok} (H : Here w A₀ base h₀ outer cs mean mg mb) (F : Fr h₀ L s.heap m) (N : News h₀ L s.heap news) (hdp : dp ≤ 770) (hun : un ≤ 1800) (hz : l.length ≤ 2000)
    (h : ∀ h' tk t', Fr h₀ L h' m → News h₀ L h' news → Q (.str (S (normP l)) t') { s with heap := h', toks := tk }) :
    wpAny (model PG w) (ktrTop dp un gd cn cs L a ccd cl outer) (call (.ref 840) [.str (S l) t]) Q E s := by
  obtain ⟨HB, X, T, hk⟩ := H
  have hz2 : l.length ≤ 100000 := by omega
  have hz3 : (rootR l).length ≤ 2000 := Nat.le_trans (rootR_len l) hz
  have hz4 := rootI_len l
  refine wpAny_call ?_
  refine' code_def (binds := [(Str.ofString "path", .str (S l) t)]) ?k1 ?k2 ?k3 ?k4 ?k5 ?kA ?kF ?kK ?k6 ?k7 ?k8 ?k9 ?kB ?_ ?c2 ?c3 ?c4 ?c5
  (case kA => exact rfl); (case kF => exact rfl); (case kK => assumption); (case k1 => k_asm); (case k2 => k_asm); (case k3 => k_asm); (case k4 => k_asm); (case k5 => k_asm); (case k6 => k_is)
  (case k7 => k_is); (case k8 => ktr_room); (case k9 => exact BindsTo.of_eq rfl); (case c5 => decide); (case kB => exact locs rfl); (case c2 => exact rfl); (case c3 => exact rfl); (case c4 => exact rfl)
  intro g' L' h' FG' F' N' B' X' T'
  (try dsimp only)
  dsimp only [List.reverse, List.reverseAux] at F'
  k_fold
  rw [en_np] at F'
  (repeat' ((fail_if_success (with_reducible show wpAny _ _ (exec (Stmt.While _ _ _ _) _) _ _ _)); (fail_if_success (with_reducible show wpAny _ _ (exec (Stmt.For _ _ _ _ _) _) _ _ _)); (fail_if_success (with_reducible show wpAny _ _ (pyIter _) _ _ _)); first | ((with_reducible show wpAny _ _ (call (Value.ref 833) _ _) _ _ _); k_dflt (refine' splitroot_ok ⟨by k_asm, by k_asm, by k_asm, by walk_at "k4"⟩ (by k_asm) (by k_asm) (by ktr_room) (by k_units) (by assumption) ?_; intros; (try k_sweep))) | ((with_reducible show wpAny _ _ (call (Value.ref 826) _ _) _ _ _); k_dflt (refine' fspath_ok ⟨by k_asm, by k_asm, by k_asm, by walk_at "k4"⟩ (by k_asm) (by k_asm) (by ktr_room) (by k_units)  ?_; intros; (try k_sweep))) | ((with_reducible show wpAny _ _ (storeName _ _ _) _ _ _); ((with_reducible first | refine' st_np_path (by k_dflt k_asm) (by k_dflt k_asm) ?_ | refine' st_np_sep (by k_dflt k_asm) (by k_dflt k_asm) ?_ | refine' st_np_dot (by k_dflt k_asm) (by k_dflt k_asm) ?_ | refine' st_np_dotdot (by k_dflt k_asm) (by k_dflt k_asm) ?_ | refine' st_np_us (by k_dflt k_asm) (by k_dflt k_asm) ?_ | refine' st_np_initial_slashes (by k_dflt k_asm) (by k_dflt k_asm) ?_ | refine' st_np_comps (by k_dflt k_asm) (by k_dflt k_asm) ?_ | refine' st_np_new_comps (by k_dflt k_asm) (by k_dflt k_asm) ?_ | refine' st_np_comp (by k_dflt k_asm) (by k_dflt k_asm) ?_); intro _ _ _; (try k_sweep))) | ((with_reducible show wpAny _ _ (eval (Expr.Name _ _) _) _ _ _); ((with_reducible first | refine' ld_np_path (by k_dflt k_asm) ?_ | refine' ld_np_sep (by k_dflt k_asm) ?_ | refine' ld_np_dot (by k_dflt k_asm) ?_ | refine' ld_np_dotdot (by k_dflt k_asm) ?_ | refine' ld_np_us (by k_dflt k_asm) ?_ | refine' ld_np_initial_slashes (by k_dflt k_asm) ?_ | refine' ld_np_comps (by k_dflt k_asm) ?_ | refine' ld_np_new_comps (by k_dflt k_asm) ?_ | refine' ld_np_comp (by k_dflt k_asm) ?_))) | ((with_reducible show wpAny _ _ (call (Value.builtin "str.split") _ _) _ _ _); ((with_reducible refine' splitS (by k_dflt k_asm) (by k_dflt k_asm) (by first | assumption | omega) ?_); intro _ _ _ _ _ _ _ _; (try k_sweep))) | (k_unfold; (try dsimp only)) | walk1 | dsimp only))
  · exact h _ _ _ (by assumption) (by assumption)
  refine For_invV g' rfl rfl ?_
  (repeat' ((fail_if_success (with_reducible show wpAny _ _ (exec (Stmt.While _ _ _ _) _) _ _ _)); (fail_if_success (with_reducible show wpAny _ _ (exec (Stmt.For _ _ _ _ _) _) _ _ _)); (fail_if_success (with_reducible show wpAny _ _ (pyIter _) _ _ _)); first | ((with_reducible show wpAny _ _ (eval (Expr.Name _ _) _) _ _ _); ((with_reducible first | refine' ld_np_path (by k_dflt k_asm) ?_ | refine' ld_np_sep (by k_dflt k_asm) ?_ | refine' ld_np_dot (by k_dflt k_asm) ?_ | refine' ld_np_dotdot (by k_dflt k_asm) ?_ | refine' ld_np_us (by k_dflt k_asm) ?_ | refine' ld_np_initial_slashes (by k_dflt k_asm) ?_ | refine' ld_np_comps (by k_dflt k_asm) ?_ | refine' ld_np_new_comps (by k_dflt k_asm) ?_ | refine' ld_np_comp (by k_dflt k_asm) ?_))) | (k_unfold; (try dsimp only)) | walk1 | dsimp only))
  rename Fr g' L' _ _ => kF
  rename News g' L' _ _ => kN
  rename StrsAre _ _ => kS
  rename _ ∧ _ ∧ AllLt _ _ => kl
  refine iterL (ls := spl 47 (rootR l)) (NpI _ _ _ _ _ _ _ _ (rootI l) (spl 47 (rootR l))) rfl (.head _) kS kF kN ?hD (.mk (new := []) .nil (NpJ.start hz3)) ?_ ?_
  case hD =>
    intro q hq
    rcases List.mem_cons.mp hq with rfl | hq
    · exact Nat.ne_of_lt kl.1
    rcases List.mem_cons.mp hq with rfl | hq
    · exact Nat.ne_of_lt kl.2.1
    · exact Nat.ne_of_lt (allLt_mem kl.2.2 q hq)
  · intro i l0 tt m₁ o₁ h4 tk4 rest Jn hJn hi hs hrest hsub F4 N4
    obtain ⟨hvs, hJ⟩ := hs
    rename_i cv vs c new
    rw [mp_np_comp] at F4
    have hvl := StrsAre.len_eq hvs
    rw [List.length_map] at hvl
    rw [drop_at hi] at hJ
    have hrm := hJ.room
    have hvz : vs.length ≤ 100000 := by omega
    have hlz : l0.length ≤ 2000 := by omega
    have hnil := strs_nil hvs
    (repeat' ((fail_if_success (with_reducible show wpAny _ _ (exec (Stmt.While _ _ _ _) _) _ _ _)); (fail_if_success (with_reducible show wpAny _ _ (exec (Stmt.For _ _ _ _ _) _) _ _ _)); (fail_if_success (with_reducible show wpAny _ _ (pyIter _) _ _ _)); first | ((with_reducible show wpAny _ _ (eval (Expr.Name _ _) _) _ _ _); ((with_reducible first | refine' ld_np_path (by k_dflt k_asm) ?_ | refine' ld_np_sep (by k_dflt k_asm) ?_ | refine' ld_np_dot (by k_dflt k_asm) ?_ | refine' ld_np_dotdot (by k_dflt k_asm) ?_ | refine' ld_np_us (by k_dflt k_asm) ?_ | refine' ld_np_initial_slashes (by k_dflt k_asm) ?_ | refine' ld_np_comps (by k_dflt k_asm) ?_ | refine' ld_np_new_comps (by k_dflt k_asm) ?_ | refine' ld_np_comp (by k_dflt k_asm) ?_))) | ((with_reducible show wpAny _ _ (call (Value.builtin "list.pop") _ _) _ _ _); ((with_reducible refine' popHd (by k_dflt k_asm) (by k_dflt k_asm) (by assumption) (by first | assumption | omega) (by assumption) ?_); intro _ _ _ _; (try k_sweep))) | ((with_reducible show wpAny _ _ (call (Value.builtin "list.append") _ _) _ _ _); ((with_reducible refine' appHd (by k_dflt k_asm) (by k_dflt k_asm) (by assumption) (by first | assumption | omega) ?_); intro _ _ _; (try k_sweep))) | ((with_reducible show wpAny _ _ (getMethod (Value.ref _) _ _) _ _ _); first | ((with_reducible show wpAny _ _ (getMethod (Value.ref _) (PySem.Str.ofString "append") _) _ _ _); k_dflt (refine' gmL (by k_dflt k_asm) (by k_dflt exact .head _) PySem.F.slot_list_append PySem.F.type_list_append ?_)) | ((with_reducible show wpAny _ _ (getMethod (Value.ref _) (PySem.Str.ofString "pop") _) _ _ _); k_dflt (refine' gmL (by k_dflt k_asm) (by k_dflt exact .head _) PySem.F.slot_list_pop PySem.F.type_list_pop ?_))) | ((with_reducible show wpAny _ _ (PySem.truthy (Value.ref _)) _ _ _); first | ((with_reducible refine' truthyL0 (by k_dflt k_asm) (by k_dflt exact .head _) (by assumption) ?_); intro _) | ((with_reducible refine' truthyL1 (by k_dflt k_asm) (by k_dflt exact .head _) (by first | assumption | omega) (by assumption) ?_); intro _)) | ((with_reducible show wpAny _ _ (PySem.truthy (Value.ref _)) _ _ _); ((with_reducible refine' truthyL (by k_dflt k_asm) (by k_dflt exact .head _) (by first | assumption | omega) ?_ ?_); (all_goals intro _ _))) | ((with_reducible show wpAny _ _ (subscriptTail (Expr.Name _ _) (Expr.UnaryOp _ _ _) (Value.ref _) (Value.int _ _)) _ _ _); ( k_dflt (refine' itemLS (by k_asm) (by k_dflt exact .head _) (by assumption) (by assumption) ?_); intro _ _ _)) | ((with_reducible show wpAny _ _ (PySem.truthy (Value.ref _)) _ _ _); ((with_reducible refine' truthy_dqN (by k_dflt k_asm) (by k_dflt (first | assumption | k_mem | exact .tail _ (.tail _ (.tail _ (.tail _ (by assumption)))))) ?_); intro _)) | (k_unfold; (try dsimp only)) | walk1 | dsimp only))
    · exact TurnR.ck (by assumption) (by assumption) (hJn _ _ <| .mk hvs <| hJ.skip0)
    · exact TurnR.ck (by assumption) (by assumption) (hJn _ _ <| .mk hvs <| hJ.skip1 (by assumption))
    · exact TurnR.mk (by assumption) (by assumption) (hJn _ _ <| .mk (strs_snoc hvs) <| hJ.push1 (by assumption) (by assumption) (by assumption))
    · exact TurnR.mk (by assumption) (by assumption) (hJn _ _ <| .mk (strs_snoc hvs) <| hJ.push2 (by assumption) (by assumption) (by assumption) (hnil.mp (by assumption)))
    · exact TurnR.mk (by assumption) (by assumption) (hJn _ _ <| .mk (strs_snoc hvs) <| hJ.push3 (by assumption) (by assumption) (by assumption) (by assumption))
    · exact TurnR.mk (by assumption) (by assumption) (hJn _ _ <| .mk (strs_drop hvs) <| hJ.pop (by assumption) (by assumption) (by assumption))
    · exact TurnR.mk (by assumption) (by assumption) (hJn _ _ <| .mk (hvs) <| hJ.drop (by assumption) (by assumption) (hnil.mp (by assumption)))
    · exact TurnR.mk (by assumption) (by assumption) (hJn _ _ <| .mk (strs_snoc hvs) <| hJ.push3 (by assumption) (by assumption) (by assumption) (by assumption))
    · exact TurnR.mk (by assumption) (by assumption) (hJn _ _ <| .mk (strs_drop hvs) <| hJ.pop (by assumption) (by assumption) (by assumption))
  · intro m₁ o₁ h4 tk4 hs F4 N4
    obtain ⟨hvs, hJ⟩ := hs
    rename_i cv vs c new
    rw [List.drop_length] at hJ
    have hnp : new = npGo (!(rootI l).isEmpty) [] (spl 47 (rootR l)) := hJ.1
    have hbd : new.flatten.length + new.length ≤ 100000 := by have := hJ.2; omega
    have hjl := joinD_len 47 new
    (repeat' ((fail_if_success (with_reducible show wpAny _ _ (exec (Stmt.While _ _ _ _) _) _ _ _)); (fail_if_success (with_reducible show wpAny _ _ (exec (Stmt.For _ _ _ _ _) _) _ _ _)); (fail_if_success (with_reducible show wpAny _ _ (pyIter _) _ _ _)); first | ((with_reducible show wpAny _ _ (storeName _ _ _) _ _ _); ((with_reducible first | refine' st_np_path (by k_dflt k_asm) (by k_dflt k_asm) ?_ | refine' st_np_sep (by k_dflt k_asm) (by k_dflt k_asm) ?_ | refine' st_np_dot (by k_dflt k_asm) (by k_dflt k_asm) ?_ | refine' st_np_dotdot (by k_dflt k_asm) (by k_dflt k_asm) ?_ | refine' st_np_us (by k_dflt k_asm) (by k_dflt k_asm) ?_ | refine' st_np_initial_slashes (by k_dflt k_asm) (by k_dflt k_asm) ?_ | refine' st_np_comps (by k_dflt k_asm) (by k_dflt k_asm) ?_ | refine' st_np_new_comps (by k_dflt k_asm) (by k_dflt k_asm) ?_ | refine' st_np_comp (by k_dflt k_asm) (by k_dflt k_asm) ?_); intro _ _ _; (try k_sweep))) | ((with_reducible show wpAny _ _ (eval (Expr.Name _ _) _) _ _ _); ((with_reducible first | refine' ld_np_path (by k_dflt k_asm) ?_ | refine' ld_np_sep (by k_dflt k_asm) ?_ | refine' ld_np_dot (by k_dflt k_asm) ?_ | refine' ld_np_dotdot (by k_dflt k_asm) ?_ | refine' ld_np_us (by k_dflt k_asm) ?_ | refine' ld_np_initial_slashes (by k_dflt k_asm) ?_ | refine' ld_np_comps (by k_dflt k_asm) ?_ | refine' ld_np_new_comps (by k_dflt k_asm) ?_ | refine' ld_np_comp (by k_dflt k_asm) ?_))) | ((with_reducible show wpAny _ _ (call (Value.builtin "str.join") _ _) _ _ _); ((with_reducible refine' joinN1 (by k_dflt k_asm) (by k_dflt exact .head _) (by assumption) (by assumption) ?_); intro _ _)) | ((with_reducible show wpAny _ _ (binaryOp Operator.Add (Value.str _ _) (Value.str _ _)) _ _ _); (refine' addS (by walk_at "my size") ?_; intro _ _)) | (k_unfold; (try dsimp only)) | walk1 | dsimp only))
    · have e : normP l = [46] := by rw [normP, if_neg (by assumption), orDot, ← hnp, if_pos (by assumption)]
      rw [e] at h
      exact h _ _ _ (by assumption) (ntl (ntl (ntl (by assumption))))
    · have e : normP l = rootI l ++ joinD 47 new := by rw [normP, if_neg (by assumption), orDot, ← hnp, if_neg (by assumption)]
      rw [e] at h
      exact h _ _ _ (by assumption) (ntl (ntl (ntl (by assumption))))

end
section

/-- what the outer loop holds -/
inductive LhO (ax D : Nat) (ls : List (List Nat)) : Nat → (Str → Option Value) → Obj → Prop
  | mk {i : Nat} {vw : List Value} {cw : Nat} {ws : List (List Nat)} {wd ins : List Nat} {tw ti : Tok} {pl st se sg : Option Value} (hv : StrsAre vw (ws.map S)) (hJ : hCont (decide (i = 0)) (ls.drop i) ws wd ins = heard ls) (h1 : ws.length ≤ i) (h2 : wd.length ≤ 1000 * i) (h3 : ins.length ≤ 1) :
      LhO ax D ls i (mp_lh (some (.ref ax)) (some (.ref D)) (some (.str (S wd) tw)) (some (.str (S ins) ti)) pl st se sg) (listOf vw.toArray cw)
/-- behind its first test -/
inductive LhA (g : Heap) (L ax D : Nat) (ls : List (List Nat)) (i : Nat) (p ins : List Nat) (ti tt : Tok) (st se sg : Option Value) (rest : List (Addr × Obj)) (s : Shared) : Shared → Prop
  | mk {h' : Heap} {tk : Nat} {vw : List Value} {cw : Nat} {ws : List (List Nat)} {wd : List Nat} {tw : Tok} (F : Fr g L h' (mp_lh (some (.ref ax)) (some (.ref D)) (some (.str (S wd) tw)) (some (.str (S ins) ti)) (some (.int (0 + (i : Int)) tt)) st se sg)) (N : News g L h' ((D, listOf vw.toArray cw) :: rest))
      (hv : StrsAre vw (ws.map S)) (hJ : hCont false (ls.drop (i + 1)) ws (hPath wd ins p).1 (hPath wd ins p).2 = heard ls) (h1 : ws.length ≤ i + 1) (h2 : wd.length ≤ 1000 * i + 1) : LhA g L ax D ls i p ins ti tt st se sg rest s { s with heap := h', toks := tk }
/-- behind its second test -/
inductive LhB (g : Heap) (L ax D : Nat) (i : Nat) (p ins w0 : List Nat) (ti tt ta tb : Tok) (sg : Option Value) (o : Obj) (rest : List (Addr × Obj)) (s : Shared) : Shared → Prop
  | mk {h' : Heap} {tk : Nat} {wd : List Nat} {tw : Tok} (F : Fr g L h' (mp_lh (some (.ref ax)) (some (.ref D)) (some (.str (S wd) tw)) (some (.str (S ins) ti)) (some (.int (0 + (i : Int)) tt)) (some (.int (p.count 42 : Int) ta)) (some (.int 0 tb)) sg)) (N : News g L h' ((D, o) :: rest))
      (hw : wd = (if p.count 42 = 0 then w0 ++ [46, 42] else w0)) (hz : wd.length ≤ 1000 * i + 3) : LhB g L ax D i p ins w0 ti tt ta tb sg o rest s { s with heap := h', toks := tk }
/-- what the inner loop holds -/
inductive LhJ (ax D i : Nat) (p ins w0 : List Nat) (tt ta : Tok) (o : Obj) : Nat → (Str → Option Value) → Obj → Prop
  | mk {j : Nat} {w2 i2 : List Nat} {t2 t3 t4 : Tok} {seen : Nat} {sg : Option Value} (hG : HgJ (p.count 42) w0 ins p j seen w2 i2) :
      LhJ ax D i p ins w0 tt ta o j (mp_lh (some (.ref ax)) (some (.ref D)) (some (.str (S w2) t2)) (some (.str (S i2) t3)) (some (.int (0 + (i : Int)) tt)) (some (.int (p.count 42 : Int) ta)) (some (.int ((seen : Nat) : Int) t4)) sg) o
theorem heard_ok {ls : List (List Nat)} {vs : List Value} {ax c : Nat} (H : Here w A₀ base h₀ outer cs mean mg mb) (F : Fr h₀ L s.heap m) (N : News h₀ L s.heap news) (hdp : dp ≤ 750) (hun : un ≤ 1700)
    (hax : (ax, listOf vs.toArray c) ∈ news) (hvs : StrsAre vs (ls.map S)) (hl : ∀ p ∈ ls, p.length ≤ 100) (hz : ls.length ≤ 10)
    (hok : ∀ ts, heard ls = some ts → ∀ (D : Nat) h' tk vals c, Fr h₀ L h' m → News h₀ L h' ((D, listOf vals.toArray c) :: news) → StrsAre vals (ts.map S) → (∀ q ∈ news, q.1 < D) → Q (.ref D) { s with heap := h', toks := tk })
    (hbad : heard ls = none → ∀ h' tk, Fr h₀ L h' m → News h₀ L h' news → Q .none { s with heap := h', toks := tk }) :
    wpAny (model PG w) (ktrTop dp un gd cn cs L a ccd cl outer) (call (.ref 852) [.ref ax]) Q E s := by
  obtain ⟨HB, X, T, hk⟩ := H
  have hvl := StrsAre.len_eq hvs
  rw [List.length_map] at hvl
  refine wpAny_call ?_
  refine' code_def (binds := [(Str.ofString "paths", .ref ax)]) ?k1 ?k2 ?k3 ?k4 ?k5 ?kA ?kF ?kK ?k6 ?k7 ?k8 ?k9 ?kB ?_ ?c2 ?c3 ?c4 ?c5
  (case kA => exact rfl); (case kF => exact rfl); (case kK => assumption); (case k1 => k_asm); (case k2 => k_asm); (case k3 => k_asm); (case k4 => k_asm); (case k5 => k_asm); (case k6 => k_is)
  (case k7 => k_is); (case k8 => ktr_room); (case k9 => exact BindsTo.of_eq rfl); (case c5 => decide); (case kB => exact locs rfl); (case c2 => exact rfl); (case c3 => exact rfl); (case c4 => exact rfl)
  intro g' L' h' FG' F' N' B' X' T'
  (try dsimp only)
  dsimp only [List.reverse, List.reverseAux] at F'
  k_fold
  rw [en_lh] at F'
  (repeat' ((fail_if_success (with_reducible show MidP _ _ _)); (fail_if_success (with_reducible show wpAny _ _ (execs (Stmt.If _ _ _ _ :: Stmt.For _ _ _ _ _ :: _) _) _ _ _)); (fail_if_success (with_reducible show wpAny _ _ (exec (Stmt.For _ _ _ _ _) _) _ _ _)); (fail_if_success (with_reducible show wpAny _ _ (pyIter _) _ _ _)); first | ((with_reducible show wpAny _ _ (storeName _ _ _) _ _ _); ((with_reducible first | refine' st_lh_paths (by k_dflt k_asm) (by k_dflt k_asm) ?_ | refine' st_lh_words (by k_dflt k_asm) (by k_dflt k_asm) ?_ | refine' st_lh_word (by k_dflt k_asm) (by k_dflt k_asm) ?_ | refine' st_lh_inside (by k_dflt k_asm) (by k_dflt k_asm) ?_ | refine' st_lh_place (by k_dflt k_asm) (by k_dflt k_asm) ?_ | refine' st_lh_stars (by k_dflt k_asm) (by k_dflt k_asm) ?_ | refine' st_lh_seen (by k_dflt k_asm) (by k_dflt k_asm) ?_ | refine' st_lh_sign (by k_dflt k_asm) (by k_dflt k_asm) ?_); intro _ _ _; (try k_sweep))) | (k_unfold; (try dsimp only)) | walk1 | dsimp only))
  refine For_invV g' rfl rfl ?_
  (repeat' ((fail_if_success (with_reducible show MidP _ _ _)); (fail_if_success (with_reducible show wpAny _ _ (execs (Stmt.If _ _ _ _ :: Stmt.For _ _ _ _ _ :: _) _) _ _ _)); (fail_if_success (with_reducible show wpAny _ _ (exec (Stmt.For _ _ _ _ _) _) _ _ _)); (fail_if_success (with_reducible show wpAny _ _ (pyIter _) _ _ _)); first | ((with_reducible show wpAny _ _ (call (Value.builtin "len") _ _) _ _ _); (k_here; (with_reducible show wpAny _ _ (call (Value.builtin "len") [Value.ref _]) _ _ _); k_dflt (refine' lenN (by k_asm) (by exact .tail _ (by assumption)) (by assumption) (by omega) ?_))) | ((with_reducible show wpAny _ _ (eval (Expr.Name _ _) _) _ _ _); ((with_reducible first | refine' ld_lh_paths (by k_dflt k_asm) ?_ | refine' ld_lh_words (by k_dflt k_asm) ?_ | refine' ld_lh_word (by k_dflt k_asm) ?_ | refine' ld_lh_inside (by k_dflt k_asm) ?_ | refine' ld_lh_place (by k_dflt k_asm) ?_ | refine' ld_lh_stars (by k_dflt k_asm) ?_ | refine' ld_lh_seen (by k_dflt k_asm) ?_ | refine' ld_lh_sign (by k_dflt k_asm) ?_))) | (k_unfold; (try dsimp only)) | walk1 | dsimp only))
  rename_i D' hh1 l1 hh2 tk2 hh3 tk3 hh4 F0 N0 tk4 hh5 tk5 kt ku kv kR kF kN kK
  have hDne : ∀ q ∈ news, q.1 ≠ D' := fun q hq => Nat.ne_of_lt (l1 q hq)
  refine iterR (n := ls.length) (o₀ := listOf ([] : List Value).toArray 0) (LhO ax D' ls) rfl kR (by decide) (rng0 (Nat.le_trans hz (by decide))) (rngC _) kF kN hDne (.mk (ws := []) (wd := []) (ins := []) .nil (hCont_start ls) (Nat.le_refl _) (Nat.le_refl _) (Nat.zero_le _)) ?_ ?_
  · intro i tt m₁ o₁ h4 tk4 rest Jn hJn hi hO hrest hsub F4 N4
    obtain ⟨hvw, hJ, hJ1, hJ2, hJ3⟩ := hO
    rename_i vw cw ws wd ins tw ti pl st se sg
    rw [mp_lh_place] at F4
    have hax2 := hsub _ hax
    obtain ⟨p, hp⟩ : ∃ p, ls[i]? = some p := ⟨_, List.getElem?_eq_getElem hi⟩
    have hpz := hl p (List.mem_of_getElem? hp)
    obtain ⟨t5, hx5⟩ := StrsAre.at hvs (j := i) (y := S p) (by rw [List.getElem?_map, hp]; rfl)
    have hx : vs[(0 + (i : Int)).toNat]? = some (.str (S p) t5) := by rw [toNat0]; exact hx5
    have hvwl := StrsAre.len_eq hvw
    rw [List.length_map] at hvwl
    have hi5 : i ≤ 100000 := by omega
    have hvwz : vw.length ≤ 100000 := by omega
    have hwdz : wd.length ≤ 10000 := by omega
    have hi9 : i ≤ 10 := by omega
    clear hi hz hvl hvwl
    rw [drop_at hp] at hJ
    refine execs_mid (LhA g' L' ax D' ls i p ins ti tt st se sg rest { s with heap := h4, toks := tk4 }) ?_ ?_
    · intro PA hPA
      (repeat' ((fail_if_success (with_reducible show MidP _ _ _)); (fail_if_success (with_reducible show wpAny _ _ (execs (Stmt.If _ _ _ _ :: Stmt.For _ _ _ _ _ :: _) _) _ _ _)); (fail_if_success (with_reducible show wpAny _ _ (exec (Stmt.For _ _ _ _ _) _) _ _ _)); (fail_if_success (with_reducible show wpAny _ _ (pyIter _) _ _ _)); first | ((with_reducible show wpAny _ _ (storeName _ _ _) _ _ _); ((with_reducible first | refine' st_lh_paths (by k_dflt k_asm) (by k_dflt k_asm) ?_ | refine' st_lh_words (by k_dflt k_asm) (by k_dflt k_asm) ?_ | refine' st_lh_word (by k_dflt k_asm) (by k_dflt k_asm) ?_ | refine' st_lh_inside (by k_dflt k_asm) (by k_dflt k_asm) ?_ | refine' st_lh_place (by k_dflt k_asm) (by k_dflt k_asm) ?_ | refine' st_lh_stars (by k_dflt k_asm) (by k_dflt k_asm) ?_ | refine' st_lh_seen (by k_dflt k_asm) (by k_dflt k_asm) ?_ | refine' st_lh_sign (by k_dflt k_asm) (by k_dflt k_asm) ?_); intro _ _ _; (try k_sweep))) | ((with_reducible show wpAny _ _ (eval (Expr.Name _ _) _) _ _ _); ((with_reducible first | refine' ld_lh_paths (by k_dflt k_asm) ?_ | refine' ld_lh_words (by k_dflt k_asm) ?_ | refine' ld_lh_word (by k_dflt k_asm) ?_ | refine' ld_lh_inside (by k_dflt k_asm) ?_ | refine' ld_lh_place (by k_dflt k_asm) ?_ | refine' ld_lh_stars (by k_dflt k_asm) ?_ | refine' ld_lh_seen (by k_dflt k_asm) ?_ | refine' ld_lh_sign (by k_dflt k_asm) ?_))) | ((with_reducible show wpAny _ _ (call (Value.builtin "list.append") _ _) _ _ _); ((with_reducible refine' appHd (by k_dflt k_asm) (by k_dflt k_asm) (by assumption) (by first | assumption | omega) ?_); intro _ _ _; (try k_sweep))) | ((with_reducible show wpAny _ _ (getMethod (Value.ref _) _ _) _ _ _); first | ((with_reducible show wpAny _ _ (getMethod (Value.ref _) (PySem.Str.ofString "append") _) _ _ _); k_dflt (refine' gmL (by k_dflt k_asm) (by k_dflt exact .head _) PySem.F.slot_list_append PySem.F.type_list_append ?_)) | ((with_reducible show wpAny _ _ (getMethod (Value.ref _) (PySem.Str.ofString "pop") _) _ _ _); k_dflt (refine' gmL (by k_dflt k_asm) (by k_dflt exact .head _) PySem.F.slot_list_pop PySem.F.type_list_pop ?_))) | ((with_reducible show wpAny _ _ (inplaceOp Operator.Add (Value.str _ _) (Value.str _ _)) _ _ _); (refine' iaddS (by walk_at "my size") ?_; intro _ _)) | (k_unfold; (try dsimp only)) | walk1 | dsimp only))
      · refine MidP.mk (hPA _ <| .mk (by assumption) (by assumption) hvw ?_ (by omega) (by simp only [List.length_append, List.length_singleton]; omega))
        rw [← hJ, decide_eq_false (by omega), hCont_on (bne_ne (by assumption))]
      · refine MidP.mk (hPA _ <| .mk (ws := ws ++ [wd]) (wd := []) (by assumption) (by assumption) (strs_snoc hvw) ?_ (by simp only [List.length_append, List.length_singleton]; omega) (Nat.zero_le _))
        rw [← hJ, decide_eq_false (by omega), bne_eq (l := ins) (r := []) (by assumption), hCont_new]
      · refine MidP.mk (hPA _ <| .mk (by assumption) (by assumption) hvw ?_ (by omega) (by omega))
        rw [← hJ, decide_eq_true (by omega), hCont_first]
    · intro s' hs
      clear hJ F4 N4
      obtain ⟨F5, N5, hvw', hJ5, hJ6, hJ7⟩ := hs
      rename_i h5 tk5 vw' cw' ws' wd' tw'
      (repeat' ((fail_if_success (with_reducible show MidP _ _ _)); (fail_if_success (with_reducible show wpAny _ _ (execs (Stmt.If _ _ _ _ :: Stmt.For _ _ _ _ _ :: _) _) _ _ _)); (fail_if_success (with_reducible show wpAny _ _ (exec (Stmt.For _ _ _ _ _) _) _ _ _)); (fail_if_success (with_reducible show wpAny _ _ (pyIter _) _ _ _)); first | ((with_reducible show wpAny _ _ (subscriptTail (Expr.Name _ _) (Expr.Name _ _) (Value.ref _) (Value.int _ _)) _ _ _); ((with_reducible show wpAny _ _ (subscriptTail _ _ (Value.ref _) (Value.int (0 + _) _)) _ _ _); k_dflt (refine' itemN (by k_asm) (by exact .tail _ (by assumption)) (by exact nn0 _) (by exact lt0 (by assumption)) (by assumption) ?_))) | ((with_reducible show wpAny _ _ (call (Value.builtin "str.count") _ _) _ _ _); (refine countS ?_; intro _)) | ((with_reducible show wpAny _ _ (storeName _ _ _) _ _ _); ((with_reducible first | refine' st_lh_paths (by k_dflt k_asm) (by k_dflt k_asm) ?_ | refine' st_lh_words (by k_dflt k_asm) (by k_dflt k_asm) ?_ | refine' st_lh_word (by k_dflt k_asm) (by k_dflt k_asm) ?_ | refine' st_lh_inside (by k_dflt k_asm) (by k_dflt k_asm) ?_ | refine' st_lh_place (by k_dflt k_asm) (by k_dflt k_asm) ?_ | refine' st_lh_stars (by k_dflt k_asm) (by k_dflt k_asm) ?_ | refine' st_lh_seen (by k_dflt k_asm) (by k_dflt k_asm) ?_ | refine' st_lh_sign (by k_dflt k_asm) (by k_dflt k_asm) ?_); intro _ _ _; (try k_sweep))) | ((with_reducible show wpAny _ _ (eval (Expr.Name _ _) _) _ _ _); ((with_reducible first | refine' ld_lh_paths (by k_dflt k_asm) ?_ | refine' ld_lh_words (by k_dflt k_asm) ?_ | refine' ld_lh_word (by k_dflt k_asm) ?_ | refine' ld_lh_inside (by k_dflt k_asm) ?_ | refine' ld_lh_place (by k_dflt k_asm) ?_ | refine' ld_lh_stars (by k_dflt k_asm) ?_ | refine' ld_lh_seen (by k_dflt k_asm) ?_ | refine' ld_lh_sign (by k_dflt k_asm) ?_))) | (k_unfold; (try dsimp only)) | walk1 | dsimp only))
      rename_i ta _ tb _ _ _
      refine execs_mid (LhB g' L' ax D' i p ins wd' ti tt ta tb sg (listOf vw'.toArray cw') rest { s with heap := h5, toks := tk5 }) ?_ ?_
      · intro PB hPB
        (repeat' ((fail_if_success (with_reducible show MidP _ _ _)); (fail_if_success (with_reducible show wpAny _ _ (execs (Stmt.If _ _ _ _ :: Stmt.For _ _ _ _ _ :: _) _) _ _ _)); (fail_if_success (with_reducible show wpAny _ _ (exec (Stmt.For _ _ _ _ _) _) _ _ _)); (fail_if_success (with_reducible show wpAny _ _ (pyIter _) _ _ _)); first | ((with_reducible show wpAny _ _ (storeName _ _ _) _ _ _); ((with_reducible first | refine' st_lh_paths (by k_dflt k_asm) (by k_dflt k_asm) ?_ | refine' st_lh_words (by k_dflt k_asm) (by k_dflt k_asm) ?_ | refine' st_lh_word (by k_dflt k_asm) (by k_dflt k_asm) ?_ | refine' st_lh_inside (by k_dflt k_asm) (by k_dflt k_asm) ?_ | refine' st_lh_place (by k_dflt k_asm) (by k_dflt k_asm) ?_ | refine' st_lh_stars (by k_dflt k_asm) (by k_dflt k_asm) ?_ | refine' st_lh_seen (by k_dflt k_asm) (by k_dflt k_asm) ?_ | refine' st_lh_sign (by k_dflt k_asm) (by k_dflt k_asm) ?_); intro _ _ _; (try k_sweep))) | ((with_reducible show wpAny _ _ (eval (Expr.Name _ _) _) _ _ _); ((with_reducible first | refine' ld_lh_paths (by k_dflt k_asm) ?_ | refine' ld_lh_words (by k_dflt k_asm) ?_ | refine' ld_lh_word (by k_dflt k_asm) ?_ | refine' ld_lh_inside (by k_dflt k_asm) ?_ | refine' ld_lh_place (by k_dflt k_asm) ?_ | refine' ld_lh_stars (by k_dflt k_asm) ?_ | refine' ld_lh_seen (by k_dflt k_asm) ?_ | refine' ld_lh_sign (by k_dflt k_asm) ?_))) | ((with_reducible show wpAny _ _ (inplaceOp Operator.Add (Value.str _ _) (Value.str _ _)) _ _ _); (refine' iaddS (by walk_at "my size") ?_; intro _ _)) | (k_unfold; (try dsimp only)) | walk1 | dsimp only))
        · refine MidP.mk (hPB _ <| .mk (wd := wd' ++ [46, 42]) (by assumption) (by assumption) ?_ (by simp only [List.length_append, List.length_cons, List.length_nil]; omega))
          rw [if_pos (by omega)]
        · refine MidP.mk (hPB _ <| .mk (wd := wd') (by assumption) (by assumption) ?_ (by omega))
          rw [if_neg (by omega)]
      · intro s' hs
        obtain ⟨F6, N6, hw6, hw7⟩ := hs
        rename_i h6 tk6 wd'' tw''
        (repeat' ((fail_if_success (with_reducible show MidP _ _ _)); (fail_if_success (with_reducible show wpAny _ _ (execs (Stmt.If _ _ _ _ :: Stmt.For _ _ _ _ _ :: _) _) _ _ _)); (fail_if_success (with_reducible show wpAny _ _ (exec (Stmt.For _ _ _ _ _) _) _ _ _)); (fail_if_success (with_reducible show wpAny _ _ (pyIter _) _ _ _)); first  | (k_unfold; (try dsimp only)) | walk1 | dsimp only))
        refine For_invV g' rfl rfl ?_
        (repeat' ((fail_if_success (with_reducible show MidP _ _ _)); (fail_if_success (with_reducible show wpAny _ _ (execs (Stmt.If _ _ _ _ :: Stmt.For _ _ _ _ _ :: _) _) _ _ _)); (fail_if_success (with_reducible show wpAny _ _ (exec (Stmt.For _ _ _ _ _) _) _ _ _)); (fail_if_success (with_reducible show wpAny _ _ (pyIter _) _ _ _)); first | ((with_reducible show wpAny _ _ (subscriptTail (Expr.Name _ _) (Expr.Name _ _) (Value.ref _) (Value.int _ _)) _ _ _); ((with_reducible show wpAny _ _ (subscriptTail _ _ (Value.ref _) (Value.int (0 + _) _)) _ _ _); k_dflt (refine' itemN (by k_asm) (by exact .tail _ (by assumption)) (by exact nn0 _) (by exact lt0 (by assumption)) (by assumption) ?_))) | ((with_reducible show wpAny _ _ (eval (Expr.Name _ _) _) _ _ _); ((with_reducible first | refine' ld_lh_paths (by k_dflt k_asm) ?_ | refine' ld_lh_words (by k_dflt k_asm) ?_ | refine' ld_lh_word (by k_dflt k_asm) ?_ | refine' ld_lh_inside (by k_dflt k_asm) ?_ | refine' ld_lh_place (by k_dflt k_asm) ?_ | refine' ld_lh_stars (by k_dflt k_asm) ?_ | refine' ld_lh_seen (by k_dflt k_asm) ?_ | refine' ld_lh_sign (by k_dflt k_asm) ?_))) | (k_unfold; (try dsimp only)) | walk1 | dsimp only))
        rename Fr g' L' _ _ => kF6
        rename News g' L' _ _ => kN6
        refine iterS (o₀ := listOf vw'.toArray cw') (LhJ ax D' i p ins wd'' tt ta (listOf vw'.toArray cw')) rfl kF6 kN6 hrest (.mk (seen := 0) (HgJ.start hJ3)) ?_ ?_
        · intro j c7 tt7 m₁ o₁ h7 tk7 rest7 Jn7 hJn7 hc7 hs hrest7 hsub7 F7 N7
          obtain ⟨hG⟩ := hs
          rename_i w2 i2 t2 t3 t4 seen sg7
          rw [mp_lh_sign] at F7
          have hG3 := hG.il
          have hw2 : w2.length ≤ 20000 := by
            have := hG.sz
            have := (List.getElem?_eq_some_iff.mp hc7).1
            omega
          clear hpz hw7 hi9 hi5 hvwz hwdz hJ1 hJ2 hJ3 hJ6 hJ7
          (repeat' ((fail_if_success (with_reducible show MidP _ _ _)); (fail_if_success (with_reducible show wpAny _ _ (execs (Stmt.If _ _ _ _ :: Stmt.For _ _ _ _ _ :: _) _) _ _ _)); (fail_if_success (with_reducible show wpAny _ _ (exec (Stmt.For _ _ _ _ _) _) _ _ _)); (fail_if_success (with_reducible show wpAny _ _ (pyIter _) _ _ _)); first | ((with_reducible show wpAny _ _ (storeName _ _ _) _ _ _); ((with_reducible first | refine' st_lh_paths (by k_dflt k_asm) (by k_dflt k_asm) ?_ | refine' st_lh_words (by k_dflt k_asm) (by k_dflt k_asm) ?_ | refine' st_lh_word (by k_dflt k_asm) (by k_dflt k_asm) ?_ | refine' st_lh_inside (by k_dflt k_asm) (by k_dflt k_asm) ?_ | refine' st_lh_place (by k_dflt k_asm) (by k_dflt k_asm) ?_ | refine' st_lh_stars (by k_dflt k_asm) (by k_dflt k_asm) ?_ | refine' st_lh_seen (by k_dflt k_asm) (by k_dflt k_asm) ?_ | refine' st_lh_sign (by k_dflt k_asm) (by k_dflt k_asm) ?_); intro _ _ _; (try k_sweep))) | ((with_reducible show wpAny _ _ (eval (Expr.Name _ _) _) _ _ _); ((with_reducible first | refine' ld_lh_paths (by k_dflt k_asm) ?_ | refine' ld_lh_words (by k_dflt k_asm) ?_ | refine' ld_lh_word (by k_dflt k_asm) ?_ | refine' ld_lh_inside (by k_dflt k_asm) ?_ | refine' ld_lh_place (by k_dflt k_asm) ?_ | refine' ld_lh_stars (by k_dflt k_asm) ?_ | refine' ld_lh_seen (by k_dflt k_asm) ?_ | refine' ld_lh_sign (by k_dflt k_asm) ?_))) | ((with_reducible show wpAny _ _ (binaryOp Operator.Add (Value.str _ _) (Value.str _ _)) _ _ _); (refine' addS (by walk_at "my size") ?_; intro _ _)) | ((with_reducible show wpAny _ _ (inplaceOp Operator.Add (Value.str _ _) (Value.str _ _)) _ _ _); (refine' iaddS (by walk_at "my size") ?_; intro _ _)) | (k_unfold; (try dsimp only)) | walk1 | dsimp only))
          · exact TurnR.mk (by assumption) (by assumption) (hJn7 _ _ <| .mk (seen := seen + 1) (hG.s1 hc7 (by assumption) (by assumption) (by assumption)))
          · exact TurnR.mk (by assumption) (by assumption) (hJn7 _ _ <| .mk (seen := seen + 1) (hG.s2 hc7 (by assumption) (by assumption) (by assumption)))
          · exact TurnR.mk (by assumption) (by assumption) (hJn7 _ _ <| .mk (seen := seen + 1) (hG.s3 hc7 (by assumption) (by assumption) (by assumption)))
          · exact TurnR.mk (by assumption) (by assumption) (hJn7 _ _ <| .mk (seen := seen + 1) (hG.s4 hc7 (by assumption) (by assumption) (by assumption)))
          · exact TurnR.mk (by assumption) (by assumption) (hJn7 _ _ <| .mk (hG.s5 hc7 (by assumption) (by assumption)))
          · exact TurnR.mk (by assumption) (by assumption) (hJn7 _ _ <| .mk (hG.s6 hc7 (by assumption) (by assumption)))
          · exact TurnR.mk (by assumption) (by assumption) (hJn7 _ _ <| .mk (hG.s7 hc7 (by assumption) (by assumption)))
          · exact TurnR.mk (by assumption) (by assumption) (hJn7 _ _ <| .mk (hG.s7 hc7 (by assumption) (by assumption)))
          · exact TurnR.mk (by assumption) (by assumption) (hJn7 _ _ <| .mk (hG.s9 hc7 (by assumption) (by assumption) (by assumption) (by assumption) (by assumption)))
          · exact TurnR.mk (by assumption) (by assumption) (hJn7 _ _ <| .mk (hG.s10 hc7 (by assumption) (by assumption) (by assumption) (by assumption) (by assumption) (by assumption)))
          · exact TurnR.mk (by assumption) (by assumption) (hJn7 _ _ <| .mk (hG.s11 hc7 (by assumption) (by assumption) (by assumption) (by assumption) (by assumption)))
          · exact TurnR.mk (by assumption) (by assumption) (hJn7 _ _ <| .mk (hG.s12 hc7 (by assumption) (by assumption) (by assumption) (by assumption) (by assumption)))
          · exact TurnR.mk (by assumption) (by assumption) (hJn7 _ _ <| .mk (hG.s13 hc7 (by assumption) (by assumption) (by assumption) (by assumption)))
        · intro m₁ o₁ h7 tk7 hs F7 N7
          obtain ⟨hG⟩ := hs
          have hG1 := hG.sz
          (repeat' ((fail_if_success (with_reducible show MidP _ _ _)); (fail_if_success (with_reducible show wpAny _ _ (execs (Stmt.If _ _ _ _ :: Stmt.For _ _ _ _ _ :: _) _) _ _ _)); (fail_if_success (with_reducible show wpAny _ _ (exec (Stmt.For _ _ _ _ _) _) _ _ _)); (fail_if_success (with_reducible show wpAny _ _ (pyIter _) _ _ _)); first  | (k_unfold; (try dsimp only)) | walk1 | dsimp only))
          refine TurnR.mk (by assumption) (by assumption) (hJn _ _ <| .mk hvw' ?_ (by omega) (by omega) hG.il)
          rw [hPath_eq, ← hw6, hG.stop] at hJ5
          exact hJ5
  · intro m₁ o₁ h4 tk4 hO F4 N4
    obtain ⟨hvw, hJ, hJ1, hJ2, hJ3⟩ := hO
    rw [List.drop_length, hCont_end] at hJ
    have hvwl := StrsAre.len_eq hvw
    rw [List.length_map] at hvwl
    (repeat' ((fail_if_success (with_reducible show MidP _ _ _)); (fail_if_success (with_reducible show wpAny _ _ (execs (Stmt.If _ _ _ _ :: Stmt.For _ _ _ _ _ :: _) _) _ _ _)); (fail_if_success (with_reducible show wpAny _ _ (exec (Stmt.For _ _ _ _ _) _) _ _ _)); (fail_if_success (with_reducible show wpAny _ _ (pyIter _) _ _ _)); first | ((with_reducible show wpAny _ _ (binaryOp Operator.Add (Value.ref _) (Value.ref _)) _ _ _); ((with_reducible refine' addL (by k_dflt k_asm) (by k_dflt k_asm) (by k_dflt (exact .tail _ (.head _))) (by k_dflt (exact .head _)) (by simp only [List.length_singleton]; omega) ?_); intro _ _ _ _ _; (try k_sweep))) | ((with_reducible show wpAny _ _ (eval (Expr.Name _ _) _) _ _ _); ((with_reducible first | refine' ld_lh_paths (by k_dflt k_asm) ?_ | refine' ld_lh_words (by k_dflt k_asm) ?_ | refine' ld_lh_word (by k_dflt k_asm) ?_ | refine' ld_lh_inside (by k_dflt k_asm) ?_ | refine' ld_lh_place (by k_dflt k_asm) ?_ | refine' ld_lh_stars (by k_dflt k_asm) ?_ | refine' ld_lh_seen (by k_dflt k_asm) ?_ | refine' ld_lh_sign (by k_dflt k_asm) ?_))) | (k_unfold; (try dsimp only)) | walk1 | dsimp only))
    · rw [if_neg (bne_ne (by assumption))] at hJ
      exact hbad hJ.symm _ _ (by assumption) (ntl (by assumption))
    · rw [if_pos (bne_eq (by assumption))] at hJ
      exact hok _ hJ.symm _ _ _ _ _ (by assumption) (nswap (nswap (by assumption))) (strs_snoc hvw) (fun q hq => by apply_assumption; exact .tail _ (.tail _ hq))

end
section


theorem lead_0 {p : List Nat} (h : (p.take 1 == [47]) = false) : leadP p = [] := by
  have : ¬ p.take 1 = [47] := by simpa using h
  rw [leadP, if_neg this]
theorem lead_1 {p : List Nat} (h : (p.take 1 == [47]) = true) (h3 : (p.take 2 == [47, 47]) = false ∨ (p.take 3 != [47, 47, 47]) = false) : leadP p = [47] := by
  have a : p.take 1 = [47] := by simpa using h
  rw [leadP, if_pos a, if_neg]
  rintro ⟨d, e⟩
  rcases h3 with x | x
  · exact (by simpa using x : ¬ p.take 2 = [47, 47]) d
  · exact e (by simpa using x)
theorem lead_2 {p : List Nat} (h : (p.take 1 == [47]) = true) (h4 : (p.take 2 == [47, 47]) = true) (h5 : (p.take 3 != [47, 47, 47]) = true) : leadP p = [47, 47] := by
  have a : p.take 1 = [47] := by simpa using h
  rw [leadP, if_pos a, if_pos ⟨by simpa using h4, by simpa using h5⟩]
theorem proper_1 {l : List Nat} (h : (l != []) = true) (h2 : (l != [46]) = true) : proper l = true := by
  have a : l ≠ [] := by simpa using h
  have b : l ≠ [46] := by simpa using h2
  simp [proper, a, b]
theorem proper_0 {l : List Nat} (h : (l != []) = false ∨ (l != [46]) = false) : ¬ proper l = true := by
  rcases h with h | h
  · have a : l = [] := by simpa using h
    subst a; decide
  · have a : l = [46] := by simpa using h
    subst a; decide
theorem nrot {h₀ h : Heap} {L : Addr} {p q r : Addr × Obj} {l : List (Addr × Obj)} (N : News h₀ L h (p :: q :: r :: l)) : News h₀ L h (q :: r :: p :: l) := fun x hx => N x (by
  simp only [List.mem_cons] at hx ⊢
  rcases hx with h | h | h | h <;> simp [h])
theorem nk6 {h₀ h : Heap} {L : Addr} {a b c d e f : Addr × Obj} {l : List (Addr × Obj)} (N : News h₀ L h (a :: b :: c :: d :: e :: f :: l)) : News h₀ L h (d :: e :: b :: l) := fun x hx => N x (by
  simp only [List.mem_cons] at hx ⊢
  rcases hx with h | h | h | h <;> simp [h])
theorem nk9 {h₀ h : Heap} {L : Addr} {a b c d e f g i j : Addr × Obj} {l : List (Addr × Obj)} (N : News h₀ L h (a :: b :: c :: d :: e :: f :: g :: i :: j :: l)) : News h₀ L h (g :: a :: e :: l) := fun x hx => N x (by
  simp only [List.mem_cons] at hx ⊢
  rcases hx with h | h | h | h <;> simp [h])
theorem nk2 {h₀ h : Heap} {L : Addr} {a b c d : Addr × Obj} {l : List (Addr × Obj)} (N : News h₀ L h (a :: b :: c :: d :: l)) : News h₀ L h (b :: c :: l) := fun x hx => N x (by
  simp only [List.mem_cons] at hx ⊢
  rcases hx with h | h | h <;> simp [h])
theorem nk4 {h₀ h : Heap} {L : Addr} {a b c d e : Addr × Obj} {l : List (Addr × Obj)} (N : News h₀ L h (a :: b :: c :: d :: e :: l)) : News h₀ L h (d :: a :: l) := fun x hx => N x (by
  simp only [List.mem_cons] at hx ⊢
  rcases hx with h | h | h <;> simp [h])
theorem sm_dd : Sm [[46, 46]] := by
  intro l hl c hc
  rw [List.mem_singleton.mp hl] at hc
  simp at hc; omega
/-- behind the lead -/
inductive LsA (g : Heap) (L : Addr) (l : List Nat) (t : Tok) (o : Obj) (news : List (Addr × Obj)) (s : Shared) : Shared → Prop
  | mk {h' : Heap} {tk : Nat} {t2 : Tok} {e : List Nat} (F : Fr g L h' (mp_ls (some (.str (S l) t)) (some (.str (S e) t2)) none none)) (N : News g L h' ((L + 1, o) :: news)) (he : e = leadP l) : LsA g L l t o news s { s with heap := h', toks := tk }
/-- what the outer loop holds -/
inductive LsW (g : Heap) (L : Addr) (l : List Nat) (t t2 : Tok) (news : List (Addr × Obj)) (ns0 : List (List Nat)) (s : Shared) : Nat → Shared → Prop
  | mk {n : Nat} {h' : Heap} {tk : Nat} {o : Obj} {D : Nat} {vs : List Value} {c P : Nat} {ps : List Value} {cp : Nat} {ns : List (List Nat)} {pn : List Nat} (F : Fr g L h' (mp_ls (some (.str (S l) t)) (some (.str (S (leadP l)) t2)) (some (.ref P)) none)) (N : News g L h' ((L + 1, o) :: (D, listOf vs.toArray c) :: (P, listOf ps.toArray cp) :: news))
      (hd : o.data = .cell (some (.ref D))) (hD : D ≠ L + 1) (hP : P ≠ L + 1) (hv : StrsAre vs (ns.map S)) (hi : IntsAre ps (pn.map fun k : Nat => (k : Int))) (hJ : StJ ns0 ns) (hp : pn = [] → prs ns (ns.length - 1) = []) (hn : n = ns.length + (if pn = [] then 0 else 1)) : LsW g L l t t2 news ns0 s n { s with heap := h', toks := tk }
/-- behind the inner loop -/
inductive LsB (g : Heap) (L : Addr) (l : List Nat) (t t2 : Tok) (P : Nat) (ns : List (List Nat)) (news : List (Addr × Obj)) (s : Shared) : Shared → Prop
  | mk {h' : Heap} {tk : Nat} {o : Obj} {D : Nat} {vs : List Value} {c : Nat} (F : Fr g L h' (mp_ls (some (.str (S l) t)) (some (.str (S (leadP l)) t2)) (some (.ref P)) none)) (N : News g L h' ((L + 1, o) :: (D, listOf vs.toArray c) :: news))
      (hd : o.data = .cell (some (.ref D))) (hv : StrsAre vs ((upOff (leadP l) ns).map S)) (hz : (upOff (leadP l) ns).flatten.length + (upOff (leadP l) ns).length ≤ 100000) : LsB g L l t t2 P ns news s { s with heap := h', toks := tk }
/-- what the inner loop holds -/
inductive LsU (g : Heap) (L : Addr) (l : List Nat) (t t2 : Tok) (P : Nat) (ns : List (List Nat)) (news : List (Addr × Obj)) (s : Shared) : Nat → Shared → Prop
  | mk {n : Nat} {h' : Heap} {tk : Nat} {o : Obj} {D : Nat} {vs : List Value} {c : Nat} {ns2 : List (List Nat)} (F : Fr g L h' (mp_ls (some (.str (S l) t)) (some (.str (S (leadP l)) t2)) (some (.ref P)) none)) (N : News g L h' ((L + 1, o) :: (D, listOf vs.toArray c) :: news))
      (hd : o.data = .cell (some (.ref D))) (hD : D ≠ L + 1) (hv : StrsAre vs (ns2.map S)) (hJ : SuJ (leadP l) ns ns2) (hn : n = ns2.length) : LsU g L l t t2 P ns news s n { s with heap := h', toks := tk }
theorem prs_le {ns : List (List Nat)} {k0 n : Nat} (hnl : ns.length ≤ 2001) (hk0 : k0 ∈ prs ns n) : k0 ≤ 10000 := by
  obtain ⟨j, hj, hj2, _⟩ := prs_mem hk0
  rcases Nat.lt_or_ge (j + 1) ns.length with h' | h'
  · omega
  · rw [List.getElem?_eq_none h'] at hj2; cases hj2
theorem straight_ok {l : List Nat} {t : Tok} (H : Here w A₀ base h₀ outer cs mean mg mb) (F : Fr h₀ L s.heap m) (N : News h₀ L s.heap news) (hdp : dp ≤ 750) (hun : un ≤ 1700) (hsm : ∀ c ∈ l, c < 200) (hz : l.length ≤ 2000)
    (h : ∀ h' tk t', Fr h₀ L h' m → News h₀ L h' news → Q (.str (S (strP l)) t') { s with heap := h', toks := tk }) :
    wpAny (model PG w) (ktrTop dp un gd cn cs L a ccd cl outer) (call (.ref 857) [.str (S l) t]) Q E s := by
  obtain ⟨HB, X, T, hk⟩ := H
  refine wpAny_call ?_
  refine' code_defX (binds := [(Str.ofString "text", .str (S l) t)]) (x := Str.ofString "names") (m₀ := mp_ls (some (.str (S l) t)) none none none) ?k1 ?k2 ?k3 ?k4 ?k5 ?kA ?kF ?kK ?k6 ?k7 ?k8 ?k9 ?kB ?kx ?km ?_ ?c2 ?c3 ?c4
  (case kA => exact rfl); (case kF => exact rfl); (case kK => assumption); (case k1 => k_asm); (case k2 => k_asm); (case k3 => k_asm); (case k4 => k_asm); (case k5 => k_asm); (case k6 => k_is)
  (case k7 => k_is); (case k8 => ktr_room); (case k9 => exact BindsTo.of_eq rfl); (case kB => exact rfl); (case c2 => exact rfl); (case c3 => exact rfl); (case c4 => exact rfl)
  (case kx => intro n; rfl)
  (case km => intro L'; exact bind_ls)
  intro g' L' h' tk' o v FG' F' N' hd' B' X' T' l1
  (try dsimp only)
  k_fold
  (repeat' ((fail_if_success (with_reducible show MidP _ _ _)); (fail_if_success (with_reducible show wpAny _ _ (storeName _ (PySem.Str.ofString "names") _) _ _ _)); (fail_if_success (with_reducible show wpAny _ _ (execs (Stmt.If _ _ _ _ :: Stmt.Assign _ _ _ :: _) _) _ _ _)); (fail_if_success (with_reducible show wpAny _ _ (execs (Stmt.Assign _ (Expr.ListComp _ _ _ _) _ :: _) _) _ _ _)); (fail_if_success (with_reducible show wpAny _ _ (exec (Stmt.While _ _ _ _) _) _ _ _)); (fail_if_success (with_reducible show wpAny _ _ (eval (Expr.ListComp _ _ _ _) _) _ _ _)); (fail_if_success (with_reducible show LCt.CompSrcT _ _ _ _ _ _ _ _ _ _ _ _ _ _ _)); first | ((with_reducible show wpAny _ _ (storeName _ _ _) _ _ _); ((with_reducible first | refine' st_ls_text (by k_dflt k_asm) (by k_dflt k_asm) ?_ | refine' st_ls_lead (by k_dflt k_asm) (by k_dflt k_asm) ?_ | refine' st_ls_pairs (by k_dflt k_asm) (by k_dflt k_asm) ?_ | refine' st_ls_made (by k_dflt k_asm) (by k_dflt k_asm) ?_); intro _ _ _; (try k_sweep))) | (k_unfold; (try dsimp only)) | walk1 | dsimp only))
  refine execs_mid (LsA g' L' l t o news s) ?_ ?_
  · intro PM hPM
    (repeat' ((fail_if_success (with_reducible show MidP _ _ _)); (fail_if_success (with_reducible show wpAny _ _ (storeName _ (PySem.Str.ofString "names") _) _ _ _)); (fail_if_success (with_reducible show wpAny _ _ (execs (Stmt.If _ _ _ _ :: Stmt.Assign _ _ _ :: _) _) _ _ _)); (fail_if_success (with_reducible show wpAny _ _ (execs (Stmt.Assign _ (Expr.ListComp _ _ _ _) _ :: _) _) _ _ _)); (fail_if_success (with_reducible show wpAny _ _ (exec (Stmt.While _ _ _ _) _) _ _ _)); (fail_if_success (with_reducible show wpAny _ _ (eval (Expr.ListComp _ _ _ _) _) _ _ _)); (fail_if_success (with_reducible show LCt.CompSrcT _ _ _ _ _ _ _ _ _ _ _ _ _ _ _)); first | ((with_reducible show wpAny _ _ (storeName _ _ _) _ _ _); ((with_reducible first | refine' st_ls_text (by k_dflt k_asm) (by k_dflt k_asm) ?_ | refine' st_ls_lead (by k_dflt k_asm) (by k_dflt k_asm) ?_ | refine' st_ls_pairs (by k_dflt k_asm) (by k_dflt k_asm) ?_ | refine' st_ls_made (by k_dflt k_asm) (by k_dflt k_asm) ?_); intro _ _ _; (try k_sweep))) | ((with_reducible show wpAny _ _ (eval (Expr.Name _ _) _) _ _ _); ((with_reducible first | refine' ld_ls_text (by k_dflt k_asm) ?_ | refine' ld_ls_lead (by k_dflt k_asm) ?_ | refine' ld_ls_pairs (by k_dflt k_asm) ?_ | refine' ld_ls_made (by k_dflt k_asm) ?_))) | ((with_reducible show wpAny _ _ (eval (Expr.Name _ _) _) _ _ _); ((with_reducible refine' nameX_C (by k_dflt k_asm) (by k_dflt exact rfl) (by k_dflt k_mem) (by assumption) ?_ (by k_dflt exact rfl) (by k_dflt exact rfl)))) | ((with_reducible show wpAny _ _ (eval (Expr.Name _ _) _) _ _ _); ((with_reducible show wpAny _ _ (eval (Expr.Name _ _) (compEnvC _ _ _ _)) _ _ _); k_dflt (first | refine LCgL.ld_own (by k_asm) (by k_mem) (by assumption) (by assumption) ?_ | (refine' lcf_cell (by k_asm) (by rfl) (by k_mem) (by assumption) ?_ (by rfl) (by rfl))))) | ((with_reducible show wpAny _ _ (eval (Expr.Name _ _) _) _ _ _); (k_here; k_dflt (refine' nameX_B (by k_asm) (by k_asm) (by k_asm) (by k_is) (by boot_fast) (by decide) ?_ (by rfl) (by rfl); k_whole))) | ((with_reducible show wpAny _ _ (subscriptTail (Expr.Name _ _) (Expr.Slice _ _ _ _) (Value.str _ _) (Value.ref _)) _ _ _); ((with_reducible rename Fr _ _ _ _ => F'); (with_reducible rename News _ _ _ _ => N'); (first | ((with_reducible show wpAny _ _ (subscriptTail _ (Expr.Slice none (some _) none _) (Value.str (S _) _) _) _ _ _); refine' cut_ns (s := ⟨_, _, _, _, _⟩) (by k_dflt exact rfl) F' N' (by walk_at "my size") ?_) | ((with_reducible show wpAny _ _ (subscriptTail _ (Expr.Slice (some _) none none _) (Value.str (S _) _) _) _ _ _); refine' cut_sn (s := ⟨_, _, _, _, _⟩) (by k_dflt exact rfl) F' N' (by walk_at "my size") ?_) | ((with_reducible show wpAny _ _ (subscriptTail _ (Expr.Slice (some _) (some _) none _) (Value.str (S _) _) _) _ _ _); refine' cut_ss (s := ⟨_, _, _, _, _⟩) (by k_dflt exact rfl) (by k_dflt exact rfl) F' N' (by walk_at "my size") ?_)); intro _ _ _ _ _; (try k_sweep))) | (k_unfold; (try dsimp only)) | walk1 | dsimp only))
    · exact MidP.mk (hPM _ <| .mk (by assumption) (by assumption) (lead_2 (by assumption) (by assumption) (by assumption)).symm)
    · exact MidP.mk (hPM _ <| .mk (by assumption) (by assumption) (lead_1 (by assumption) (.inr (by assumption))).symm)
    · exact MidP.mk (hPM _ <| .mk (by assumption) (by assumption) (lead_1 (by assumption) (.inl (by assumption))).symm)
    · exact MidP.mk (hPM _ <| .mk (by assumption) (by assumption) (lead_0 (by assumption)).symm)
  intro s' hs
  obtain ⟨F2, N2, rfl⟩ := hs
  rename_i h2 tk2 t2
  have hls := (spl_sub 47 l).2
  refine execs_consK ?_
  walk1
  refine LCt.ListComp_T (F₀ := F2) (by with_unfolding_all rfl) (by decide) (by rfl) (by decide) (by rfl) ?_
  (repeat' ((fail_if_success (with_reducible show MidP _ _ _)); (fail_if_success (with_reducible show wpAny _ _ (storeName _ (PySem.Str.ofString "names") _) _ _ _)); (fail_if_success (with_reducible show wpAny _ _ (execs (Stmt.If _ _ _ _ :: Stmt.Assign _ _ _ :: _) _) _ _ _)); (fail_if_success (with_reducible show wpAny _ _ (execs (Stmt.Assign _ (Expr.ListComp _ _ _ _) _ :: _) _) _ _ _)); (fail_if_success (with_reducible show wpAny _ _ (exec (Stmt.While _ _ _ _) _) _ _ _)); (fail_if_success (with_reducible show wpAny _ _ (eval (Expr.ListComp _ _ _ _) _) _ _ _)); (fail_if_success (with_reducible show LCt.CompSrcT _ _ _ _ _ _ _ _ _ _ _ _ _ _ _)); first | ((with_reducible show wpAny _ _ (eval (Expr.Name _ _) _) _ _ _); ((with_reducible first | refine' ld_ls_text (by k_dflt k_asm) ?_ | refine' ld_ls_lead (by k_dflt k_asm) ?_ | refine' ld_ls_pairs (by k_dflt k_asm) ?_ | refine' ld_ls_made (by k_dflt k_asm) ?_))) | ((with_reducible show wpAny _ _ (eval (Expr.Name _ _) _) _ _ _); ((with_reducible refine' nameX_C (by k_dflt k_asm) (by k_dflt exact rfl) (by k_dflt k_mem) (by assumption) ?_ (by k_dflt exact rfl) (by k_dflt exact rfl)))) | ((with_reducible show wpAny _ _ (eval (Expr.Name _ _) _) _ _ _); ((with_reducible show wpAny _ _ (eval (Expr.Name _ _) (compEnvC _ _ _ _)) _ _ _); k_dflt (first | refine LCgL.ld_own (by k_asm) (by k_mem) (by assumption) (by assumption) ?_ | (refine' lcf_cell (by k_asm) (by rfl) (by k_mem) (by assumption) ?_ (by rfl) (by rfl))))) | ((with_reducible show wpAny _ _ (eval (Expr.Name _ _) _) _ _ _); (k_here; k_dflt (refine' nameX_B (by k_asm) (by k_asm) (by k_asm) (by k_is) (by boot_fast) (by decide) ?_ (by rfl) (by rfl); k_whole))) | ((with_reducible show wpAny _ _ (call (Value.builtin "str.split") _ _) _ _ _); ((with_reducible refine' splitS (by k_dflt k_asm) (by k_dflt k_asm) (by first | assumption | omega) ?_); intro _ _ _ _ _ _ _ _; (try k_sweep))) | (k_unfold; (try dsimp only)) | walk1 | dsimp only))
  rename_i D' vs' h1' tk1' kF kN kS lD'
  have hvl := StrsAre.len_eq kS
  rw [List.length_map] at hvl
  refine LCt.CompSrcT.ledger (k := 0) rfl kF kN (.head _) (by rw [List.size_toArray, sizeLine_eq]; omega) ?_
  intro g₁
  refine comp_invT (fun i ys => StrsAre ys ((((spl 47 l).take i).filter proper).map S)) .nil ?_ ?_
  · intro i v I oI C oC D m₂ ys h tk E' hi hv hJ hC hx F2 N2 off ne
    obtain ⟨a, t, hll, rfl⟩ := strs_at kS hv
    have hlz : a.length ≤ 2000 := by
      have := ((spl_sub 47 l).1 a (List.mem_of_getElem? hll)).2
      omega
    have hsr : LCg.SrcAt g' D' vs'.toArray ((D', listOf vs'.toArray 0) :: (L' + 1, o) :: news) := Or.inr ⟨_, .head _, rfl, _, rfl⟩
    (repeat' ((fail_if_success (with_reducible show MidP _ _ _)); (fail_if_success (with_reducible show wpAny _ _ (storeName _ (PySem.Str.ofString "names") _) _ _ _)); (fail_if_success (with_reducible show wpAny _ _ (execs (Stmt.If _ _ _ _ :: Stmt.Assign _ _ _ :: _) _) _ _ _)); (fail_if_success (with_reducible show wpAny _ _ (execs (Stmt.Assign _ (Expr.ListComp _ _ _ _) _ :: _) _) _ _ _)); (fail_if_success (with_reducible show wpAny _ _ (exec (Stmt.While _ _ _ _) _) _ _ _)); (fail_if_success (with_reducible show wpAny _ _ (eval (Expr.ListComp _ _ _ _) _) _ _ _)); (fail_if_success (with_reducible show LCt.CompSrcT _ _ _ _ _ _ _ _ _ _ _ _ _ _ _)); first | ((with_reducible show wpAny _ _ (eval (Expr.Name _ _) _) _ _ _); ((with_reducible first | refine' ld_ls_text (by k_dflt k_asm) ?_ | refine' ld_ls_lead (by k_dflt k_asm) ?_ | refine' ld_ls_pairs (by k_dflt k_asm) ?_ | refine' ld_ls_made (by k_dflt k_asm) ?_))) | ((with_reducible show wpAny _ _ (eval (Expr.Name _ _) _) _ _ _); ((with_reducible refine' nameX_C (by k_dflt k_asm) (by k_dflt exact rfl) (by k_dflt k_mem) (by assumption) ?_ (by k_dflt exact rfl) (by k_dflt exact rfl)))) | ((with_reducible show wpAny _ _ (eval (Expr.Name _ _) _) _ _ _); ((with_reducible show wpAny _ _ (eval (Expr.Name _ _) (compEnvC _ _ _ _)) _ _ _); k_dflt (first | refine LCgL.ld_own (by k_asm) (by k_mem) (by assumption) (by assumption) ?_ | (refine' lcf_cell (by k_asm) (by rfl) (by k_mem) (by assumption) ?_ (by rfl) (by rfl))))) | ((with_reducible show wpAny _ _ (eval (Expr.Name _ _) _) _ _ _); (k_here; k_dflt (refine' nameX_B (by k_asm) (by k_asm) (by k_asm) (by k_is) (by boot_fast) (by decide) ?_ (by rfl) (by rfl); k_whole))) | (k_unfold; (try dsimp only)) | walk1 | dsimp only))
    · refine compE (by assumption) (by assumption) off hsr ?_
      rw [take_filter hll, if_pos (proper_1 (by assumption) (by assumption))]
      exact strs_snoc hJ
    · refine compE (by assumption) (by assumption) off hsr ?_
      rw [take_filter hll, if_neg (proper_0 (.inr (by assumption)))]
      exact hJ
    · refine compE (by assumption) (by assumption) off hsr ?_
      rw [take_filter hll, if_neg (proper_0 (.inl (by assumption)))]
      exact hJ
  intro ys hJ D0 h9 tk F3 N3 off
  rw [List.size_toArray, hvl, List.take_length] at hJ
  have hDc : D0 ≠ L' + 1 := fun e => off.2.1 e.symm
  have hnC : ∀ q ∈ news, q.1 ≠ L' + 1 := fun q hq => Nat.ne_of_lt (Nat.lt_succ_of_lt (l1 q hq))
  have hst := StJ.start hsm hz
  refine stCell F3 (news := (D0, LCg.lst ys) :: news) (fun q hq => N3 q (by simp only [List.mem_cons] at hq ⊢; rcases hq with h | h | h <;> simp [h])) (fun q hq => by rcases List.mem_cons.mp hq with rfl | hq; exact hDc; exact hnC q hq) rfl hd' ?_
  intro h4 o4 F4 N4 hd4
  generalize hns0 : (spl 47 l).filter proper = ns0 at hJ hst
  (repeat' ((fail_if_success (with_reducible show MidP _ _ _)); (fail_if_success (with_reducible show wpAny _ _ (storeName _ (PySem.Str.ofString "names") _) _ _ _)); (fail_if_success (with_reducible show wpAny _ _ (execs (Stmt.If _ _ _ _ :: Stmt.Assign _ _ _ :: _) _) _ _ _)); (fail_if_success (with_reducible show wpAny _ _ (execs (Stmt.Assign _ (Expr.ListComp _ _ _ _) _ :: _) _) _ _ _)); (fail_if_success (with_reducible show wpAny _ _ (exec (Stmt.While _ _ _ _) _) _ _ _)); (fail_if_success (with_reducible show wpAny _ _ (eval (Expr.ListComp _ _ _ _) _) _ _ _)); (fail_if_success (with_reducible show LCt.CompSrcT _ _ _ _ _ _ _ _ _ _ _ _ _ _ _)); first | ((with_reducible show wpAny _ _ (storeName _ _ _) _ _ _); ((with_reducible first | refine' st_ls_text (by k_dflt k_asm) (by k_dflt k_asm) ?_ | refine' st_ls_lead (by k_dflt k_asm) (by k_dflt k_asm) ?_ | refine' st_ls_pairs (by k_dflt k_asm) (by k_dflt k_asm) ?_ | refine' st_ls_made (by k_dflt k_asm) (by k_dflt k_asm) ?_); intro _ _ _; (try k_sweep))) | (k_unfold; (try dsimp only)) | walk1 | dsimp only))
  rename_i tk5 P0 hh5 l5 h5 F5 N5 tk6
  refine While_my (LsW g' L' l t t2 news ns0 s) ?_ _
    (.mk (ps := [.int 0 _]) (cp := 0) (pn := [0]) F5 (nrot N5) hd4 hDc (Nat.ne_of_gt l5.1) hJ (.cons _ _ .nil) hst (by intro x; cases x) rfl)
  · intro n s' Jw hJw hs
    obtain ⟨F6, N6, hd6, hD6, hP6, hvs, hps, hJ6, hpn, hn⟩ := hs
    rename_i h6 tk6 o6 D6 vs c6 P6 ps cp ns pn
    have hvl6 := StrsAre.len_eq hvs
    rw [List.length_map] at hvl6
    have hsz6 := hJ6.sz
    have hnl : ns.length ≤ 2001 := by omega
    have hvz6 : vs.length ≤ 100000 := by omega
    clear hsz6
    (repeat' ((fail_if_success (with_reducible show MidP _ _ _)); (fail_if_success (with_reducible show wpAny _ _ (storeName _ (PySem.Str.ofString "names") _) _ _ _)); (fail_if_success (with_reducible show wpAny _ _ (execs (Stmt.If _ _ _ _ :: Stmt.Assign _ _ _ :: _) _) _ _ _)); (fail_if_success (with_reducible show wpAny _ _ (execs (Stmt.Assign _ (Expr.ListComp _ _ _ _) _ :: _) _) _ _ _)); (fail_if_success (with_reducible show wpAny _ _ (exec (Stmt.While _ _ _ _) _) _ _ _)); (fail_if_success (with_reducible show wpAny _ _ (eval (Expr.ListComp _ _ _ _) _) _ _ _)); (fail_if_success (with_reducible show LCt.CompSrcT _ _ _ _ _ _ _ _ _ _ _ _ _ _ _)); first | ((with_reducible show wpAny _ _ (compareOp CmpOp.NotEq (Value.ref _) (Value.ref _)) _ _ _); ((with_reducible refine' neIs (n2 := []) (by k_dflt k_asm) (by k_dflt k_mem) (by k_dflt exact .head _) (by assumption) (by k_dflt exact .nil) (by k_units) ?_))) | ((with_reducible show wpAny _ _ (eval (Expr.Name _ _) _) _ _ _); ((with_reducible first | refine' ld_ls_text (by k_dflt k_asm) ?_ | refine' ld_ls_lead (by k_dflt k_asm) ?_ | refine' ld_ls_pairs (by k_dflt k_asm) ?_ | refine' ld_ls_made (by k_dflt k_asm) ?_))) | ((with_reducible show wpAny _ _ (eval (Expr.Name _ _) _) _ _ _); ((with_reducible refine' nameX_C (by k_dflt k_asm) (by k_dflt exact rfl) (by k_dflt k_mem) (by assumption) ?_ (by k_dflt exact rfl) (by k_dflt exact rfl)))) | ((with_reducible show wpAny _ _ (eval (Expr.Name _ _) _) _ _ _); ((with_reducible show wpAny _ _ (eval (Expr.Name _ _) (compEnvC _ _ _ _)) _ _ _); k_dflt (first | refine LCgL.ld_own (by k_asm) (by k_mem) (by assumption) (by assumption) ?_ | (refine' lcf_cell (by k_asm) (by rfl) (by k_mem) (by assumption) ?_ (by rfl) (by rfl))))) | ((with_reducible show wpAny _ _ (eval (Expr.Name _ _) _) _ _ _); (k_here; k_dflt (refine' nameX_B (by k_asm) (by k_asm) (by k_asm) (by k_is) (by boot_fast) (by decide) ?_ (by rfl) (by rfl); k_whole))) | (k_unfold; (try dsimp only)) | walk1 | dsimp only))
    · have hpn0 : pn = [] := by
        have := of_decide_eq_true (by assumption : decide (List.map (fun k : Nat => (k : Int)) pn = []) = true)
        simpa using this
      have hst2 := hJ6.still (hpn hpn0)
      clear hn
      refine exec_mid (LsB g' L' l t t2 P6 ns news s) ?_ ?_
      rotate_left
      · intro s' hs
        obtain ⟨F7, N7, hd7, hvs7, hz7⟩ := hs
        rename_i h7 tk7 o7 D7 vs7 c7
        have hll : (leadP l).length ≤ 2 := by rw [← lead_root]; exact rootI_len l
        have e9 : strP l = orDot (leadP l ++ joinD 47 (upOff (leadP l) ns)) := by rw [strP, hns0, hst2]
        obtain ⟨zs, hzd⟩ : ∃ zs, upOff (leadP l) ns = zs := ⟨_, rfl⟩
        rw [hzd] at hvs7 hz7 e9
        have hjl : (joinD 47 zs).length ≤ 100000 := Nat.le_trans (joinD_len 47 zs) hz7
        clear hzd hvl6 hvz6 hnl
        (repeat' ((fail_if_success (with_reducible show MidP _ _ _)); (fail_if_success (with_reducible show wpAny _ _ (storeName _ (PySem.Str.ofString "names") _) _ _ _)); (fail_if_success (with_reducible show wpAny _ _ (execs (Stmt.If _ _ _ _ :: Stmt.Assign _ _ _ :: _) _) _ _ _)); (fail_if_success (with_reducible show wpAny _ _ (execs (Stmt.Assign _ (Expr.ListComp _ _ _ _) _ :: _) _) _ _ _)); (fail_if_success (with_reducible show wpAny _ _ (exec (Stmt.While _ _ _ _) _) _ _ _)); (fail_if_success (with_reducible show wpAny _ _ (eval (Expr.ListComp _ _ _ _) _) _ _ _)); (fail_if_success (with_reducible show LCt.CompSrcT _ _ _ _ _ _ _ _ _ _ _ _ _ _ _)); first | ((with_reducible show wpAny _ _ (call (Value.builtin "str.join") _ _) _ _ _); ((with_reducible refine' joinN1 (by k_dflt k_asm) (by k_dflt k_mem) (by assumption) (by assumption) ?_); intro _ _)) | ((with_reducible show wpAny _ _ (storeName _ _ _) _ _ _); ((with_reducible first | refine' st_ls_text (by k_dflt k_asm) (by k_dflt k_asm) ?_ | refine' st_ls_lead (by k_dflt k_asm) (by k_dflt k_asm) ?_ | refine' st_ls_pairs (by k_dflt k_asm) (by k_dflt k_asm) ?_ | refine' st_ls_made (by k_dflt k_asm) (by k_dflt k_asm) ?_); intro _ _ _; (try k_sweep))) | ((with_reducible show wpAny _ _ (eval (Expr.Name _ _) _) _ _ _); ((with_reducible first | refine' ld_ls_text (by k_dflt k_asm) ?_ | refine' ld_ls_lead (by k_dflt k_asm) ?_ | refine' ld_ls_pairs (by k_dflt k_asm) ?_ | refine' ld_ls_made (by k_dflt k_asm) ?_))) | ((with_reducible show wpAny _ _ (eval (Expr.Name _ _) _) _ _ _); ((with_reducible refine' nameX_C (by k_dflt k_asm) (by k_dflt exact rfl) (by k_dflt k_mem) (by assumption) ?_ (by k_dflt exact rfl) (by k_dflt exact rfl)))) | ((with_reducible show wpAny _ _ (eval (Expr.Name _ _) _) _ _ _); ((with_reducible show wpAny _ _ (eval (Expr.Name _ _) (compEnvC _ _ _ _)) _ _ _); k_dflt (first | refine LCgL.ld_own (by k_asm) (by k_mem) (by assumption) (by assumption) ?_ | (refine' lcf_cell (by k_asm) (by rfl) (by k_mem) (by assumption) ?_ (by rfl) (by rfl))))) | ((with_reducible show wpAny _ _ (eval (Expr.Name _ _) _) _ _ _); (k_here; k_dflt (refine' nameX_B (by k_asm) (by k_asm) (by k_asm) (by k_is) (by boot_fast) (by decide) ?_ (by rfl) (by rfl); k_whole))) | ((with_reducible show wpAny _ _ (call (Value.builtin "str.join") _ _) _ _ _); ((with_reducible refine' joinN1 (by k_dflt k_asm) (by k_dflt exact .head _) (by assumption) (by assumption) ?_); intro _ _)) | ((with_reducible show wpAny _ _ (binaryOp Operator.Add (Value.str _ _) (Value.str _ _)) _ _ _); (refine' addS (by walk_at "my size") ?_; intro _ _)) | (k_unfold; (try dsimp only)) | walk1 | dsimp only))
        · rw [e9, orDot, if_neg (bne_ne (by assumption))] at h
          exact h _ _ _ (by assumption) (ntl (ntl (by assumption)))
        · rw [e9, orDot, if_pos (bne_eq (by assumption))] at h
          exact h _ _ _ (by assumption) (ntl (ntl (by assumption)))
      intro PM hPM
      refine While_my (LsU g' L' l t t2 P6 ns news s) ?_ _
        (.mk (by assumption) (nk2 (by assumption)) hd6 hD6 hvs ⟨rfl, hJ6.sm, hJ6.sz⟩ rfl)
      intro n s' Jw2 hJw2 hs
      obtain ⟨F7, N7, hd7, hD7, hvs7, hJ7, hn7⟩ := hs
      rename_i h7 tk7 o7 D7 vs7 c7 ns7
      have hvl7 := StrsAre.len_eq hvs7
      rw [List.length_map] at hvl7
      have hsz7 := hJ7.sz
      have hvz7 : vs7.length ≤ 100000 := by omega
      clear hvl7 hvl6 hvz6 hnl
      have hc1 : (1 : Int) = ((1 : Nat) : Int) := rfl
      have hvt7 : StrsAre (vs7.take 1) ((ns7.take 1).map S) := by rw [List.map_take]; exact hvs7.take' _
      have hsm7 : Sm (ns7.take 1) := sm_sub hJ7.sm fun c hc => List.mem_of_mem_take hc
      (repeat' ((fail_if_success (with_reducible show MidP _ _ _)); (fail_if_success (with_reducible show wpAny _ _ (storeName _ (PySem.Str.ofString "names") _) _ _ _)); (fail_if_success (with_reducible show wpAny _ _ (execs (Stmt.If _ _ _ _ :: Stmt.Assign _ _ _ :: _) _) _ _ _)); (fail_if_success (with_reducible show wpAny _ _ (execs (Stmt.Assign _ (Expr.ListComp _ _ _ _) _ :: _) _) _ _ _)); (fail_if_success (with_reducible show wpAny _ _ (exec (Stmt.While _ _ _ _) _) _ _ _)); (fail_if_success (with_reducible show wpAny _ _ (eval (Expr.ListComp _ _ _ _) _) _ _ _)); (fail_if_success (with_reducible show LCt.CompSrcT _ _ _ _ _ _ _ _ _ _ _ _ _ _ _)); first | ((with_reducible show wpAny _ _ (compareOp CmpOp.Eq (Value.ref _) (Value.ref _)) _ _ _); ((with_reducible refine' eqLs (l2 := [[46, 46]]) (by k_dflt k_asm) (by k_dflt k_mem) (by k_dflt exact .head _) (by assumption) (by k_dflt exact .cons _ _ .nil) (by assumption) (by exact sm_dd) (by k_units) ?_))) | ((with_reducible show wpAny _ _ (subscriptTail (Expr.Name _ _) (Expr.Slice _ _ _ _) (Value.ref _) (Value.ref _)) _ _ _); ((with_reducible rename Fr _ _ _ _ => F'); (with_reducible rename News _ _ _ _ => N'); (k_dflt (first | (refine' upto_L (s := ⟨_, _, _, _, _⟩) (by first | assumption | exact rfl) F' N' (by k_dflt k_mem) (by assumption) ?_) | (refine' from_L (s := ⟨_, _, _, _, _⟩) (by first | assumption | exact rfl) F' N' (by k_dflt k_mem) (by assumption) ?_))); intro _ _ _ _ _; (try k_sweep))) | ((with_reducible show wpAny _ _ (eval (Expr.Name _ _) _) _ _ _); ((with_reducible first | refine' ld_ls_text (by k_dflt k_asm) ?_ | refine' ld_ls_lead (by k_dflt k_asm) ?_ | refine' ld_ls_pairs (by k_dflt k_asm) ?_ | refine' ld_ls_made (by k_dflt k_asm) ?_))) | ((with_reducible show wpAny _ _ (eval (Expr.Name _ _) _) _ _ _); ((with_reducible refine' nameX_C (by k_dflt k_asm) (by k_dflt exact rfl) (by k_dflt k_mem) (by assumption) ?_ (by k_dflt exact rfl) (by k_dflt exact rfl)))) | ((with_reducible show wpAny _ _ (eval (Expr.Name _ _) _) _ _ _); ((with_reducible show wpAny _ _ (eval (Expr.Name _ _) (compEnvC _ _ _ _)) _ _ _); k_dflt (first | refine LCgL.ld_own (by k_asm) (by k_mem) (by assumption) (by assumption) ?_ | (refine' lcf_cell (by k_asm) (by rfl) (by k_mem) (by assumption) ?_ (by rfl) (by rfl))))) | ((with_reducible show wpAny _ _ (eval (Expr.Name _ _) _) _ _ _); (k_here; k_dflt (refine' nameX_B (by k_asm) (by k_asm) (by k_asm) (by k_is) (by boot_fast) (by decide) ?_ (by rfl) (by rfl); k_whole))) | (k_unfold; (try dsimp only)) | walk1 | dsimp only))
      · rename_i D9 h9 F9 N9 l9
        obtain ⟨hn8, hl8⟩ := hJ7.next (bne_ne (by assumption)) (by assumption)
        have hD9 : D9 ≠ L' + 1 := Nat.ne_of_gt (l9 (L' + 1, o7) (.tail _ (.tail _ (.head _))))
        refine stCell F9 (nk4 N9) (fun q hq => by rcases List.mem_cons.mp hq with rfl | hq; exact hD9; exact hnC q hq) rfl hd7 ?_
        intro h12 o12 F12 N12 hd12
        (repeat' ((fail_if_success (with_reducible show MidP _ _ _)); (fail_if_success (with_reducible show wpAny _ _ (storeName _ (PySem.Str.ofString "names") _) _ _ _)); (fail_if_success (with_reducible show wpAny _ _ (execs (Stmt.If _ _ _ _ :: Stmt.Assign _ _ _ :: _) _) _ _ _)); (fail_if_success (with_reducible show wpAny _ _ (execs (Stmt.Assign _ (Expr.ListComp _ _ _ _) _ :: _) _) _ _ _)); (fail_if_success (with_reducible show wpAny _ _ (exec (Stmt.While _ _ _ _) _) _ _ _)); (fail_if_success (with_reducible show wpAny _ _ (eval (Expr.ListComp _ _ _ _) _) _ _ _)); (fail_if_success (with_reducible show LCt.CompSrcT _ _ _ _ _ _ _ _ _ _ _ _ _ _ _)); first  | (k_unfold; (try dsimp only)) | walk1 | dsimp only))
        exact WTurn.nx (hJw2 (ns7.drop 1).length _ (by rw [hn7]; exact hl8) <| .mk (ns2 := ns7.drop 1) (by assumption) (by assumption) hd12 hD9 (by rw [List.map_drop]; exact hvs7.drop' _) hn8 rfl)
      · have e := hJ7.stop2 (bne_ne (by assumption)) (by assumption)
        exact MidP.mk (hPM _ <| .mk (by assumption) (ntl (ntl (by assumption))) hd7 (by rw [e]; exact hvs7) (by rw [e]; exact Nat.le_trans hsz7 (by decide)))
      · have e := hJ7.stop1 (bne_eq (by assumption))
        exact MidP.mk (hPM _ <| .mk (by assumption) (by assumption) hd7 (by rw [e]; exact hvs7) (by rw [e]; exact Nat.le_trans hsz7 (by decide)))
    · have hpn1 : pn ≠ [] := by
        have := of_decide_eq_false (by assumption : decide (List.map (fun k : Nat => (k : Int)) pn = []) = false)
        simpa using this
      rw [if_neg hpn1] at hn
      refine execs_consK ?_
      refine LCt.Assign_ListComp_T (F₀ := by k_asm) (by rfl) (by with_unfolding_all rfl) (by with_unfolding_all rfl) (by decide) (by rfl) (by decide) (by rfl) (by rfl) (by rfl) ?_
      (repeat' ((fail_if_success (with_reducible show MidP _ _ _)); (fail_if_success (with_reducible show wpAny _ _ (storeName _ (PySem.Str.ofString "names") _) _ _ _)); (fail_if_success (with_reducible show wpAny _ _ (execs (Stmt.If _ _ _ _ :: Stmt.Assign _ _ _ :: _) _) _ _ _)); (fail_if_success (with_reducible show wpAny _ _ (execs (Stmt.Assign _ (Expr.ListComp _ _ _ _) _ :: _) _) _ _ _)); (fail_if_success (with_reducible show wpAny _ _ (exec (Stmt.While _ _ _ _) _) _ _ _)); (fail_if_success (with_reducible show wpAny _ _ (eval (Expr.ListComp _ _ _ _) _) _ _ _)); (fail_if_success (with_reducible show LCt.CompSrcT _ _ _ _ _ _ _ _ _ _ _ _ _ _ _)); first | ((with_reducible show wpAny _ _ (call (Value.builtin "len") _ _) _ _ _); (k_here; (with_reducible show wpAny _ _ (call (Value.builtin "len") [Value.ref _]) _ _ _); k_dflt (refine' lenN (by k_asm) (by k_mem) (by assumption) (by omega) ?_))) | ((with_reducible show wpAny _ _ (eval (Expr.Name _ _) _) _ _ _); ((with_reducible first | refine' ld_ls_text (by k_dflt k_asm) ?_ | refine' ld_ls_lead (by k_dflt k_asm) ?_ | refine' ld_ls_pairs (by k_dflt k_asm) ?_ | refine' ld_ls_made (by k_dflt k_asm) ?_))) | ((with_reducible show wpAny _ _ (eval (Expr.Name _ _) _) _ _ _); ((with_reducible refine' nameX_C (by k_dflt k_asm) (by k_dflt exact rfl) (by k_dflt k_mem) (by assumption) ?_ (by k_dflt exact rfl) (by k_dflt exact rfl)))) | ((with_reducible show wpAny _ _ (eval (Expr.Name _ _) _) _ _ _); ((with_reducible show wpAny _ _ (eval (Expr.Name _ _) (compEnvC _ _ _ _)) _ _ _); k_dflt (first | refine LCgL.ld_own (by k_asm) (by k_mem) (by assumption) (by assumption) ?_ | (refine' lcf_cell (by k_asm) (by rfl) (by k_mem) (by assumption) ?_ (by rfl) (by rfl))))) | ((with_reducible show wpAny _ _ (eval (Expr.Name _ _) _) _ _ _); (k_here; k_dflt (refine' nameX_B (by k_asm) (by k_asm) (by k_asm) (by k_is) (by boot_fast) (by decide) ?_ (by rfl) (by rfl); k_whole))) | (k_unfold; (try dsimp only)) | walk1 | dsimp only))
      rename_i h10 tk10 kt ku kv kR kF kN kK
      refine LCt.CompSrcT.range (n := ns.length - 1) rfl kF kN kR (small1 hnl) (size1 _) (le_m1 hnl) ?_
      intro g₂
      refine comp_invT (fun i ys => IntsAre ys ((prs ns i).map fun k : Nat => (k : Int))) .nil ?_ ?_
      · rintro i v I oI C oC D m₂ zs h tk E' hi ⟨tt, rfl⟩ hJz hC hx F8 N8 off8 ne8
        clear ne8
        have hi1 := lt_one hi
        have hi5 : i ≤ 100000 := by omega
        obtain ⟨a, ha⟩ : ∃ a, ns[i + 1]? = some a := ⟨_, List.getElem?_eq_getElem hi1⟩
        obtain ⟨b, hb⟩ : ∃ b, ns[i]? = some b := ⟨_, List.getElem?_eq_getElem (Nat.lt_of_succ_lt hi1)⟩
        obtain ⟨ta, hxa⟩ := StrsAre.at hvs (j := i + 1) (y := S a) (by rw [List.getElem?_map, ha]; rfl)
        obtain ⟨tb, hxb⟩ := StrsAre.at hvs (j := i) (y := S b) (by rw [List.getElem?_map, hb]; rfl)
        have hxa' : vs[(1 + (i : Int)).toNat]? = some (.str (S a) ta) := by rw [toNat1, Nat.add_comm]; exact hxa
        have hxb' : vs[(1 + (i : Int) - 1).toNat]? = some (.str (S b) tb) := by rw [toNat2]; exact hxb
        clear hi hvl6
        (repeat' ((fail_if_success (with_reducible show MidP _ _ _)); (fail_if_success (with_reducible show wpAny _ _ (storeName _ (PySem.Str.ofString "names") _) _ _ _)); (fail_if_success (with_reducible show wpAny _ _ (execs (Stmt.If _ _ _ _ :: Stmt.Assign _ _ _ :: _) _) _ _ _)); (fail_if_success (with_reducible show wpAny _ _ (execs (Stmt.Assign _ (Expr.ListComp _ _ _ _) _ :: _) _) _ _ _)); (fail_if_success (with_reducible show wpAny _ _ (exec (Stmt.While _ _ _ _) _) _ _ _)); (fail_if_success (with_reducible show wpAny _ _ (eval (Expr.ListComp _ _ _ _) _) _ _ _)); (fail_if_success (with_reducible show LCt.CompSrcT _ _ _ _ _ _ _ _ _ _ _ _ _ _ _)); first | ((with_reducible show wpAny _ _ (subscriptTail (Expr.Name _ _) (Expr.BinOp _ _ _ _) (Value.ref _) (Value.int _ _)) _ _ _); (k_dflt (refine' itemN (by k_asm) (by k_mem) (by exact nn2 _) (by exact lt2 (by assumption)) (by assumption) ?_))) | ((with_reducible show wpAny _ _ (subscriptTail (Expr.Name _ _) (Expr.Name _ _) (Value.ref _) (Value.int _ _)) _ _ _); (k_dflt (refine' itemN (by k_asm) (by k_mem) (by exact nn1 _) (by exact lt1 (by assumption)) (by assumption) ?_))) | ((with_reducible show wpAny _ _ (eval (Expr.Name _ _) _) _ _ _); ((with_reducible first | refine' ld_ls_text (by k_dflt k_asm) ?_ | refine' ld_ls_lead (by k_dflt k_asm) ?_ | refine' ld_ls_pairs (by k_dflt k_asm) ?_ | refine' ld_ls_made (by k_dflt k_asm) ?_))) | ((with_reducible show wpAny _ _ (eval (Expr.Name _ _) _) _ _ _); ((with_reducible refine' nameX_C (by k_dflt k_asm) (by k_dflt exact rfl) (by k_dflt k_mem) (by assumption) ?_ (by k_dflt exact rfl) (by k_dflt exact rfl)))) | ((with_reducible show wpAny _ _ (eval (Expr.Name _ _) _) _ _ _); ((with_reducible show wpAny _ _ (eval (Expr.Name _ _) (compEnvC _ _ _ _)) _ _ _); k_dflt (first | refine LCgL.ld_own (by k_asm) (by k_mem) (by assumption) (by assumption) ?_ | (refine' lcf_cell (by k_asm) (by rfl) (by k_mem) (by assumption) ?_ (by rfl) (by rfl))))) | ((with_reducible show wpAny _ _ (eval (Expr.Name _ _) _) _ _ _); (k_here; k_dflt (refine' nameX_B (by k_asm) (by k_asm) (by k_asm) (by k_is) (by boot_fast) (by decide) ?_ (by rfl) (by rfl); k_whole))) | (k_unfold; (try dsimp only)) | walk1 | dsimp only))
        · exact compE (by assumption) (by assumption) off8 trivial (ints_yes hJz (prs_yes ha hb (by assumption) (by assumption)))
        · exact compE (by assumption) (by assumption) off8 trivial (by rw [prs_no ha hb (.inr (by assumption))]; exact hJz)
        · exact compE (by assumption) (by assumption) off8 trivial (by rw [prs_no ha hb (.inl (by assumption))]; exact hJz)
      · intro ys2 hJ2 P2 h11 tk11 F8 N8 off8
        rw [mp_ls_pairs] at F8
        have hP2 : P2 ≠ L' + 1 := fun e => off8.2.1 e.symm
        cases hpr : prs ns (ns.length - 1) with
        | nil =>
          rw [hpr] at hJ2
          (repeat' ((fail_if_success (with_reducible show MidP _ _ _)); (fail_if_success (with_reducible show wpAny _ _ (storeName _ (PySem.Str.ofString "names") _) _ _ _)); (fail_if_success (with_reducible show wpAny _ _ (execs (Stmt.If _ _ _ _ :: Stmt.Assign _ _ _ :: _) _) _ _ _)); (fail_if_success (with_reducible show wpAny _ _ (execs (Stmt.Assign _ (Expr.ListComp _ _ _ _) _ :: _) _) _ _ _)); (fail_if_success (with_reducible show wpAny _ _ (exec (Stmt.While _ _ _ _) _) _ _ _)); (fail_if_success (with_reducible show wpAny _ _ (eval (Expr.ListComp _ _ _ _) _) _ _ _)); (fail_if_success (with_reducible show LCt.CompSrcT _ _ _ _ _ _ _ _ _ _ _ _ _ _ _)); first | ((with_reducible show wpAny _ _ (compareOp CmpOp.NotEq (Value.ref _) (Value.ref _)) _ _ _); ((with_reducible refine' neIs (n2 := []) (by k_dflt k_asm) (by k_dflt k_mem) (by k_dflt exact .head _) (by assumption) (by k_dflt exact .nil) (by k_units) ?_))) | ((with_reducible show wpAny _ _ (eval (Expr.Name _ _) _) _ _ _); ((with_reducible first | refine' ld_ls_text (by k_dflt k_asm) ?_ | refine' ld_ls_lead (by k_dflt k_asm) ?_ | refine' ld_ls_pairs (by k_dflt k_asm) ?_ | refine' ld_ls_made (by k_dflt k_asm) ?_))) | ((with_reducible show wpAny _ _ (eval (Expr.Name _ _) _) _ _ _); ((with_reducible refine' nameX_C (by k_dflt k_asm) (by k_dflt exact rfl) (by k_dflt k_mem) (by assumption) ?_ (by k_dflt exact rfl) (by k_dflt exact rfl)))) | ((with_reducible show wpAny _ _ (eval (Expr.Name _ _) _) _ _ _); ((with_reducible show wpAny _ _ (eval (Expr.Name _ _) (compEnvC _ _ _ _)) _ _ _); k_dflt (first | refine LCgL.ld_own (by k_asm) (by k_mem) (by assumption) (by assumption) ?_ | (refine' lcf_cell (by k_asm) (by rfl) (by k_mem) (by assumption) ?_ (by rfl) (by rfl))))) | ((with_reducible show wpAny _ _ (eval (Expr.Name _ _) _) _ _ _); (k_here; k_dflt (refine' nameX_B (by k_asm) (by k_asm) (by k_asm) (by k_is) (by boot_fast) (by decide) ?_ (by rfl) (by rfl); k_whole))) | (k_unfold; (try dsimp only)) | walk1 | dsimp only))
          exact WTurn.nx (hJw ns.length _ (by rw [hn]; exact Nat.lt_succ_self _) <| .mk (pn := []) (by assumption) (nk6 (by assumption)) hd6 hD6 hP2 hvs hJ2 hJ6 (fun _ => hpr) rfl)
        | cons k0 r0 =>
          rw [hpr] at hJ2
          have hk0 : k0 ∈ prs ns (ns.length - 1) := by rw [hpr]; exact .head _
          obtain ⟨hcut, hcl, hk1⟩ := hJ6.cut hk0
          have hke : (k0 : Int) - 1 = ((k0 - 1 : Nat) : Int) := sub_one hk1
          have hke2 : (k0 : Int) + 1 = ((k0 + 1 : Nat) : Int) := add_one k0
          have hk0z : k0 ≤ 10000 := prs_le hnl hk0
          obtain ⟨t0, ys3, rfl⟩ : ∃ t0 ys3, ys2 = .int (k0 : Int) t0 :: ys3 := by
            cases hJ2 with
            | cons _ t0 r => exact ⟨t0, _, rfl⟩
          have hx0 : (Value.int (k0 : Int) t0 :: ys3)[(0 : Int).toNat]? = some (.int (k0 : Int) t0) := rfl
          (repeat' ((fail_if_success (with_reducible show MidP _ _ _)); (fail_if_success (with_reducible show wpAny _ _ (storeName _ (PySem.Str.ofString "names") _) _ _ _)); (fail_if_success (with_reducible show wpAny _ _ (execs (Stmt.If _ _ _ _ :: Stmt.Assign _ _ _ :: _) _) _ _ _)); (fail_if_success (with_reducible show wpAny _ _ (execs (Stmt.Assign _ (Expr.ListComp _ _ _ _) _ :: _) _) _ _ _)); (fail_if_success (with_reducible show wpAny _ _ (exec (Stmt.While _ _ _ _) _) _ _ _)); (fail_if_success (with_reducible show wpAny _ _ (eval (Expr.ListComp _ _ _ _) _) _ _ _)); (fail_if_success (with_reducible show LCt.CompSrcT _ _ _ _ _ _ _ _ _ _ _ _ _ _ _)); first | ((with_reducible show wpAny _ _ (binaryOp Operator.Add (Value.ref _) (Value.ref _)) _ _ _); ((with_reducible refine' addL (by k_dflt k_asm) (by k_dflt k_asm) (by k_dflt k_mem) (by k_dflt k_mem) (by simp only [List.length_take, List.length_drop]; first | exact cut_len (by assumption) (by assumption) | omega) ?_); intro _ _ _ _ _; (try k_sweep))) | ((with_reducible show wpAny _ _ (subscriptTail (Expr.Name _ _) (Expr.Slice _ _ _ _) (Value.ref _) (Value.ref _)) _ _ _); ((with_reducible rename Fr _ _ _ _ => F'); (with_reducible rename News _ _ _ _ => N'); (k_dflt (first | (refine' upto_L (s := ⟨_, _, _, _, _⟩) (by first | assumption | exact rfl) F' N' (by k_dflt k_mem) (by assumption) ?_) | (refine' from_L (s := ⟨_, _, _, _, _⟩) (by first | assumption | exact rfl) F' N' (by k_dflt k_mem) (by assumption) ?_))); intro _ _ _ _ _; (try k_sweep))) | ((with_reducible show wpAny _ _ (subscriptTail (Expr.Name _ _) (Expr.Constant _ _ _) (Value.ref _) (Value.int _ _)) _ _ _); (k_dflt (refine' itemN (by k_asm) (by k_mem) (by decide) (by decide) (by k_dflt assumption) ?_))) | ((with_reducible show wpAny _ _ (compareOp CmpOp.NotEq (Value.ref _) (Value.ref _)) _ _ _); ((with_reducible refine' neIs (n2 := []) (by k_dflt k_asm) (by k_dflt k_mem) (by k_dflt exact .head _) (by assumption) (by k_dflt exact .nil) (by k_units) ?_))) | ((with_reducible show wpAny _ _ (eval (Expr.Name _ _) _) _ _ _); ((with_reducible first | refine' ld_ls_text (by k_dflt k_asm) ?_ | refine' ld_ls_lead (by k_dflt k_asm) ?_ | refine' ld_ls_pairs (by k_dflt k_asm) ?_ | refine' ld_ls_made (by k_dflt k_asm) ?_))) | ((with_reducible show wpAny _ _ (eval (Expr.Name _ _) _) _ _ _); ((with_reducible refine' nameX_C (by k_dflt k_asm) (by k_dflt exact rfl) (by k_dflt k_mem) (by assumption) ?_ (by k_dflt exact rfl) (by k_dflt exact rfl)))) | ((with_reducible show wpAny _ _ (eval (Expr.Name _ _) _) _ _ _); ((with_reducible show wpAny _ _ (eval (Expr.Name _ _) (compEnvC _ _ _ _)) _ _ _); k_dflt (first | refine LCgL.ld_own (by k_asm) (by k_mem) (by assumption) (by assumption) ?_ | (refine' lcf_cell (by k_asm) (by rfl) (by k_mem) (by assumption) ?_ (by rfl) (by rfl))))) | ((with_reducible show wpAny _ _ (eval (Expr.Name _ _) _) _ _ _); (k_here; k_dflt (refine' nameX_B (by k_asm) (by k_asm) (by k_asm) (by k_is) (by boot_fast) (by decide) ?_ (by rfl) (by rfl); k_whole))) | (k_unfold; (try dsimp only)) | walk1 | dsimp only))
          · exact absurd (of_decide_eq_true (by assumption : decide (List.map (fun k : Nat => (k : Int)) (k0 :: r0) = []) = true)) (by simp)
          rename_i D9 h9 F9 N9 l9
          have hD9 : D9 ≠ L' + 1 := Nat.ne_of_gt (l9 (L' + 1, o6) (.tail _ (.tail _ (.tail _ (.tail _ (.tail _ (.head _)))))))
          have hst9 : StrsAre (vs.take (k0 - 1) ++ vs.drop (k0 + 1)) ((ns.take (k0 - 1) ++ ns.drop (k0 + 1)).map S) := by
            rw [List.map_append, List.map_take, List.map_drop]
            exact (hvs.take' _).append' (hvs.drop' _)
          refine stCell F9 (nk9 N9) (fun q hq => by rcases List.mem_cons.mp hq with rfl | hq; exact hD9; rcases List.mem_cons.mp hq with rfl | hq; exact hP2; exact hnC q hq) rfl hd6 ?_
          intro h12 o12 F12 N12 hd12
          (repeat' ((fail_if_success (with_reducible show MidP _ _ _)); (fail_if_success (with_reducible show wpAny _ _ (storeName _ (PySem.Str.ofString "names") _) _ _ _)); (fail_if_success (with_reducible show wpAny _ _ (execs (Stmt.If _ _ _ _ :: Stmt.Assign _ _ _ :: _) _) _ _ _)); (fail_if_success (with_reducible show wpAny _ _ (execs (Stmt.Assign _ (Expr.ListComp _ _ _ _) _ :: _) _) _ _ _)); (fail_if_success (with_reducible show wpAny _ _ (exec (Stmt.While _ _ _ _) _) _ _ _)); (fail_if_success (with_reducible show wpAny _ _ (eval (Expr.ListComp _ _ _ _) _) _ _ _)); (fail_if_success (with_reducible show LCt.CompSrcT _ _ _ _ _ _ _ _ _ _ _ _ _ _ _)); first  | (k_unfold; (try dsimp only)) | walk1 | dsimp only))
          exact WTurn.nx (hJw ((ns.take (k0 - 1) ++ ns.drop (k0 + 1)).length + 1) _ (by rw [hn]; exact Nat.succ_lt_succ hcl) <| .mk (pn := k0 :: r0) (by assumption) (by assumption) hd12 hD9 hP2 hst9 hJ2 hcut (by intro x; cases x) rfl)

end
end
section

theorem lr_ok {ls : List (List Nat)} {vs : List Value} {ax c : Nat} (H : Here w A₀ base h₀ [] cs mean mg mb) (XB : (KK w.params).In base) (TB : Top VV LS mean mg mb base) (F : Fr h₀ L s.heap m) (N : News h₀ L s.heap news) (hdp : dp ≤ 620) (hun : un ≤ 600)
    (hax : (ax, listOf vs.toArray c) ∈ news) (hvs : StrsAre vs (ls.map S)) (hl : ∀ p ∈ ls, (∀ c ∈ p, c ∈ sgL) ∧ p.length ≤ 100) (hn : ls ≠ []) (hz : ls.length ≤ 10)
    (hok : ∀ ts, heard ls = some ts → ∀ (D : Nat) h' tk vals c, Fr h₀ L h' m → News h₀ L h' ((D, listOf vals.toArray c) :: news) → StrsAre vals (ts.map S) → (∀ q ∈ news, q.1 < D) → Q (.ref D) { s with heap := h', toks := tk })
    (hbad : heard ls = none → ∀ h' tk, Fr h₀ L h' m → News h₀ L h' news → Q .none { s with heap := h', toks := tk }) :
    wpAny (model PG w) (ktrTop dp un gd cn cs L a ccd [] []) (call (.ref 845) [.ref ax]) Q E s := by
  obtain ⟨HB, X, T, hk⟩ := H
  have hvl := StrsAre.len_eq hvs
  rw [List.length_map] at hvl
  refine wpAny_call ?_
  refine' code_defS0 (binds := [(Str.ofString "paths", .ref ax)]) ?k1 ?k2 ?k3 ?k4 ?k5 ?kA ?k6 ?k7 ?k8 ?k9 ?kB ?_ ?kK ?c2 ?c3 ?c4 ?c5
  (case kA => exact rfl); (case kK => assumption); (case k1 => k_asm); (case k2 => k_asm); (case k3 => k_asm); (case k4 => k_asm); (case k5 => k_asm); (case k6 => k_is)
  (case k7 => k_is); (case k8 => ktr_room); (case k9 => exact BindsTo.of_eq rfl); (case c5 => decide); (case kB => exact locs rfl); (case c2 => exact rfl); (case c3 => exact rfl); (case c4 => exact rfl)
  intro g' L' h' FG' F' N' B' X' T' D'
  (try dsimp only)
  dsimp only [List.reverse, List.reverseAux] at F'
  k_fold
  replace B' : Below (ktrTop dp un gd cn cs L a ccd [] []) base [envX cn cs L a ccd []] g' := B'
  rw [en_lr] at F'
  (repeat' ((fail_if_success (with_reducible show wpAny _ _ (eval (Expr.ListComp _ _ _ _) _) _ _ _)); (fail_if_success (with_reducible show wpAny _ _ (call (Value.ref 753) _ _) _ _ _)); first | ((with_reducible show wpAny _ _ (eval (Expr.Name _ _) _) _ _ _); ((with_reducible first | refine' ld_lr_paths (by k_dflt k_asm) ?_))) | (k_unfold; (try dsimp only)) | walk1 | dsimp only))
  have hvl' : vs.toArray.size = ls.length := by rw [List.size_toArray]; exact hvl
  have hfl : (ls.map tpc).flatten.length + (ls.map tpc).length ≤ 100000 := by
    have h1 := flat_len (ls := ls.map tpc) (k := 702) (by
      intro l hm
      obtain ⟨p, hp, rfl⟩ := List.mem_map.mp hm
      have := tpc_len p
      have := (hl p hp).2
      omega)
    rw [List.length_map] at h1 ⊢
    omega
  refine LCg.ListComp_U (F₀ := by k_asm) (by rfl) (by decide) (by rfl) (by decide) (by rfl) ?_
  (repeat' ((fail_if_success (with_reducible show wpAny _ _ (eval (Expr.ListComp _ _ _ _) _) _ _ _)); (fail_if_success (with_reducible show wpAny _ _ (call (Value.ref 753) _ _) _ _ _)); first | ((with_reducible show wpAny _ _ (eval (Expr.Name _ _) _) _ _ _); ((with_reducible first | refine' ld_lr_paths (by k_dflt k_asm) ?_))) | (k_unfold; (try dsimp only)) | walk1 | dsimp only))
  refine LCg.CompSrc.ledger (k := c) rfl F' N' hax (by rw [List.size_toArray, sizeLine_eq]; omega) ?_
  intro g₁
  refine comp_invU (fun i ys => StrsAre ys (((ls.take i).map tpc).map S)) .nil ?_ ?_
  · intro i v I oI C oC D m₂ ys h tk E' hi hv hJ hC hx F2 N2 off ne
    obtain ⟨l, t, hll, rfl⟩ := strs_at hvs hv
    have hlm := hl l (List.mem_of_getElem? hll)
    have hlz := hlm.2
    have hls := hlm.1
    (repeat' ((fail_if_success (with_reducible show wpAny _ _ (eval (Expr.ListComp _ _ _ _) _) _ _ _)); (fail_if_success (with_reducible show wpAny _ _ (call (Value.ref 753) _ _) _ _ _)); first | ((with_reducible show wpAny _ _ (call (Value.ref 58) _ _) _ _ _); k_dflt (refine' tp_ok ⟨by k_asm, by k_asm, by k_asm, by walk_at "k4"⟩ (by k_asm) (by k_asm) (by ktr_room) (by k_units) (by assumption) (by assumption) ?_; intros; (try k_sweep))) | ((with_reducible show wpAny _ _ (eval (Expr.Name _ _) _) _ _ _); ((with_reducible first | refine' ld_lr_paths (by k_dflt k_asm) ?_))) | (k_unfold; (try dsimp only)) | walk1 | dsimp only))
    refine compE (by assumption) (by assumption) off (show LCg.SrcAt g' ax vs.toArray news from Or.inr ⟨_, hax, rfl, _, rfl⟩) ?_
    rw [take_map hll, List.map_append]
    exact hJ.append' (.cons _ _ .nil)
  · intro ys hJ D h tk F2 N2 off
    rw [hvl', List.take_length] at hJ
    (repeat' ((fail_if_success (with_reducible show wpAny _ _ (eval (Expr.ListComp _ _ _ _) _) _ _ _)); (fail_if_success (with_reducible show wpAny _ _ (call (Value.ref 753) _ _) _ _ _)); first | ((with_reducible show wpAny _ _ (call (Value.builtin "str.join") _ _) _ _ _); ((with_reducible refine' joinN1 (by k_dflt k_asm) (by k_dflt exact .head _) (by assumption) (by assumption) ?_); intro _ _)) | (k_unfold; (try dsimp only)) | walk1 | dsimp only))
    have hls : ∀ x ∈ ls, ∀ c ∈ x, c ∈ sgL := fun x hx => (hl x hx).1
    have hM := M1' hn hls
    have hJl := joinD_len 32 (ls.map tpc)
    rename Fr g' L' _ _ => kF
    rename News g' L' _ _ => kN
    refine' split_ok (b := joinD 32 (ls.map tpc)) ⟨?k1, ?k2, ?k3, ?k4⟩ XB TB ?kD kF kN ?k7 ?k8 ?e0 ?e1 ?_ ?_
    (case k1 => k_asm); (case k2 => k_asm); (case k3 => k_asm); (case k4 => exact rfl); (case kD => exact D'); (case k7 => ktr_room); (case k8 => k_units)
    (case e0 => omega)
    (case e1 =>
      refine joinD_nl (by decide) fun l hm => ?_
      obtain ⟨p, hp, rfl⟩ := List.mem_map.mp hm
      exact tpc_nl (hl p hp).1)
    · intro ts hts D₂ g2 h2 tk2 vals c2 T2 F2 N2 hv2 B2 X2 P2 D2 hD2
      rw [hM] at hts
      (repeat' ((fail_if_success (with_reducible show wpAny _ _ (eval (Expr.ListComp _ _ _ _) _) _ _ _)); (fail_if_success (with_reducible show wpAny _ _ (call (Value.ref 753) _ _) _ _ _)); first  | (k_unfold; (try dsimp only)) | walk1 | dsimp only))
      exact hok ts hts D₂ _ _ _ _ (by assumption) (nswap (by assumption)) hv2 (fun q hq => hD2 q (.tail _ hq))
    · intro hts e t vs2 h2 tk2 g Fg R U
      rw [hM] at hts
      (repeat' ((fail_if_success (with_reducible show wpAny _ _ (eval (Expr.ListComp _ _ _ _) _) _ _ _)); (fail_if_success (with_reducible show wpAny _ _ (call (Value.ref 753) _ _) _ _ _)); first  | (k_unfold; (try dsimp only)) | walk1 | dsimp only))
      exact hbad hts _ _ (by assumption) (ntl (by assumption))

end
section

local macro_rules | `(tactic| k_units) => `(tactic| ((try simp only [units_in1, units_deeper, Around.mark_units]); (try dsimp only [ktrTop]); (try simp only [cLine, callerA]); (try omega)))
local macro_rules | `(tactic| ktr_room) => `(tactic| ((try simp only [depth_under_make, depth_under_kw, depth_in1, depth_deeper]); (try dsimp only [ktrTop]); (try simp only [recursionLimit, callerA, claimMargin]); (try omega)))
theorem nk21 {h₀ h : Heap} {L : Addr} {a b c : Addr × Obj} (N : News h₀ L h [a, b, c]) : News h₀ L h [b, a] := fun x hx => N x (by
  simp only [List.mem_cons] at hx ⊢
  rcases hx with h | h | h <;> simp_all)
/-- behind the reading -/
inductive LwA (h₀ : Heap) (L : Addr) (ax Pd : Nat) (bs : List (Addr × Obj)) (ls : List (List Nat)) (s : Shared) : Shared → Prop
  | mk {h' : Heap} {tk : Nat} {pt : Option Value} {tv : Value} (F : Fr h₀ L h' (mp_lw (some (.ref ax)) pt (some (.ref Pd)) (some tv) none)) (T : ToldOk h₀ L h' bs ls tv) : LwA h₀ L ax Pd bs ls s { s with heap := h', toks := tk }
/-- heard as told -/
inductive LwB (h₀ : Heap) (L : Addr) (ax Pd : Nat) (pt : Option Value) (tv : Value) (bs : List (Addr × Obj)) (ls : List (List Nat)) (s : Shared) : Shared → Prop
  | mk {h' : Heap} {tk : Nat} (F : Fr h₀ L h' (mp_lw (some (.ref ax)) pt (some (.ref Pd)) (some tv) none)) (T : ToldOk h₀ L h' bs ls tv) : LwB h₀ L ax Pd pt tv bs ls s { s with heap := h', toks := tk }
/-- behind the straightened words -/
inductive LwC (h₀ : Heap) (L : Addr) (ax Pd : Nat) (pt : Option Value) (tv : Value) (bs : List (Addr × Obj)) (s : Shared) : Shared → Prop
  | mk {h' : Heap} {tk : Nat} (F : Fr h₀ L h' (mp_lw (some (.ref ax)) pt (some (.ref Pd)) (some tv) none)) (N : News h₀ L h' bs) : LwC h₀ L ax Pd pt tv bs s { s with heap := h', toks := tk }
theorem law_ok {a : Addr} {cd : Value} {ax : Nat} {vs : List Value} {ns : List Int} {R : Flow → Shared → Prop} (X : (KK w.params).In h₀) (T : Top VV LS mean mg mb h₀) (B : Below callerA h₀ [] h₀) (hL : h₀.IsList ax vs.toArray) (hI : IntsAre vs ns) (hz : ns.length ≤ 63)
    (F : Fr h₀ L s.heap (mp_lw (some (.ref ax)) none none none none)) (N : News h₀ L s.heap []) (h : ∀ h' tk m', Fr h₀ L h' m' → R (.ret (.bool true)) { s with heap := h', toks := tk })
    (hE : PassesOwn (model PG w) (callerA.deeper (envOf (Str.ofString "law") sc_lw L a cd)) (envOf (Str.ofString "law") sc_lw L a cd) E) :
    wpAny (model PG w) (callerA.deeper (envOf (Str.ofString "law") sc_lw L a cd)) (execs lawBody (envOf (Str.ofString "law") sc_lw L a cd)) R E s := by
  unfold lawBody
  dsimp only
  have hvl := hI.length
  have hvz : vs.length ≤ 100000 := by omega
  have hc12 : (12 : Int) = ((12 : Nat) : Int) := rfl
  obtain ⟨hp1, hp1z⟩ := path1_ok ns
  obtain ⟨hp2, hp2z⟩ := path2_ok ns
  have hfz : ((path1 ns).filter (· != 39)).length ≤ 12 := Nat.le_trans (List.length_filter_le _ _) hp1z
  (repeat' ((fail_if_success (with_reducible show MidP _ _ _)); (fail_if_success (with_reducible show wpAny _ _ (call (Value.ref 845) _ _) _ _ _)); (fail_if_success (with_reducible show wpAny _ _ (call (Value.ref 852) _ _) _ _ _)); (fail_if_success (with_reducible show wpAny _ _ (execs (Stmt.If _ _ _ _ :: _) _) _ _ _)); (fail_if_success (with_reducible show wpAny _ _ (execs (Stmt.Assign [Expr.Name (PySem.Str.ofString "told") _] _ _ :: _) _) _ _ _)); (fail_if_success (with_reducible show wpAny _ _ (exec (Stmt.For _ _ _ _ _) _) _ _ _)); (fail_if_success (with_reducible show wpAny _ _ (pyIter _) _ _ _)); (fail_if_success (with_reducible show wpAny _ _ (eval (Expr.ListComp _ _ _ _) _) _ _ _)); (fail_if_success (with_reducible show LCg.CompSrc _ _ _ _ _ _ _ _ _ _ _ _ _ _)); first  | (k_unfold; (try dsimp only)) | walk1 | dsimp only))
  refine LCg.ListComp_U (F₀ := by k_asm) (by rfl) (by decide) (by rfl) (by decide) (by rfl) ?_
  (repeat' ((fail_if_success (with_reducible show MidP _ _ _)); (fail_if_success (with_reducible show wpAny _ _ (call (Value.ref 845) _ _) _ _ _)); (fail_if_success (with_reducible show wpAny _ _ (call (Value.ref 852) _ _) _ _ _)); (fail_if_success (with_reducible show wpAny _ _ (execs (Stmt.If _ _ _ _ :: _) _) _ _ _)); (fail_if_success (with_reducible show wpAny _ _ (execs (Stmt.Assign [Expr.Name (PySem.Str.ofString "told") _] _ _ :: _) _) _ _ _)); (fail_if_success (with_reducible show wpAny _ _ (exec (Stmt.For _ _ _ _ _) _) _ _ _)); (fail_if_success (with_reducible show wpAny _ _ (pyIter _) _ _ _)); (fail_if_success (with_reducible show wpAny _ _ (eval (Expr.ListComp _ _ _ _) _) _ _ _)); (fail_if_success (with_reducible show LCg.CompSrc _ _ _ _ _ _ _ _ _ _ _ _ _ _)); first | ((with_reducible show wpAny _ _ (subscriptTail (Expr.Name _ _) (Expr.Slice _ _ _ _) (Value.ref _) (Value.ref _)) _ _ _); ((with_reducible rename Fr _ _ _ _ => F'); (with_reducible rename News _ _ _ _ => N'); (k_dflt (first | (refine' upto_H (s := ⟨_, _, _, _, _⟩) (by assumption) (by assumption) F' N' (by assumption) ?_) | (refine' from_L (s := ⟨_, _, _, _, _⟩) (by assumption) F' N' (by first | assumption | k_mem) (by assumption) ?_))); intro _ _ _ _ _; (try k_sweep))) | ((with_reducible show wpAny _ _ (eval (Expr.Name _ _) _) _ _ _); ((with_reducible first | refine' ld_lw_script (by k_dflt k_asm) ?_ | refine' ld_lw_path (by k_dflt k_asm) ?_ | refine' ld_lw_paths (by k_dflt k_asm) ?_ | refine' ld_lw_told (by k_dflt k_asm) ?_ | refine' ld_lw_one (by k_dflt k_asm) ?_))) | (k_unfold; (try dsimp only)) | walk1 | dsimp only))
  rename_i D0 h0 F0 N0 l0
  refine LCg.CompSrc.ledger (k := 0) rfl F0 N0 (.head _) (by rw [List.size_toArray, sizeLine_eq, List.length_take]; omega) ?_
  intro g₁
  refine comp_invU (fun i ys => StrsAre ys ((((ns.take 12).take i).map fun x => [sgn x]).map S)) .nil ?_ ?_
  · intro i v I oI C oC D m₂ ys h tk E' hi hv hJ hC hx F2 N2 off ne
    obtain ⟨x, t, hll, rfl⟩ := ints_at (hI.take 12) hv
    (repeat' ((fail_if_success (with_reducible show MidP _ _ _)); (fail_if_success (with_reducible show wpAny _ _ (call (Value.ref 845) _ _) _ _ _)); (fail_if_success (with_reducible show wpAny _ _ (call (Value.ref 852) _ _) _ _ _)); (fail_if_success (with_reducible show wpAny _ _ (execs (Stmt.If _ _ _ _ :: _) _) _ _ _)); (fail_if_success (with_reducible show wpAny _ _ (execs (Stmt.Assign [Expr.Name (PySem.Str.ofString "told") _] _ _ :: _) _) _ _ _)); (fail_if_success (with_reducible show wpAny _ _ (exec (Stmt.For _ _ _ _ _) _) _ _ _)); (fail_if_success (with_reducible show wpAny _ _ (pyIter _) _ _ _)); (fail_if_success (with_reducible show wpAny _ _ (eval (Expr.ListComp _ _ _ _) _) _ _ _)); (fail_if_success (with_reducible show LCg.CompSrc _ _ _ _ _ _ _ _ _ _ _ _ _ _)); first | ((with_reducible show wpAny _ _ (eval (Expr.Name _ _) _) _ _ _); ((with_reducible first | refine' ld_lw_script (by k_dflt k_asm) ?_ | refine' ld_lw_path (by k_dflt k_asm) ?_ | refine' ld_lw_paths (by k_dflt k_asm) ?_ | refine' ld_lw_told (by k_dflt k_asm) ?_ | refine' ld_lw_one (by k_dflt k_asm) ?_))) | ((with_reducible show wpAny _ _ (subscriptTail _ _ _ _) _ _ _); ((with_reducible show wpAny _ _ (subscriptTail _ (Expr.Slice (some _) none none _) (Value.str _ _) _) _ _ _); (with_reducible rename Fr _ _ _ _ => F'); (with_reducible rename News _ _ _ _ => N'); (refine slice_strN_sn (hsz := (by walk_at "my size")) (s := ⟨_, _, _, _, _⟩) F' N' ?_); intro _ _ _ _ _; (try k_sweep))) | ((with_reducible show wpAny _ _ (subscriptTail _ _ _ _) _ _ _); ((with_reducible show wpAny _ _ (subscriptTail _ (Expr.Slice none (some _) none _) (Value.str _ _) _) _ _ _); (with_reducible rename Fr _ _ _ _ => F'); (with_reducible rename News _ _ _ _ => N'); (refine slice_strN_ns (hsz := (by walk_at "my size")) (s := ⟨_, _, _, _, _⟩) F' N' ?_); intro _ _ _ _ _; (try k_sweep))) | ((with_reducible show wpAny _ _ (subscriptTail _ _ _ _) _ _ _); ((with_reducible show wpAny _ _ (subscriptTail _ (Expr.Slice (some _) (some _) none _) (Value.str _ _) _) _ _ _); (with_reducible rename Fr _ _ _ _ => F'); (with_reducible rename News _ _ _ _ => N'); (refine slice_strN_ss (hsz := (by walk_at "my size")) (s := ⟨_, _, _, _, _⟩) F' N' ?_); intro _ _ _ _ _; (try k_sweep))) | (k_unfold; (try dsimp only)) | walk1 | dsimp only))
    refine compE (by assumption) (by assumption) off (show LCg.SrcAt h₀ D0 (vs.take 12).toArray [(D0, listOf (vs.take 12).toArray 0)] from Or.inr ⟨_, .head _, rfl, _, rfl⟩) ?_
    rw [item_sgn, take_mapI hll]
    exact strs_snoc (l := [sgn x]) hJ
  intro ys hJ D1 h1 tk1 F1 N1 off1
  have hsz : (vs.take 12).toArray.size = (ns.take 12).length := by rw [List.size_toArray, (hI.take 12).length]
  rw [hsz, List.take_length] at hJ
  (repeat' ((fail_if_success (with_reducible show MidP _ _ _)); (fail_if_success (with_reducible show wpAny _ _ (call (Value.ref 845) _ _) _ _ _)); (fail_if_success (with_reducible show wpAny _ _ (call (Value.ref 852) _ _) _ _ _)); (fail_if_success (with_reducible show wpAny _ _ (execs (Stmt.If _ _ _ _ :: _) _) _ _ _)); (fail_if_success (with_reducible show wpAny _ _ (execs (Stmt.Assign [Expr.Name (PySem.Str.ofString "told") _] _ _ :: _) _) _ _ _)); (fail_if_success (with_reducible show wpAny _ _ (exec (Stmt.For _ _ _ _ _) _) _ _ _)); (fail_if_success (with_reducible show wpAny _ _ (pyIter _) _ _ _)); (fail_if_success (with_reducible show wpAny _ _ (eval (Expr.ListComp _ _ _ _) _) _ _ _)); (fail_if_success (with_reducible show LCg.CompSrc _ _ _ _ _ _ _ _ _ _ _ _ _ _)); first | ((with_reducible show wpAny _ _ (call (Value.builtin "str.replace") _ _) _ _ _); ((refine' replS (by omega) (by omega) (by omega) (by omega) ?_); intro _ _)) | ((with_reducible show wpAny _ _ (call (Value.builtin "str.join") _ _) _ _ _); ((with_reducible refine' joinP (by k_dflt k_asm) (by k_dflt exact .head _) (by assumption) ?_); intro _ _)) | ((with_reducible show wpAny _ _ (storeName _ _ _) _ _ _); ((with_reducible first | refine' st_lw_script (by k_dflt k_asm) (by k_dflt k_asm) ?_ | refine' st_lw_path (by k_dflt k_asm) (by k_dflt k_asm) ?_ | refine' st_lw_paths (by k_dflt k_asm) (by k_dflt k_asm) ?_ | refine' st_lw_told (by k_dflt k_asm) (by k_dflt k_asm) ?_ | refine' st_lw_one (by k_dflt k_asm) (by k_dflt k_asm) ?_); intro _ _ _; (try k_sweep))) | ((with_reducible show wpAny _ _ (eval (Expr.Name _ _) _) _ _ _); ((with_reducible first | refine' ld_lw_script (by k_dflt k_asm) ?_ | refine' ld_lw_path (by k_dflt k_asm) ?_ | refine' ld_lw_paths (by k_dflt k_asm) ?_ | refine' ld_lw_told (by k_dflt k_asm) ?_ | refine' ld_lw_one (by k_dflt k_asm) ?_))) | ((with_reducible show wpAny _ _ (binaryOp Operator.Add (Value.str _ _) (Value.str _ _)) _ _ _); (refine' addS (by walk_at "my size") ?_; intro _ _)) | (k_unfold; (try dsimp only)) | walk1 | dsimp only))
  rename_i Pd h2 l2 h3 F3 N3
  obtain ⟨pv, hvp, N4⟩ : ∃ pv : List Value, StrsAre pv ([path1 ns, path2 ns].map S) ∧ News h₀ L h3 [(Pd, listOf pv.toArray 0), (D1, LCg.lst ys), (D0, listOf (vs.take 12).toArray 0)] := ⟨[_, _], .cons _ _ (.cons _ _ .nil), N3⟩
  have hPD : Pd ≠ D1 := Nat.ne_of_gt l2.1
  have hD01 : D0 ≠ D1 := off1.1
  have hlsp : ∀ p ∈ [path1 ns, path2 ns], (∀ c ∈ p, c ∈ sgL) ∧ p.length ≤ 100 := by
    intro p hp
    rcases List.mem_cons.mp hp with rfl | hp
    · exact ⟨hp1, by omega⟩
    · rw [List.mem_singleton.mp hp]; exact ⟨hp2, by omega⟩
  have hpvz : pv.length ≤ 100000 := by
    have := StrsAre.len_eq hvp
    simp only [List.length_map, List.length_cons, List.length_nil] at this
    omega
  generalize hls : [path1 ns, path2 ns] = ls at hvp hlsp
  have hlz : ls.length ≤ 2 := by rw [← hls]; simp
  have hln : ls ≠ [] := by rw [← hls]; simp
  generalize hbs : [(Pd, listOf pv.toArray 0), (D1, LCg.lst ys), (D0, listOf (vs.take 12).toArray 0)] = bs at N4
  have hPb : (Pd, listOf pv.toArray 0) ∈ bs := by rw [← hbs]; exact .head _
  -- the reading
  refine execs_mid (LwA h₀ L ax Pd bs ls s) ?_ ?_
  · intro PM hPM
    (repeat' ((fail_if_success (with_reducible show MidP _ _ _)); (fail_if_success (with_reducible show wpAny _ _ (call (Value.ref 845) _ _) _ _ _)); (fail_if_success (with_reducible show wpAny _ _ (call (Value.ref 852) _ _) _ _ _)); (fail_if_success (with_reducible show wpAny _ _ (execs (Stmt.If _ _ _ _ :: _) _) _ _ _)); (fail_if_success (with_reducible show wpAny _ _ (execs (Stmt.Assign [Expr.Name (PySem.Str.ofString "told") _] _ _ :: _) _) _ _ _)); (fail_if_success (with_reducible show wpAny _ _ (exec (Stmt.For _ _ _ _ _) _) _ _ _)); (fail_if_success (with_reducible show wpAny _ _ (pyIter _) _ _ _)); (fail_if_success (with_reducible show wpAny _ _ (eval (Expr.ListComp _ _ _ _) _) _ _ _)); (fail_if_success (with_reducible show LCg.CompSrc _ _ _ _ _ _ _ _ _ _ _ _ _ _)); first | ((with_reducible show wpAny _ _ (eval (Expr.Name _ _) _) _ _ _); ((with_reducible first | refine' ld_lw_script (by k_dflt k_asm) ?_ | refine' ld_lw_path (by k_dflt k_asm) ?_ | refine' ld_lw_paths (by k_dflt k_asm) ?_ | refine' ld_lw_told (by k_dflt k_asm) ?_ | refine' ld_lw_one (by k_dflt k_asm) ?_))) | (k_unfold; (try dsimp only)) | walk1 | dsimp only))
    refine' lr_ok (ls := ls) ⟨B, X, T, rfl⟩ X T F3 N4 ?_ ?_ hPb hvp hlsp hln (by omega) ?_ ?_
    · show 1 + claimMargin + 1 ≤ _; unfold claimMargin; omega
    · simp only [callerA]; omega
    · intro ts hts D h' tk vals c F' N' hv hD
      (repeat' ((fail_if_success (with_reducible show MidP _ _ _)); (fail_if_success (with_reducible show wpAny _ _ (call (Value.ref 845) _ _) _ _ _)); (fail_if_success (with_reducible show wpAny _ _ (call (Value.ref 852) _ _) _ _ _)); (fail_if_success (with_reducible show wpAny _ _ (execs (Stmt.If _ _ _ _ :: _) _) _ _ _)); (fail_if_success (with_reducible show wpAny _ _ (execs (Stmt.Assign [Expr.Name (PySem.Str.ofString "told") _] _ _ :: _) _) _ _ _)); (fail_if_success (with_reducible show wpAny _ _ (exec (Stmt.For _ _ _ _ _) _) _ _ _)); (fail_if_success (with_reducible show wpAny _ _ (pyIter _) _ _ _)); (fail_if_success (with_reducible show wpAny _ _ (eval (Expr.ListComp _ _ _ _) _) _ _ _)); (fail_if_success (with_reducible show LCg.CompSrc _ _ _ _ _ _ _ _ _ _ _ _ _ _)); first | ((with_reducible show wpAny _ _ (storeName _ _ _) _ _ _); ((with_reducible first | refine' st_lw_script (by k_dflt k_asm) (by k_dflt k_asm) ?_ | refine' st_lw_path (by k_dflt k_asm) (by k_dflt k_asm) ?_ | refine' st_lw_paths (by k_dflt k_asm) (by k_dflt k_asm) ?_ | refine' st_lw_told (by k_dflt k_asm) (by k_dflt k_asm) ?_ | refine' st_lw_one (by k_dflt k_asm) (by k_dflt k_asm) ?_); intro _ _ _; (try k_sweep))) | (k_unfold; (try dsimp only)) | walk1 | dsimp only))
      exact MidP.mk (hPM _ <| .mk (by assumption) (.inr ⟨ts, D, vals, c, hts, rfl, by assumption, hv⟩))
    · intro hts h' tk F' N'
      (repeat' ((fail_if_success (with_reducible show MidP _ _ _)); (fail_if_success (with_reducible show wpAny _ _ (call (Value.ref 845) _ _) _ _ _)); (fail_if_success (with_reducible show wpAny _ _ (call (Value.ref 852) _ _) _ _ _)); (fail_if_success (with_reducible show wpAny _ _ (execs (Stmt.If _ _ _ _ :: _) _) _ _ _)); (fail_if_success (with_reducible show wpAny _ _ (execs (Stmt.Assign [Expr.Name (PySem.Str.ofString "told") _] _ _ :: _) _) _ _ _)); (fail_if_success (with_reducible show wpAny _ _ (exec (Stmt.For _ _ _ _ _) _) _ _ _)); (fail_if_success (with_reducible show wpAny _ _ (pyIter _) _ _ _)); (fail_if_success (with_reducible show wpAny _ _ (eval (Expr.ListComp _ _ _ _) _) _ _ _)); (fail_if_success (with_reducible show LCg.CompSrc _ _ _ _ _ _ _ _ _ _ _ _ _ _)); first | ((with_reducible show wpAny _ _ (storeName _ _ _) _ _ _); ((with_reducible first | refine' st_lw_script (by k_dflt k_asm) (by k_dflt k_asm) ?_ | refine' st_lw_path (by k_dflt k_asm) (by k_dflt k_asm) ?_ | refine' st_lw_paths (by k_dflt k_asm) (by k_dflt k_asm) ?_ | refine' st_lw_told (by k_dflt k_asm) (by k_dflt k_asm) ?_ | refine' st_lw_one (by k_dflt k_asm) (by k_dflt k_asm) ?_); intro _ _ _; (try k_sweep))) | (k_unfold; (try dsimp only)) | walk1 | dsimp only))
      exact MidP.mk (hPM _ <| .mk (by assumption) (.inl ⟨hts, rfl, by assumption⟩))
  intro s' hs
  obtain ⟨F4, hT4⟩ := hs
  rename_i h4 tk4 pt tv
  have hwd := fun ts => heard_wd (ls := ls) (ts := ts) hlsp hlz
  have hlsp2 : ∀ p ∈ ls, p.length ≤ 100 := fun p hp => (hlsp p hp).2
  -- heard as told
  refine execs_mid (LwB h₀ L ax Pd pt tv bs ls s) ?_ ?_
  · intro PM hPM
    rcases hT4 with ⟨hh, rfl, N5⟩ | ⟨ts, D5, vals, c5, hh, rfl, N5, hv5⟩
    · (repeat' ((fail_if_success (with_reducible show MidP _ _ _)); (fail_if_success (with_reducible show wpAny _ _ (call (Value.ref 845) _ _) _ _ _)); (fail_if_success (with_reducible show wpAny _ _ (call (Value.ref 852) _ _) _ _ _)); (fail_if_success (with_reducible show wpAny _ _ (execs (Stmt.If _ _ _ _ :: _) _) _ _ _)); (fail_if_success (with_reducible show wpAny _ _ (execs (Stmt.Assign [Expr.Name (PySem.Str.ofString "told") _] _ _ :: _) _) _ _ _)); (fail_if_success (with_reducible show wpAny _ _ (exec (Stmt.For _ _ _ _ _) _) _ _ _)); (fail_if_success (with_reducible show wpAny _ _ (pyIter _) _ _ _)); (fail_if_success (with_reducible show wpAny _ _ (eval (Expr.ListComp _ _ _ _) _) _ _ _)); (fail_if_success (with_reducible show LCg.CompSrc _ _ _ _ _ _ _ _ _ _ _ _ _ _)); first | ((with_reducible show wpAny _ _ (eval (Expr.Name _ _) _) _ _ _); ((with_reducible first | refine' ld_lw_script (by k_dflt k_asm) ?_ | refine' ld_lw_path (by k_dflt k_asm) ?_ | refine' ld_lw_paths (by k_dflt k_asm) ?_ | refine' ld_lw_told (by k_dflt k_asm) ?_ | refine' ld_lw_one (by k_dflt k_asm) ?_))) | (k_unfold; (try dsimp only)) | walk1 | dsimp only))
      refine' heard_ok (ls := ls) ⟨B, X, T, rfl⟩ F4 N5 ?_ ?_ hPb hvp hlsp2 (by omega) ?_ ?_
      · show 1 + claimMargin + 1 ≤ _; unfold claimMargin; omega
      · simp only [callerA]; omega
      · intro ts hts
        rw [hh] at hts; cases hts
      · intro hts h' tk F' N'
        (repeat' ((fail_if_success (with_reducible show MidP _ _ _)); (fail_if_success (with_reducible show wpAny _ _ (call (Value.ref 845) _ _) _ _ _)); (fail_if_success (with_reducible show wpAny _ _ (call (Value.ref 852) _ _) _ _ _)); (fail_if_success (with_reducible show wpAny _ _ (execs (Stmt.If _ _ _ _ :: _) _) _ _ _)); (fail_if_success (with_reducible show wpAny _ _ (execs (Stmt.Assign [Expr.Name (PySem.Str.ofString "told") _] _ _ :: _) _) _ _ _)); (fail_if_success (with_reducible show wpAny _ _ (exec (Stmt.For _ _ _ _ _) _) _ _ _)); (fail_if_success (with_reducible show wpAny _ _ (pyIter _) _ _ _)); (fail_if_success (with_reducible show wpAny _ _ (eval (Expr.ListComp _ _ _ _) _) _ _ _)); (fail_if_success (with_reducible show LCg.CompSrc _ _ _ _ _ _ _ _ _ _ _ _ _ _)); first  | (k_unfold; (try dsimp only)) | walk1 | dsimp only))
        exact MidP.mk (hPM _ <| .mk (by assumption) (.inl ⟨hts, rfl, by assumption⟩))
    · have hsm5 : Sm ts := fun x hx => ((hwd ts hh).1 x hx).1
      (repeat' ((fail_if_success (with_reducible show MidP _ _ _)); (fail_if_success (with_reducible show wpAny _ _ (call (Value.ref 845) _ _) _ _ _)); (fail_if_success (with_reducible show wpAny _ _ (call (Value.ref 852) _ _) _ _ _)); (fail_if_success (with_reducible show wpAny _ _ (execs (Stmt.If _ _ _ _ :: _) _) _ _ _)); (fail_if_success (with_reducible show wpAny _ _ (execs (Stmt.Assign [Expr.Name (PySem.Str.ofString "told") _] _ _ :: _) _) _ _ _)); (fail_if_success (with_reducible show wpAny _ _ (exec (Stmt.For _ _ _ _ _) _) _ _ _)); (fail_if_success (with_reducible show wpAny _ _ (pyIter _) _ _ _)); (fail_if_success (with_reducible show wpAny _ _ (eval (Expr.ListComp _ _ _ _) _) _ _ _)); (fail_if_success (with_reducible show LCg.CompSrc _ _ _ _ _ _ _ _ _ _ _ _ _ _)); first | ((with_reducible show wpAny _ _ (eval (Expr.Name _ _) _) _ _ _); ((with_reducible first | refine' ld_lw_script (by k_dflt k_asm) ?_ | refine' ld_lw_path (by k_dflt k_asm) ?_ | refine' ld_lw_paths (by k_dflt k_asm) ?_ | refine' ld_lw_told (by k_dflt k_asm) ?_ | refine' ld_lw_one (by k_dflt k_asm) ?_))) | (k_unfold; (try dsimp only)) | walk1 | dsimp only))
      refine' heard_ok (ls := ls) ⟨B, X, T, rfl⟩ F4 N5 ?_ ?_ (.tail _ hPb) hvp hlsp2 (by omega) ?_ ?_
      · show 1 + claimMargin + 1 ≤ _; unfold claimMargin; omega
      · simp only [callerA]; omega
      · intro ts2 hts D h' tk vals2 c2 F' N' hv hD
        rw [hh] at hts
        cases hts
        (repeat' ((fail_if_success (with_reducible show MidP _ _ _)); (fail_if_success (with_reducible show wpAny _ _ (call (Value.ref 845) _ _) _ _ _)); (fail_if_success (with_reducible show wpAny _ _ (call (Value.ref 852) _ _) _ _ _)); (fail_if_success (with_reducible show wpAny _ _ (execs (Stmt.If _ _ _ _ :: _) _) _ _ _)); (fail_if_success (with_reducible show wpAny _ _ (execs (Stmt.Assign [Expr.Name (PySem.Str.ofString "told") _] _ _ :: _) _) _ _ _)); (fail_if_success (with_reducible show wpAny _ _ (exec (Stmt.For _ _ _ _ _) _) _ _ _)); (fail_if_success (with_reducible show wpAny _ _ (pyIter _) _ _ _)); (fail_if_success (with_reducible show wpAny _ _ (eval (Expr.ListComp _ _ _ _) _) _ _ _)); (fail_if_success (with_reducible show LCg.CompSrc _ _ _ _ _ _ _ _ _ _ _ _ _ _)); first | ((with_reducible show wpAny _ _ (compareOp CmpOp.NotEq (Value.ref _) (Value.ref _)) _ _ _); ((with_reducible refine' neSame (by k_dflt k_asm) (by k_dflt k_mem) (by k_dflt exact .head _) (by assumption) (by assumption) (by assumption) (by k_units) ?_))) | (k_unfold; (try dsimp only)) | walk1 | dsimp only))
        exact MidP.mk (hPM _ <| .mk (by assumption) (.inr ⟨ts, D5, vals, c5, hh, rfl, ntl (by assumption), hv5⟩))
      · intro hts
        rw [hh] at hts; cases hts
  intro s' hs
  obtain ⟨F5, hT5⟩ := hs
  rename_i h5 tk5
  -- the straightened words
  refine execs_mid (LwC h₀ L ax Pd pt tv bs s) ?_ ?_
  · intro PM hPM
    rcases hT5 with ⟨hh, rfl, N5⟩ | ⟨ts, D5, vals, c5, hh, rfl, N5, hv5⟩
    · (repeat' ((fail_if_success (with_reducible show MidP _ _ _)); (fail_if_success (with_reducible show wpAny _ _ (call (Value.ref 845) _ _) _ _ _)); (fail_if_success (with_reducible show wpAny _ _ (call (Value.ref 852) _ _) _ _ _)); (fail_if_success (with_reducible show wpAny _ _ (execs (Stmt.If _ _ _ _ :: _) _) _ _ _)); (fail_if_success (with_reducible show wpAny _ _ (execs (Stmt.Assign [Expr.Name (PySem.Str.ofString "told") _] _ _ :: _) _) _ _ _)); (fail_if_success (with_reducible show wpAny _ _ (exec (Stmt.For _ _ _ _ _) _) _ _ _)); (fail_if_success (with_reducible show wpAny _ _ (pyIter _) _ _ _)); (fail_if_success (with_reducible show wpAny _ _ (eval (Expr.ListComp _ _ _ _) _) _ _ _)); (fail_if_success (with_reducible show LCg.CompSrc _ _ _ _ _ _ _ _ _ _ _ _ _ _)); first | ((with_reducible show wpAny _ _ (eval (Expr.Name _ _) _) _ _ _); ((with_reducible first | refine' ld_lw_script (by k_dflt k_asm) ?_ | refine' ld_lw_path (by k_dflt k_asm) ?_ | refine' ld_lw_paths (by k_dflt k_asm) ?_ | refine' ld_lw_told (by k_dflt k_asm) ?_ | refine' ld_lw_one (by k_dflt k_asm) ?_))) | (k_unfold; (try dsimp only)) | walk1 | dsimp only))
      exact MidP.mk (hPM _ <| .mk (by assumption) N5)
    · have hsm5 : Sm (ts.map normP) := fun x hx => by
        obtain ⟨y, hy, rfl⟩ := List.mem_map.mp hx
        exact norm_sm ((hwd ts hh).1 y hy).1
      have hvl5 := StrsAre.len_eq hv5
      rw [List.length_map] at hvl5
      have htz := (hwd ts hh).2
      have hsz5 : vals.toArray.size = ts.length := by rw [List.size_toArray]; exact hvl5
      (repeat' ((fail_if_success (with_reducible show MidP _ _ _)); (fail_if_success (with_reducible show wpAny _ _ (call (Value.ref 845) _ _) _ _ _)); (fail_if_success (with_reducible show wpAny _ _ (call (Value.ref 852) _ _) _ _ _)); (fail_if_success (with_reducible show wpAny _ _ (execs (Stmt.If _ _ _ _ :: _) _) _ _ _)); (fail_if_success (with_reducible show wpAny _ _ (execs (Stmt.Assign [Expr.Name (PySem.Str.ofString "told") _] _ _ :: _) _) _ _ _)); (fail_if_success (with_reducible show wpAny _ _ (exec (Stmt.For _ _ _ _ _) _) _ _ _)); (fail_if_success (with_reducible show wpAny _ _ (pyIter _) _ _ _)); (fail_if_success (with_reducible show wpAny _ _ (eval (Expr.ListComp _ _ _ _) _) _ _ _)); (fail_if_success (with_reducible show LCg.CompSrc _ _ _ _ _ _ _ _ _ _ _ _ _ _)); first | ((with_reducible show wpAny _ _ (eval (Expr.Name _ _) _) _ _ _); ((with_reducible first | refine' ld_lw_script (by k_dflt k_asm) ?_ | refine' ld_lw_path (by k_dflt k_asm) ?_ | refine' ld_lw_paths (by k_dflt k_asm) ?_ | refine' ld_lw_told (by k_dflt k_asm) ?_ | refine' ld_lw_one (by k_dflt k_asm) ?_))) | (k_unfold; (try dsimp only)) | walk1 | dsimp only))
      refine LCg.ListComp_U (F₀ := by k_asm) (by rfl) (by decide) (by rfl) (by decide) (by rfl) ?_
      (repeat' ((fail_if_success (with_reducible show MidP _ _ _)); (fail_if_success (with_reducible show wpAny _ _ (call (Value.ref 845) _ _) _ _ _)); (fail_if_success (with_reducible show wpAny _ _ (call (Value.ref 852) _ _) _ _ _)); (fail_if_success (with_reducible show wpAny _ _ (execs (Stmt.If _ _ _ _ :: _) _) _ _ _)); (fail_if_success (with_reducible show wpAny _ _ (execs (Stmt.Assign [Expr.Name (PySem.Str.ofString "told") _] _ _ :: _) _) _ _ _)); (fail_if_success (with_reducible show wpAny _ _ (exec (Stmt.For _ _ _ _ _) _) _ _ _)); (fail_if_success (with_reducible show wpAny _ _ (pyIter _) _ _ _)); (fail_if_success (with_reducible show wpAny _ _ (eval (Expr.ListComp _ _ _ _) _) _ _ _)); (fail_if_success (with_reducible show LCg.CompSrc _ _ _ _ _ _ _ _ _ _ _ _ _ _)); first | ((with_reducible show wpAny _ _ (eval (Expr.Name _ _) _) _ _ _); ((with_reducible first | refine' ld_lw_script (by k_dflt k_asm) ?_ | refine' ld_lw_path (by k_dflt k_asm) ?_ | refine' ld_lw_paths (by k_dflt k_asm) ?_ | refine' ld_lw_told (by k_dflt k_asm) ?_ | refine' ld_lw_one (by k_dflt k_asm) ?_))) | (k_unfold; (try dsimp only)) | walk1 | dsimp only))
      refine LCg.CompSrc.ledger (k := c5) rfl F5 N5 (.head _) (by rw [hsz5, sizeLine_eq]; omega) ?_
      intro g₂
      refine comp_invU (fun i ys => StrsAre ys (((ts.take i).map normP).map S)) .nil ?_ ?_
      · intro i v I oI C oC D m₂ ys h tk E' hi hv hJ hC hx F2 N2 off ne
        obtain ⟨l, t, hll, rfl⟩ := strs_at hv5 hv
        obtain ⟨hl1, hl2⟩ := (hwd ts hh).1 l (List.mem_of_getElem? hll)
        (repeat' ((fail_if_success (with_reducible show MidP _ _ _)); (fail_if_success (with_reducible show wpAny _ _ (call (Value.ref 845) _ _) _ _ _)); (fail_if_success (with_reducible show wpAny _ _ (call (Value.ref 852) _ _) _ _ _)); (fail_if_success (with_reducible show wpAny _ _ (execs (Stmt.If _ _ _ _ :: _) _) _ _ _)); (fail_if_success (with_reducible show wpAny _ _ (execs (Stmt.Assign [Expr.Name (PySem.Str.ofString "told") _] _ _ :: _) _) _ _ _)); (fail_if_success (with_reducible show wpAny _ _ (exec (Stmt.For _ _ _ _ _) _) _ _ _)); (fail_if_success (with_reducible show wpAny _ _ (pyIter _) _ _ _)); (fail_if_success (with_reducible show wpAny _ _ (eval (Expr.ListComp _ _ _ _) _) _ _ _)); (fail_if_success (with_reducible show LCg.CompSrc _ _ _ _ _ _ _ _ _ _ _ _ _ _)); first | ((with_reducible show wpAny _ _ (call (Value.ref 857) _ _) _ _ _); k_dflt (refine' straight_ok ⟨by k_asm, by k_asm, by k_asm, by walk_at "k4"⟩ (by k_asm) (by k_asm) (by ktr_room) (by k_units) (by assumption) (by assumption) ?_; intros; (try k_sweep))) | ((with_reducible show wpAny _ _ (call (Value.ref 862) _ _) _ _ _); k_dflt (refine' thin_ok ⟨by k_asm, by k_asm, by k_asm, by walk_at "k4"⟩ (by k_asm) (by k_asm) (by ktr_room) (by k_units) (by assumption) (by assumption) ?_; intros; (try k_sweep))) | ((with_reducible show wpAny _ _ (call (Value.ref 840) _ _) _ _ _); k_dflt (refine' normpath_ok ⟨by k_asm, by k_asm, by k_asm, by walk_at "k4"⟩ (by k_asm) (by k_asm) (by ktr_room) (by k_units) (by assumption) ?_; intros; (try k_sweep))) | ((with_reducible show wpAny _ _ (call (Value.ref 58) _ _) _ _ _); k_dflt (refine' tp_ok ⟨by k_asm, by k_asm, by k_asm, by walk_at "k4"⟩ (by k_asm) (by k_asm) (by ktr_room) (by k_units) (by assumption) (by assumption) ?_; intros; (try k_sweep))) | ((with_reducible show wpAny _ _ (eval (Expr.Name _ _) _) _ _ _); ((with_reducible first | refine' ld_lw_script (by k_dflt k_asm) ?_ | refine' ld_lw_path (by k_dflt k_asm) ?_ | refine' ld_lw_paths (by k_dflt k_asm) ?_ | refine' ld_lw_told (by k_dflt k_asm) ?_ | refine' ld_lw_one (by k_dflt k_asm) ?_))) | (k_unfold; (try dsimp only)) | walk1 | dsimp only))
        refine compE (by assumption) (by assumption) off (show LCg.SrcAt h₀ D5 vals.toArray ((D5, listOf vals.toArray c5) :: bs) from Or.inr ⟨_, .head _, rfl, _, rfl⟩) ?_
        rw [take_map hll]
        exact strs_snoc hJ
      intro ys1 hJ1 Y1 h7 tk7 F7 N7 off7
      rw [hsz5, List.take_length] at hJ1
      (repeat' ((fail_if_success (with_reducible show MidP _ _ _)); (fail_if_success (with_reducible show wpAny _ _ (call (Value.ref 845) _ _) _ _ _)); (fail_if_success (with_reducible show wpAny _ _ (call (Value.ref 852) _ _) _ _ _)); (fail_if_success (with_reducible show wpAny _ _ (execs (Stmt.If _ _ _ _ :: _) _) _ _ _)); (fail_if_success (with_reducible show wpAny _ _ (execs (Stmt.Assign [Expr.Name (PySem.Str.ofString "told") _] _ _ :: _) _) _ _ _)); (fail_if_success (with_reducible show wpAny _ _ (exec (Stmt.For _ _ _ _ _) _) _ _ _)); (fail_if_success (with_reducible show wpAny _ _ (pyIter _) _ _ _)); (fail_if_success (with_reducible show wpAny _ _ (eval (Expr.ListComp _ _ _ _) _) _ _ _)); (fail_if_success (with_reducible show LCg.CompSrc _ _ _ _ _ _ _ _ _ _ _ _ _ _)); first  | (k_unfold; (try dsimp only)) | walk1 | dsimp only))
      refine LCg.ListComp_U (F₀ := by k_asm) (by rfl) (by decide) (by rfl) (by decide) (by rfl) ?_
      (repeat' ((fail_if_success (with_reducible show MidP _ _ _)); (fail_if_success (with_reducible show wpAny _ _ (call (Value.ref 845) _ _) _ _ _)); (fail_if_success (with_reducible show wpAny _ _ (call (Value.ref 852) _ _) _ _ _)); (fail_if_success (with_reducible show wpAny _ _ (execs (Stmt.If _ _ _ _ :: _) _) _ _ _)); (fail_if_success (with_reducible show wpAny _ _ (execs (Stmt.Assign [Expr.Name (PySem.Str.ofString "told") _] _ _ :: _) _) _ _ _)); (fail_if_success (with_reducible show wpAny _ _ (exec (Stmt.For _ _ _ _ _) _) _ _ _)); (fail_if_success (with_reducible show wpAny _ _ (pyIter _) _ _ _)); (fail_if_success (with_reducible show wpAny _ _ (eval (Expr.ListComp _ _ _ _) _) _ _ _)); (fail_if_success (with_reducible show LCg.CompSrc _ _ _ _ _ _ _ _ _ _ _ _ _ _)); first | ((with_reducible show wpAny _ _ (eval (Expr.Name _ _) _) _ _ _); ((with_reducible first | refine' ld_lw_script (by k_dflt k_asm) ?_ | refine' ld_lw_path (by k_dflt k_asm) ?_ | refine' ld_lw_paths (by k_dflt k_asm) ?_ | refine' ld_lw_told (by k_dflt k_asm) ?_ | refine' ld_lw_one (by k_dflt k_asm) ?_))) | (k_unfold; (try dsimp only)) | walk1 | dsimp only))
      refine LCg.CompSrc.ledger (k := c5) rfl F7 N7 (.tail _ (.head _)) (by rw [hsz5, sizeLine_eq]; omega) ?_
      intro g₃
      refine comp_invU (fun i ys => StrsAre ys (((ts.take i).map normP).map S)) .nil ?_ ?_
      · intro i v I oI C oC D m₂ ys h tk E' hi hv hJ hC hx F2 N2 off ne
        obtain ⟨l, t, hll, rfl⟩ := strs_at hv5 hv
        obtain ⟨hl1, hl2⟩ := (hwd ts hh).1 l (List.mem_of_getElem? hll)
        (repeat' ((fail_if_success (with_reducible show MidP _ _ _)); (fail_if_success (with_reducible show wpAny _ _ (call (Value.ref 845) _ _) _ _ _)); (fail_if_success (with_reducible show wpAny _ _ (call (Value.ref 852) _ _) _ _ _)); (fail_if_success (with_reducible show wpAny _ _ (execs (Stmt.If _ _ _ _ :: _) _) _ _ _)); (fail_if_success (with_reducible show wpAny _ _ (execs (Stmt.Assign [Expr.Name (PySem.Str.ofString "told") _] _ _ :: _) _) _ _ _)); (fail_if_success (with_reducible show wpAny _ _ (exec (Stmt.For _ _ _ _ _) _) _ _ _)); (fail_if_success (with_reducible show wpAny _ _ (pyIter _) _ _ _)); (fail_if_success (with_reducible show wpAny _ _ (eval (Expr.ListComp _ _ _ _) _) _ _ _)); (fail_if_success (with_reducible show LCg.CompSrc _ _ _ _ _ _ _ _ _ _ _ _ _ _)); first | ((with_reducible show wpAny _ _ (call (Value.ref 857) _ _) _ _ _); k_dflt (refine' straight_ok ⟨by k_asm, by k_asm, by k_asm, by walk_at "k4"⟩ (by k_asm) (by k_asm) (by ktr_room) (by k_units) (by assumption) (by assumption) ?_; intros; (try k_sweep))) | ((with_reducible show wpAny _ _ (call (Value.ref 862) _ _) _ _ _); k_dflt (refine' thin_ok ⟨by k_asm, by k_asm, by k_asm, by walk_at "k4"⟩ (by k_asm) (by k_asm) (by ktr_room) (by k_units) (by assumption) (by assumption) ?_; intros; (try k_sweep))) | ((with_reducible show wpAny _ _ (call (Value.ref 840) _ _) _ _ _); k_dflt (refine' normpath_ok ⟨by k_asm, by k_asm, by k_asm, by walk_at "k4"⟩ (by k_asm) (by k_asm) (by ktr_room) (by k_units) (by assumption) ?_; intros; (try k_sweep))) | ((with_reducible show wpAny _ _ (call (Value.ref 58) _ _) _ _ _); k_dflt (refine' tp_ok ⟨by k_asm, by k_asm, by k_asm, by walk_at "k4"⟩ (by k_asm) (by k_asm) (by ktr_room) (by k_units) (by assumption) (by assumption) ?_; intros; (try k_sweep))) | ((with_reducible show wpAny _ _ (eval (Expr.Name _ _) _) _ _ _); ((with_reducible first | refine' ld_lw_script (by k_dflt k_asm) ?_ | refine' ld_lw_path (by k_dflt k_asm) ?_ | refine' ld_lw_paths (by k_dflt k_asm) ?_ | refine' ld_lw_told (by k_dflt k_asm) ?_ | refine' ld_lw_one (by k_dflt k_asm) ?_))) | (k_unfold; (try dsimp only)) | walk1 | dsimp only))
        refine compE (by assumption) (by assumption) off (show LCg.SrcAt h₀ D5 vals.toArray ((Y1, LCg.lst ys1) :: (D5, listOf vals.toArray c5) :: bs) from Or.inr ⟨_, .tail _ (.head _), rfl, _, rfl⟩) ?_
        rw [take_map hll, ← M2 l]
        exact strs_snoc hJ
      intro ys2 hJ2 Y2 h8 tk8 F8 N8 off8
      rw [hsz5, List.take_length] at hJ2
      (repeat' ((fail_if_success (with_reducible show MidP _ _ _)); (fail_if_success (with_reducible show wpAny _ _ (call (Value.ref 845) _ _) _ _ _)); (fail_if_success (with_reducible show wpAny _ _ (call (Value.ref 852) _ _) _ _ _)); (fail_if_success (with_reducible show wpAny _ _ (execs (Stmt.If _ _ _ _ :: _) _) _ _ _)); (fail_if_success (with_reducible show wpAny _ _ (execs (Stmt.Assign [Expr.Name (PySem.Str.ofString "told") _] _ _ :: _) _) _ _ _)); (fail_if_success (with_reducible show wpAny _ _ (exec (Stmt.For _ _ _ _ _) _) _ _ _)); (fail_if_success (with_reducible show wpAny _ _ (pyIter _) _ _ _)); (fail_if_success (with_reducible show wpAny _ _ (eval (Expr.ListComp _ _ _ _) _) _ _ _)); (fail_if_success (with_reducible show LCg.CompSrc _ _ _ _ _ _ _ _ _ _ _ _ _ _)); first | ((with_reducible show wpAny _ _ (compareOp CmpOp.NotEq (Value.ref _) (Value.ref _)) _ _ _); ((with_reducible refine' neSame (by k_dflt k_asm) (by k_dflt k_mem) (by k_dflt exact .head _) (by assumption) (by assumption) (by assumption) (by k_units) ?_))) | (k_unfold; (try dsimp only)) | walk1 | dsimp only))
      exact MidP.mk (hPM _ <| .mk (by assumption) (ntl (ntl (ntl (by assumption)))))
  intro s' hs
  obtain ⟨F6, N6⟩ := hs
  rename_i h6 tk6
  have hls2 : ∀ p ∈ [path2 ns], (∀ c ∈ p, c ∈ sgL) ∧ p.length ≤ 100 := fun p hp => by
    rw [List.mem_singleton.mp hp]; exact ⟨hp2, by omega⟩
  have hls3 : ∀ p ∈ [path2 ns], p.length ≤ 100 := fun p hp => (hls2 p hp).2
  have hvp2 : StrsAre (pv.drop 1) ([path2 ns].map S) := by
    have := hvp.drop' 1
    rw [← hls] at this
    exact this
  have hc1 : (1 : Int) = ((1 : Nat) : Int) := rfl
  have hwd2 := fun ts => heard_wd (ls := [path2 ns]) (ts := ts) hls2 (by simp)
  -- the second path alone
  refine execs_mid (LwC h₀ L ax Pd pt tv bs s) ?_ ?_
  · intro PM hPM
    (repeat' ((fail_if_success (with_reducible show MidP _ _ _)); (fail_if_success (with_reducible show wpAny _ _ (call (Value.ref 845) _ _) _ _ _)); (fail_if_success (with_reducible show wpAny _ _ (call (Value.ref 852) _ _) _ _ _)); (fail_if_success (with_reducible show wpAny _ _ (execs (Stmt.If _ _ _ _ :: _) _) _ _ _)); (fail_if_success (with_reducible show wpAny _ _ (execs (Stmt.Assign [Expr.Name (PySem.Str.ofString "told") _] _ _ :: _) _) _ _ _)); (fail_if_success (with_reducible show wpAny _ _ (exec (Stmt.For _ _ _ _ _) _) _ _ _)); (fail_if_success (with_reducible show wpAny _ _ (pyIter _) _ _ _)); (fail_if_success (with_reducible show wpAny _ _ (eval (Expr.ListComp _ _ _ _) _) _ _ _)); (fail_if_success (with_reducible show LCg.CompSrc _ _ _ _ _ _ _ _ _ _ _ _ _ _)); first | ((with_reducible show wpAny _ _ (subscriptTail (Expr.Name _ _) (Expr.Slice _ _ _ _) (Value.ref _) (Value.ref _)) _ _ _); ((with_reducible rename Fr _ _ _ _ => F'); (with_reducible rename News _ _ _ _ => N'); (k_dflt (first | (refine' upto_H (s := ⟨_, _, _, _, _⟩) (by assumption) (by assumption) F' N' (by assumption) ?_) | (refine' from_L (s := ⟨_, _, _, _, _⟩) (by assumption) F' N' (by first | assumption | k_mem) (by assumption) ?_))); intro _ _ _ _ _; (try k_sweep))) | ((with_reducible show wpAny _ _ (eval (Expr.Name _ _) _) _ _ _); ((with_reducible first | refine' ld_lw_script (by k_dflt k_asm) ?_ | refine' ld_lw_path (by k_dflt k_asm) ?_ | refine' ld_lw_paths (by k_dflt k_asm) ?_ | refine' ld_lw_told (by k_dflt k_asm) ?_ | refine' ld_lw_one (by k_dflt k_asm) ?_))) | (k_unfold; (try dsimp only)) | walk1 | dsimp only))
    rename_i D7 h7 F7 N7 l7
    refine' lr_ok (ls := [path2 ns]) ⟨B, X, T, rfl⟩ X T F7 N7 ?_ ?_ (.head _) hvp2 hls2 (by simp) (by simp) ?_ ?_
    · show 1 + claimMargin + 1 ≤ _; unfold claimMargin; omega
    · simp only [callerA]; omega
    · intro ts hts D h' tk vals c F' N' hv hD
      have hsm : Sm ts := fun x hx => ((hwd2 ts hts).1 x hx).1
      have hPb2 : (Pd, listOf pv.toArray 0) ∈ (D, listOf vals.toArray c) :: (D7, listOf (pv.drop 1).toArray 0) :: bs := .tail _ (.tail _ hPb)
      (repeat' ((fail_if_success (with_reducible show MidP _ _ _)); (fail_if_success (with_reducible show wpAny _ _ (call (Value.ref 845) _ _) _ _ _)); (fail_if_success (with_reducible show wpAny _ _ (call (Value.ref 852) _ _) _ _ _)); (fail_if_success (with_reducible show wpAny _ _ (execs (Stmt.If _ _ _ _ :: _) _) _ _ _)); (fail_if_success (with_reducible show wpAny _ _ (execs (Stmt.Assign [Expr.Name (PySem.Str.ofString "told") _] _ _ :: _) _) _ _ _)); (fail_if_success (with_reducible show wpAny _ _ (exec (Stmt.For _ _ _ _ _) _) _ _ _)); (fail_if_success (with_reducible show wpAny _ _ (pyIter _) _ _ _)); (fail_if_success (with_reducible show wpAny _ _ (eval (Expr.ListComp _ _ _ _) _) _ _ _)); (fail_if_success (with_reducible show LCg.CompSrc _ _ _ _ _ _ _ _ _ _ _ _ _ _)); first | ((with_reducible show wpAny _ _ (subscriptTail (Expr.Name _ _) (Expr.Slice _ _ _ _) (Value.ref _) (Value.ref _)) _ _ _); ((with_reducible rename Fr _ _ _ _ => F'); (with_reducible rename News _ _ _ _ => N'); (k_dflt (first | (refine' upto_H (s := ⟨_, _, _, _, _⟩) (by assumption) (by assumption) F' N' (by assumption) ?_) | (refine' from_L (s := ⟨_, _, _, _, _⟩) (by assumption) F' N' (by first | assumption | k_mem) (by assumption) ?_))); intro _ _ _ _ _; (try k_sweep))) | ((with_reducible show wpAny _ _ (eval (Expr.Name _ _) _) _ _ _); ((with_reducible first | refine' ld_lw_script (by k_dflt k_asm) ?_ | refine' ld_lw_path (by k_dflt k_asm) ?_ | refine' ld_lw_paths (by k_dflt k_asm) ?_ | refine' ld_lw_told (by k_dflt k_asm) ?_ | refine' ld_lw_one (by k_dflt k_asm) ?_))) | (k_unfold; (try dsimp only)) | walk1 | dsimp only))
      refine' heard_ok (ls := [path2 ns]) ⟨B, X, T, ?fk⟩ ?fF ?fN ?_ ?_ ?fm hvp2 hls3 (by simp) ?_ ?_
      (case fk => exact rfl); (case fF => k_asm); (case fN => k_asm); (case fm => exact .head _)
      · show 1 + claimMargin + 1 ≤ _; unfold claimMargin; omega
      · simp only [callerA]; omega
      · intro ts2 hts2 D2 h2 tk2 vals2 c2 F2 N2 hv2 hD2
        rw [hts] at hts2
        cases hts2
        (repeat' ((fail_if_success (with_reducible show MidP _ _ _)); (fail_if_success (with_reducible show wpAny _ _ (call (Value.ref 845) _ _) _ _ _)); (fail_if_success (with_reducible show wpAny _ _ (call (Value.ref 852) _ _) _ _ _)); (fail_if_success (with_reducible show wpAny _ _ (execs (Stmt.If _ _ _ _ :: _) _) _ _ _)); (fail_if_success (with_reducible show wpAny _ _ (execs (Stmt.Assign [Expr.Name (PySem.Str.ofString "told") _] _ _ :: _) _) _ _ _)); (fail_if_success (with_reducible show wpAny _ _ (exec (Stmt.For _ _ _ _ _) _) _ _ _)); (fail_if_success (with_reducible show wpAny _ _ (pyIter _) _ _ _)); (fail_if_success (with_reducible show wpAny _ _ (eval (Expr.ListComp _ _ _ _) _) _ _ _)); (fail_if_success (with_reducible show LCg.CompSrc _ _ _ _ _ _ _ _ _ _ _ _ _ _)); first | ((with_reducible show wpAny _ _ (compareOp CmpOp.NotEq (Value.ref _) (Value.ref _)) _ _ _); ((with_reducible refine' neSame (by k_dflt k_asm) (by k_dflt k_mem) (by k_dflt exact .head _) (by assumption) (by assumption) (by assumption) (by k_units) ?_))) | (k_unfold; (try dsimp only)) | walk1 | dsimp only))
        exact MidP.mk (hPM _ <| .mk (by assumption) (ntl (ntl (ntl (ntl (by assumption))))))
      · intro hts2
        rw [hts] at hts2; cases hts2
    · intro hts h' tk F' N'
      have hPb2 : (Pd, listOf pv.toArray 0) ∈ (D7, listOf (pv.drop 1).toArray 0) :: bs := .tail _ hPb
      (repeat' ((fail_if_success (with_reducible show MidP _ _ _)); (fail_if_success (with_reducible show wpAny _ _ (call (Value.ref 845) _ _) _ _ _)); (fail_if_success (with_reducible show wpAny _ _ (call (Value.ref 852) _ _) _ _ _)); (fail_if_success (with_reducible show wpAny _ _ (execs (Stmt.If _ _ _ _ :: _) _) _ _ _)); (fail_if_success (with_reducible show wpAny _ _ (execs (Stmt.Assign [Expr.Name (PySem.Str.ofString "told") _] _ _ :: _) _) _ _ _)); (fail_if_success (with_reducible show wpAny _ _ (exec (Stmt.For _ _ _ _ _) _) _ _ _)); (fail_if_success (with_reducible show wpAny _ _ (pyIter _) _ _ _)); (fail_if_success (with_reducible show wpAny _ _ (eval (Expr.ListComp _ _ _ _) _) _ _ _)); (fail_if_success (with_reducible show LCg.CompSrc _ _ _ _ _ _ _ _ _ _ _ _ _ _)); first | ((with_reducible show wpAny _ _ (subscriptTail (Expr.Name _ _) (Expr.Slice _ _ _ _) (Value.ref _) (Value.ref _)) _ _ _); ((with_reducible rename Fr _ _ _ _ => F'); (with_reducible rename News _ _ _ _ => N'); (k_dflt (first | (refine' upto_H (s := ⟨_, _, _, _, _⟩) (by assumption) (by assumption) F' N' (by assumption) ?_) | (refine' from_L (s := ⟨_, _, _, _, _⟩) (by assumption) F' N' (by first | assumption | k_mem) (by assumption) ?_))); intro _ _ _ _ _; (try k_sweep))) | ((with_reducible show wpAny _ _ (eval (Expr.Name _ _) _) _ _ _); ((with_reducible first | refine' ld_lw_script (by k_dflt k_asm) ?_ | refine' ld_lw_path (by k_dflt k_asm) ?_ | refine' ld_lw_paths (by k_dflt k_asm) ?_ | refine' ld_lw_told (by k_dflt k_asm) ?_ | refine' ld_lw_one (by k_dflt k_asm) ?_))) | (k_unfold; (try dsimp only)) | walk1 | dsimp only))
      refine' heard_ok (ls := [path2 ns]) ⟨B, X, T, ?gk⟩ ?gF ?gN ?_ ?_ ?gm hvp2 hls3 (by simp) ?_ ?_
      (case gk => exact rfl); (case gF => k_asm); (case gN => k_asm); (case gm => exact .head _)
      · show 1 + claimMargin + 1 ≤ _; unfold claimMargin; omega
      · simp only [callerA]; omega
      · intro ts2 hts2
        rw [hts] at hts2; cases hts2
      · intro hts2 h2 tk2 F2 N2
        (repeat' ((fail_if_success (with_reducible show MidP _ _ _)); (fail_if_success (with_reducible show wpAny _ _ (call (Value.ref 845) _ _) _ _ _)); (fail_if_success (with_reducible show wpAny _ _ (call (Value.ref 852) _ _) _ _ _)); (fail_if_success (with_reducible show wpAny _ _ (execs (Stmt.If _ _ _ _ :: _) _) _ _ _)); (fail_if_success (with_reducible show wpAny _ _ (execs (Stmt.Assign [Expr.Name (PySem.Str.ofString "told") _] _ _ :: _) _) _ _ _)); (fail_if_success (with_reducible show wpAny _ _ (exec (Stmt.For _ _ _ _ _) _) _ _ _)); (fail_if_success (with_reducible show wpAny _ _ (pyIter _) _ _ _)); (fail_if_success (with_reducible show wpAny _ _ (eval (Expr.ListComp _ _ _ _) _) _ _ _)); (fail_if_success (with_reducible show LCg.CompSrc _ _ _ _ _ _ _ _ _ _ _ _ _ _)); first  | (k_unfold; (try dsimp only)) | walk1 | dsimp only))
        exact MidP.mk (hPM _ <| .mk (by assumption) (ntl (ntl (by assumption))))
  intro s' hs
  obtain ⟨F9, N9⟩ := hs
  rename_i h9 tk9
  (repeat' ((fail_if_success (with_reducible show MidP _ _ _)); (fail_if_success (with_reducible show wpAny _ _ (call (Value.ref 845) _ _) _ _ _)); (fail_if_success (with_reducible show wpAny _ _ (call (Value.ref 852) _ _) _ _ _)); (fail_if_success (with_reducible show wpAny _ _ (execs (Stmt.If _ _ _ _ :: _) _) _ _ _)); (fail_if_success (with_reducible show wpAny _ _ (execs (Stmt.Assign [Expr.Name (PySem.Str.ofString "told") _] _ _ :: _) _) _ _ _)); (fail_if_success (with_reducible show wpAny _ _ (exec (Stmt.For _ _ _ _ _) _) _ _ _)); (fail_if_success (with_reducible show wpAny _ _ (pyIter _) _ _ _)); (fail_if_success (with_reducible show wpAny _ _ (eval (Expr.ListComp _ _ _ _) _) _ _ _)); (fail_if_success (with_reducible show LCg.CompSrc _ _ _ _ _ _ _ _ _ _ _ _ _ _)); first  | (k_unfold; (try dsimp only)) | walk1 | dsimp only))
  refine For_invV h₀ rfl rfl ?_ (hE := hE)
  (repeat' ((fail_if_success (with_reducible show MidP _ _ _)); (fail_if_success (with_reducible show wpAny _ _ (call (Value.ref 845) _ _) _ _ _)); (fail_if_success (with_reducible show wpAny _ _ (call (Value.ref 852) _ _) _ _ _)); (fail_if_success (with_reducible show wpAny _ _ (execs (Stmt.If _ _ _ _ :: _) _) _ _ _)); (fail_if_success (with_reducible show wpAny _ _ (execs (Stmt.Assign [Expr.Name (PySem.Str.ofString "told") _] _ _ :: _) _) _ _ _)); (fail_if_success (with_reducible show wpAny _ _ (exec (Stmt.For _ _ _ _ _) _) _ _ _)); (fail_if_success (with_reducible show wpAny _ _ (pyIter _) _ _ _)); (fail_if_success (with_reducible show wpAny _ _ (eval (Expr.ListComp _ _ _ _) _) _ _ _)); (fail_if_success (with_reducible show LCg.CompSrc _ _ _ _ _ _ _ _ _ _ _ _ _ _)); first | ((with_reducible show wpAny _ _ (eval (Expr.Name _ _) _) _ _ _); ((with_reducible first | refine' ld_lw_script (by k_dflt k_asm) ?_ | refine' ld_lw_path (by k_dflt k_asm) ?_ | refine' ld_lw_paths (by k_dflt k_asm) ?_ | refine' ld_lw_told (by k_dflt k_asm) ?_ | refine' ld_lw_one (by k_dflt k_asm) ?_))) | (k_unfold; (try dsimp only)) | walk1 | dsimp only))
  rw [← hbs] at N9
  refine iterL (ls := ls) (o₀ := LCg.lst ys) (fun i m₁ o₁ => ∃ ov, m₁ = mp_lw (some (.ref ax)) pt (some (.ref Pd)) (some tv) ov ∧ o₁ = LCg.lst ys) rfl (.head _) hvp F9 (nk21 N9) (fun q hq => by rw [List.mem_singleton.mp hq]; exact hPD) ⟨_, rfl, rfl⟩ ?_ ?_
  · rintro i l tt m₁ o₁ h10 tk10 rest Jn hJn hl ⟨ov, rfl, rfl⟩ hrest hsub F10 N10
    rw [mp_lw_one] at F10
    replace F10 : Fr h₀ L h10 _ := F10
    replace N10 : News h₀ L h10 _ := N10
    obtain ⟨hl1, hl2⟩ := hlsp l (List.mem_of_getElem? hl)
    have hl3 : (tpc l).length ≤ 2000 := by have := tpc_len l; omega
    have hl4 := thin_sub hl1
    have hl5 : (thinP l).length ≤ 100 := by
      have := thin_len l
      have : l.length ≤ 14 := by
        have := List.mem_of_getElem? hl
        rw [← hls] at this
        rcases List.mem_cons.mp this with rfl | this
        · omega
        · rw [List.mem_singleton.mp this]; exact hp2z
      omega
    refine execs_consK ?_
    (repeat' ((fail_if_success (with_reducible show MidP _ _ _)); (fail_if_success (with_reducible show wpAny _ _ (call (Value.ref 845) _ _) _ _ _)); (fail_if_success (with_reducible show wpAny _ _ (call (Value.ref 852) _ _) _ _ _)); (fail_if_success (with_reducible show wpAny _ _ (execs (Stmt.If _ _ _ _ :: _) _) _ _ _)); (fail_if_success (with_reducible show wpAny _ _ (execs (Stmt.Assign [Expr.Name (PySem.Str.ofString "told") _] _ _ :: _) _) _ _ _)); (fail_if_success (with_reducible show wpAny _ _ (exec (Stmt.For _ _ _ _ _) _) _ _ _)); (fail_if_success (with_reducible show wpAny _ _ (pyIter _) _ _ _)); (fail_if_success (with_reducible show wpAny _ _ (eval (Expr.ListComp _ _ _ _) _) _ _ _)); (fail_if_success (with_reducible show LCg.CompSrc _ _ _ _ _ _ _ _ _ _ _ _ _ _)); first | ((with_reducible show wpAny _ _ (call (Value.ref 857) _ _) _ _ _); k_dflt (refine' straight_ok ⟨by k_asm, by k_asm, by k_asm, by walk_at "k4"⟩ (by k_asm) (by k_asm) (by ktr_room) (by k_units) (by assumption) (by assumption) ?_; intros; (try k_sweep))) | ((with_reducible show wpAny _ _ (call (Value.ref 862) _ _) _ _ _); k_dflt (refine' thin_ok ⟨by k_asm, by k_asm, by k_asm, by walk_at "k4"⟩ (by k_asm) (by k_asm) (by ktr_room) (by k_units) (by assumption) (by assumption) ?_; intros; (try k_sweep))) | ((with_reducible show wpAny _ _ (call (Value.ref 840) _ _) _ _ _); k_dflt (refine' normpath_ok ⟨by k_asm, by k_asm, by k_asm, by walk_at "k4"⟩ (by k_asm) (by k_asm) (by ktr_room) (by k_units) (by assumption) ?_; intros; (try k_sweep))) | ((with_reducible show wpAny _ _ (call (Value.ref 58) _ _) _ _ _); k_dflt (refine' tp_ok ⟨by k_asm, by k_asm, by k_asm, by walk_at "k4"⟩ (by k_asm) (by k_asm) (by ktr_room) (by k_units) (by assumption) (by assumption) ?_; intros; (try k_sweep))) | ((with_reducible show wpAny _ _ (eval (Expr.Name _ _) _) _ _ _); ((with_reducible first | refine' ld_lw_script (by k_dflt k_asm) ?_ | refine' ld_lw_path (by k_dflt k_asm) ?_ | refine' ld_lw_paths (by k_dflt k_asm) ?_ | refine' ld_lw_told (by k_dflt k_asm) ?_ | refine' ld_lw_one (by k_dflt k_asm) ?_))) | (k_unfold; (try dsimp only)) | walk1 | dsimp only))
    · exact absurd (M3 l) (bne_ne (by assumption))
    · exact TurnR.mk (by assumption) (by assumption) (hJn _ _ ⟨_, rfl, rfl⟩)
  · rintro m₁ o₁ h10 tk10 ⟨ov, rfl, rfl⟩ F10 N10
    replace F10 : Fr h₀ L h10 _ := F10
    (repeat' ((fail_if_success (with_reducible show MidP _ _ _)); (fail_if_success (with_reducible show wpAny _ _ (call (Value.ref 845) _ _) _ _ _)); (fail_if_success (with_reducible show wpAny _ _ (call (Value.ref 852) _ _) _ _ _)); (fail_if_success (with_reducible show wpAny _ _ (execs (Stmt.If _ _ _ _ :: _) _) _ _ _)); (fail_if_success (with_reducible show wpAny _ _ (execs (Stmt.Assign [Expr.Name (PySem.Str.ofString "told") _] _ _ :: _) _) _ _ _)); (fail_if_success (with_reducible show wpAny _ _ (exec (Stmt.For _ _ _ _ _) _) _ _ _)); (fail_if_success (with_reducible show wpAny _ _ (pyIter _) _ _ _)); (fail_if_success (with_reducible show wpAny _ _ (eval (Expr.ListComp _ _ _ _) _) _ _ _)); (fail_if_success (with_reducible show LCg.CompSrc _ _ _ _ _ _ _ _ _ _ _ _ _ _)); first  | (k_unfold; (try dsimp only)) | walk1 | dsimp only))
    exact h _ _ _ (by assumption)

end

end Mine
namespace Mine.hd
theorem tw2867327485932766208 : True := trivial
theorem tw4971549296188076032 : True := trivial
theorem tw8735263284916673568 : True := trivial
theorem tw1800889605409440832 : True := trivial
theorem tw546821695630378048 : True := trivial
theorem tw4523669819894539328 : True := trivial
theorem tw17470177872615007328 : True := trivial
theorem tw13155780701260043360 : True := trivial
theorem tw4706079058837389440 : True := trivial
theorem tw5292301768408028288 : True := trivial
theorem tw10195207025132199040 : True := trivial
theorem tw17950676927832955104 : True := trivial
theorem tw10458740792067480800 : True := trivial
theorem tw2739504486584576224 : True := trivial
theorem tw17956543221229664512 : True := trivial
theorem tw16759147789766475008 : True := trivial
theorem tw11109741339103130912 : True := trivial
theorem tw11595982170579460384 : True := trivial
theorem tw10259988299927297344 : True := trivial
theorem tw8381844023166312768 : True := trivial
theorem tw17387473266821786944 : True := trivial
theorem tw10763509664835889504 : True := trivial
theorem tw8912348807662434688 : True := trivial
theorem tw7023726343779634624 : True := trivial
theorem tw9927179837433541088 : True := trivial
theorem tw8134915037123179040 : True := trivial
theorem tw3911173418732280352 : True := trivial
theorem tw15344866539931968096 : True := trivial
theorem tw1359830224848277088 : True := trivial
theorem tw4494801613693538912 : True := trivial
theorem tw4946210868454251104 : True := trivial
theorem tw7541792107247259296 : True := trivial
theorem tw9614397579173300960 : True := trivial
theorem tw4730091804998409952 : True := trivial
theorem tw16694946328126371552 : True := trivial
theorem tw15643275761693703936 : True := trivial
theorem tw5715356086224469760 : True := trivial
theorem tw10224846074564989696 : True := trivial
theorem tw17183224562656869120 : True := trivial
theorem tw15278966056882409248 : True := trivial
theorem tw3887682987991473952 : True := trivial
theorem tw4958948430592982816 : True := trivial
theorem tw5983496337302601536 : True := trivial
theorem tw16635604280276938560 : True := trivial
theorem tw1632911306035174240 : True := trivial
theorem tw15152743547302097792 : True := trivial
theorem tw3350930974749635488 : True := trivial
theorem tw10026777125879992224 : True := trivial
theorem tw14598272352848978880 : True := trivial
theorem tw17252143746492648416 : True := trivial
theorem tw5002522977637638145 : True := trivial
theorem tw6636792957720756321 : True := trivial
theorem tw7691918140598264929 : True := trivial
theorem tw10752148897807903841 : True := trivial
theorem tw7610815399733428385 : True := trivial
theorem tw10403243965636340961 : True := trivial
theorem tw13129650132239662433 : True := trivial
theorem tw12629531694177875297 : True := trivial
theorem tw16858285156579221889 : True := trivial
theorem tw4111692666942324129 : True := trivial
theorem tw4086058157674990017 : True := trivial
theorem tw9429285754427346401 : True := trivial
theorem tw15220180469806662145 : True := trivial
theorem tw4367455430839740993 : True := trivial
theorem tw18343703819029505601 : True := trivial
theorem tw8773699223549846113 : True := trivial
theorem tw13585648185636399713 : True := trivial
theorem tw10678649693572172417 : True := trivial
theorem tw2371736936440567457 : True := trivial
theorem tw2799716289819351777 : True := trivial
theorem tw16547865195752855329 : True := trivial
theorem tw13937860266046166849 : True := trivial
theorem tw4186180820073840449 : True := trivial
theorem tw13218659294841961345 : True := trivial
theorem tw6046454685291232161 : True := trivial
theorem tw8887996145723391905 : True := trivial
theorem tw12602439190401603521 : True := trivial
theorem tw7914949630228597729 : True := trivial
theorem tw2505046432360240130 : True := trivial
theorem tw8609351116199087170 : True := trivial
theorem tw14745743045033390146 : True := trivial
theorem tw15630680890609703042 : True := trivial
theorem tw5592821105494180994 : True := trivial
theorem tw5480042469492414594 : True := trivial
theorem tw6308581086252854402 : True := trivial
theorem tw9731375825926819010 : True := trivial
theorem tw13171141561276507362 : True := trivial
theorem tw9430268157657104642 : True := trivial
theorem tw13919464512627920130 : True := trivial
theorem tw12936449754285732098 : True := trivial
theorem tw9299316483162031394 : True := trivial
theorem tw4702841417184801058 : True := trivial
theorem tw12337632362937886050 : True := trivial
theorem tw3478764184967624034 : True := trivial
theorem tw758273949599710562 : True := trivial
theorem tw14725821394091407714 : True := trivial
theorem tw11052946933831473538 : True := trivial
theorem tw11912922877643110818 : True := trivial
theorem tw12271959270614036898 : True := trivial
theorem tw4355604671862981090 : True := trivial
theorem tw7492944070806833698 : True := trivial
theorem tw5781342201191254626 : True := trivial
theorem tw7031273417212677730 : True := trivial
theorem tw5549315172176941698 : True := trivial
theorem tw4521580383011477154 : True := trivial
theorem tw15064902949301533346 : True := trivial
theorem tw3919010098100093602 : True := trivial
theorem tw5190246844813560578 : True := trivial
theorem tw1448358952932078338 : True := trivial
theorem tw13064122474441708322 : True := trivial
theorem tw7525542149764818722 : True := trivial
theorem tw14446474709323646786 : True := trivial
theorem tw17088974140843591490 : True := trivial
theorem tw4581847759332874082 : True := trivial
theorem tw5360435025570183010 : True := trivial
theorem tw10365702040365258594 : True := trivial
theorem tw18203504233945503714 : True := trivial
theorem tw18245042118932799458 : True := trivial
theorem tw17994825080979385314 : True := trivial
theorem tw8531993380330477603 : True := trivial
theorem tw15618049606547972131 : True := trivial
theorem tw12364972598781006883 : True := trivial
theorem tw1882180444382439491 : True := trivial
theorem tw6052482589124101219 : True := trivial
theorem tw17325209927041812611 : True := trivial
theorem tw5318216170032084099 : True := trivial
theorem tw13001811119718631651 : True := trivial
theorem tw12704988097186499811 : True := trivial
theorem tw16904818350239718627 : True := trivial
theorem tw3660579746685279459 : True := trivial
theorem tw18322514126500204803 : True := trivial
theorem tw15924899543223041283 : True := trivial
theorem tw10847404155465417027 : True := trivial
theorem tw1033889070964956483 : True := trivial
theorem tw3229955645248102723 : True := trivial
theorem tw5174551420813472067 : True := trivial
theorem tw2783992281797965187 : True := trivial
theorem tw867598499069673859 : True := trivial
theorem tw19140548474820995 : True := trivial
theorem tw11754176132448286083 : True := trivial
theorem tw6411954120941647267 : True := trivial
theorem tw4282359134580295075 : True := trivial
theorem tw1760603350576429475 : True := trivial
theorem tw13368278939475635651 : True := trivial
theorem tw12453114486196615683 : True := trivial
theorem tw4878824753759274627 : True := trivial
theorem tw3504079246686126755 : True := trivial
theorem tw9153386212771759811 : True := trivial
theorem tw11513968764499736323 : True := trivial
theorem tw9908193460736022307 : True := trivial
theorem tw5138769234217329475 : True := trivial
theorem tw18293851220164018083 : True := trivial
theorem tw5492756548084828099 : True := trivial
theorem tw11629707937479629763 : True := trivial
theorem tw519851828213033955 : True := trivial
theorem tw17843490464661113860 : True := trivial
theorem tw12201216968780110852 : True := trivial
theorem tw16477043939570097188 : True := trivial
theorem tw6060742912462422084 : True := trivial
theorem tw6320253292602491972 : True := trivial
theorem tw14896477498954680388 : True := trivial
theorem tw9228397985900620932 : True := trivial
theorem tw5278057926702712004 : True := trivial
theorem tw10841399608879689956 : True := trivial
theorem tw457024733287443684 : True := trivial
theorem tw10507497572311344420 : True := trivial
theorem tw14706022693812145444 : True := trivial
theorem tw14892549342360969540 : True := trivial
theorem tw13855946660403688772 : True := trivial
theorem tw9330943631129107780 : True := trivial
theorem tw8068729725432388964 : True := trivial
theorem tw3132252637357597028 : True := trivial
theorem tw3722166409189360004 : True := trivial
theorem tw18358800413957953924 : True := trivial
theorem tw7676003278276379012 : True := trivial
theorem tw1445366717492459972 : True := trivial
theorem tw11465210709893060100 : True := trivial
theorem tw12861998865439983172 : True := trivial
theorem tw8493152586797012548 : True := trivial
theorem tw7175568609137494628 : True := trivial
theorem tw10949625832625181284 : True := trivial
theorem tw7379015992945566340 : True := trivial
theorem tw17001982702790524580 : True := trivial
theorem tw12431770505752037028 : True := trivial
theorem tw9013056391748086436 : True := trivial
theorem tw5732804406350252772 : True := trivial
theorem tw1241404454085649124 : True := trivial
theorem tw9990345226319884068 : True := trivial
theorem tw17583924267553061668 : True := trivial
theorem tw8684328023851190084 : True := trivial
theorem tw3789350110615891812 : True := trivial
theorem tw14991384322417631237 : True := trivial
theorem tw13931416462566266981 : True := trivial
theorem tw13122850982685727845 : True := trivial
theorem tw1784385830474605701 : True := trivial
theorem tw8356816923877370021 : True := trivial
theorem tw2729298822523640997 : True := trivial
theorem tw7355570028127101125 : True := trivial
theorem tw12414669353804360901 : True := trivial
theorem tw2502866573005156581 : True := trivial
theorem tw4074112789689628901 : True := trivial
theorem tw11375277706881905925 : True := trivial
theorem tw4292457097857839397 : True := trivial
theorem tw1930396617588912421 : True := trivial
theorem tw6305734824756694309 : True := trivial
theorem tw9702936160620672325 : True := trivial
theorem tw3405361230339686725 : True := trivial
theorem tw10258999931320997221 : True := trivial
theorem tw15910714762333108613 : True := trivial
theorem tw12399718760709695909 : True := trivial
theorem tw4021928978595405253 : True := trivial
theorem tw5976792059365374437 : True := trivial
theorem tw1847840615245081061 : True := trivial
theorem tw11623594800819314181 : True := trivial
theorem tw7721951785955056133 : True := trivial
theorem tw8293946417935249925 : True := trivial
theorem tw6663896369628448293 : True := trivial
theorem tw5167245352685981253 : True := trivial
theorem tw18160293313031310949 : True := trivial
theorem tw12642813592246648485 : True := trivial
theorem tw15381450162410889989 : True := trivial
theorem tw14711139521213225765 : True := trivial
theorem tw11251137523995926341 : True := trivial
theorem tw10031445930688152421 : True := trivial
theorem tw6438293893037913957 : True := trivial
theorem tw49274679934790565 : True := trivial
theorem tw15637593595834871717 : True := trivial
theorem tw5505005885091257285 : True := trivial
theorem tw17491280204586788870 : True := trivial
theorem tw13475242022060392486 : True := trivial
theorem tw2562236817408797766 : True := trivial
theorem tw13181700845877081190 : True := trivial
theorem tw16692772259055178886 : True := trivial
theorem tw11069045038748578950 : True := trivial
theorem tw6181573660694698118 : True := trivial
theorem tw5363428345988834438 : True := trivial
theorem tw10583446816852156582 : True := trivial
theorem tw5899666649113621702 : True := trivial
theorem tw2871226400543044806 : True := trivial
theorem tw7628703163842673926 : True := trivial
theorem tw8472141830624432390 : True := trivial
theorem tw3088336149111003398 : True := trivial
theorem tw8268277133935991078 : True := trivial
theorem tw5516785719162176838 : True := trivial
theorem tw16211521421427940678 : True := trivial
theorem tw212345690472687942 : True := trivial
theorem tw7523672394736509286 : True := trivial
theorem tw3673020696563887462 : True := trivial
theorem tw11778180911958503814 : True := trivial
theorem tw8345560877234265574 : True := trivial
theorem tw102014493982917126 : True := trivial
theorem tw13066319289922817542 : True := trivial
theorem tw8311865607074365958 : True := trivial
theorem tw2386827423013361158 : True := trivial
theorem tw3795277891434052102 : True := trivial
theorem tw10424393626065333798 : True := trivial
theorem tw2295870552580634182 : True := trivial
theorem tw5927567313105069670 : True := trivial
theorem tw17258206423299326598 : True := trivial
theorem tw11180023125335031430 : True := trivial
theorem tw17562767543260142214 : True := trivial
theorem tw2195365466389143174 : True := trivial
theorem tw13903934854276604550 : True := trivial
theorem tw4993660671451451078 : True := trivial
theorem tw1506431575118746342 : True := trivial
theorem tw2315468765258864358 : True := trivial
theorem tw8990313861142287110 : True := trivial
theorem tw13893168526513508166 : True := trivial
theorem tw3044193314922437478 : True := trivial
theorem tw7153062008950511462 : True := trivial
theorem tw9386895884608548742 : True := trivial
theorem tw3039998526598829958 : True := trivial
theorem tw8934143017859847078 : True := trivial
theorem tw18152756486534528934 : True := trivial
theorem tw10117440562283002822 : True := trivial
theorem tw5978321128707920903 : True := trivial
theorem tw5574845727924001799 : True := trivial
theorem tw1256466517863071783 : True := trivial
theorem tw15043168886218598503 : True := trivial
theorem tw16641143254114907239 : True := trivial
theorem tw15683763237869141255 : True := trivial
theorem tw10819331528351526247 : True := trivial
theorem tw17062030032774818151 : True := trivial
theorem tw18362790893298522503 : True := trivial
theorem tw8977307856219701671 : True := trivial
theorem tw16133100035791441351 : True := trivial
theorem tw14612060388864693735 : True := trivial
theorem tw5635641802508607975 : True := trivial
theorem tw9783614193127449063 : True := trivial
theorem tw12659318050587179527 : True := trivial
theorem tw2394040479862359591 : True := trivial
theorem tw17876089906941426215 : True := trivial
theorem tw3109861748172591687 : True := trivial
theorem tw9557236495431379559 : True := trivial
theorem tw13280443560766958183 : True := trivial
theorem tw4449123307109862055 : True := trivial
theorem tw17969167859971792583 : True := trivial
theorem tw7068711184596962023 : True := trivial
theorem tw11660266114150955751 : True := trivial
theorem tw16246848685605474055 : True := trivial
theorem tw5054737718236178183 : True := trivial
theorem tw8960069828448710407 : True := trivial
theorem tw17672654358674132775 : True := trivial
theorem tw9600117475790353255 : True := trivial
theorem tw701787995468756871 : True := trivial
theorem tw6469175993241445255 : True := trivial
theorem tw5405509625223553959 : True := trivial
theorem tw13825103770533428167 : True := trivial
theorem tw190519026028168232 : True := trivial
theorem tw15001097145646765096 : True := trivial
theorem tw7702882491108231240 : True := trivial
theorem tw7372000682148998216 : True := trivial
theorem tw4091639524402994376 : True := trivial
theorem tw11126320352707459272 : True := trivial
theorem tw8671608845466749128 : True := trivial
theorem tw10286656452748174568 : True := trivial
theorem tw8197050154876552520 : True := trivial
theorem tw17570734847185409352 : True := trivial
theorem tw16920754564084929960 : True := trivial
theorem tw6824622198901579176 : True := trivial
theorem tw10246146449241189800 : True := trivial
theorem tw13562760996464443880 : True := trivial
theorem tw16914215919094292968 : True := trivial
theorem tw9312999139381119592 : True := trivial
theorem tw5464967688985200232 : True := trivial
theorem tw6038821095411175016 : True := trivial
theorem tw18268791191939849864 : True := trivial
theorem tw2708950531961675432 : True := trivial
theorem tw4642405928176397000 : True := trivial
theorem tw4297731678662094536 : True := trivial
theorem tw162610821266807592 : True := trivial
theorem tw14205177575709318024 : True := trivial
theorem tw960944832710211464 : True := trivial
theorem tw4870687313549177768 : True := trivial
theorem tw17975533764899295144 : True := trivial
theorem tw6627881031435992008 : True := trivial
theorem tw7792395482447073224 : True := trivial
theorem tw11011131195910976488 : True := trivial
theorem tw16376525773666504680 : True := trivial
theorem tw4310969922304039945 : True := trivial
theorem tw3259873300814134281 : True := trivial
theorem tw9850052858527491113 : True := trivial
theorem tw189712035060473897 : True := trivial
theorem tw2040990291671593033 : True := trivial
theorem tw17066044127408595049 : True := trivial
theorem tw14567429538950270057 : True := trivial
theorem tw18166333605607142505 : True := trivial
theorem tw18291330726469416073 : True := trivial
theorem tw4527685146903026889 : True := trivial
theorem tw11841407262063887625 : True := trivial
theorem tw8652628183442184457 : True := trivial
theorem tw10788059911547816233 : True := trivial
theorem tw16826083622388986153 : True := trivial
theorem tw14906377314874228009 : True := trivial
theorem tw3890083515106143593 : True := trivial
theorem tw9244321171653502345 : True := trivial
theorem tw11729958736954745289 : True := trivial
theorem tw8479784124755550697 : True := trivial
theorem tw8184699220007379433 : True := trivial
theorem tw1362751533348561449 : True := trivial
theorem tw137786328141462057 : True := trivial
theorem tw12211380539166087753 : True := trivial
theorem tw14579804019780415049 : True := trivial
theorem tw5009564483982726761 : True := trivial
theorem tw567884609423149705 : True := trivial
theorem tw17925215291927510665 : True := trivial
theorem tw14040608126747316905 : True := trivial
theorem tw9627899436633539337 : True := trivial
theorem tw10258225898301398825 : True := trivial
theorem tw243823211424636713 : True := trivial
theorem tw14817486215969520457 : True := trivial
theorem tw9566141503761928105 : True := trivial
theorem tw14189342980343032745 : True := trivial
theorem tw5148922909946612681 : True := trivial
theorem tw11407884054146074569 : True := trivial
theorem tw18370931923303237609 : True := trivial
theorem tw3915529967508079626 : True := trivial
theorem tw18264374347568628810 : True := trivial
theorem tw15042006015671813226 : True := trivial
theorem tw6906073325868019850 : True := trivial
theorem tw13217225542625558698 : True := trivial
theorem tw16009884308244765898 : True := trivial
theorem tw7120233287515763914 : True := trivial
theorem tw2960447077969926378 : True := trivial
theorem tw14143348200573808938 : True := trivial
theorem tw10778257442750969130 : True := trivial
theorem tw9406673726873002282 : True := trivial
theorem tw7626941382939369770 : True := trivial
theorem tw6804821044290156842 : True := trivial
theorem tw16794629799341752650 : True := trivial
theorem tw5416991563250132298 : True := trivial
theorem tw4383666589626881386 : True := trivial
theorem tw9983995961361265002 : True := trivial
theorem tw13616292390063288746 : True := trivial
theorem tw9864973744126774698 : True := trivial
theorem tw33583606019346890 : True := trivial
theorem tw15337868472472888810 : True := trivial
theorem tw242841246431481386 : True := trivial
theorem tw14492701947808656938 : True := trivial
theorem tw17143205804819765802 : True := trivial
theorem tw6528754448969337418 : True := trivial
theorem tw15162365667193794122 : True := trivial
theorem tw15591429051563716170 : True := trivial
theorem tw10603584201595350602 : True := trivial
theorem tw9132557439983319658 : True := trivial
theorem tw1563692795949630186 : True := trivial
theorem tw500953250457666378 : True := trivial
theorem tw1809687716253123402 : True := trivial
theorem tw4478964076566166474 : True := trivial
theorem tw17737187407176874954 : True := trivial
theorem tw12112201142124510154 : True := trivial
theorem tw9271970288684553227 : True := trivial
theorem tw6769732088879122475 : True := trivial
theorem tw16823583209533085739 : True := trivial
theorem tw5513025101015932971 : True := trivial
theorem tw1335065189686863947 : True := trivial
theorem tw12239354291974867115 : True := trivial
theorem tw13277076834127875243 : True := trivial
theorem tw3443669649825651883 : True := trivial
theorem tw9449672872311958731 : True := trivial
theorem tw12832683148521936107 : True := trivial
theorem tw14776966858535155947 : True := trivial
theorem tw17628472586750557451 : True := trivial
theorem tw11917015161858427179 : True := trivial
theorem tw6449127861642672459 : True := trivial
theorem tw17070941380808615275 : True := trivial
theorem tw9170477692918782315 : True := trivial
theorem tw10030107230732127627 : True := trivial
theorem tw15463257786427224491 : True := trivial
theorem tw1511243299971373483 : True := trivial
theorem tw3196170801527574987 : True := trivial
theorem tw1893913032611223051 : True := trivial
theorem tw313027258313007627 : True := trivial
theorem tw6683769817339685419 : True := trivial
theorem tw7534799579077118603 : True := trivial
theorem tw37099724090138251 : True := trivial
theorem tw9741134391959003819 : True := trivial
theorem tw14333710738500927179 : True := trivial
theorem tw5534113831511101195 : True := trivial
theorem tw10743916045514856203 : True := trivial
theorem tw9748044761591592747 : True := trivial
theorem tw8727321023445011275 : True := trivial
theorem tw2999033326186475339 : True := trivial
theorem tw8242931771332617035 : True := trivial
theorem tw6196171512934965099 : True := trivial
theorem tw8716120427605611371 : True := trivial
theorem tw16896567674234606475 : True := trivial
theorem tw7640094616464845771 : True := trivial
theorem tw6264232113106981867 : True := trivial
theorem tw12353913968525425643 : True := trivial
theorem tw2011083257458950123 : True := trivial
theorem tw4136554803537287180 : True := trivial
theorem tw16870090452748662828 : True := trivial
theorem tw13217827037086042188 : True := trivial
theorem tw12647368939536790636 : True := trivial
theorem tw3922637787740509324 : True := trivial
theorem tw1043307727769730188 : True := trivial
theorem tw1535757262459896012 : True := trivial
theorem tw17679848547673146604 : True := trivial
theorem tw5667655126489319660 : True := trivial
theorem tw14060154772996877548 : True := trivial
theorem tw7867956165831070988 : True := trivial
theorem tw8977460988437922124 : True := trivial
theorem tw16299908979028503884 : True := trivial
theorem tw12092154237167983948 : True := trivial
theorem tw15856727013471470956 : True := trivial
theorem tw5535567543195554156 : True := trivial
theorem tw14454528878903484812 : True := trivial
theorem tw16464424236575238572 : True := trivial
theorem tw12575139184659369484 : True := trivial
theorem tw9450335948986698252 : True := trivial
theorem tw5873113503399164460 : True := trivial
theorem tw15687388767607454252 : True := trivial
theorem tw6482722132109649516 : True := trivial
theorem tw5130813555471234732 : True := trivial
theorem tw5322579261384874668 : True := trivial
theorem tw8004679753235328684 : True := trivial
theorem tw18185175575083235020 : True := trivial
theorem tw15923250282426842828 : True := trivial
theorem tw17948085552500728524 : True := trivial
theorem tw7270182246851987180 : True := trivial
theorem tw12588582704262371052 : True := trivial
theorem tw9459050058782445324 : True := trivial
theorem tw14683707025165767436 : True := trivial
theorem tw10292235466723388172 : True := trivial
theorem tw16171809288044610508 : True := trivial
theorem tw10781468475247234061 : True := trivial
theorem tw16558851475291246605 : True := trivial
theorem tw6374767894290048045 : True := trivial
theorem tw13239904802401495117 : True := trivial
theorem tw15837987909243819085 : True := trivial
theorem tw1409312971732116557 : True := trivial
theorem tw257007361410690125 : True := trivial
theorem tw5010264101278932077 : True := trivial
theorem tw12254263087357419629 : True := trivial
theorem tw13011413612017729677 : True := trivial
theorem tw16332348944364537037 : True := trivial
theorem tw6877226645827823821 : True := trivial
theorem tw1013155817946168525 : True := trivial
theorem tw13628142620392400109 : True := trivial
theorem tw15074197538484233485 : True := trivial
theorem tw14060237666301923597 : True := trivial
theorem tw11942693397608355085 : True := trivial
theorem tw14743440263598761229 : True := trivial
theorem tw7644636733232180493 : True := trivial
theorem tw1820180628909398317 : True := trivial
theorem tw13321331477185743149 : True := trivial
theorem tw11415386828835887437 : True := trivial
theorem tw16919406825032445293 : True := trivial
theorem tw9325612240067072397 : True := trivial
theorem tw6079173187612997037 : True := trivial
theorem tw17386561741084979693 : True := trivial
theorem tw4377701919642642989 : True := trivial
theorem tw3404104791013757517 : True := trivial
theorem tw13172843250190940813 : True := trivial
theorem tw15931116738044738221 : True := trivial
theorem tw1617838721645859501 : True := trivial
theorem tw12976082216212581069 : True := trivial
theorem tw4734902545126651661 : True := trivial
theorem tw4068527845204499245 : True := trivial
theorem tw17606422857730326317 : True := trivial
theorem tw11249132867342737325 : True := trivial
theorem tw10404513684093684653 : True := trivial
theorem tw1088296927520436173 : True := trivial
theorem tw9577689765879766989 : True := trivial
theorem tw16156708551869547534 : True := trivial
theorem tw12175748835895409678 : True := trivial
theorem tw11801993109049149486 : True := trivial
theorem tw9398405308114057262 : True := trivial
theorem tw9012836324853574702 : True := trivial
theorem tw14980023328507725902 : True := trivial
theorem tw11968265576560266318 : True := trivial
theorem tw14078009766183191694 : True := trivial
theorem tw14444963742821833902 : True := trivial
theorem tw12232750017996463310 : True := trivial
theorem tw13624431586668435662 : True := trivial
theorem tw15384028259256376558 : True := trivial
theorem tw14294001040229213422 : True := trivial
theorem tw14914937398881237230 : True := trivial
theorem tw5715734110848049390 : True := trivial
theorem tw4654797750381630734 : True := trivial
theorem tw17989097746536338734 : True := trivial
theorem tw9617658007855726926 : True := trivial
theorem tw17649441919526076750 : True := trivial
theorem tw678209747344391502 : True := trivial
theorem tw17733724502801981806 : True := trivial
theorem tw10203026625882799534 : True := trivial
theorem tw5850991567925798318 : True := trivial
theorem tw5490696432328200686 : True := trivial
theorem tw18338084644071967246 : True := trivial
theorem tw185848376630758926 : True := trivial
theorem tw12900700647772717614 : True := trivial
theorem tw9330823016148744750 : True := trivial
theorem tw12727495553239364174 : True := trivial
theorem tw3429492842335990350 : True := trivial
theorem tw12952509933414984302 : True := trivial
theorem tw10531373872144210542 : True := trivial
theorem tw3608708970678896270 : True := trivial
theorem tw6372862494175223470 : True := trivial
theorem tw2839761810297210574 : True := trivial
theorem tw1870067075039425230 : True := trivial
theorem tw1781861727890032366 : True := trivial
theorem tw15378359858306647822 : True := trivial
theorem tw4159134105002834734 : True := trivial
theorem tw3196399650302076718 : True := trivial
theorem tw16722109127936396110 : True := trivial
theorem tw2004659784336800654 : True := trivial
theorem tw6780557218761844654 : True := trivial
theorem tw14553816603554493358 : True := trivial
theorem tw12268275109542032366 : True := trivial
theorem tw6818987989461384207 : True := trivial
theorem tw13363553139645760527 : True := trivial
theorem tw11507959949525687343 : True := trivial
theorem tw1452849714261714991 : True := trivial
theorem tw1736311965527578767 : True := trivial
theorem tw10376703724636587151 : True := trivial
theorem tw15616948245753086127 : True := trivial
theorem tw17172931820748874959 : True := trivial
theorem tw12676414471582705871 : True := trivial
theorem tw3969467460574380271 : True := trivial
theorem tw2442259710966052079 : True := trivial
theorem tw12521463284412890351 : True := trivial
theorem tw13606922415975196911 : True := trivial
theorem tw17330132731328240911 : True := trivial
theorem tw8587404781116728655 : True := trivial
theorem tw6082411064634330575 : True := trivial
theorem tw3493717111155160527 : True := trivial
theorem tw16158619036321959407 : True := trivial
theorem tw15228807520496212463 : True := trivial
theorem tw16149640692961023503 : True := trivial
theorem tw9476321141362543215 : True := trivial
theorem tw12631932088317031055 : True := trivial
theorem tw11709330566771433103 : True := trivial
theorem tw5987830557187376847 : True := trivial
theorem tw17471934795394947791 : True := trivial
theorem tw6990203504111849199 : True := trivial
theorem tw17273587926920868623 : True := trivial
theorem tw18095200977026478895 : True := trivial
theorem tw6679266806504041263 : True := trivial
theorem tw2101469004524951375 : True := trivial
theorem tw1184127607605381967 : True := trivial
theorem tw2448992281723591503 : True := trivial
theorem tw11319892378374348655 : True := trivial
theorem tw9657781627882305391 : True := trivial
theorem tw13315533130655954831 : True := trivial
theorem tw16649331688326792143 : True := trivial
theorem tw8811097733284410319 : True := trivial
theorem tw16698745307106531279 : True := trivial
theorem tw1197925565968671727 : True := trivial
theorem tw15207398651663016943 : True := trivial
theorem tw7839823952615728111 : True := trivial
theorem tw18421049791903953903 : True := trivial
theorem tw10111801491309104144 : True := trivial
theorem tw402640490398009360 : True := trivial
theorem tw6412770499399676944 : True := trivial
theorem tw15427206886491885616 : True := trivial
theorem tw8801323125487838256 : True := trivial
theorem tw8898355551111435312 : True := trivial
theorem tw16011055738799735888 : True := trivial
theorem tw10947331860392259696 : True := trivial
theorem tw1386097877827089520 : True := trivial
theorem tw16639802674150441104 : True := trivial
theorem tw10216474801634566288 : True := trivial
theorem tw6669269137521125552 : True := trivial
theorem tw15689870831250920624 : True := trivial
theorem tw5206456813468324048 : True := trivial
theorem tw13944508082162953488 : True := trivial
theorem tw7182994202766372144 : True := trivial
theorem tw17992175057805443440 : True := trivial
theorem tw10643592516055977328 : True := trivial
theorem tw10491609206876299696 : True := trivial
theorem tw11115866451450875312 : True := trivial
theorem tw940617070666608080 : True := trivial
theorem tw5135410709514514960 : True := trivial
theorem tw16853341256802265648 : True := trivial
theorem tw13285133528070534704 : True := trivial
theorem tw12995909851351757392 : True := trivial
theorem tw7152984921513172624 : True := trivial
theorem tw3364418463632694928 : True := trivial
theorem tw7382370116671421104 : True := trivial
theorem tw1712922718373300912 : True := trivial
theorem tw4856431653887292112 : True := trivial
theorem tw12053362261382060752 : True := trivial
theorem tw11224897151958998736 : True := trivial
theorem tw17318795884933167856 : True := trivial
theorem tw13518370688599389936 : True := trivial
theorem tw8351282476255451920 : True := trivial
theorem tw11551083187376567056 : True := trivial
theorem tw12614811148066621264 : True := trivial
theorem tw17902569758825723728 : True := trivial
theorem tw6755925336976613232 : True := trivial
theorem tw7752569895197466512 : True := trivial
theorem tw15279998641719260112 : True := trivial
theorem tw10944956837784636368 : True := trivial
theorem tw3434918251397683217 : True := trivial
theorem tw12788953048727824401 : True := trivial
theorem tw155142512498542641 : True := trivial
theorem tw13790719812936386609 : True := trivial
theorem tw12035623454917710897 : True := trivial
theorem tw876933089483189297 : True := trivial
theorem tw13322179722446271537 : True := trivial
theorem tw15527848837575444561 : True := trivial
theorem tw7094405668315501649 : True := trivial
theorem tw5247051413645994129 : True := trivial
theorem tw4768578896829404305 : True := trivial
theorem tw12447509897640257713 : True := trivial
theorem tw2000490053193787569 : True := trivial
theorem tw11638043884434779313 : True := trivial
theorem tw15677629932584476913 : True := trivial
theorem tw280609765759037681 : True := trivial
theorem tw432457690288141553 : True := trivial
theorem tw14705683404202351889 : True := trivial
theorem tw100483095206116625 : True := trivial
theorem tw15946356160694317329 : True := trivial
theorem tw1939978651307754801 : True := trivial
theorem tw1005483496087919985 : True := trivial
theorem tw17903497710992402801 : True := trivial
theorem tw6615107907471364465 : True := trivial
theorem tw16634568088961857937 : True := trivial
theorem tw15852365999677673905 : True := trivial
theorem tw16056359734778111409 : True := trivial
theorem tw2598446214317162929 : True := trivial
theorem tw7082855905992002993 : True := trivial
theorem tw3139860346522395057 : True := trivial
theorem tw14246236162039180721 : True := trivial
theorem tw11034497122203965937 : True := trivial
theorem tw13478424178397462001 : True := trivial
theorem tw1557243174674812401 : True := trivial
theorem tw13220430256171166289 : True := trivial
theorem tw3828038474966422129 : True := trivial
theorem tw12113243949977362033 : True := trivial
theorem tw908340440784498289 : True := trivial
theorem tw10172710858053320305 : True := trivial
theorem tw5961118342813265553 : True := trivial
theorem tw9787125683330832049 : True := trivial
theorem tw1603739661141634737 : True := trivial
theorem tw10933677585905718993 : True := trivial
theorem tw8117029840178788049 : True := trivial
theorem tw4990156530697904881 : True := trivial
theorem tw3452591251010201329 : True := trivial
theorem tw6278647508926252785 : True := trivial
theorem tw1208734638264122097 : True := trivial
theorem tw956962677268122417 : True := trivial
theorem tw8191903926673212241 : True := trivial
theorem tw6545403380812914513 : True := trivial
theorem tw6578402527460240241 : True := trivial
theorem tw16053994301053490033 : True := trivial
theorem tw9341642984632610673 : True := trivial
theorem tw5716766192118558609 : True := trivial
theorem tw13255428261173160881 : True := trivial
theorem tw16029623286316568529 : True := trivial
theorem tw7399621439246259153 : True := trivial
theorem tw6759412095888398321 : True := trivial
theorem tw8683856772340465682 : True := trivial
theorem tw13780077144873983122 : True := trivial
theorem tw14586822029978311858 : True := trivial
theorem tw125302361856450738 : True := trivial
theorem tw16661405048812198066 : True := trivial
theorem tw368366308016060594 : True := trivial
theorem tw2391449824757734642 : True := trivial
theorem tw11749099774412794130 : True := trivial
theorem tw4432475053497693458 : True := trivial
theorem tw8025032847418708242 : True := trivial
theorem tw1744074299117110578 : True := trivial
theorem tw9499510787657705874 : True := trivial
theorem tw14772383043592177042 : True := trivial
theorem tw12778418089203562962 : True := trivial
theorem tw5366084841770067474 : True := trivial
theorem tw3533295568840377906 : True := trivial
theorem tw14031261019411111474 : True := trivial
theorem tw2167537188350426706 : True := trivial
theorem tw2042874687063273074 : True := trivial
theorem tw5282504435634884242 : True := trivial
theorem tw17377529257436501650 : True := trivial
theorem tw3241458686731973266 : True := trivial
theorem tw250903467453971090 : True := trivial
theorem tw7657299143145469618 : True := trivial
theorem tw5482205457738058418 : True := trivial
theorem tw15963624873386084050 : True := trivial
theorem tw8654268224221117138 : True := trivial
theorem tw1580110805410547442 : True := trivial
theorem tw8053944837975664402 : True := trivial
theorem tw10525666975642140466 : True := trivial
theorem tw14560493823538711346 : True := trivial
theorem tw6759408015678561074 : True := trivial
theorem tw2139204274930982770 : True := trivial
theorem tw16587392273704687506 : True := trivial
theorem tw14954956809187926962 : True := trivial
theorem tw8112040973832200146 : True := trivial
theorem tw1097998534492414930 : True := trivial
theorem tw15083628210047938546 : True := trivial
theorem tw9513423893830186035 : True := trivial
theorem tw561391293025646643 : True := trivial
theorem tw17429513623812275283 : True := trivial
theorem tw8538877666451538035 : True := trivial
theorem tw6295535725891239091 : True := trivial
theorem tw3694398316872202419 : True := trivial
theorem tw10806950440038215891 : True := trivial
theorem tw5657824000916062451 : True := trivial
theorem tw17454471701868102899 : True := trivial
theorem tw5567388512258382067 : True := trivial
theorem tw7289634563603522867 : True := trivial
theorem tw12590977762386282803 : True := trivial
theorem tw16945582573551092051 : True := trivial
theorem tw14168552714766633299 : True := trivial
theorem tw16502264421070913907 : True := trivial
theorem tw16006246977917349235 : True := trivial
theorem tw17495340751864218003 : True := trivial
theorem tw16432713993328977331 : True := trivial
theorem tw17034541987677670899 : True := trivial
theorem tw7793673504863384051 : True := trivial
theorem tw1379335367625716243 : True := trivial
theorem tw17772917993097084435 : True := trivial
theorem tw5363564295841288755 : True := trivial
theorem tw11151547217846952531 : True := trivial
theorem tw18103342009636024947 : True := trivial
theorem tw5810065557313606291 : True := trivial
theorem tw4115565904173853331 : True := trivial
theorem tw3008623586974134963 : True := trivial
theorem tw7815354588672045779 : True := trivial
theorem tw920214292312260371 : True := trivial
theorem tw15948780112781908787 : True := trivial
theorem tw11852641145169952659 : True := trivial
theorem tw4015398097383911347 : True := trivial
theorem tw13409441903868389331 : True := trivial
theorem tw8789358453043137523 : True := trivial
theorem tw18103420901670897651 : True := trivial
theorem tw9215163618515126356 : True := trivial
theorem tw3913528116038191188 : True := trivial
theorem tw2616952524820836436 : True := trivial
theorem tw4867443594122359892 : True := trivial
theorem tw12487542160262675636 : True := trivial
theorem tw13463106324228987060 : True := trivial
theorem tw14151535006965253332 : True := trivial
theorem tw4367231431732253908 : True := trivial
theorem tw12678320250165599508 : True := trivial
theorem tw15529170255622000948 : True := trivial
theorem tw16795040122137113940 : True := trivial
theorem tw10595968288072337780 : True := trivial
theorem tw16866669024345736564 : True := trivial
theorem tw6547078798241139092 : True := trivial
theorem tw10905181550472923540 : True := trivial
theorem tw9976723597467198900 : True := trivial
theorem tw7339039647409124788 : True := trivial
theorem tw15422856539912107476 : True := trivial
theorem tw6998783941825042932 : True := trivial
theorem tw7366208706002141716 : True := trivial
theorem tw10273187271170590260 : True := trivial
theorem tw550829659697677876 : True := trivial
theorem tw13747817723492736564 : True := trivial
theorem tw4725425184044842548 : True := trivial
theorem tw4014540891139286612 : True := trivial
theorem tw7540741092611519060 : True := trivial
theorem tw11256106856564762260 : True := trivial
theorem tw18293732401869909652 : True := trivial
theorem tw17143746779515762356 : True := trivial
theorem tw9131607905817354932 : True := trivial
theorem tw12243682255763564212 : True := trivial
theorem tw10738003575532504788 : True := trivial
theorem tw13994979335412520660 : True := trivial
theorem tw14439243815434019604 : True := trivial
theorem tw10834780440838970164 : True := trivial
theorem tw7289601568589263668 : True := trivial
theorem tw4571360026077952820 : True := trivial
theorem tw697623264460660564 : True := trivial
theorem tw8600361732997149524 : True := trivial
theorem tw226724450230711188 : True := trivial
theorem tw9258712216579463092 : True := trivial
theorem tw5629675986466331604 : True := trivial
theorem tw6598312636042714100 : True := trivial
theorem tw718029691902183412 : True := trivial
theorem tw1439246655266547700 : True := trivial
theorem tw11915594877312485397 : True := trivial
theorem tw15084132493965779093 : True := trivial
theorem tw11162318198679636149 : True := trivial
theorem tw9496365245306024149 : True := trivial
theorem tw12870888531099404533 : True := trivial
theorem tw2063697594609225973 : True := trivial
theorem tw16227762859984022837 : True := trivial
theorem tw13225837485096350037 : True := trivial
theorem tw6442067068224118133 : True := trivial
theorem tw14440960662653809013 : True := trivial
theorem tw11663481321943121269 : True := trivial
theorem tw5605480435847508373 : True := trivial
theorem tw14106227501169856981 : True := trivial
theorem tw10264135568141901301 : True := trivial
theorem tw13347369733751428629 : True := trivial
theorem tw2608437505485318709 : True := trivial
theorem tw17673860158736603733 : True := trivial
theorem tw13474097485772985973 : True := trivial
theorem tw16357263729072622229 : True := trivial
theorem tw12173100003817136821 : True := trivial
theorem tw9215827820722605749 : True := trivial
theorem tw7494724483528729301 : True := trivial
theorem tw2042292140826266357 : True := trivial
theorem tw17795420018806894357 : True := trivial
theorem tw15508949281206285077 : True := trivial
theorem tw12459740579856956213 : True := trivial
theorem tw5486487638281291605 : True := trivial
theorem tw13164601040044201813 : True := trivial
theorem tw13609717118414637909 : True := trivial
theorem tw13483081372092288885 : True := trivial
theorem tw5293500477943481205 : True := trivial
theorem tw1666387254794493845 : True := trivial
theorem tw9427301549700849589 : True := trivial
theorem tw3941438180925939637 : True := trivial
theorem tw1425423193147277237 : True := trivial
theorem tw10919297434634762262 : True := trivial
theorem tw7240586211207864342 : True := trivial
theorem tw18439511094173506614 : True := trivial
theorem tw8965841893048198262 : True := trivial
theorem tw5643178794243155062 : True := trivial
theorem tw1811199898794616982 : True := trivial
theorem tw7100430431845274806 : True := trivial
theorem tw18321552122766947510 : True := trivial
theorem tw6291416237084387574 : True := trivial
theorem tw1848646778235469078 : True := trivial
theorem tw7941745277869089046 : True := trivial
theorem tw3513125359445811510 : True := trivial
theorem tw4126306136578151734 : True := trivial
theorem tw1413172679324656950 : True := trivial
theorem tw16473244170626142550 : True := trivial
theorem tw17930870258028551510 : True := trivial
theorem tw16713699803418581334 : True := trivial
theorem tw9155422001095189878 : True := trivial
theorem tw16536845064214698358 : True := trivial
theorem tw3452082135128663414 : True := trivial
theorem tw1331487369976884630 : True := trivial
theorem tw18185714744248944022 : True := trivial
theorem tw11814627755841444246 : True := trivial
theorem tw15610959940260225430 : True := trivial
theorem tw17640862679970642326 : True := trivial
theorem tw11213053971927718326 : True := trivial
theorem tw7261450039545342454 : True := trivial
theorem tw17577478241444706838 : True := trivial
theorem tw16155205043701107222 : True := trivial
theorem tw17420951861521290806 : True := trivial
theorem tw12480425521718506038 : True := trivial
theorem tw12131494931117144662 : True := trivial
theorem tw7369741819223213686 : True := trivial
theorem tw617508947420966582 : True := trivial
theorem tw6819212343860736726 : True := trivial
theorem tw15179676742415161110 : True := trivial
theorem tw8428860471423672150 : True := trivial
theorem tw7872162285098387286 : True := trivial
theorem tw4138081844389336918 : True := trivial
theorem tw7829580234814923638 : True := trivial
theorem tw3312855554403267510 : True := trivial
theorem tw8721321648031231958 : True := trivial
theorem tw15367242080415987702 : True := trivial
theorem tw6184460063843016694 : True := trivial
theorem tw15615537253650120727 : True := trivial
theorem tw14623610509376584727 : True := trivial
theorem tw11905163887095721015 : True := trivial
theorem tw10098268173465320503 : True := trivial
theorem tw18406568778348887127 : True := trivial
theorem tw14029546391885035639 : True := trivial
theorem tw3029179668187146391 : True := trivial
theorem tw2216850387143573719 : True := trivial
theorem tw6506366617586733335 : True := trivial
theorem tw18368451091360184599 : True := trivial
theorem tw6709418730364537143 : True := trivial
theorem tw1717729237380139383 : True := trivial
theorem tw2448417245163862455 : True := trivial
theorem tw5283464899586487735 : True := trivial
theorem tw16970440968685349367 : True := trivial
theorem tw13783031573616600631 : True := trivial
theorem tw3442329435671937591 : True := trivial
theorem tw16064382804478563927 : True := trivial
theorem tw8044012406986999415 : True := trivial
theorem tw14438451200097066615 : True := trivial
theorem tw15416985209724490359 : True := trivial
theorem tw7292484366425897655 : True := trivial
theorem tw12393119488966705847 : True := trivial
theorem tw9631708518359487223 : True := trivial
theorem tw13574768056931433239 : True := trivial
theorem tw3381375190539634487 : True := trivial
theorem tw13468300074154594103 : True := trivial
theorem tw11402939732021071671 : True := trivial
theorem tw307737655149646647 : True := trivial
theorem tw9073681462420916055 : True := trivial
theorem tw10879034167726328663 : True := trivial
theorem tw6418103052136555383 : True := trivial
theorem tw12598724348716800887 : True := trivial
theorem tw2134215046882385847 : True := trivial
theorem tw11389486352061984695 : True := trivial
theorem tw8377043916266704855 : True := trivial
theorem tw11136197038861592535 : True := trivial
theorem tw2788664435532181463 : True := trivial
theorem tw7712819752767893495 : True := trivial
theorem tw6140570298594658328 : True := trivial
theorem tw2951005344575393816 : True := trivial
theorem tw7354087734392854552 : True := trivial
theorem tw15946388913382835224 : True := trivial
theorem tw10654345511274693656 : True := trivial
theorem tw9345676750909349944 : True := trivial
theorem tw1643121930917553208 : True := trivial
theorem tw8803977449572941912 : True := trivial
theorem tw18300207936620678264 : True := trivial
theorem tw5562173858411828344 : True := trivial
theorem tw7252557286763528408 : True := trivial
theorem tw16255831979728675032 : True := trivial
theorem tw262745018181394680 : True := trivial
theorem tw17650839729002327288 : True := trivial
theorem tw2799067240506288376 : True := trivial
theorem tw16441392401534740728 : True := trivial
theorem tw18093812233618175256 : True := trivial
theorem tw12976186185376257304 : True := trivial
theorem tw9935550417157453144 : True := trivial
theorem tw2274498078352570744 : True := trivial
theorem tw14768889098011018680 : True := trivial
theorem tw5420774739373220312 : True := trivial
theorem tw5511420028821071320 : True := trivial
theorem tw15048261121198461528 : True := trivial
theorem tw14176624398918483544 : True := trivial
theorem tw3333446698644548216 : True := trivial
theorem tw1584506945513601688 : True := trivial
theorem tw11984409736253958808 : True := trivial
theorem tw13731112488569404088 : True := trivial
theorem tw8516288146210602744 : True := trivial
theorem tw4303197518546878200 : True := trivial
theorem tw11237167707397388024 : True := trivial
theorem tw8770205317985620760 : True := trivial
theorem tw16828599391488406296 : True := trivial
theorem tw18163647496604598072 : True := trivial
theorem tw701333769924781912 : True := trivial
theorem tw3920623390966001496 : True := trivial
theorem tw12418435599462062936 : True := trivial
theorem tw10778013660560245624 : True := trivial
theorem tw13096558090100123544 : True := trivial
theorem tw10860895700388868024 : True := trivial
theorem tw12994019391074448376 : True := trivial
theorem tw15987713032478767096 : True := trivial
theorem tw13342606739435360313 : True := trivial
theorem tw17088047866570459193 : True := trivial
theorem tw4065347644161347641 : True := trivial
theorem tw3418235910006150233 : True := trivial
theorem tw4788038989552484473 : True := trivial
theorem tw18194447625416937593 : True := trivial
theorem tw732345407407602841 : True := trivial
theorem tw1588505670450824345 : True := trivial
theorem tw728884934406724761 : True := trivial
theorem tw6903541053762270361 : True := trivial
theorem tw15213948185873263833 : True := trivial
theorem tw2603259988358896889 : True := trivial
theorem tw5859118754885311737 : True := trivial
theorem tw9467313397243273497 : True := trivial
theorem tw2845679848157327705 : True := trivial
theorem tw18291419657060728153 : True := trivial
theorem tw3536873572635521401 : True := trivial
theorem tw14006173549557618073 : True := trivial
theorem tw15411387601460861337 : True := trivial
theorem tw1222794163293265305 : True := trivial
theorem tw11364443708160879001 : True := trivial
theorem tw10784824025267889561 : True := trivial
theorem tw11399449904127653305 : True := trivial
theorem tw11054480109507316185 : True := trivial
theorem tw7898215921889874393 : True := trivial
theorem tw2922222751358710265 : True := trivial
theorem tw11119798521548139033 : True := trivial
theorem tw8317466277049474617 : True := trivial
theorem tw3953601041324332601 : True := trivial
theorem tw12350410155528471161 : True := trivial
theorem tw881544763273948857 : True := trivial
theorem tw16684818696116721337 : True := trivial
theorem tw2658526732547218105 : True := trivial
theorem tw16772102934027710169 : True := trivial
theorem tw7573478926670427865 : True := trivial
theorem tw17574625026820762457 : True := trivial
theorem tw12561155100871721849 : True := trivial
theorem tw4424954536736003961 : True := trivial
theorem tw17330945745186091897 : True := trivial
theorem tw5334465803284312953 : True := trivial
theorem tw15102309248680683417 : True := trivial
theorem tw10200926772931222457 : True := trivial
theorem tw10737458330869947321 : True := trivial
theorem tw4780371949962762201 : True := trivial
theorem tw8081886968326746073 : True := trivial
theorem tw6982297934935202809 : True := trivial
theorem tw17047115858639842297 : True := trivial
theorem tw13047593935725612058 : True := trivial
theorem tw13132618709999183898 : True := trivial
theorem tw16415028865518655546 : True := trivial
theorem tw7854228177987924090 : True := trivial
theorem tw5902613922787404954 : True := trivial
theorem tw15673258824015622330 : True := trivial
theorem tw3496965988886986938 : True := trivial
theorem tw11953376511379268794 : True := trivial
theorem tw541196102884509978 : True := trivial
theorem tw578887228443019578 : True := trivial
theorem tw12050417470231563642 : True := trivial
theorem tw5592360268479517082 : True := trivial
theorem tw17992873397187703194 : True := trivial
theorem tw17278324374586462682 : True := trivial
theorem tw9267829862720590330 : True := trivial
theorem tw6868836192036940282 : True := trivial
theorem tw9421340871869096474 : True := trivial
theorem tw17784710179527947834 : True := trivial
theorem tw524290184858094138 : True := trivial
theorem tw7698358502638924378 : True := trivial
theorem tw7526368328331116154 : True := trivial
theorem tw2900905267640511130 : True := trivial
theorem tw10934634478434655930 : True := trivial
theorem tw6115762422951442106 : True := trivial
theorem tw14960593345356199642 : True := trivial
theorem tw16157073509204512506 : True := trivial
theorem tw7598622570094877466 : True := trivial
theorem tw2578790182627478330 : True := trivial
theorem tw11232374478483605306 : True := trivial
theorem tw12394076208661396346 : True := trivial
theorem tw11652457597714270106 : True := trivial
theorem tw13038990169509382042 : True := trivial
theorem tw8273930003744585626 : True := trivial
theorem tw16414904818172857274 : True := trivial
theorem tw9668070271662314458 : True := trivial
theorem tw10283529075043463162 : True := trivial
theorem tw12872897951434832890 : True := trivial
theorem tw2001351230973187099 : True := trivial
theorem tw1936894748134917147 : True := trivial
theorem tw1610171440888473627 : True := trivial
theorem tw13534587687697041467 : True := trivial
theorem tw7927469264209771579 : True := trivial
theorem tw13372043803930879067 : True := trivial
theorem tw12685813987229840507 : True := trivial
theorem tw14137390275340422267 : True := trivial
theorem tw11032806212648032379 : True := trivial
theorem tw5362516397382645915 : True := trivial
theorem tw16409295683739894939 : True := trivial
theorem tw11672842613191775419 : True := trivial
theorem tw11079593142295127227 : True := trivial
theorem tw128412058910260475 : True := trivial
theorem tw15675198926951892251 : True := trivial
theorem tw14478148883734587675 : True := trivial
theorem tw11472165163037031739 : True := trivial
theorem tw1976262728313527643 : True := trivial
theorem tw4819202231147424091 : True := trivial
theorem tw6767318904944593275 : True := trivial
theorem tw15382363220257267067 : True := trivial
theorem tw10450363280022070651 : True := trivial
theorem tw2051048951616859547 : True := trivial
theorem tw10024716035694756283 : True := trivial
theorem tw13828106393651249627 : True := trivial
theorem tw6848782300941138395 : True := trivial
theorem tw17491317419825422843 : True := trivial
theorem tw2808349399557158395 : True := trivial
theorem tw17232729238497989147 : True := trivial
theorem tw16007149819294483003 : True := trivial
theorem tw1689377841213677179 : True := trivial
theorem tw518976864732996251 : True := trivial
theorem tw9087110039335098043 : True := trivial
theorem tw9719896912496429819 : True := trivial
theorem tw17177331786930743035 : True := trivial
theorem tw1792636949448641307 : True := trivial
theorem tw6965799899956892507 : True := trivial
theorem tw3878383114103592795 : True := trivial
theorem tw7492773218913965947 : True := trivial
theorem tw15153279154761372571 : True := trivial
theorem tw5189956158058943387 : True := trivial
theorem tw11898664097942606779 : True := trivial
theorem tw9854592784775465947 : True := trivial
theorem tw15642763164714097627 : True := trivial
theorem tw13770079208771991547 : True := trivial
theorem tw16487816990975572028 : True := trivial
theorem tw15766875824913328220 : True := trivial
theorem tw17655025648336401564 : True := trivial
theorem tw1118553966540926140 : True := trivial
theorem tw17038178572684014812 : True := trivial
theorem tw4735155535324382492 : True := trivial
theorem tw2336748640663733628 : True := trivial
theorem tw395138700845864316 : True := trivial
theorem tw4817003022231809500 : True := trivial
theorem tw15615420239508185596 : True := trivial
theorem tw12591134339009171964 : True := trivial
theorem tw7085514621470718492 : True := trivial
theorem tw7850187754069100156 : True := trivial
theorem tw10210669037155785340 : True := trivial
theorem tw1699103778626983548 : True := trivial
theorem tw3451239065008710300 : True := trivial
theorem tw17599816209265215132 : True := trivial
theorem tw2327210489368252092 : True := trivial
theorem tw10787125048147943196 : True := trivial
theorem tw4182648748547736412 : True := trivial
theorem tw6019021122589006684 : True := trivial
theorem tw5118731587858937692 : True := trivial
theorem tw13160604113216922460 : True := trivial
theorem tw1194904439430580092 : True := trivial
theorem tw17335414052712997756 : True := trivial
theorem tw4402725079659364252 : True := trivial
theorem tw1331086792558400476 : True := trivial
theorem tw14852329139284432860 : True := trivial
theorem tw11117797201346649052 : True := trivial
theorem tw17986969038992634876 : True := trivial
theorem tw18219297243305740317 : True := trivial
theorem tw13289513938125300765 : True := trivial
theorem tw15697423400787487869 : True := trivial
theorem tw4363365295628954845 : True := trivial
theorem tw6199765714743212253 : True := trivial
theorem tw3876449026389394717 : True := trivial
theorem tw833173182276230429 : True := trivial
theorem tw5433107678231618845 : True := trivial
theorem tw2457190517430149469 : True := trivial
theorem tw2855845756224970109 : True := trivial
theorem tw16868993833207775613 : True := trivial
theorem tw4478177076189095293 : True := trivial
theorem tw6924109203229866365 : True := trivial
theorem tw11636924220087485885 : True := trivial
theorem tw10792051664901133789 : True := trivial
theorem tw14462709497994964445 : True := trivial
theorem tw503842035214351869 : True := trivial
theorem tw13532847315355080253 : True := trivial
theorem tw18330183385023645277 : True := trivial
theorem tw7763873220885509757 : True := trivial
theorem tw16173144727172801181 : True := trivial
theorem tw3704167492566942397 : True := trivial
theorem tw526207354791536317 : True := trivial
theorem tw15967140613478806237 : True := trivial
theorem tw15578025631644234493 : True := trivial
theorem tw845060206244984605 : True := trivial
theorem tw17217394356764393341 : True := trivial
theorem tw15833661619300960221 : True := trivial
theorem tw224026152562611165 : True := trivial
theorem tw17317347222371691485 : True := trivial
theorem tw9277588360372424766 : True := trivial
theorem tw3182187488490625086 : True := trivial
theorem tw16194383521188589630 : True := trivial
theorem tw530858943401769022 : True := trivial
theorem tw3386092968808520798 : True := trivial
theorem tw7746578258024575070 : True := trivial
theorem tw13840357560478945406 : True := trivial
theorem tw4508807971249618078 : True := trivial
theorem tw9673543361469618366 : True := trivial
theorem tw6123773746684550334 : True := trivial
theorem tw4778742480866408670 : True := trivial
theorem tw511748877826530558 : True := trivial
theorem tw16169374299450900766 : True := trivial
theorem tw18087722134493236510 : True := trivial
theorem tw10835030195340973342 : True := trivial
theorem tw4643362625855044894 : True := trivial
theorem tw1813051615430797598 : True := trivial
theorem tw4172343393113369950 : True := trivial
theorem tw17681399029576232318 : True := trivial
theorem tw13431754692932380062 : True := trivial
theorem tw12554925678429386142 : True := trivial
theorem tw8664936974563722654 : True := trivial
theorem tw8312999807965096350 : True := trivial
theorem tw1810128313956251070 : True := trivial
theorem tw17901334829092211166 : True := trivial
theorem tw8210421348078903774 : True := trivial
theorem tw13293453174229064190 : True := trivial
theorem tw2329189449893159454 : True := trivial
theorem tw9533747618267967006 : True := trivial
theorem tw3763122126050802206 : True := trivial
theorem tw16301592386811335294 : True := trivial
theorem tw7510230149288206974 : True := trivial
theorem tw17312999752573914782 : True := trivial
theorem tw2770886237722202814 : True := trivial
theorem tw12744807935193187038 : True := trivial
theorem tw18131696352309475102 : True := trivial
theorem tw17668637344460488510 : True := trivial
theorem tw8047900516022102942 : True := trivial
theorem tw14620637471214046174 : True := trivial
theorem tw6423634429210846174 : True := trivial
theorem tw574300837803046910 : True := trivial
theorem tw14955159897011116063 : True := trivial
theorem tw6931407450589930559 : True := trivial
theorem tw3530705653197291679 : True := trivial
theorem tw6761669909254768831 : True := trivial
theorem tw4478166936697009375 : True := trivial
theorem tw6902198413751149823 : True := trivial
theorem tw1954109241102656831 : True := trivial
theorem tw5505332120971382143 : True := trivial
theorem tw825126770350376351 : True := trivial
theorem tw9420132969298855359 : True := trivial
theorem tw14328484209623677503 : True := trivial
theorem tw12611767792052310623 : True := trivial
theorem tw2781682124601125471 : True := trivial
theorem tw11283319371284918911 : True := trivial
theorem tw16853252838358632063 : True := trivial
theorem tw10543509907540572799 : True := trivial
theorem tw5245234834050458271 : True := trivial
theorem tw8589211134812392127 : True := trivial
theorem tw13206406409579783871 : True := trivial
theorem tw3309697970292668127 : True := trivial
theorem tw7006195865600381663 : True := trivial
theorem tw4218252797249083135 : True := trivial
theorem tw7519716089354478335 : True := trivial
theorem tw2595994805191909183 : True := trivial
theorem tw1247026723315081023 : True := trivial
theorem tw14685462170515437407 : True := trivial
theorem tw1051681510052472703 : True := trivial
theorem tw6109525258741381055 : True := trivial
theorem tw8002969147516199903 : True := trivial
theorem tw10558106933452604415 : True := trivial
theorem tw2524164919117741990 : True := trivial
theorem tw4816591812421909578 : True := trivial
theorem tw17558545146132215392 : True := trivial
theorem tw15497472527740593570 : True := trivial
theorem tw9211015944645480189 : True := trivial
theorem tw5756291457177834533 : True := trivial
end Mine.hd
set_option Elab.async true
theorem Mine.hd : PySem.Challenge.rw_of0083_01.Holds := by
  w_on; o_law; o_head (kHook Mine.KK Mine.KA Mine.hKA)
  (case hw => w_witness2)
  k_go0
  refine' Mine.law_ok ?w1 ?w2 ?w3 ?w4 ?w5 ?w6 ?w7 ?w8 ?w9 ?w0
  case w4 => assumption
  case w5 => assumption
  case w1 => assumption
  case w3 => assumption
  case w6 => omega
  case w7 => rw [← Mine.en_lw]; assumption
  case w8 => assumption
  case w0 => passes_own
  case w2 => assumption
  case w9 =>
    intro h' tk m' F'
    k_steps
set_option Elab.async false
theorem PySem.Challenge.cw_of0083_01_holds : PySem.Challenge.rw_of0083_01.Holds :=
  Mine.hd
