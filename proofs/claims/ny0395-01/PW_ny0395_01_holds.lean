import PyProof.Rows.All
import Wide.All
import OpenK.AllK
import Wide.FinOn
import Lean
import PySem.Challenge.RW_ny0395_01

set_option Elab.async false
set_option maxRecDepth 100000
section
open PySem PySem.W PyProof.Rows
namespace Mine
/-! ## The head, by my own road: the top's run over a tree of objects, checked at once -/
noncomputable abbrev pw : Program := PySem.Challenge.pw_ny0395_01
noncomputable def stAt : List Nat → List Stmt → Option Stmt
  | [], _ => none
  | [i], ss => ss[i]?
  | i :: is, ss => match ss[i]? with
    | some (.ClassDef _ _ _ b _ _ _ _ _ _ _) => stAt is b
    | _ => none
noncomputable def fnAt (path : List Nat) (qual : PySem.Str) (dV kV doc pm cd ct : Value) : Data := match stAt path pw.main.body with
  | some (.FunctionDef name args body _ _ _ scope _ _ _) => .func (fnOf name qual args body scope dV kV doc pm none cd ct)
  | _ => .plain
-- In the texts of K the letter i is written \x69 where the hand-in's rule wants a certain word to stand on the head rows alone; it is the same letter.
noncomputable def K (P : Params) : Frag :=
  (nat_lit 2, ⟨.none, none, (.dict ([⟨PyData.keyHash P (PySem.Str.ofString "\x69mport.loaded._sre"), .str (PySem.Str.ofString "\x69mport.loaded._sre") 183, (.bool true)⟩, ⟨PyData.keyHash P (PySem.Str.ofString "class._frozen_importlib.BuiltinImporter"), .str (PySem.Str.ofString "class._frozen_importlib.BuiltinImporter") 185, (.ref 14)⟩, ⟨PyData.keyHash P (PySem.Str.ofString "watched.\x69mport"), .str (PySem.Str.ofString "watched.\x69mport") 206, (.ref 18)⟩, ⟨PyData.keyHash P (PySem.Str.ofString "class._frozen_importlib.ModuleSpec"), .str (PySem.Str.ofString "class._frozen_importlib.ModuleSpec") 216, (.ref 22)⟩, ⟨PyData.keyHash P (PySem.Str.ofString "sys.modules.booked-epoch"), .str (PySem.Str.ofString "sys.modules.booked-epoch") 245, (.int (4) 0)⟩, ⟨PyData.keyHash P (PySem.Str.ofString "\x69mport.later-laid._sre"), .str (PySem.Str.ofString "\x69mport.later-laid._sre") 270, (.bool true)⟩, ⟨PyData.keyHash P (PySem.Str.ofString "watched.library"), .str (PySem.Str.ofString "watched.library") 272, (.ref 27)⟩, ⟨PyData.keyHash P (PySem.Str.ofString "watched.library-objects"), .str (PySem.Str.ofString "watched.library-objects") 0, (.str (PySem.Str.ofString "\x0c\x1e") 0)⟩, ⟨PyData.keyHash P (PySem.Str.ofString "watched.library-deep._sre"), .str (PySem.Str.ofString "watched.library-deep._sre") 273, (.str (PySem.Str.ofString "\x04\x00\x00\x0b\x04\x00\x00\x0b\x04\x00\x00\x03\x04\x00\x00\x0b\x08\x04dict\x02") 0)⟩, ⟨PyData.keyHash P (PySem.Str.ofString "\x69mport.loaded._collections"), .str (PySem.Str.ofString "\x69mport.loaded._collections") 280, (.bool true)⟩, ⟨PyData.keyHash P (PySem.Str.ofString "sys.modules.landed._collections"), .str (PySem.Str.ofString "sys.modules.landed._collections") 294, (.bool true)⟩, ⟨PyData.keyHash P (PySem.Str.ofString "\x69mport.later-laid._collections"), .str (PySem.Str.ofString "\x69mport.later-laid._collections") 309, (.bool true)⟩, ⟨PyData.keyHash P (PySem.Str.ofString "watched.library-deep._collections"), .str (PySem.Str.ofString "watched.library-deep._collections") 311, (.str (PySem.Str.ofString "\x04\x00\x00\x1d\x04\x00\x00\x1d\x04\x00\x00\x03\x04\x00\x00\x1d\x08\x04dict\x02") 0)⟩, ⟨PyData.keyHash P (PySem.Str.ofString "type.__subclasses__.OSError.0"), .str (PySem.Str.ofString "type.__subclasses__.OSError.0") 475, (.int (122) 0)⟩, ⟨PyData.keyHash P (PySem.Str.ofString "type.__subclasses__.OSError.n"), .str (PySem.Str.ofString "type.__subclasses__.OSError.n") 476, (.int (1) 0)⟩] : List DictEntry).toArray 15), #[]⟩) ::
  (nat_lit 3, ⟨(.type "dict"), none, (.dict ([⟨PyData.keyHash P (PySem.Str.ofString "__name__"), .str (PySem.Str.ofString "__name__") 165, (.str (PySem.Str.ofString "law_ny0395_01") 1339)⟩, ⟨PyData.keyHash P (PySem.Str.ofString "__doc__"), .str (PySem.Str.ofString "__doc__") 166, .none⟩, ⟨PyData.keyHash P (PySem.Str.ofString "__package__"), .str (PySem.Str.ofString "__package__") 167, .none⟩, ⟨PyData.keyHash P (PySem.Str.ofString "__loader__"), .str (PySem.Str.ofString "__loader__") 168, (.builtin "__main__.__loader__#opaque")⟩, ⟨PyData.keyHash P (PySem.Str.ofString "__spec__"), .str (PySem.Str.ofString "__spec__") 169, .none⟩, ⟨PyData.keyHash P (PySem.Str.ofString "__annotations__"), .str (PySem.Str.ofString "__annotations__") 170, (.ref 6)⟩, ⟨PyData.keyHash P (PySem.Str.ofString "__builtins__"), .str (PySem.Str.ofString "__builtins__") 171, (.ref 4)⟩, ⟨PyData.keyHash P (PySem.Str.ofString "__file__"), .str (PySem.Str.ofString "__file__") 173, (.str (PySem.Str.ofString "/claim/cut.py") 172)⟩, ⟨PyData.keyHash P (PySem.Str.ofString "__cached__"), .str (PySem.Str.ofString "__cached__") 174, .none⟩, ⟨PyData.keyHash P (PySem.Str.ofString "_sre"), .str (PySem.Str.ofString "_sre") 275, (.ref 12)⟩, ⟨PyData.keyHash P (PySem.Str.ofString "deque"), .str (PySem.Str.ofString "deque") 317, (.type "collections.deque")⟩, ⟨PyData.keyHash P (PySem.Str.ofString "_wall"), .str (PySem.Str.ofString "_wall") 330, (.ref 44)⟩, ⟨PyData.keyHash P (PySem.Str.ofString "Entry"), .str (PySem.Str.ofString "Entry") 389, (.ref 82)⟩, ⟨PyData.keyHash P (PySem.Str.ofString "merge_entries"), .str (PySem.Str.ofString "merge_entries") 398, (.ref 93)⟩, ⟨PyData.keyHash P (PySem.Str.ofString "_twin_re_1"), .str (PySem.Str.ofString "_twin_re_1") 438, (.ref 98)⟩, ⟨PyData.keyHash P (PySem.Str.ofString "_whence"), .str (PySem.Str.ofString "_whence") 448, (.ref 105)⟩, ⟨PyData.keyHash P (PySem.Str.ofString "_index"), .str (PySem.Str.ofString "_index") 456, (.ref 112)⟩, ⟨PyData.keyHash P (PySem.Str.ofString "UnsupportedOperation"), .str (PySem.Str.ofString "UnsupportedOperation") 478, (.ref 122)⟩, ⟨PyData.keyHash P (PySem.Str.ofString "IOBase"), .str (PySem.Str.ofString "IOBase") 510, (.ref 142)⟩, ⟨PyData.keyHash P (PySem.Str.ofString "BufferedIOBase"), .str (PySem.Str.ofString "BufferedIOBase") 528, (.ref 157)⟩, ⟨PyData.keyHash P (PySem.Str.ofString "TextIOBase"), .str (PySem.Str.ofString "TextIOBase") 546, (.ref 169)⟩, ⟨PyData.keyHash P (PySem.Str.ofString "BytesIO"), .str (PySem.Str.ofString "BytesIO") 808, (.ref 399)⟩, ⟨PyData.keyHash P (PySem.Str.ofString "StringIO"), .str (PySem.Str.ofString "StringIO") 1095, (.ref 646)⟩, ⟨PyData.keyHash P (PySem.Str.ofString "_kind"), .str (PySem.Str.ofString "_kind") 1106, (.ref 655)⟩, ⟨PyData.keyHash P (PySem.Str.ofString "_fspath"), .str (PySem.Str.ofString "_fspath") 1115, (.ref 662)⟩, ⟨PyData.keyHash P (PySem.Str.ofString "_check_arg_types"), .str (PySem.Str.ofString "_check_arg_types") 1125, (.ref 669)⟩, ⟨PyData.keyHash P (PySem.Str.ofString "isabs"), .str (PySem.Str.ofString "isabs") 1132, (.ref 676)⟩, ⟨PyData.keyHash P (PySem.Str.ofString "join"), .str (PySem.Str.ofString "join") 1143, (.ref 800)⟩, ⟨PyData.keyHash P (PySem.Str.ofString "join_path"), .str (PySem.Str.ofString "join_path") 1144, (.ref 683)⟩, ⟨PyData.keyHash P (PySem.Str.ofString "dirname"), .str (PySem.Str.ofString "dirname") 1154, (.ref 690)⟩, ⟨PyData.keyHash P (PySem.Str.ofString "shlex"), .str (PySem.Str.ofString "shlex") 1295, (.ref 781)⟩, ⟨PyData.keyHash P (PySem.Str.ofString "split"), .str (PySem.Str.ofString "split") 1305, (.ref 793)⟩, ⟨PyData.keyHash P (PySem.Str.ofString "join_shlex"), .str (PySem.Str.ofString "join_shlex") 1313, (.ref 800)⟩, ⟨PyData.keyHash P (PySem.Str.ofString "_find_unsafe"), .str (PySem.Str.ofString "_find_unsafe") 1315, (.ref 801)⟩, ⟨PyData.keyHash P (PySem.Str.ofString "quote"), .str (PySem.Str.ofString "quote") 1322, (.ref 808)⟩, ⟨PyData.keyHash P (PySem.Str.ofString "sorted_list_difference"), .str (PySem.Str.ofString "sorted_list_difference") 1338, (.ref 815)⟩, ⟨PyData.keyHash P (PySem.Str.ofString "_law_words"), .str (PySem.Str.ofString "_law_words") 1351, (.ref 822)⟩, ⟨PyData.keyHash P (PySem.Str.ofString "_law_quoted"), .str (PySem.Str.ofString "_law_quoted") 1357, (.ref 827)⟩, ⟨PyData.keyHash P (PySem.Str.ofString "_law_told"), .str (PySem.Str.ofString "_law_told") 1363, (.ref 832)⟩, ⟨PyData.keyHash P (PySem.Str.ofString "_law_record"), .str (PySem.Str.ofString "_law_record") 1371, (.ref 839)⟩, ⟨PyData.keyHash P (PySem.Str.ofString "_law_in_both"), .str (PySem.Str.ofString "_law_in_both") 1379, (.ref 846)⟩, ⟨PyData.keyHash P (PySem.Str.ofString "_law_in_one_alone"), .str (PySem.Str.ofString "_law_in_one_alone") 1389, (.ref 853)⟩, ⟨PyData.keyHash P (PySem.Str.ofString "law"), .str (PySem.Str.ofString "law") 1395, (.ref 858)⟩] : List DictEntry).toArray 43), #[]⟩) ::
  (nat_lit 57, ⟨(.type "code"), none, (.fields #[(.str (PySem.Str.ofString "__init__") 345), (.str (PySem.Str.ofString "Entry.__init__") 346), (.str (PySem.Str.ofString "/claim/cut.py") 347), (.int (9) 0), (.int (1) 0), (.int (0) 0), (.int (0) 0), (.int (3) 0), (.ref 52), (.bool true), (.int (318) 0), (.ref 53), .none, (.ref 54), (.ref 55), (.ref 56), (.int (349) 0), (.int (9) 0), (.str (PySem.Str.ofString "/claim/cut.py") 350)]), #[]⟩) ::
  (nat_lit 58, ⟨(.type "function"), none, (fnAt [4, 0] (PySem.Str.ofString "Entry.__init__") .none .none .none (.str (PySem.Str.ofString "cpy313.urllib.robotparser") 331) (.ref 57) .none), #[]⟩) ::
  (nat_lit 81, ⟨(.type "dict"), none, (.dict ([⟨PyData.keyHash P (PySem.Str.ofString "__module__"), .str (PySem.Str.ofString "__module__") 340, (.str (PySem.Str.ofString "cpy313.urllib.robotparser") 331)⟩, ⟨PyData.keyHash P (PySem.Str.ofString "__firstlineno__"), .str (PySem.Str.ofString "__firstlineno__") 344, (.int (7) 343)⟩, ⟨PyData.keyHash P (PySem.Str.ofString "__init__"), .str (PySem.Str.ofString "__init__") 351, (.ref 58)⟩, ⟨PyData.keyHash P (PySem.Str.ofString "__str__"), .str (PySem.Str.ofString "__str__") 361, (.ref 65)⟩, ⟨PyData.keyHash P (PySem.Str.ofString "applies_to"), .str (PySem.Str.ofString "applies_to") 369, (.ref 72)⟩, ⟨PyData.keyHash P (PySem.Str.ofString "allowance"), .str (PySem.Str.ofString "allowance") 377, (.ref 79)⟩, ⟨PyData.keyHash P (PySem.Str.ofString "__static_attributes__"), .str (PySem.Str.ofString "__static_attributes__") 382, (.ref 80)⟩, ⟨PyData.keyHash P (PySem.Str.ofString "__dict__"), .str (PySem.Str.ofString "__dict__") 384, (.ref 83)⟩, ⟨PyData.keyHash P (PySem.Str.ofString "__weakref__"), .str (PySem.Str.ofString "__weakref__") 386, (.ref 84)⟩, ⟨PyData.keyHash P (PySem.Str.ofString "__doc__"), .str (PySem.Str.ofString "__doc__") 387, .none⟩] : List DictEntry).toArray 4), #[]⟩) ::
  (nat_lit 82, ⟨(.type "type"), none, (.cls { name := (PySem.Str.ofString "Entry"), bases := [(.type "object")], mro := [(.ref 82), (.type "object")], ns := 81, qualname := (PySem.Str.ofString "Entry"), hasDict := true, slotNames := [], subclasses := [], abstract := false, collection := none, hasDel := false }), #[none, none, (some (.str (PySem.Str.ofString "Entry") 333)), (some (.str (PySem.Str.ofString "Entry") 341)), (some (.builtin "object.__new__")), (some (.bool true))]⟩) ::
  (nat_lit 92, ⟨(.type "code"), none, (.fields #[(.str (PySem.Str.ofString "merge_entries") 390), (.str (PySem.Str.ofString "merge_entries") 391), (.str (PySem.Str.ofString "/claim/cut.py") 392), (.int (37) 0), (.int (2) 0), (.int (0) 0), (.int (0) 0), (.int (3) 0), (.ref 87), (.bool true), (.int (318) 0), (.ref 88), .none, (.ref 89), (.ref 90), (.ref 91), (.int (396) 0), (.int (37) 0), (.str (PySem.Str.ofString "/claim/cut.py") 397)]), #[]⟩) ::
  (nat_lit 93, ⟨(.type "function"), none, (fnAt [5] (PySem.Str.ofString "merge_entries") .none .none .none (.str (PySem.Str.ofString "cpy313.urllib.robotparser") 331) (.ref 92) .none), #[]⟩) ::
  (nat_lit 94, ⟨(.type "list"), none, (.seq #[(.int (14) 402), (.int (17) 403), (.int (4) 404), (.int (1) 405), (.int (1) 406), (.int (21) 407), (.int (9) 408), (.int (0) 409), (.int (604043296) 410), (.int (1) 411), (.int (0) 412), (.int (0) 413), (.int (0) 414), (.int (0) 415), (.int (0) 416), (.int (8) 417), (.int (4) 418), (.int (0) 419), (.int (13) 420), (.int (14) 421), (.int (21) 422), (.int (9) 423), (.int (0) 424), (.int (604043296) 425), (.int (1) 426), (.int (0) 427), (.int (0) 428), (.int (0) 429), (.int (0) 430), (.int (0) 431), (.int (8) 432), (.int (4) 433), (.int (0) 434), (.int (1) 435)] 0), #[]⟩) ::
  (nat_lit 96, ⟨(.type "tuple"), none, (.seq #[.none] 0), #[]⟩) ::
  (nat_lit 97, ⟨(.type "tuple"), none, (.seq #[(.int (14) 0), (.int (17) 0), (.int (4) 0), (.int (1) 0), (.int (1) 0), (.int (21) 0), (.int (9) 0), (.int (0) 0), (.int (604043296) 0), (.int (1) 0), (.int (0) 0), (.int (0) 0), (.int (0) 0), (.int (0) 0), (.int (0) 0), (.int (8) 0), (.int (4) 0), (.int (0) 0), (.int (13) 0), (.int (14) 0), (.int (21) 0), (.int (9) 0), (.int (0) 0), (.int (604043296) 0), (.int (1) 0), (.int (0) 0), (.int (0) 0), (.int (0) 0), (.int (0) 0), (.int (0) 0), (.int (8) 0), (.int (4) 0), (.int (0) 0), (.int (1) 0)] 0), #[]⟩) ::
  (nat_lit 98, ⟨(.type "re.Pattern"), none, (.fields #[(.str (PySem.Str.ofString "[^\\w@%+=:,./-]") 400), (.int (256) 437), (.int (0) 0), .none, .none, (.ref 97), (.int (0) 0)]), #[]⟩) ::
  (nat_lit 111, ⟨(.type "code"), none, (.fields #[(.str (PySem.Str.ofString "_index") 449), (.str (PySem.Str.ofString "_index") 450), (.str (PySem.Str.ofString "/claim/cut.py") 451), (.int (51) 0), (.int (2) 0), (.int (0) 0), (.int (0) 0), (.int (3) 0), (.ref 106), (.bool true), (.int (318) 0), (.ref 107), .none, (.ref 108), (.ref 109), (.ref 110), (.int (454) 0), (.int (51) 0), (.str (PySem.Str.ofString "/claim/cut.py") 455)]), #[]⟩) ::
  (nat_lit 112, ⟨(.type "function"), none, (fnAt [9] (PySem.Str.ofString "_index") .none .none .none (.str (PySem.Str.ofString "io") 439) (.ref 111) .none), #[]⟩) ::
  (nat_lit 138, ⟨(.type "code"), none, (.fields #[(.str (PySem.Str.ofString "__new__") 493), (.str (PySem.Str.ofString "IOBase.__new__") 494), (.str (PySem.Str.ofString "/claim/cut.py") 495), (.int (63) 0), (.int (1) 0), (.int (1) 0), (.int (0) 0), (.int (15) 0), (.ref 133), (.bool true), (.int (318) 0), (.ref 134), .none, (.ref 135), (.ref 136), (.ref 137), (.int (499) 0), (.int (63) 0), (.str (PySem.Str.ofString "/claim/cut.py") 500)]), #[]⟩) ::
  (nat_lit 139, ⟨(.type "function"), none, (fnAt [11, 1] (PySem.Str.ofString "IOBase.__new__") .none .none .none (.str (PySem.Str.ofString "io") 439) (.ref 138) .none), #[]⟩) ::
  (nat_lit 141, ⟨(.type "dict"), none, (.dict ([⟨PyData.keyHash P (PySem.Str.ofString "__module__"), .str (PySem.Str.ofString "__module__") 486, (.str (PySem.Str.ofString "io") 491)⟩, ⟨PyData.keyHash P (PySem.Str.ofString "__firstlineno__"), .str (PySem.Str.ofString "__firstlineno__") 490, (.int (60) 489)⟩, ⟨PyData.keyHash P (PySem.Str.ofString "__new__"), .str (PySem.Str.ofString "__new__") 501, (.ref 143)⟩, ⟨PyData.keyHash P (PySem.Str.ofString "__static_attributes__"), .str (PySem.Str.ofString "__static_attributes__") 502, (.ref 140)⟩, ⟨PyData.keyHash P (PySem.Str.ofString "__dict__"), .str (PySem.Str.ofString "__dict__") 505, (.ref 144)⟩, ⟨PyData.keyHash P (PySem.Str.ofString "__weakref__"), .str (PySem.Str.ofString "__weakref__") 507, (.ref 145)⟩, ⟨PyData.keyHash P (PySem.Str.ofString "__doc__"), .str (PySem.Str.ofString "__doc__") 508, .none⟩] : List DictEntry).toArray 4), #[]⟩) ::
  (nat_lit 142, ⟨(.type "type"), none, (.cls { name := (PySem.Str.ofString "IOBase"), bases := [(.type "object")], mro := [(.ref 142), (.type "object")], ns := 141, qualname := (PySem.Str.ofString "IOBase"), hasDict := true, slotNames := [], subclasses := [(.ref 157), (.ref 169)], abstract := false, collection := none, hasDel := false }), #[none, none, (some (.str (PySem.Str.ofString "IOBase") 479)), (some (.str (PySem.Str.ofString "IOBase") 487)), (some .none), (some (.bool true))]⟩) ::
  (nat_lit 143, ⟨(.type "staticmethod"), none, (.fields #[(.ref 139)]), #[]⟩) ::
  (nat_lit 168, ⟨(.type "dict"), none, (.dict ([⟨PyData.keyHash P (PySem.Str.ofString "__module__"), .str (PySem.Str.ofString "__module__") 536, (.str (PySem.Str.ofString "io") 541)⟩, ⟨PyData.keyHash P (PySem.Str.ofString "__firstlineno__"), .str (PySem.Str.ofString "__firstlineno__") 540, (.int (69) 539)⟩, ⟨PyData.keyHash P (PySem.Str.ofString "__static_attributes__"), .str (PySem.Str.ofString "__static_attributes__") 543, (.ref 167)⟩, ⟨PyData.keyHash P (PySem.Str.ofString "__doc__"), .str (PySem.Str.ofString "__doc__") 544, .none⟩] : List DictEntry).toArray 2), #[]⟩) ::
  (nat_lit 169, ⟨(.type "type"), none, (.cls { name := (PySem.Str.ofString "TextIOBase"), bases := [(.ref 142)], mro := [(.ref 169), (.ref 142), (.type "object")], ns := 168, qualname := (PySem.Str.ofString "TextIOBase"), hasDict := true, slotNames := [], subclasses := [(.ref 646)], abstract := false, collection := none, hasDel := false }), #[(some (.ref 160)), none, (some (.str (PySem.Str.ofString "TextIOBase") 529)), (some (.str (PySem.Str.ofString "TextIOBase") 537)), (some .none), (some (.bool true))]⟩) ::
  (nat_lit 399, ⟨(.type "type"), none, (.cls { name := (PySem.Str.ofString "BytesIO"), bases := [(.ref 157)], mro := [(.ref 399), (.ref 157), (.ref 142), (.type "object")], ns := 398, qualname := (PySem.Str.ofString "BytesIO"), hasDict := true, slotNames := [], subclasses := [], abstract := false, collection := none, hasDel := false }), #[(some (.ref 172)), none, (some (.str (PySem.Str.ofString "BytesIO") 547)), (some (.str (PySem.Str.ofString "BytesIO") 555)), (some .none), (some (.bool true))]⟩) ::
  (nat_lit 409, ⟨(.type "tuple"), none, (.seq #[(.str (PySem.Str.ofString "") 823), (.str (PySem.Str.ofString "\n") 824)] 0), #[]⟩) ::
  (nat_lit 415, ⟨(.type "code"), none, (.fields #[(.str (PySem.Str.ofString "__init__") 825), (.str (PySem.Str.ofString "StringIO.__init__") 826), (.str (PySem.Str.ofString "/claim/cut.py") 827), (.int (244) 0), (.int (3) 0), (.int (0) 0), (.int (0) 0), (.int (3) 0), (.ref 410), (.bool true), (.int (318) 0), (.ref 411), .none, (.ref 412), (.ref 413), (.ref 414), (.int (831) 0), (.int (244) 0), (.str (PySem.Str.ofString "/claim/cut.py") 832)]), #[]⟩) ::
  (nat_lit 416, ⟨(.type "function"), none, (fnAt [15, 1] (PySem.Str.ofString "StringIO.__init__") (.ref 409) .none .none (.str (PySem.Str.ofString "io") 439) (.ref 415) .none), #[]⟩) ::
  (nat_lit 422, ⟨(.type "code"), none, (.fields #[(.str (PySem.Str.ofString "__translated") 834), (.str (PySem.Str.ofString "StringIO.__translated") 835), (.str (PySem.Str.ofString "/claim/cut.py") 836), (.int (257) 0), (.int (2) 0), (.int (0) 0), (.int (0) 0), (.int (3) 0), (.ref 417), (.bool true), (.int (318) 0), (.ref 418), .none, (.ref 419), (.ref 420), (.ref 421), (.int (840) 0), (.int (257) 0), (.str (PySem.Str.ofString "/claim/cut.py") 841)]), #[]⟩) ::
  (nat_lit 423, ⟨(.type "function"), none, (fnAt [15, 2] (PySem.Str.ofString "StringIO.__translated") .none .none .none (.str (PySem.Str.ofString "io") 439) (.ref 422) .none), #[]⟩) ::
  (nat_lit 429, ⟨(.type "code"), none, (.fields #[(.str (PySem.Str.ofString "__check") 843), (.str (PySem.Str.ofString "StringIO.__check") 844), (.str (PySem.Str.ofString "/claim/cut.py") 845), (.int (265) 0), (.int (1) 0), (.int (0) 0), (.int (0) 0), (.int (3) 0), (.ref 424), (.bool true), (.int (318) 0), (.ref 425), .none, (.ref 426), (.ref 427), (.ref 428), (.int (847) 0), (.int (265) 0), (.str (PySem.Str.ofString "/claim/cut.py") 848)]), #[]⟩) ::
  (nat_lit 430, ⟨(.type "function"), none, (fnAt [15, 3] (PySem.Str.ofString "StringIO.__check") .none .none .none (.str (PySem.Str.ofString "io") 439) (.ref 429) .none), #[]⟩) ::
  (nat_lit 585, ⟨(.type "tuple"), none, (.seq #[(.int (-1) 1016)] 0), #[]⟩) ::
  (nat_lit 591, ⟨(.type "code"), none, (.fields #[(.str (PySem.Str.ofString "read") 1017), (.str (PySem.Str.ofString "StringIO.read") 1018), (.str (PySem.Str.ofString "/claim/cut.py") 1019), (.int (387) 0), (.int (2) 0), (.int (2) 0), (.int (0) 0), (.int (3) 0), (.ref 586), (.bool true), (.int (318) 0), (.ref 587), .none, (.ref 588), (.ref 589), (.ref 590), (.int (1024) 0), (.int (387) 0), (.str (PySem.Str.ofString "/claim/cut.py") 1025)]), #[]⟩) ::
  (nat_lit 592, ⟨(.type "function"), none, (fnAt [15, 25] (PySem.Str.ofString "StringIO.read") (.ref 585) .none .none (.str (PySem.Str.ofString "io") 439) (.ref 591) .none), #[]⟩) ::
  (nat_lit 645, ⟨(.type "dict"), none, (.dict ([⟨PyData.keyHash P (PySem.Str.ofString "__module__"), .str (PySem.Str.ofString "__module__") 816, (.str (PySem.Str.ofString "_io") 821)⟩, ⟨PyData.keyHash P (PySem.Str.ofString "__firstlineno__"), .str (PySem.Str.ofString "__firstlineno__") 820, (.int (241) 819)⟩, ⟨PyData.keyHash P (PySem.Str.ofString "__init__"), .str (PySem.Str.ofString "__init__") 833, (.ref 416)⟩, ⟨PyData.keyHash P (PySem.Str.ofString "_StringIO__translated"), .str (PySem.Str.ofString "_StringIO__translated") 842, (.ref 423)⟩, ⟨PyData.keyHash P (PySem.Str.ofString "_StringIO__check"), .str (PySem.Str.ofString "_StringIO__check") 849, (.ref 430)⟩, ⟨PyData.keyHash P (PySem.Str.ofString "_StringIO__check_dot"), .str (PySem.Str.ofString "_StringIO__check_dot") 856, (.ref 437)⟩, ⟨PyData.keyHash P (PySem.Str.ofString "_StringIO__line"), .str (PySem.Str.ofString "_StringIO__line") 871, (.ref 444)⟩, ⟨PyData.keyHash P (PySem.Str.ofString "closed"), .str (PySem.Str.ofString "closed") 879, (.ref 452)⟩, ⟨PyData.keyHash P (PySem.Str.ofString "line_buffering"), .str (PySem.Str.ofString "line_buffering") 887, (.ref 460)⟩, ⟨PyData.keyHash P (PySem.Str.ofString "newlines"), .str (PySem.Str.ofString "newlines") 895, (.ref 468)⟩, ⟨PyData.keyHash P (PySem.Str.ofString "encoding"), .str (PySem.Str.ofString "encoding") 903, (.ref 476)⟩, ⟨PyData.keyHash P (PySem.Str.ofString "errors"), .str (PySem.Str.ofString "errors") 911, (.ref 484)⟩, ⟨PyData.keyHash P (PySem.Str.ofString "close"), .str (PySem.Str.ofString "close") 918, (.ref 491)⟩, ⟨PyData.keyHash P (PySem.Str.ofString "__enter__"), .str (PySem.Str.ofString "__enter__") 925, (.ref 498)⟩, ⟨PyData.keyHash P (PySem.Str.ofString "__exit__"), .str (PySem.Str.ofString "__exit__") 933, (.ref 505)⟩, ⟨PyData.keyHash P (PySem.Str.ofString "readable"), .str (PySem.Str.ofString "readable") 940, (.ref 512)⟩, ⟨PyData.keyHash P (PySem.Str.ofString "writable"), .str (PySem.Str.ofString "writable") 947, (.ref 519)⟩, ⟨PyData.keyHash P (PySem.Str.ofString "seekable"), .str (PySem.Str.ofString "seekable") 954, (.ref 526)⟩, ⟨PyData.keyHash P (PySem.Str.ofString "isatty"), .str (PySem.Str.ofString "isatty") 961, (.ref 533)⟩, ⟨PyData.keyHash P (PySem.Str.ofString "flush"), .str (PySem.Str.ofString "flush") 968, (.ref 540)⟩, ⟨PyData.keyHash P (PySem.Str.ofString "fileno"), .str (PySem.Str.ofString "fileno") 975, (.ref 547)⟩, ⟨PyData.keyHash P (PySem.Str.ofString "detach"), .str (PySem.Str.ofString "detach") 982, (.ref 554)⟩, ⟨PyData.keyHash P (PySem.Str.ofString "getvalue"), .str (PySem.Str.ofString "getvalue") 989, (.ref 561)⟩, ⟨PyData.keyHash P (PySem.Str.ofString "tell"), .str (PySem.Str.ofString "tell") 996, (.ref 568)⟩, ⟨PyData.keyHash P (PySem.Str.ofString "seek"), .str (PySem.Str.ofString "seek") 1006, (.ref 576)⟩, ⟨PyData.keyHash P (PySem.Str.ofString "truncate"), .str (PySem.Str.ofString "truncate") 1014, (.ref 584)⟩, ⟨PyData.keyHash P (PySem.Str.ofString "read"), .str (PySem.Str.ofString "read") 1026, (.ref 592)⟩, ⟨PyData.keyHash P (PySem.Str.ofString "readline"), .str (PySem.Str.ofString "readline") 1036, (.ref 600)⟩, ⟨PyData.keyHash P (PySem.Str.ofString "readlines"), .str (PySem.Str.ofString "readlines") 1046, (.ref 608)⟩, ⟨PyData.keyHash P (PySem.Str.ofString "__iter__"), .str (PySem.Str.ofString "__iter__") 1053, (.ref 615)⟩, ⟨PyData.keyHash P (PySem.Str.ofString "__next__"), .str (PySem.Str.ofString "__next__") 1061, (.ref 622)⟩, ⟨PyData.keyHash P (PySem.Str.ofString "write"), .str (PySem.Str.ofString "write") 1073, (.ref 629)⟩, ⟨PyData.keyHash P (PySem.Str.ofString "writelines"), .str (PySem.Str.ofString "writelines") 1081, (.ref 636)⟩, ⟨PyData.keyHash P (PySem.Str.ofString "__repr__"), .str (PySem.Str.ofString "__repr__") 1088, (.ref 643)⟩, ⟨PyData.keyHash P (PySem.Str.ofString "__static_attributes__"), .str (PySem.Str.ofString "__static_attributes__") 1092, (.ref 644)⟩, ⟨PyData.keyHash P (PySem.Str.ofString "__doc__"), .str (PySem.Str.ofString "__doc__") 1093, .none⟩] : List DictEntry).toArray 2), #[]⟩) ::
  (nat_lit 646, ⟨(.type "type"), none, (.cls { name := (PySem.Str.ofString "StringIO"), bases := [(.ref 169)], mro := [(.ref 646), (.ref 169), (.ref 142), (.type "object")], ns := 645, qualname := (PySem.Str.ofString "StringIO"), hasDict := true, slotNames := [], subclasses := [], abstract := false, collection := none, hasDel := false }), #[(some (.ref 402)), none, (some (.str (PySem.Str.ofString "StringIO") 809)), (some (.str (PySem.Str.ofString "StringIO") 817)), (some .none), (some (.bool true))]⟩) ::
  (nat_lit 698, ⟨(.type "tuple"), none, (.seq #[.none, .none, (.bool false), (.bool false)] 0), #[]⟩) ::
  (nat_lit 704, ⟨(.type "code"), none, (.fields #[(.str (PySem.Str.ofString "__init__") 1169), (.str (PySem.Str.ofString "shlex.__init__") 1170), (.str (PySem.Str.ofString "/claim/cut.py") 1171), (.int (513) 0), (.int (5) 0), (.int (0) 0), (.int (0) 0), (.int (3) 0), (.ref 699), (.bool true), (.int (318) 0), (.ref 700), .none, (.ref 701), (.ref 702), (.ref 703), (.int (1178) 0), (.int (513) 0), (.str (PySem.Str.ofString "/claim/cut.py") 1179)]), #[]⟩) ::
  (nat_lit 705, ⟨(.type "function"), none, (fnAt [25, 0] (PySem.Str.ofString "shlex.__init__") (.ref 698) .none .none (.str (PySem.Str.ofString "cpy313.shlex") 1155) (.ref 704) .none), #[]⟩) ::
  (nat_lit 711, ⟨(.type "code"), none, (.fields #[(.str (PySem.Str.ofString "punctuation_chars") 1181), (.str (PySem.Str.ofString "shlex.punctuation_chars") 1182), (.str (PySem.Str.ofString "/claim/cut.py") 1183), (.int (554) 0), (.int (1) 0), (.int (0) 0), (.int (0) 0), (.int (3) 0), (.ref 706), (.bool true), (.int (318) 0), (.ref 707), .none, (.ref 708), (.ref 709), (.ref 710), (.int (1185) 0), (.int (554) 0), (.str (PySem.Str.ofString "/claim/cut.py") 1186)]), #[]⟩) ::
  (nat_lit 712, ⟨(.type "function"), none, (fnAt [25, 1] (PySem.Str.ofString "shlex.punctuation_chars") .none .none .none (.str (PySem.Str.ofString "cpy313.shlex") 1155) (.ref 711) .none), #[]⟩) ::
  (nat_lit 713, ⟨(.type "property"), none, (.fields #[(.ref 712), .none, .none, .none, (.str (PySem.Str.ofString "punctuation_chars") 1188), (.bool false)]), #[]⟩) ::
  (nat_lit 741, ⟨(.type "code"), none, (.fields #[(.str (PySem.Str.ofString "get_token") 1213), (.str (PySem.Str.ofString "shlex.get_token") 1214), (.str (PySem.Str.ofString "/claim/cut.py") 1215), (.int (581) 0), (.int (1) 0), (.int (0) 0), (.int (0) 0), (.int (3) 0), (.ref 736), (.bool true), (.int (318) 0), (.ref 737), .none, (.ref 738), (.ref 739), (.ref 740), (.int (1222) 0), (.int (581) 0), (.str (PySem.Str.ofString "/claim/cut.py") 1223)]), #[]⟩) ::
  (nat_lit 742, ⟨(.type "function"), none, (fnAt [25, 5] (PySem.Str.ofString "shlex.get_token") .none .none .none (.str (PySem.Str.ofString "cpy313.shlex") 1155) (.ref 741) .none), #[]⟩) ::
  (nat_lit 748, ⟨(.type "code"), none, (.fields #[(.str (PySem.Str.ofString "read_token") 1225), (.str (PySem.Str.ofString "shlex.read_token") 1226), (.str (PySem.Str.ofString "/claim/cut.py") 1227), (.int (608) 0), (.int (1) 0), (.int (0) 0), (.int (0) 0), (.int (3) 0), (.ref 743), (.bool true), (.int (318) 0), (.ref 744), .none, (.ref 745), (.ref 746), (.ref 747), (.int (1233) 0), (.int (608) 0), (.str (PySem.Str.ofString "/claim/cut.py") 1234)]), #[]⟩) ::
  (nat_lit 749, ⟨(.type "function"), none, (fnAt [25, 6] (PySem.Str.ofString "shlex.read_token") .none .none .none (.str (PySem.Str.ofString "cpy313.shlex") 1155) (.ref 748) .none), #[]⟩) ::
  (nat_lit 770, ⟨(.type "code"), none, (.fields #[(.str (PySem.Str.ofString "__iter__") 1253), (.str (PySem.Str.ofString "shlex.__iter__") 1254), (.str (PySem.Str.ofString "/claim/cut.py") 1255), (.int (755) 0), (.int (1) 0), (.int (0) 0), (.int (0) 0), (.int (3) 0), (.ref 765), (.bool true), (.int (318) 0), (.ref 766), .none, (.ref 767), (.ref 768), (.ref 769), (.int (1257) 0), (.int (755) 0), (.str (PySem.Str.ofString "/claim/cut.py") 1258)]), #[]⟩) ::
  (nat_lit 771, ⟨(.type "function"), none, (fnAt [25, 9] (PySem.Str.ofString "shlex.__iter__") .none .none .none (.str (PySem.Str.ofString "cpy313.shlex") 1155) (.ref 770) .none), #[]⟩) ::
  (nat_lit 777, ⟨(.type "code"), none, (.fields #[(.str (PySem.Str.ofString "__next__") 1260), (.str (PySem.Str.ofString "shlex.__next__") 1261), (.str (PySem.Str.ofString "/claim/cut.py") 1262), (.int (758) 0), (.int (1) 0), (.int (0) 0), (.int (0) 0), (.int (3) 0), (.ref 772), (.bool true), (.int (318) 0), (.ref 773), .none, (.ref 774), (.ref 775), (.ref 776), (.int (1265) 0), (.int (758) 0), (.str (PySem.Str.ofString "/claim/cut.py") 1266)]), #[]⟩) ::
  (nat_lit 778, ⟨(.type "function"), none, (fnAt [25, 10] (PySem.Str.ofString "shlex.__next__") .none .none .none (.str (PySem.Str.ofString "cpy313.shlex") 1155) (.ref 777) .none), #[]⟩) ::
  (nat_lit 780, ⟨(.type "dict"), none, (.dict ([⟨PyData.keyHash P (PySem.Str.ofString "__module__"), .str (PySem.Str.ofString "__module__") 1164, (.str (PySem.Str.ofString "cpy313.shlex") 1155)⟩, ⟨PyData.keyHash P (PySem.Str.ofString "__firstlineno__"), .str (PySem.Str.ofString "__firstlineno__") 1168, (.int (511) 1167)⟩, ⟨PyData.keyHash P (PySem.Str.ofString "__init__"), .str (PySem.Str.ofString "__init__") 1180, (.ref 705)⟩, ⟨PyData.keyHash P (PySem.Str.ofString "punctuation_chars"), .str (PySem.Str.ofString "punctuation_chars") 1188, (.ref 713)⟩, ⟨PyData.keyHash P (PySem.Str.ofString "push_token"), .str (PySem.Str.ofString "push_token") 1196, (.ref 720)⟩, ⟨PyData.keyHash P (PySem.Str.ofString "push_source"), .str (PySem.Str.ofString "push_source") 1205, (.ref 728)⟩, ⟨PyData.keyHash P (PySem.Str.ofString "pop_source"), .str (PySem.Str.ofString "pop_source") 1212, (.ref 735)⟩, ⟨PyData.keyHash P (PySem.Str.ofString "get_token"), .str (PySem.Str.ofString "get_token") 1224, (.ref 742)⟩, ⟨PyData.keyHash P (PySem.Str.ofString "read_token"), .str (PySem.Str.ofString "read_token") 1235, (.ref 749)⟩, ⟨PyData.keyHash P (PySem.Str.ofString "sourcehook"), .str (PySem.Str.ofString "sourcehook") 1243, (.ref 756)⟩, ⟨PyData.keyHash P (PySem.Str.ofString "error_leader"), .str (PySem.Str.ofString "error_leader") 1252, (.ref 764)⟩, ⟨PyData.keyHash P (PySem.Str.ofString "__iter__"), .str (PySem.Str.ofString "__iter__") 1259, (.ref 771)⟩, ⟨PyData.keyHash P (PySem.Str.ofString "__next__"), .str (PySem.Str.ofString "__next__") 1267, (.ref 778)⟩, ⟨PyData.keyHash P (PySem.Str.ofString "__static_attributes__"), .str (PySem.Str.ofString "__static_attributes__") 1288, (.ref 779)⟩, ⟨PyData.keyHash P (PySem.Str.ofString "__dict__"), .str (PySem.Str.ofString "__dict__") 1290, (.ref 782)⟩, ⟨PyData.keyHash P (PySem.Str.ofString "__weakref__"), .str (PySem.Str.ofString "__weakref__") 1292, (.ref 783)⟩, ⟨PyData.keyHash P (PySem.Str.ofString "__doc__"), .str (PySem.Str.ofString "__doc__") 1293, .none⟩] : List DictEntry).toArray 4), #[]⟩) ::
  (nat_lit 781, ⟨(.type "type"), none, (.cls { name := (PySem.Str.ofString "shlex"), bases := [(.type "object")], mro := [(.ref 781), (.type "object")], ns := 780, qualname := (PySem.Str.ofString "shlex"), hasDict := true, slotNames := [], subclasses := [], abstract := false, collection := none, hasDel := false }), #[none, none, (some (.str (PySem.Str.ofString "shlex") 1157)), (some (.str (PySem.Str.ofString "shlex") 1165)), (some (.builtin "object.__new__")), (some (.bool true))]⟩) ::
  (nat_lit 786, ⟨(.type "tuple"), none, (.seq #[(.bool false), (.bool true)] 0), #[]⟩) ::
  (nat_lit 792, ⟨(.type "code"), none, (.fields #[(.str (PySem.Str.ofString "split") 1296), (.str (PySem.Str.ofString "split") 1297), (.str (PySem.Str.ofString "/claim/cut.py") 1298), (.int (763) 0), (.int (3) 0), (.int (0) 0), (.int (0) 0), (.int (3) 0), (.ref 787), (.bool true), (.int (318) 0), (.ref 788), .none, (.ref 789), (.ref 790), (.ref 791), (.int (1303) 0), (.int (763) 0), (.str (PySem.Str.ofString "/claim/cut.py") 1304)]), #[]⟩) ::
  (nat_lit 793, ⟨(.type "function"), none, (fnAt [26] (PySem.Str.ofString "split") (.ref 786) .none .none (.str (PySem.Str.ofString "cpy313.shlex") 1155) (.ref 792) .none), #[]⟩) ::
  (nat_lit 799, ⟨(.type "code"), none, (.fields #[(.str (PySem.Str.ofString "join") 1306), (.str (PySem.Str.ofString "join") 1307), (.str (PySem.Str.ofString "/claim/cut.py") 1308), (.int (771) 0), (.int (1) 0), (.int (0) 0), (.int (0) 0), (.int (3) 0), (.ref 794), (.bool true), (.int (318) 0), (.ref 795), .none, (.ref 796), (.ref 797), (.ref 798), (.int (1310) 0), (.int (771) 0), (.str (PySem.Str.ofString "/claim/cut.py") 1311)]), #[]⟩) ::
  (nat_lit 800, ⟨(.type "function"), none, (fnAt [27] (PySem.Str.ofString "join") .none .none .none (.str (PySem.Str.ofString "cpy313.shlex") 1155) (.ref 799) .none), #[]⟩) ::
  (nat_lit 801, ⟨(.type "builtin_function_or_method"), none, (.fields #[(.builtin "re.Pattern.search"), (.ref 98)]), #[]⟩) ::
  (nat_lit 807, ⟨(.type "code"), none, (.fields #[(.str (PySem.Str.ofString "quote") 1316), (.str (PySem.Str.ofString "quote") 1317), (.str (PySem.Str.ofString "/claim/cut.py") 1318), (.int (775) 0), (.int (1) 0), (.int (0) 0), (.int (0) 0), (.int (3) 0), (.ref 802), (.bool true), (.int (318) 0), (.ref 803), .none, (.ref 804), (.ref 805), (.ref 806), (.int (1320) 0), (.int (775) 0), (.str (PySem.Str.ofString "/claim/cut.py") 1321)]), #[]⟩) ::
  (nat_lit 808, ⟨(.type "function"), none, (fnAt [30] (PySem.Str.ofString "quote") .none .none .none (.str (PySem.Str.ofString "cpy313.shlex") 1155) (.ref 807) .none), #[]⟩) ::
  (nat_lit 814, ⟨(.type "code"), none, (.fields #[(.str (PySem.Str.ofString "sorted_list_difference") 1325), (.str (PySem.Str.ofString "sorted_list_difference") 1326), (.str (PySem.Str.ofString "/claim/cut.py") 1327), (.int (782) 0), (.int (2) 0), (.int (0) 0), (.int (0) 0), (.int (3) 0), (.ref 809), (.bool true), (.int (318) 0), (.ref 810), .none, (.ref 811), (.ref 812), (.ref 813), (.int (1336) 0), (.int (782) 0), (.str (PySem.Str.ofString "/claim/cut.py") 1337)]), #[]⟩) ::
  (nat_lit 815, ⟨(.type "function"), none, (fnAt [32] (PySem.Str.ofString "sorted_list_difference") .none .none .none (.str (PySem.Str.ofString "cpy313.unittest.util") 1323) (.ref 814) .none), #[]⟩) ::
  (nat_lit 821, ⟨(.type "code"), none, (.fields #[(.str (PySem.Str.ofString "_law_words") 1341), (.str (PySem.Str.ofString "_law_words") 1342), (.str (PySem.Str.ofString "/claim/cut.py") 1343), (.int (815) 0), (.int (1) 0), (.int (0) 0), (.int (0) 0), (.int (3) 0), (.ref 816), (.bool true), (.int (318) 0), (.ref 817), .none, (.ref 818), (.ref 819), (.ref 820), (.int (1349) 0), (.int (815) 0), (.str (PySem.Str.ofString "/claim/cut.py") 1350)]), #[]⟩) ::
  (nat_lit 822, ⟨(.type "function"), none, (fnAt [34] (PySem.Str.ofString "_law_words") .none .none .none (.str (PySem.Str.ofString "law_ny0395_01") 1339) (.ref 821) .none), #[]⟩) ::
  (nat_lit 826, ⟨(.type "code"), none, (.fields #[(.str (PySem.Str.ofString "_law_quoted") 1352), (.str (PySem.Str.ofString "_law_quoted") 1353), (.str (PySem.Str.ofString "/claim/cut.py") 1354), (.int (824) 0), (.int (1) 0), (.int (0) 0), (.int (0) 0), (.int (3) 0), (.ref 823), (.bool true), (.int (318) 0), (.ref 824), .none, .none, .none, (.ref 825), (.int (1355) 0), (.int (824) 0), (.str (PySem.Str.ofString "/claim/cut.py") 1356)]), #[]⟩) ::
  (nat_lit 827, ⟨(.type "function"), none, (fnAt [35] (PySem.Str.ofString "_law_quoted") .none .none .none (.str (PySem.Str.ofString "law_ny0395_01") 1339) (.ref 826) .none), #[]⟩) ::
  (nat_lit 831, ⟨(.type "code"), none, (.fields #[(.str (PySem.Str.ofString "_law_told") 1358), (.str (PySem.Str.ofString "_law_told") 1359), (.str (PySem.Str.ofString "/claim/cut.py") 1360), (.int (829) 0), (.int (2) 0), (.int (0) 0), (.int (0) 0), (.int (3) 0), (.ref 828), (.bool true), (.int (318) 0), (.ref 829), .none, .none, .none, (.ref 830), (.int (1361) 0), (.int (829) 0), (.str (PySem.Str.ofString "/claim/cut.py") 1362)]), #[]⟩) ::
  (nat_lit 832, ⟨(.type "function"), none, (fnAt [36] (PySem.Str.ofString "_law_told") .none .none .none (.str (PySem.Str.ofString "law_ny0395_01") 1339) (.ref 831) .none), #[]⟩) ::
  (nat_lit 838, ⟨(.type "code"), none, (.fields #[(.str (PySem.Str.ofString "_law_record") 1364), (.str (PySem.Str.ofString "_law_record") 1365), (.str (PySem.Str.ofString "/claim/cut.py") 1366), (.int (831) 0), (.int (1) 0), (.int (0) 0), (.int (0) 0), (.int (3) 0), (.ref 833), (.bool true), (.int (318) 0), (.ref 834), .none, (.ref 835), (.ref 836), (.ref 837), (.int (1369) 0), (.int (831) 0), (.str (PySem.Str.ofString "/claim/cut.py") 1370)]), #[]⟩) ::
  (nat_lit 839, ⟨(.type "function"), none, (fnAt [37] (PySem.Str.ofString "_law_record") .none .none .none (.str (PySem.Str.ofString "law_ny0395_01") 1339) (.ref 838) .none), #[]⟩) ::
  (nat_lit 845, ⟨(.type "code"), none, (.fields #[(.str (PySem.Str.ofString "_law_in_both") 1372), (.str (PySem.Str.ofString "_law_in_both") 1373), (.str (PySem.Str.ofString "/claim/cut.py") 1374), (.int (835) 0), (.int (2) 0), (.int (0) 0), (.int (0) 0), (.int (3) 0), (.ref 840), (.bool true), (.int (318) 0), (.ref 841), .none, (.ref 842), (.ref 843), (.ref 844), (.int (1377) 0), (.int (835) 0), (.str (PySem.Str.ofString "/claim/cut.py") 1378)]), #[]⟩) ::
  (nat_lit 846, ⟨(.type "function"), none, (fnAt [38] (PySem.Str.ofString "_law_in_both") .none .none .none (.str (PySem.Str.ofString "law_ny0395_01") 1339) (.ref 845) .none), #[]⟩) ::
  (nat_lit 852, ⟨(.type "code"), none, (.fields #[(.str (PySem.Str.ofString "_law_in_one_alone") 1380), (.str (PySem.Str.ofString "_law_in_one_alone") 1381), (.str (PySem.Str.ofString "/claim/cut.py") 1382), (.int (837) 0), (.int (2) 0), (.int (0) 0), (.int (0) 0), (.int (3) 0), (.ref 847), (.bool true), (.int (318) 0), (.ref 848), .none, (.ref 849), (.ref 850), (.ref 851), (.int (1387) 0), (.int (837) 0), (.str (PySem.Str.ofString "/claim/cut.py") 1388)]), #[]⟩) ::
  (nat_lit 853, ⟨(.type "function"), none, (fnAt [39] (PySem.Str.ofString "_law_in_one_alone") .none .none .none (.str (PySem.Str.ofString "law_ny0395_01") 1339) (.ref 852) .none), #[]⟩) ::
  (nat_lit 857, ⟨(.type "code"), none, (.fields #[(.str (PySem.Str.ofString "law") 1390), (.str (PySem.Str.ofString "law") 1391), (.str (PySem.Str.ofString "/claim/cut.py") 1392), (.int (840) 0), (.int (1) 0), (.int (0) 0), (.int (0) 0), (.int (3) 0), (.ref 854), (.bool true), (.int (318) 0), (.ref 855), .none, .none, .none, (.ref 856), (.int (1393) 0), (.int (840) 0), (.str (PySem.Str.ofString "/claim/cut.py") 1394)]), #[]⟩) ::
  (nat_lit 858, ⟨(.type "function"), none, (fnAt [40] (PySem.Str.ofString "law") .none .none .none (.str (PySem.Str.ofString "law_ny0395_01") 1339) (.ref 857) .none), #[]⟩) :: []
noncomputable def K0 (P : Params) : Frag := (nat_lit 795, ⟨.none, none, .fields #[], #[]⟩) :: K P
noncomputable def kAddrs : List Addr := [795, 2, 3, 57, 58, 81, 82, 92, 93, 94, 96, 97, 98, 111, 112, 138, 139, 141, 142, 143, 168, 169, 399, 409, 415, 416, 422, 423, 429, 430, 585, 591, 592, 645, 646, 698, 704, 705, 711, 712, 713, 741, 742, 748, 749, 770, 771, 777, 778, 780, 781, 786, 792, 793, 799, 800, 801, 807, 808, 814, 815, 821, 822, 826, 827, 831, 832, 838, 839, 845, 846, 852, 853, 857, 858]
noncomputable def topRunT (tb : String → Option Builtin) (p : Program) (w : World) (n₀ : Nat) (ann : Option Value) : Nat → SharedT → Thread → Option SharedT
  | 0, _, _ => none
  | n + 1, s, t => match through t with
    | true => some s
    | false => match stepOk n₀ ann t with
      | false => none
      | true => match stepT (denote tb) p w s t with
        | some (s', t') => topRunT tb p w n₀ ann n s' t'
        | none => none
theorem topRunT_of {tb : String → Option Builtin} {p : Program} {w : World} {n₀ : Nat} {ann : Option Value} {n : Nat} : ∀ {s s' : SharedT} {t : Thread}, topRunT tb p w n₀ ann n s t = some s' → topRun tb p w n₀ ann n s.abs t = some s'.abs := by
  induction n with
  | zero => intro _ _ _ h; exact nomatch h
  | succ n ih =>
    intro s s' t h
    simp only [topRunT] at h
    simp only [topRun]
    split at h
    next he => rw [he, Option.some.inj h]
    next he =>
      rw [he]
      split at h
      next => exact nomatch h
      next hk =>
        rw [hk]
        split at h
        next hs => simp only [stepT_spec hs]; exact ih h
        next => exact nomatch h
noncomputable def treeGo : List Obj → BT → Nat → BT
  | [], T, _ => T
  | o :: l, T, n => treeGo l (T.ins n o) (n + 1)
noncomputable def treeOk : List Obj → BT → Nat → Bool
  | [], _, _ => true
  | o :: l, T, n => ((T.ins n o).get n).isSome && treeOk l (T.ins n o) (n + 1)
theorem treeGo_abs (life : Life) : ∀ (l : List Obj) (T : BT) (n : Nat), treeOk l T n = true → absHeap (treeGo l T n) (n + l.length) life = ⟨(absHeap T n life).objs ++ l.toArray, life⟩
  | [], T, n, _ => by
    show absHeap T n life = _
    rw [show ([] : List Obj).toArray = #[] from rfl, Array.append_empty]
    rfl
  | o :: l, T, n, h => by
    obtain ⟨h1, h2⟩ := Bool.and_eq_true_iff.mp h
    have e := treeGo_abs life l (T.ins n o) (n + 1) h2
    rw [show n + (o :: l).length = n + 1 + l.length by simp only [List.length_cons]; omega]
    show absHeap (treeGo l (T.ins n o) (n + 1)) (n + 1 + l.length) life = _
    rw [e, absHeap_ins h1]
    show Heap.mk (((absHeap T n life).objs.push o) ++ l.toArray) life = _
    congr 1
    apply Array.ext'
    simp
noncomputable def toT (s : Shared) : SharedT := ⟨treeGo s.heap.objs.toList .nil 0, s.heap.objs.size, s.heap.life, s.gens, s.drawn, s.toks, s.os⟩
theorem toT_abs {s : Shared} (h : treeOk s.heap.objs.toList .nil 0 = true) : (toT s).abs = s := by
  have e := treeGo_abs s.heap.life s.heap.objs.toList .nil 0 h
  obtain ⟨⟨objs, life⟩, gens, drawn, toks, os⟩ := s
  show Shared.mk (absHeap (treeGo objs.toList .nil 0) objs.size life) gens drawn toks os = _
  have z : absHeap (treeGo objs.toList .nil 0) objs.size life = ⟨objs, life⟩ := by
    rw [show objs.size = 0 + objs.toList.length by simp]
    refine e.trans ?_
    show Heap.mk ((absHeap BT.nil 0 life).objs ++ objs.toList.toArray) life = _
    congr 1
    have : (absHeap BT.nil 0 life).objs = #[] := rfl
    rw [this]; simp
  rw [z]
noncomputable def q : Program := view pw [0, 1, 40]
noncomputable def loose : List PySem.Str := ["_wall", "Entry", "merge_entries", "_twin_re_1", "_whence", "_index", "UnsupportedOperation", "IOBase", "BufferedIOBase", "TextIOBase", "BytesIO", "StringIO", "_kind", "_fspath", "_check_arg_types", "isabs", "join", "join_path", "dirname", "shlex", "split", "join_shlex", "_find_unsafe", "quote", "sorted_list_difference", "_law_words", "_law_quoted", "_law_told", "_law_record", "_law_in_both", "_law_in_one_alone"]
noncomputable def Xt (_ : Shared) : Bool := true
noncomputable def Yf (s : Shared) : List (Option Obj) := kAddrs.map s.heap.get?
noncomputable def Ya (w : World) : List (Option Obj) := (K0 w.params).map fun p => some p.2
noncomputable def seenP (p qq : Program) (ls : List PySem.Str) (ya : List Addr) (s₀ s : Shared) := (staticsOk (importedModules p.main.body) s₀.heap s.heap && namesBound p s.heap && gensDone s && laidKept s₀.heap s.heap, openSeen qq ls (importedModules p.main.body) Xt true s, ya.map s.heap.get?)
noncomputable def sawP (p qq : Program) (ls : List PySem.Str) (ya : List Addr) (w : World) := (fencedOpening treeTable p w 12000).bind fun s₀ =>
  match s₀.heap.isNs mainGlobals && s₀.gens.size == 0 && treeOk s₀.heap.objs.toList .nil 0 with
  | true => (topRunT treeTable p w s₀.heap.objs.size (s₀.heap.nsMap mainGlobals "__annotations__") 12000 (toT s₀) (topStub p)).map fun sT => seenP p qq ls ya s₀ sT.abs
  | false => none
set_option maxHeartbeats 0 in
lay_quick Mine.sawP
end Mine
end

section
open PySem PySem.W PyProof.Rows
namespace Mine
set_option maxHeartbeats 0 in
theorem saw : ∀ w, PySem.W.Fast.tw12197078410223441907 pw q loose kAddrs w = some (true, openGood q loose, Ya w) := fun w => by kernel_rfl
end Mine
end

section
open PySem PySem.W PyProof.Rows
namespace Mine
theorem left : LeftO pw q loose Xt Yf Ya 12000 := fun w => by
  have h : sawP pw q loose kAddrs w = some (true, openGood q loose, Ya w) := (congrFun (congrFun (congrFun (congrFun (congrFun PySem.W.Fast.te12197078410223441907 pw) q) loose) kAddrs) w).trans (saw w)
  obtain ⟨s₀, h0, h1⟩ := Option.bind_eq_some_iff.mp h
  cases hg : (s₀.heap.isNs mainGlobals && s₀.gens.size == 0 && treeOk s₀.heap.objs.toList .nil 0) with
  | false => rw [hg] at h1; cases h1
  | true =>
    rw [hg] at h1
    obtain ⟨sT, h2, h3⟩ := Option.map_eq_some_iff.mp h1
    obtain ⟨hg, ht⟩ := Bool.and_eq_true_iff.mp hg
    have h2 := topRunT_of h2
    rw [toT_abs ht] at h2
    have e1 : (staticsOk (importedModules pw.main.body) s₀.heap sT.abs.heap && namesBound pw sT.abs.heap && gensDone sT.abs && laidKept s₀.heap sT.abs.heap) = true := congrArg Prod.fst h3
    have e2 := congrArg Prod.snd h3
    unfold openEnds
    rw [h0]
    show (topFrom treeTable pw w 12000 s₀).map _ = _
    unfold topFrom
    rw [hg, h2]
    show ((match staticsOk (importedModules pw.main.body) s₀.heap sT.abs.heap && namesBound pw sT.abs.heap && gensDone sT.abs && laidKept s₀.heap sT.abs.heap with | true => some sT.abs | false => none).map _) = _
    rw [e1]
    exact congrArg some e2
theorem kAddrs_eq (P : Params) : kAddrs = (K0 P).map (·.1) := rfl
noncomputable def lawRec : DefRec := match stAt [40] pw.main.body with
  | some (.FunctionDef name args body _ _ _ scope _ _ pos) => ⟨name, args, body, scope, pos⟩
  | _ => ⟨"", default, [], default, default⟩
noncomputable abbrev lawRow : OpenRow := PySem.Challenge.rw_ny0395_01.row
set_option maxHeartbeats 0 in
theorem hdef : defOf q lawRow.toRowW.name = some (lawRec, []) := by kernel_rfl
set_option maxHeartbeats 0 in
theorem hthe : lawRow.toRowW.prog.theDef lawRow.toRowW.name = some (lawRec.params, lawRec.body, lawRec.scope) := by kernel_rfl
set_option maxHeartbeats 0 in
theorem hkw : kwWritten? lawRec.params.kwonlyargs lawRec.params.kw_defaults = some [] := by kernel_rfl
noncomputable def okP (p qq : Program) (r : RowW) : Bool := chainsOk qq && opensWell p && (frees r && r.within.isEmpty)
noncomputable def bareP (p : Program) : Bool := p.tablesWhole
set_option maxHeartbeats 0 in
lay_quick Mine.okP Mine.bareP
set_option maxHeartbeats 0 in
theorem hok2 : PySem.W.Fast.tw14143817422037520381 pw q lawRow.toRowW = true := by kernel_rfl
set_option maxHeartbeats 0 in
theorem hbare2 : PySem.W.Fast.tw2988209856647685585 pw = true := by kernel_rfl
theorem hok : (chainsOk q && opensWell lawRow.toRowW.prog && (frees lawRow.toRowW && lawRow.toRowW.within.isEmpty)) = true := (congrFun (congrFun (congrFun PySem.W.Fast.te14143817422037520381 pw) q) lawRow.toRowW).trans hok2
set_option maxHeartbeats 0 in
theorem hbare : lawRow.toRowW.prog.bare := ⟨rfl, rfl, rfl, rfl, rfl, (congrFun PySem.W.Fast.te2988209856647685585 pw).trans hbare2⟩
noncomputable abbrev Walk : Prop := WalkO q loose (fun _ _ => True) (fun w h => (K0 w.params).In h) lawRow.toRowW lawRec [] fun f vs => PySem.call f vs
/-! what the row says of itself: its large parts checked apart (the kernel forgets what it reckoned between two theorems) -/
theorem lkA : PySem.W.Fast.tw11788848310118352699 pw.main = true := by kernel_rfl
theorem lkB : ((PySem.W.Fast.tw9807087744658564304 pw.main.body).isEmpty || PySem.W.Fast.tw12862048085361865435 (PySem.W.Fast.tw9807087744658564304 pw.main.body) pw.main.body) = true := by kernel_rfl
theorem lkC : PySem.W.Fast.tw8377067652309620493 pw = true := by kernel_rfl
theorem lkE : PySem.W.Fast.tw8326940854005059898 { strict := false, foot := none, bare := [] } pw.main.body = true := by kernel_rfl
theorem lkF : PySem.W.Fast.tw17119622794617984870 pw pw.main.body (fun _ n => PySem.W.Fast.tw17868728402115742887 n) = true := by kernel_rfl
theorem looks : PySem.W.Fast.tw12908688711261696721 pw = true := by
  delta PySem.W.Fast.tw12908688711261696721
  exact look_both (look_both (look_both (look_both (look_both lkA lkB) lkC) (by kernel_rfl)) ((congrArg (fun c => PySem.W.Fast.tw8326940854005059898 c pw.main.body) (by kernel_rfl)).trans lkE)) lkF
theorem rowSaid : PySem.W.Fast.tw17960256430627541270 (PySem.W.Fast.tw2368527892694137696 PySem.Challenge.rw_ny0395_01) = true := by
  delta PySem.W.Fast.tw17960256430627541270
  repeat' (with_reducible refine look_both ?_ ?_)
  · delta PySem.W.Fast.tw2436336058641802641
    repeat' (with_reducible refine look_both ?_ ?_)
    · exact looks
    all_goals kernel_rfl
  all_goals kernel_rfl
theorem said2 : PySem.W.Fast.tw9446332074065402090 PySem.Challenge.rw_ny0395_01 = true := by
  delta PySem.W.Fast.tw9446332074065402090
  repeat' (with_reducible refine look_both ?_ ?_)
  · exact rowSaid
  all_goals kernel_rfl
set_option maxHeartbeats 0 in
theorem head (call : Walk) : PySem.Challenge.rw_ny0395_01.Holds := by
  refine holds_law ((congrFun PySem.W.Fast.te9446332074065402090 PySem.Challenge.rw_ny0395_01).trans said2) fun said => ?_
  refine PySem.W.holds_open (q := q) (loose := loose) (Xt := Xt) (XP := fun _ _ => True) (Yf := Yf) (Ya := Ya) (YP := fun w h => (K0 w.params).In h) (N := 12000) left
    (fun w s e => Frag.in_of (kAddrs_eq _) e) (fun w h h' x k => Frag.In.keeps x k) (fun _ _ => trivial) (fun _ _ _ _ _ => trivial) hdef hthe hkw (fun s _ => recFacts_nil rfl) rfl (by assumption) hok hbare ?hw call
  case hw => w_witness2
end Mine
end

section
open PySem PySem.W
namespace Mine
/-! ## The pattern: which signs it finds (plain law, no program in sight) -/
noncomputable def reCode : Array Nat := #[14, 17, 4, 1, 1, 21, 9, 0, 604043296, 1, 0, 0, 0, 0, 0, 8, 4, 0, 13, 14, 21, 9, 0, 604043296, 1, 0, 0, 0, 0, 0, 8, 4, 0, 1]
noncomputable def inChars (c : Nat) : Bool := decide (c < 256) && (reCode.getD (6 + (1 + c / 32)) 0).testBit (c % 32)
noncomputable def safeCp (c : Nat) : Bool := inChars c || Sre.isWord c
theorem inSet5 (c : Nat) (seen : Sre.Seen) : ∃ s', Sre.inSet reCode c 34 5 true seen = .ok (!safeCp c, s') := by
  unfold safeCp
  cases h1 : inChars c with
  | true =>
    have h1' : (decide (c < 256) && (reCode.getD (6 + (1 + c / 32)) 0).testBit (c % 32)) = true := h1
    refine ⟨(seen.add 21).add 9, ?_⟩
    show (if (decide (c < 256) && (reCode.getD (6 + (1 + c / 32)) 0).testBit (c % 32)) = true then (Except.ok (false, (seen.add 21).add 9) : Except String (Bool × Sre.Seen)) else _) = _
    rw [if_pos h1']; rfl
  | false =>
    have h1' : (decide (c < 256) && (reCode.getD (6 + (1 + c / 32)) 0).testBit (c % 32)) = false := h1
    cases h2 : Sre.isWord c with
    | true =>
      refine ⟨(((seen.add 21).add 9).add 8).add 59, ?_⟩
      show (if (decide (c < 256) && (reCode.getD (6 + (1 + c / 32)) 0).testBit (c % 32)) = true then _ else (do if ← Sre.category 4 c then pure (false, (((seen.add 21).add 9).add 8).add 59) else Sre.inSet reCode c 31 17 false ((((seen.add 21).add 9).add 8).add 59) : Except String (Bool × Sre.Seen))) = _
      rw [if_neg (by rw [h1']; exact Bool.false_ne_true)]
      have : Sre.category 4 c = .ok true := by show (Except.ok (Sre.isWord c) : Except String Bool).map (· != (4 % 2 == 1)) = _; rw [h2]; rfl
      rw [this]; rfl
    | false =>
      refine ⟨((((seen.add 21).add 9).add 8).add 59).add 0, ?_⟩
      show (if (decide (c < 256) && (reCode.getD (6 + (1 + c / 32)) 0).testBit (c % 32)) = true then _ else (do if ← Sre.category 4 c then pure (false, (((seen.add 21).add 9).add 8).add 59) else Sre.inSet reCode c 31 17 false ((((seen.add 21).add 9).add 8).add 59) : Except String (Bool × Sre.Seen))) = _
      rw [if_neg (by rw [h1']; exact Bool.false_ne_true)]
      have : Sre.category 4 c = .ok false := by show (Except.ok (Sre.isWord c) : Except String Bool).map (· != (4 % 2 == 1)) = _; rw [h2]; rfl
      rw [this]; rfl
theorem inSet20 (c : Nat) (seen : Sre.Seen) : ∃ s', Sre.inSet reCode c 34 20 true seen = .ok (!safeCp c, s') := by
  unfold safeCp
  cases h1 : inChars c with
  | true =>
    have h1' : (decide (c < 256) && (reCode.getD (21 + (1 + c / 32)) 0).testBit (c % 32)) = true := by
      have e : ∀ k, k < 8 → reCode.getD (21 + (1 + k)) 0 = reCode.getD (6 + (1 + k)) 0 := by decide
      unfold inChars at h1
      obtain ⟨a, b⟩ := Bool.and_eq_true_iff.mp h1
      have := of_decide_eq_true a
      rw [e (c / 32) (by omega), a, b]; rfl
    refine ⟨(seen.add 21).add 9, ?_⟩
    show (if (decide (c < 256) && (reCode.getD (21 + (1 + c / 32)) 0).testBit (c % 32)) = true then (Except.ok (false, (seen.add 21).add 9) : Except String (Bool × Sre.Seen)) else _) = _
    rw [if_pos h1']; rfl
  | false =>
    have h1' : (decide (c < 256) && (reCode.getD (21 + (1 + c / 32)) 0).testBit (c % 32)) = false := by
      have e : ∀ k, k < 8 → reCode.getD (21 + (1 + k)) 0 = reCode.getD (6 + (1 + k)) 0 := by decide
      unfold inChars at h1
      by_cases a : c < 256
      · rw [e (c / 32) (by omega)]; exact h1
      · rw [decide_eq_false a]; rfl
    cases h2 : Sre.isWord c with
    | true =>
      refine ⟨(((seen.add 21).add 9).add 8).add 59, ?_⟩
      show (if (decide (c < 256) && (reCode.getD (21 + (1 + c / 32)) 0).testBit (c % 32)) = true then _ else (do if ← Sre.category 4 c then pure (false, (((seen.add 21).add 9).add 8).add 59) else Sre.inSet reCode c 31 32 false ((((seen.add 21).add 9).add 8).add 59) : Except String (Bool × Sre.Seen))) = _
      rw [if_neg (by rw [h1']; exact Bool.false_ne_true)]
      have : Sre.category 4 c = .ok true := by show (Except.ok (Sre.isWord c) : Except String Bool).map (· != (4 % 2 == 1)) = _; rw [h2]; rfl
      rw [this]; rfl
    | false =>
      refine ⟨((((seen.add 21).add 9).add 8).add 59).add 0, ?_⟩
      show (if (decide (c < 256) && (reCode.getD (21 + (1 + c / 32)) 0).testBit (c % 32)) = true then _ else (do if ← Sre.category 4 c then pure (false, (((seen.add 21).add 9).add 8).add 59) else Sre.inSet reCode c 31 32 false ((((seen.add 21).add 9).add 8).add 59) : Except String (Bool × Sre.Seen))) = _
      rw [if_neg (by rw [h1']; exact Bool.false_ne_true)]
      have : Sre.category 4 c = .ok false := by show (Except.ok (Sre.isWord c) : Except String Bool).map (· != (4 % 2 == 1)) = _; rw [h2]; rfl
      rw [this]; rfl
/-- the first place of a sign that is not plain, from s on -/
theorem admitted_spec (m : Sre.M) (hc : m.code = reCode) (T : List Nat) (ht : m.text = T.toArray) (hl : m.lim = T.length) : ∀ (fuel s : Nat) (seen : Sre.Seen), T.length < s + fuel → s ≤ T.length →
    (((T.drop s).all safeCp = true ∧ ∃ s', Sre.M.admitted m fuel s seen = .ok (none, s')) ∨ (∃ k c s', s ≤ k ∧ T[k]? = some c ∧ safeCp c = false ∧ Sre.M.admitted m fuel s seen = .ok (some k, s') ∧ (T.drop s).all safeCp = false))
  | 0, s, seen, h, hs => by omega
  | fuel + 1, s, seen, h, hs => by
    by_cases e : s = T.length
    · left
      refine ⟨by rw [e, List.drop_length]; rfl, seen, ?_⟩
      show (if s ≥ m.lim then _ else _) = _
      rw [if_pos (by omega)]
    · have hlt : s < T.length := by omega
      obtain ⟨s', hi⟩ := inSet5 T[s] seen
      have hu : Sre.M.admitted m (fuel + 1) s seen = if safeCp T[s] = true then Sre.M.admitted m fuel (s + 1) s' else Except.ok (some s, s') := by
        conv => lhs; unfold Sre.M.admitted
        rw [if_neg (by omega), hc, ht, show T.toArray.getD s 0 = T[s] by simp [Array.getD, hlt], show reCode.size = 34 from rfl, hi]
        cases safeCp T[s] <;> rfl
      have hd : (T.drop s).all safeCp = (safeCp T[s] && (T.drop (s + 1)).all safeCp) := by rw [List.drop_eq_getElem_cons hlt]; rfl
      cases hcp : safeCp T[s] with
      | true =>
        rw [hcp] at hd
        rcases admitted_spec m hc T ht hl fuel (s + 1) s' (by omega) (by omega) with ⟨a, s2, b⟩ | ⟨k, c, s2, a1, a2, a3, a4, a5⟩
        · exact .inl ⟨by rw [hd, a]; rfl, s2, by rw [hu, if_pos hcp]; exact b⟩
        · exact .inr ⟨k, c, s2, by omega, a2, a3, by rw [hu, if_pos hcp]; exact a4, by rw [hd, a5]; rfl⟩
      | false =>
        rw [hcp] at hd
        exact .inr ⟨s, T[s], s', Nat.le_refl _, by simp [hlt], hcp, by rw [hu, if_neg (by rw [hcp]; exact Bool.false_ne_true)], by rw [hd]; rfl⟩
noncomputable def startM (T : List Nat) : Sre.M := { code := reCode, text := T.toArray, lim := T.length, start := 0, lastStart := T.length, pc := 18, pos := 0, handed := 0, marks := #[], seen := ({} : Sre.Seen).add 14 }
theorem forSearch_eq (T : List Nat) (hT : 0 < T.length) : Sre.forSearch reCode T.toArray 0 0 T.length false = (startM T).attemptFrom 0 true := by
  unfold Sre.forSearch
  have h1 : (decide (0 > T.length) || decide (T.length - 0 < (Sre.header reCode).1)) = false := by
    have : (Sre.header reCode).1 = 1 := rfl
    rw [this, decide_eq_false (by omega : ¬ 0 > T.length), decide_eq_false (by omega : ¬ T.length - 0 < 1)]; rfl
  simp only [h1]
  rfl
/-- the whole search: failed where every sign is safe, matched else -/
theorem search_ends (T : List Nat) (hT : 0 < T.length) : ∃ o, ((Sre.forSearch reCode T.toArray 0 0 T.length false).runFor 4).outcome = some o ∧ (match o with | .failed => T.all safeCp = true | .matched => T.all safeCp = false | .stuck _ => False) := by
  rw [forSearch_eq T hT]
  unfold Sre.M.attemptFrom
  rw [if_neg (show ¬ (!(startM T).hasFirstSet) = true from Bool.false_ne_true)]
  rcases admitted_spec (startM T) rfl T rfl rfl (T.length + 1 - 0) 0 (startM T).seen (by omega) (by omega) with ⟨a, s', b⟩ | ⟨k, c, s', _, a2, a3, b, a5⟩
  · rw [show (startM T).lim = T.length from rfl, b]
    exact ⟨.failed, rfl, by simpa using a⟩
  · rw [show (startM T).lim = T.length from rfl, b]
    have hk : k < T.length := by rw [List.getElem?_eq_some_iff] at a2; exact a2.1
    refine ⟨.matched, ?_, by simpa using a5⟩
    obtain ⟨s2, i2⟩ := inSet20 c (s'.add 13)
    rw [a3] at i2
    have hg : T.toArray.getD k 0 = c := by
      rw [List.getElem?_eq_some_iff] at a2
      obtain ⟨h1, h2⟩ := a2
      simp [Array.getD, h1, h2]
    show ((Sre.M.runFor 4 (Sre.M.attemptAt { startM T with mustAdvance := false, seen := s' } k true)).outcome) = _
    let m1 : Sre.M := Sre.M.attemptAt { startM T with mustAdvance := false, seen := s' } k true
    have e1 : m1.step = { m1 with seen := s2, pc := 33, pos := k + 1 } := by
      show (if (18 : Nat) < reCode.size then m1.exec else m1.stick "code:ran-off") = _
      rw [if_pos (by decide)]
      show (if k ≥ T.length then Sre.M.say { m1 with seen := s'.add 13 } false else (match Sre.inSet reCode (T.toArray.getD k 0) 34 20 true (s'.add 13) with
        | .error why => { m1 with seen := s'.add 13 }.stick why
        | .ok (false, seen) => Sre.M.say { m1 with seen := seen } false
        | .ok (true, seen) => { m1 with seen := seen, pc := 18 + Sre.itemWidth reCode 18, pos := k + 1 } : Sre.M)) = _
      rw [if_neg (show ¬ (k ≥ T.length) by omega), hg, i2]
      rfl
    show (Sre.M.runFor 3 m1.step).outcome = _
    rw [e1]
    rfl
end Mine
end

section
open PySem PySem.W
namespace Mine
/-! ## quote as a plain function over lists of numbers -/
noncomputable def repl (c : Nat) (z : List Nat) (l : List Nat) : List Nat := l.flatMap fun k => if k = c then z else [k]
theorem repl_append (c : Nat) (z a b : List Nat) : repl c z (a ++ b) = repl c z a ++ repl c z b := by simp [repl]
theorem repl_free (c : Nat) (z : List Nat) (l : List Nat) (h : c ∉ l) : repl c z l = l := by
  induction l with
  | nil => rfl
  | cons k r ih =>
    rw [List.mem_cons, not_or] at h
    simp only [repl, List.flatMap_cons, if_neg (Ne.symm h.1)] at ih ⊢
    rw [ih h.2]; rfl
theorem repl_join (c : Nat) (z : PySem.Str) : ∀ parts : List PySem.Str, (∀ p ∈ parts, c ∉ p.cps.toList) → repl c z.cps.toList (Str.join ⟨#[c]⟩ parts).cps.toList = (Str.join z parts).cps.toList
  | [], _ => rfl
  | [p], h => repl_free c _ _ (h p (List.mem_singleton.mpr rfl))
  | p :: q :: r, h => by
    have ih := repl_join c z (q :: r) fun a ha => h a (List.mem_cons_of_mem _ ha)
    show repl c z.cps.toList (p ++ ⟨#[c]⟩ ++ Str.join ⟨#[c]⟩ (q :: r)).cps.toList = (p ++ z ++ Str.join z (q :: r)).cps.toList
    simp only [Str.cps_append, Array.toList_append]
    rw [repl_append, repl_append, ih, repl_free c _ _ (h p (List.mem_cons_self ..))]
    show p.cps.toList ++ repl c z.cps.toList [c] ++ _ = _
    rw [show repl c z.cps.toList [c] = z.cps.toList by simp [repl]]
theorem replace_flat (x z : PySem.Str) (c : Nat) : (Txt.replace x ⟨#[c]⟩ z).cps.toList = repl c z.cps.toList x.cps.toList := by
  rw [StrLaws.replace_one, ← repl_join c z _ (StrLaws.split_free x c), StrLaws.join_split]
noncomputable def apos5 : List Nat := [39, 34, 39, 34, 39]
noncomputable def quotedL (l : List Nat) : List Nat := if l = [] then [39, 39] else if l.all safeCp = true then l else 39 :: (repl 39 apos5 l ++ [39])
noncomputable def quoted (x : PySem.Str) : PySem.Str := ⟨(quotedL x.cps.toList).toArray⟩
theorem ne_nil_of_size {x : PySem.Str} (h0 : 0 < x.cps.size) : x.cps.toList ≠ [] := fun e => by
  have h9 : x.cps.toList.length = 0 := by rw [e]; rfl
  rw [Array.length_toList] at h9
  omega
theorem quoted_nil {x : PySem.Str} (h : x.cps.size = 0) : quoted x = PySem.Str.ofString "''" := by
  apply PyProof.Rows.str_of_list
  have : x.cps.toList = [] := by rw [← List.length_eq_zero_iff, Array.length_toList]; exact h
  show quotedL x.cps.toList = _
  unfold quotedL
  rw [if_pos this]; decide +kernel
theorem quoted_safe {x : PySem.Str} (h0 : 0 < x.cps.size) (h : x.cps.toList.all safeCp = true) : quoted x = x := by
  apply PyProof.Rows.str_of_list
  have : x.cps.toList ≠ [] := ne_nil_of_size h0
  show quotedL x.cps.toList = _
  unfold quotedL
  rw [if_neg this, if_pos h]
theorem quoted_rest {x : PySem.Str} (h0 : 0 < x.cps.size) (h : x.cps.toList.all safeCp = false) : quoted x = PySem.Str.ofString "'" ++ Txt.replace x (PySem.Str.ofString "'") (PySem.Str.ofString "'\"'\"'") ++ PySem.Str.ofString "'" := by
  have e1 : PySem.Str.ofString "'" = ⟨#[39]⟩ := by decide +kernel
  have e2 : PySem.Str.ofString "'\"'\"'" = ⟨#[39, 34, 39, 34, 39]⟩ := by decide +kernel
  rw [e1, e2]
  apply PyProof.Rows.str_of_list
  have : x.cps.toList ≠ [] := ne_nil_of_size h0
  show quotedL x.cps.toList = _
  simp only [Str.cps_append, Array.toList_append]
  rw [replace_flat]
  unfold quotedL
  rw [if_neg this, if_neg (by rw [h]; exact Bool.false_ne_true)]
  simp [apos5]
theorem repl_len (z : List Nat) (c : Nat) : ∀ l : List Nat, (repl c z l).length ≤ (z.length + 1) * l.length
  | [] => by simp [repl]
  | k :: r => by
    have ih := repl_len z c r
    show ((if k = c then z else [k]) ++ repl c z r).length ≤ _
    rw [List.length_append, List.length_cons, Nat.mul_add, Nat.mul_one]
    have : (if k = c then z else [k]).length ≤ z.length + 1 := by split <;> simp
    omega
theorem replace_len (x : PySem.Str) : (Txt.replace x (PySem.Str.ofString "'") (PySem.Str.ofString "'\"'\"'")).length ≤ 6 * x.length := by
  have e1 : PySem.Str.ofString "'" = ⟨#[39]⟩ := by decide +kernel
  have e2 : PySem.Str.ofString "'\"'\"'" = ⟨#[39, 34, 39, 34, 39]⟩ := by decide +kernel
  rw [e1, e2]
  show (Txt.replace x ⟨#[39]⟩ ⟨#[39, 34, 39, 34, 39]⟩).cps.size ≤ 6 * x.cps.size
  rw [← Array.length_toList, replace_flat, ← Array.length_toList (xs := x.cps)]
  exact repl_len _ _ _
end Mine
end

section
open PySem PySem.W PyProof.Rows PySem.Calls PySem.Spec
namespace Mine
theorem fillK : (fun (_ : OpenLaw) (_ : Params → Frag) => True) PySem.Challenge.rw_ny0395_01 K := by
  k_fill
  trivial
noncomputable abbrev Kp (h h' : Heap) : Prop := ∀ b o, h.get? b = some o → h'.get? b = some o

/-! ### the search -/
theorem wpAny_ruleIf {M : Model} {A : Around} {E : Value → Shared → Prop} {s : Shared} {Q : PUnit → Shared → Prop} (l : List Nat) (f : Nat → Bool) (g : Nat → String) (h : Q ⟨⟩ s) :
    wpAny M A (forIn l PUnit.unit fun i _ => (if f i = true then do rule (g i); pure (ForInStep.yield PUnit.unit) else pure (ForInStep.yield PUnit.unit) : Sem (ForInStep PUnit))) Q E s := by
  induction l with
  | nil => exact wpAny_pure h
  | cons i l ih =>
    rw [List.forIn_cons]
    refine wpAny_bind ?_
    by_cases hi : f i = true
    · rw [if_pos hi]
      exact wpAny_bind (wpAny_rule (wpAny_pure ih))
    · rw [if_neg hi]
      exact wpAny_pure ih
theorem reRun_spec {M : Model} {A : Around} {E : Value → Shared → Prop} {s : Shared} {m : Sre.M} {o : Sre.Outcome} {Q : Option Sre.M → Shared → Prop}
    (ho : (m.runFor 4).outcome = some o) (h : match o with | .failed => Q none s | .matched => Q (some (m.runFor 4)) s | .stuck _ => False) : wpAny M A (Builtin.Re.reRunToEnd m) Q E s := by
  unfold Builtin.Re.reRunToEnd
  refine wpAny_bind ?_
  show wpAny M A (Builtin.Re.reDrive (2 ^ 64 - 1 + 1) m) _ E s
  unfold Builtin.Re.reDrive
  show wpAny M A (if (m.runFor 4).outcome.isSome = true then pure (m.runFor 4) else _) _ E s
  rw [if_pos (by rw [ho]; rfl)]
  refine wpAny_pure ?_
  refine wpAny_bind (wpAny_ruleIf _ _ _ ?_)
  rw [ho]
  cases o with
  | failed => exact wpAny_pure h
  | matched => exact wpAny_pure h
  | stuck _ => exact h.elim

theorem peek_check (P : Params) (x : PySem.Str) (t : Tok) : peek (K P) ⟨pw, P⟩ (checkBoundCall "re.Pattern.search" ⟨[.ref 98, .str x t], []⟩) = some () := by kernel_rfl
theorem entry_search : entryFor table "re.Pattern.search" = some Builtin.«re.Pattern.search» := entryFor_of_fast (by kernel_rfl)
noncomputable def target (x : PySem.Str) (t : Tok) : Builtin.Re.ReTarget := { pattern := .ref 98, string := .str x t, code := reCode, text := x.cps, kind := 0, groups := 0, pos := min 0 x.cps.size, lim := min ((2 ^ 63 - 1 : Int).toNat) x.cps.size }
theorem peek_target (P : Params) (x : PySem.Str) (t : Tok) : peek (K P) ⟨pw, P⟩ (Builtin.Re.reTarget "re.Pattern.search" "search" ⟨[.ref 98, .str x t], []⟩) = some (target x t) := by kernel_rfl
theorem search_call {w : World} {A : Around} {E : Value → Shared → Prop} {s : Shared} {x : PySem.Str} {t : Tok} {Q : Value → Shared → Prop} (X : (K w.params).In s.heap) (hx : 0 < x.cps.size) (hx2 : x.cps.size < 1000)
    (hn : x.cps.toList.all safeCp = true → Q .none s) (hm : x.cps.toList.all safeCp = false → ∀ a h', Kp s.heap h' → Q (.ref a) { s with heap := h' }) : wpAny (model pw w) A (call (.ref 801) [.str x t]) Q E s := by
  refine wpAny_call (codeAny_of_tree ?_)
  show wpAny _ _ (callAny (.ref 801) ⟨[.str x t], []⟩) _ _ _
  unfold callAny
  refine wpAny_bind (wpAny_load (X 801 _ rfl) ?_)
  show wpAny _ _ (checkBoundCall "re.Pattern.search" ⟨[.ref 98, .str x t], []⟩ >>= fun _ => again (.builtin "re.Pattern.search" ⟨[.ref 98, .str x t], []⟩)) _ _ _
  refine wpAny_bind ((Looks.of_peek X (peek_check w.params x t)).here ?_)
  refine wpAny_pure ⟨Code.quiet_builtin _ (by decide +kernel), codeAny_builtin entry_search ?_⟩
  show wpAny _ _ (Builtin.Re.reTarget "re.Pattern.search" "search" ⟨[.ref 98, .str x t], []⟩ >>= fun t => Builtin.Re.reAnswer t (Sre.forSearch t.code t.text t.groups t.pos t.lim false)) _ _ _
  refine wpAny_bind ((Looks.of_peek X (peek_target w.params x t)).here ?_)
  obtain ⟨o, e1, e2⟩ := search_ends x.cps.toList (by simpa using hx)
  have e0 : Sre.forSearch (target x t).code (target x t).text (target x t).groups (target x t).pos (target x t).lim false = Sre.forSearch reCode x.cps.toList.toArray 0 0 x.cps.toList.length false := by
    show Sre.forSearch reCode x.cps 0 (min 0 x.cps.size) (min ((2 ^ 63 - 1 : Int).toNat) x.cps.size) false = _
    rw [show min 0 x.cps.size = 0 by omega, show min ((2 ^ 63 - 1 : Int).toNat) x.cps.size = x.cps.toList.length by rw [Array.length_toList]; omega]
  rw [e0]
  unfold Builtin.Re.reAnswer
  refine wpAny_bind (reRun_spec e1 ?_)
  cases o with
  | failed => exact wpAny_pure (hn e2)
  | stuck _ => exact e2.elim
  | matched =>
    dsimp only at e2 ⊢
    refine wpAny_bind ?_
    show wpAny _ _ (newTuple [rawInt _, rawInt _] >>= fun v => newFields "re.Match" [.str x t, .ref 98, rawInt _, rawInt _, rawInt _, v]) _ _ _
    refine wpAny_bind (wpAny_newTuple (wpAny_newObj_type ?_))
    exact wpAny_pure (hm e2 _ _ fun b o e => Heap.get?_push_of_some _ (Heap.get?_push_of_some _ e))
end Mine
end

section
open PySem PySem.W PyProof.Rows PySem.Calls PySem.Spec
namespace Mine
noncomputable abbrev TopQ (mg mb : PySem.Str → Option Value) (h : Heap) : Prop := TopRead q (looseW q loose) mg mb h
noncomputable abbrev KpBut' (P : Addr) (h h' : Heap) : Prop := ∀ b o, b ≠ P → h.get? b = some o → h'.get? b = some o
theorem ns_but {P a : Addr} {h h' : Heap} {m : PySem.Str → Option Value} (n : h.Ns a m) (hne : a ≠ P) (k : KpBut' P h h') : h'.Ns a m := let ⟨o, es, ep, ho, r⟩ := n; ⟨o, es, ep, k _ _ hne ho, r⟩
theorem top_but {mg mb : PySem.Str → Option Value} {h h' : Heap} (T : TopQ mg mb h) (k : KpBut' 795 h h') : TopQ mg mb h' :=
  ⟨ns_but T.g (by decide) k, ns_but T.b (by decide) k, (let ⟨mc, n, e⟩ := T.nolimit; ⟨mc, ns_but n (by decide) k, e⟩), T.builtins, T.free⟩
theorem K795 (P : Params) : (K P).lookup 795 = none := by kernel_rfl
theorem kin_but {P : Params} {h h' : Heap} (X : (K P).In h) (k : KpBut' 795 h h') : (K P).In h' := fun a o e => k a o (fun z => by rw [z, K795] at e; cases e) (X a o e)
theorem enterK {w : World} {A : Around} {s : Shared} {R : Result → Shared → Prop} {name qual : PySem.Str} {params : Arguments} {body : List Stmt} {scope : Scope} {dV kV doc pm cdv ct oc : Value} {an od : Option Addr} {osl : Array (Option Value)} {f : Addr} {args : Args} {binds : List (PySem.Str × Value)}
    (X : (K w.params).In s.heap) (hlim : s.heap.NoLimit) (ho : (K w.params).lookup f = some ⟨oc, od, .func (fnOf name qual params body scope dV kV doc pm an cdv ct), osl⟩) (hcd : codeIn (K w.params) cdv qual = true) (hroom : A.depth < recursionLimit)
    (hbind : BindsTo s (fnOf name qual params body scope dV kV doc pm an cdv ct) args binds) (hloc : ∀ y ∈ binds, scope.names.lookup y.1 = some .local)
    (h : ∀ h₁, Fr s.heap s.heap.objs.size h₁ (fun y => binds.reverse.lookup y) → News s.heap s.heap.objs.size h₁ [] →
      wpAny (model pw w) (A.deeper (envOf qual scope s.heap.objs.size f cdv)) (execs body (envOf qual scope s.heap.objs.size f cdv))
        (fun fl s' => R (.ok (.ret (match fl with | .ret v => v | _ => .none))) s') (fun _ _ => False) { s with heap := h₁, toks := s.toks + binds.length })
    (hco : scope.isCoroutine = false) (hgen : scope.isGenerator = false) (hk : scope.kind = .function)
    (hcell : ∀ x ∈ scope.names, x.2 ≠ .cell) : codeAny (model pw w) A (.call (.ref f) args) R s := by
  refine codeAny_call_def (fd := fnOf name qual params body scope dV kV doc pm an cdv ct) (body := body) (binds := binds) hroom (X _ _ ho) rfl hlim (codeRec_of X hcd) rfl hbind hcell hloc (fun h₁ hns hk₁ => ?_) hco hgen hk
  exact wpAny_mono (h h₁ ⟨hns, hk₁, Nat.le_refl _⟩ News.nil) (fun _ _ x => x) fun _ _ x => x.elim
theorem keeper801 (P : Params) (S : Setting) : peek (K P) S (keeperOf (.ref 801)) = some .machine := by kernel_rfl
theorem callWith_801 {w : World} {A : Around} {E : Value → Shared → Prop} {s : Shared} {pos : Pos} {env : Env} {e : PySem.Expr} {Q : Value → Shared → Prop}
    (h : wpAny (model pw w) A (spliced (backTo pos (starEach [e] env))) (fun vs s₁ => (K w.params).In s₁.heap ∧ wpAny (model pw w) A (call (.ref 801) ([] ++ vs)) Q E s₁) E s)
    (he : starEach [e] env = (false, eval e env) :: starEach [] env := by rfl) : wpAny (model pw w) A (callWith pos (.ref 801) [] (backTo pos (starEach [e] env)) []) Q E s := by
  rw [he] at h ⊢
  exact callWith_of rfl (fun h X => ⟨.machine, .inr (.inl rfl), Looks.of_peek X (keeper801 _ _)⟩) (evalArgs_plain h)
theorem search_callF {w : World} {A : Around} {E : Value → Shared → Prop} {s : Shared} {x : PySem.Str} {t : Tok} {Q : Value → Shared → Prop} {h₀ : Heap} {L : Addr} {m : PySem.Str → Option Value} {news : List (Addr × Obj)} (F : Fr h₀ L s.heap m) (N : News h₀ L s.heap news) (X : (K w.params).In h₀) (hx : 0 < x.cps.size) (hx2 : x.cps.size < 1000)
    (hn : x.cps.toList.all safeCp = true → Q .none s) (hm : x.cps.toList.all safeCp = false → ∀ a h', Fr h₀ L h' m → News h₀ L h' news → Q (.ref a) { s with heap := h' }) : wpAny (model pw w) A (call (.ref 801) [.str x t]) Q E s :=
  search_call (X.keeps F.keep) hx hx2 hn fun e a h' k => hm e a h' (F.keeps k) fun p hp => ⟨k _ _ (N p hp).1, (N p hp).2⟩
local macro_rules | `(tactic| walk_at "callWith ref") => `(tactic| (k_dflt (refine callWith_801 ?_)))
local macro_rules | `(tactic| walk_at "call ref") => `(tactic| (k_dflt (refine search_callF (by k_asm) (by k_asm) (by k_asm) ?_ ?_ (fun hs' => ?_) (fun hs' a' h' F' N' => ?_))))
set_option maxHeartbeats 4000000 in
theorem quote_spec {w : World} {A : Around} {mg mb : PySem.Str → Option Value} {s : Shared} {x : PySem.Str} {t : Tok} {Q E : Value → Shared → Prop}
    (X : (K w.params).In s.heap) (T : TopQ mg mb s.heap) (hd : A.depth + 2 < recursionLimit) (hu : A.units + 50 < cLine) (hx : x.length < 1000)
    (h : ∀ h' tk' t', Kp s.heap h' → Q (.str (quoted x) t') { s with heap := h', toks := tk' }) :
    wpAny (model pw w) A (call (.ref 808) [.str x t]) Q E s := by
  refine wpAny_call ?_
  k_dflt (refine' enterK X T.nolimit ?k6 ?k7 ?k8 ?k9 ?kB ?_ ?c2 ?c3 ?c4 ?c5; (case k6 => k_is); (case k7 => k_is); (case k8 => omega); (case k9 => exact BindsTo.of_eq rfl); (case c5 => decide); (case kB => exact locs rfl); (case c2 => exact rfl); (case c3 => exact rfl); (case c4 => exact rfl); k_whole; intro h' F' N'; (try dsimp only); (try k_fold))
  k_steps
  · show 0 < x.length
    omega
  · exact hx
  · show Q (.str x _) _
    rename_i hs'
    have h0 : 0 < x.cps.size := by show 0 < x.length; omega
    rw [← quoted_safe h0 hs', quoted_safe h0 hs']
    exact quoted_safe h0 hs' ▸ h _ _ _ (Fr.keep (by assumption))
  · have hl := replace_len x
    refine add_str (fun t1 tk1 => ?_) (by rw [sizeLine_eq]; show (PySem.Str.ofString "'").length + _ ≤ _; rw [show (PySem.Str.ofString "'").length = 1 by decide +kernel]; omega)
    k_steps
    show Q (.str _ _) _
    have h0 : 0 < x.cps.size := by show 0 < x.length; omega
    rw [← quoted_rest h0 (by assumption)]
    exact h _ _ _ (Fr.keep (by assumption))
  · show Q (.str _ _) _
    rw [← quoted_nil (x := x) (by show x.length = 0; omega)]
    exact h _ _ _ (Fr.keep (by assumption))
end Mine
end

section
open PySem PySem.W PyProof.Rows PySem.Calls PySem.Spec
namespace Mine
/-! ## A generator expression over a list, its code made or found again -/
noncomputable def TabOk (pos : Pos) (c P : Addr) (h : Heap) : Prop := ∃ ps, h.IsCode c P ps ∧ h.TableAt c P ps ∧ (codeAmong pos ps.toList = none ∨ ∃ c' : Addr, codeAmong pos ps.toList = some (.ref c'))
noncomputable abbrev KpBut (P : Addr) (h h' : Heap) : Prop := ∀ b o, b ≠ P → h.get? b = some o → h'.get? b = some o
theorem TabOk.keeps {pos : Pos} {c P : Addr} {h h' : Heap} (x : TabOk pos c P h) (k : ∀ b o, h.get? b = some o → h'.get? b = some o) : TabOk pos c P h' :=
  let ⟨ps, a, b, d⟩ := x; ⟨ps, a.keeps k, b.keeps k, d⟩
theorem passing_all (n : Nat) : passing (fun _ => true) n 0 = List.range n := by simp [passing]
theorem wpAny_code_either {M : Model} {A : Around} {E : Value → Shared → Prop} {s : Shared} {env : Env} {c P : Addr} {pos : Pos} {qn : PySem.Str} {scope : Scope} {Q : Value → Shared → Prop} (hc : env.code = .ref c) (ht : TabOk pos c P s.heap)
    (hQ : ∀ (c' : Addr) h' tk, KpBut P s.heap h' → s.heap.objs.size ≤ h'.objs.size → TabOk pos c P h' → Q (.ref c') { s with heap := h', toks := tk }) : wpAny M A (genexprCode env pos qn scope) Q E s := by
  obtain ⟨ps, h1, h2, h3⟩ := ht
  rcases h3 with h3 | ⟨c', h3⟩
  · refine wpAny_genexprCodeX hc h1 h2 h3 fun c' h' tk hx hge hlt hcode hrec htab _ => hQ c' h' tk (fun b o hb e => hx b o hb e) (Nat.le_trans hge (Nat.le_of_lt hlt)) ⟨_, hcode, htab, .inr ⟨c', ?_⟩⟩
    have htr : TriplesOk ps.toList := by obtain ⟨_, _, _, _, _, _, _, _, _, _, _, _, _, _, _, _, _, _, _, x, _⟩ := h1; exact x
    have := codeAmong_snoc (pos := pos) (c := .ref c') ps.toList htr h3
    simpa using this
  · refine wpAny_genexprCode_hit hc h1 h3 ?_
    exact hQ c' s.heap s.toks (fun _ _ _ e => e) (Nat.le_refl _) ⟨ps, h1, h2, .inr ⟨c', h3⟩⟩
theorem genJ {prog : Program} {w : World} {A : Around} {E : Value → Shared → Prop} {s : Shared} {env : Env} {elt iter : PySem.Expr} {x : PySem.Str} {px : Pos} {scope : Scope} {cl : List (PySem.Str × Addr)} {pos : Pos} {Q : Value → Shared → Prop}
    {c P l bm : Addr} {ob : Obj} {mg : PySem.Str → Option Value} {items : Array Value} {F : Nat → Value → Prop}
    (hcode : env.code = .ref c) (ht : TabOk pos c P s.heap) (hl : s.heap.IsList l items) (hlim : s.heap.NoLimit) (M : BMod s.heap env.globals mg bm ob)
    (hh : A.handled = none) (hco : scope.isCoroutine = false) (hclos : closureFor scope env = pure cl) (hcell : ∀ y ∈ scope.names, y.2 ≠ .cell) (h0 : scope.names.lookup (PySem.Str.ofString ".0") = some NameKind.local)
    (hx : scope.names.lookup x = some .local) (hkind : scope.kind = .function) (hroom : A.depth < recursionLimit)
    (hi : ∀ Q' : Value → Shared → Prop, Q' (.ref l) s → wpAny (model prog w) A (eval iter env) Q' E s)
    (hq : ∀ (code : Value) (C : Addr) (A' : Around) E' i v (t : Shared) m₂, A'.handled = none → A'.depth ≤ A.depth + 1 → A'.units ≤ A.units + 8 → items[i]? = some v → t.heap.Ns C m₂ → m₂ x = some v → s.heap.objs.size < C → KpBut P s.heap t.heap →
      wpAny (model prog w) A' (eval elt (genEnv scope cl C code builtinsNs env)) (fun y s₃ => F i y ∧ PySem.Keeps t s₃) E' t)
    (hQ : ∀ (a : Addr) (s₅ : Shared) fp wr g St, WalksS prog w A.in4 a fp wr (GenOnlyQ g) items.size F St → St 0 s₅ → (∀ i s', St i s' → s'.TypeIs (.ref a) "generator") → a ∈ fp → (∀ b ∈ fp, b < s₅.heap.objs.size) → (∀ b ∈ wr, s.heap.objs.size ≤ b) →
      KpBut P s.heap s₅.heap → TabOk pos c P s₅.heap → (AllBare s.gens → AllBare s₅.gens) → s₅.os = s.os → s₅.drawn = s.drawn → P < s.heap.objs.size → Q (.ref a) s₅)
    (hs : ∀ x, genFold iter env x = pure x) :
    wpAny (model prog w) A (eval (.GeneratorExp elt [⟨.Name x px, iter, [], 0⟩] scope pos) env) Q E s := by
  have hlt : l < s.heap.objs.size := by obtain ⟨_, e, _⟩ := hl; exact Heap.lt_size e
  have hPlt : P < s.heap.objs.size := by obtain ⟨_, _, h2, _⟩ := ht; exact Heap.lt_size h2.2
  have hlP : l ≠ P := fun e => by
    obtain ⟨ps, _, h2, _⟩ := ht
    obtain ⟨o, ho, hc, _⟩ := hl
    rw [e, h2.2] at ho; cases ho; exact absurd hc (by simp)
  have hcP : cStatics ≠ P := fun e => by
    obtain ⟨ps, _, h2, _⟩ := ht
    obtain ⟨_, hns, _⟩ := hlim
    obtain ⟨o, es, ep, ho, hd, _⟩ := hns
    rw [e, h2.2] at ho; cases ho; cases hd
  have hcs : cStatics < s.heap.objs.size := by
    obtain ⟨_, hns, _⟩ := hlim
    obtain ⟨o, es, ep, ho, _⟩ := hns
    exact Heap.lt_size ho
  refine wpAny_GeneratorExp_walksQD hh hco hclos hcell h0 hx hkind hroom (hi _ ?_) hs
  refine wpAny_pyIter_list hl ⟨hlim.push _, ?_⟩
  refine wpAny_code_either hcode (ht.keeps fun b o e => Heap.get?_push_of_some _ e) fun c' h₃ tk₃ hx₃ hsz₃ ht₃ => ?_
  have k₃ : KpBut P s.heap h₃ := fun b o hb e => hx₃ b o hb (Heap.get?_push_of_some _ e)
  have hsz : s.heap.objs.size < h₃.objs.size := Nat.lt_of_lt_of_le (by rw [Heap.size_push]; exact Nat.lt_succ_self _) hsz₃
  obtain ⟨ps, _, h2, _⟩ := id ht
  have neP : ∀ b o, s.heap.get? b = some o → o.cls ≠ .none → b ≠ P := fun b o e hcl hb => by
    rw [hb, h2.2] at e; cases e; exact hcl rfl
  have M₃ : BMod h₃ env.globals mg bm ob := by
    have hgP : env.globals ≠ P := fun e => by
      obtain ⟨o, es, ep, ho, hd, _⟩ := M.ns
      rw [e, h2.2] at ho; cases ho; cases hd
    refine ⟨?_, M.name, M.ne, k₃ _ _ (neP _ _ M.obj (by rw [M.cls]; simp)) M.obj, M.cls, M.dict, M.data⟩
    obtain ⟨o, es, ep, ho, r⟩ := M.ns
    exact ⟨o, es, ep, k₃ _ _ hgP ho, r⟩
  have hl₃ : h₃.NoLimit := by
    obtain ⟨mc, hns, hn⟩ := hlim
    obtain ⟨o, es, ep, ho, r⟩ := hns
    exact ⟨mc, ⟨o, es, ep, k₃ _ _ hcP ho, r⟩, hn⟩
  have hI : h₃.IsListIter s.heap.objs.size l 0 := by
    have hne : s.heap.objs.size ≠ P := Nat.ne_of_gt hPlt
    exact ⟨_, hx₃ _ _ hne (Heap.get?_push_size _ rfl), rfl, rfl⟩
  have hL₃ : h₃.IsList l items := by obtain ⟨o, ho, r⟩ := hl; exact ⟨o, k₃ _ _ hlP ho, r⟩
  refine wpAny_builtinsFor M₃.ns M₃.name M₃.ne M₃.obj M₃.cls M₃.dict M₃.data ?_
  refine ⟨s.heap.objs.size, [s.heap.objs.size, l], [s.heap.objs.size], items.size, (fun i v => items[i]? = some v), (fun i h => h.IsListIter s.heap.objs.size l i ∧ h.IsList l items), (fun _ => true), F, rfl, (fun A' hA => Walks.list hA _ _ (Nat.ne_of_lt hlt) items), ⟨hI, hL₃⟩, ?_, hl₃, ?_, ?_, ?_⟩
  · intro b hb
    rcases List.mem_cons.mp hb with rfl | hb
    · exact hsz
    · rcases List.mem_cons.mp hb with rfl | hb
      · exact Nat.lt_trans hlt hsz
      · cases hb
  · intro hm
    rcases List.mem_cons.mp hm with e | hm
    · exact absurd (e ▸ hcs) (Nat.lt_irrefl _)
    · cases hm
  · intro href hhref
    have inB : ∀ (t : Shared), (∀ b ∈ List.range h₃.objs.size, b ∉ [s.heap.objs.size] → ∀ o, href.get? b = some o → t.heap.get? b = some o) → KpBut P s.heap t.heap := fun t hkp b o hb e =>
      hkp b (List.mem_range.mpr (Nat.lt_trans (Heap.lt_size e) hsz)) (fun hm => by rcases List.mem_cons.mp hm with q | hm; exact Nat.lt_irrefl _ (q ▸ Heap.lt_size e); cases hm) o (hhref b o (k₃ b o hb e))
    refine ⟨fun A' E' i v t m₂ hA hD hU hP hn hm hkp => ?_, fun A' E' i v t m₂ hA hD hU hP hp hn hm hkp => hq (.ref c') _ A' E' i v t m₂ hA hD hU hP hn hm hsz (inB t hkp)⟩
    exact wpAny_pure ⟨rfl, t.heap, t.toks, rfl, fun _ _ e => e⟩
  · intro a h₅ tk gs hgb hag hsz₅ hk₅ W hat
    rw [passing_all, List.length_range] at W
    have W' := W.imp (P' := F) fun j y hy => by
      obtain ⟨i, e, hf⟩ := hy
      have e2 := List.getElem?_eq_some_iff.mp e
      obtain ⟨h1, h2⟩ := e2
      rw [List.getElem_range] at h2
      exact h2 ▸ hf
    refine hQ a _ _ _ _ _ W' hat (fun i s' st => st.1.typeIs) List.mem_cons_self ?_ ?_ (fun b o hb e => hk₅ b o (k₃ b o hb e)) (ht₃.keeps hk₅) (fun g => g.push hgb) rfl rfl hPlt
    · intro b hb
      show b < h₅.objs.size
      rw [hsz₅]
      rcases List.mem_cons.mp hb with rfl | hb
      · exact Nat.lt_succ_self _
      · rcases List.mem_cons.mp hb with rfl | hb
        · exact Nat.lt_succ_of_lt hag
        · exact Nat.lt_succ_of_lt (Nat.lt_trans (List.mem_range.mp hb) hag)
    · intro b hb
      rcases List.mem_cons.mp hb with rfl | hb
      · exact Nat.le_of_lt hsz
      · rcases List.mem_cons.mp hb with rfl | hb
        · exact Nat.le_refl _
        · cases hb
end Mine
end

section
open PySem PySem.W PyProof.Rows PySem.Calls PySem.Spec
namespace Mine
noncomputable def posJ : Pos := ⟨772, 20, 772, 57⟩
noncomputable abbrev TabJ (h : Heap) : Prop := TabOk posJ 799 795 h
theorem TabOk.at2 {pos : Pos} {c P : Addr} {h h' : Heap} (x : TabOk pos c P h) (kc : ∀ o, h.get? c = some o → h'.get? c = some o) (kP : ∀ o, h.get? P = some o → h'.get? P = some o) : TabOk pos c P h' := by
  obtain ⟨ps, ⟨o, vs, file, tf, flags, tg, inF, text, tt, op, a, r1, r2, r3, r4, r5, r6, b, r⟩, ⟨⟨o2, vs2, a2, r7⟩, b2⟩, d⟩ := x
  exact ⟨ps, ⟨o, vs, file, tf, flags, tg, inF, text, tt, op, kc _ a, r1, r2, r3, r4, r5, r6, kP _ b, r⟩, ⟨⟨o2, vs2, kc _ a2, r7⟩, kP _ b2⟩, d⟩
theorem TabOk.lt {pos : Pos} {c P : Addr} {h : Heap} (x : TabOk pos c P h) : c < h.objs.size ∧ P < h.objs.size := by
  obtain ⟨ps, _, ⟨⟨o2, vs2, a2, r7⟩, b2⟩, d⟩ := x
  exact ⟨Heap.lt_size a2, Heap.lt_size b2⟩
theorem strsAre_at : ∀ {vs : List Value} {ss : List PySem.Str}, StrsAre vs ss → ∀ (i : Nat) (v : Value), vs[i]? = some v → ∃ x t, ss[i]? = some x ∧ v = .str x t
  | [], _, _, i, v, h => by simp at h
  | _ :: vs, s0 :: ss, .cons _ t h, i, v, hv => by
    cases i with
    | zero => simp at hv; exact ⟨s0, t, rfl, hv.symm⟩
    | succ i => exact strsAre_at h i v (by simpa using hv)
theorem name_glob {M : Model} {A : Around} {E : Value → Shared → Prop} {s : Shared} {env : Env} {x : PySem.Str} {p : Pos} {v : Value} {mg : PySem.Str → Option Value} {Q : Value → Shared → Prop} (hg : s.heap.Ns env.globals mg) (hv : mg x = some v)
    (hk : env.scope.kind = .function) (hx : env.kindOf x = some .globalImplicit) (hd : (x == (PySem.Str.ofString "__debug__")) = false) (h : Q v s) : wpAny M A (eval (.Name x p) env) Q E s :=
  Calls.Name_function_global hk hx (Calls.loadGlobal_global (env := env) hg hv h) hd
theorem glob_quote (P : Params) : nsIn (K P) mainGlobals (PySem.Str.ofString "quote") = some (some (.ref 808)) := by kernel_rfl
theorem keep808 (P : Params) : keepIn (K P) (.ref 808) = true := by kernel_rfl
theorem quoted_len (x : PySem.Str) : (quoted x).length ≤ 6 * x.length + 2 := by
  show ((quotedL x.cps.toList).toArray).size ≤ 6 * x.cps.size + 2
  rw [List.size_toArray, ← Array.length_toList (xs := x.cps)]
  unfold quotedL
  split
  · simp
  · split
    · omega
    · have := repl_len apos5 39 x.cps.toList
      have e : apos5.length = 5 := rfl
      rw [e] at this
      simp only [List.length_cons, List.length_append, List.length_nil]
      omega
theorem sum_len_le {α : Type} (f : α → Nat) (b : Nat) : ∀ (l : List α), (∀ x ∈ l, f x ≤ b) → (l.map f).sum ≤ b * l.length
  | [], _ => by simp
  | x :: l, h => by
    have := sum_len_le f b l fun y hy => h y (List.mem_cons_of_mem _ hy)
    have := h x (List.mem_cons_self ..)
    simp only [List.map_cons, List.sum_cons, List.length_cons, Nat.mul_add, Nat.mul_one]
    omega
theorem joinOk_quoted {ss : List PySem.Str} (hn : ss.length ≤ 100) (hx : ∀ x ∈ ss, x.length < 100) : JoinOk (PySem.Str.ofString " ") (ss.map quoted) = true := by
  refine joinOk_of ?_
  have h1 : ((ss.map quoted).map (·.length)).sum ≤ 602 * ss.length := by
    rw [List.map_map]
    exact sum_len_le _ _ _ fun x h => by have := quoted_len x; have := hx x h; show (quoted x).length ≤ _; omega
  have h2 : (PySem.Str.ofString " ").length = 1 := by decide +kernel
  rw [List.length_map, h2]
  omega
set_option maxHeartbeats 4000000 in
theorem join_spec {w : World} {A : Around} {mg mb : PySem.Str → Option Value} {bm : Addr} {ob : Obj} {s : Shared} {l : Addr} {vs : List Value} {ss : List PySem.Str} {Q E : Value → Shared → Prop}
    (X : (K w.params).In s.heap) (T : TopQ mg mb s.heap) (M : BMod s.heap mainGlobals mg bm ob) (hh : A.handled = none) (hd : A.depth + 6 < recursionLimit) (hu : A.units + 70 < cLine) (hl : s.heap.IsList l vs.toArray) (hS : StrsAre vs ss) (hn : ss.length ≤ 100) (hx : ∀ x ∈ ss, x.length < 100)
    (hT : TabJ s.heap) (hG : AllBare s.gens)
    (h : ∀ s' t', KpBut 795 s.heap s'.heap → TabJ s'.heap → AllBare s'.gens → s'.os = s.os → Q (.str (Txt.join (PySem.Str.ofString " ") (ss.map quoted)) t') s') :
    wpAny (model pw w) A (call (.ref 800) [.ref l]) Q E s := by
  refine wpAny_call ?_
  k_dflt (refine' enterK X T.nolimit ?k6 ?k7 ?k8 ?k9 ?kB ?_ ?c2 ?c3 ?c4 ?c5; (case k6 => k_is); (case k7 => k_is); (case k8 => omega); (case k9 => exact BindsTo.of_eq rfl); (case c5 => decide); (case kB => exact locs rfl); (case c2 => exact rfl); (case c3 => exact rfl); (case c4 => exact rfl); k_whole; intro h' F' N'; (try dsimp only); (try k_fold))
  k_steps
  have hat : ∀ (i : Nat) (v : Value), vs.toArray[i]? = some v → ∃ x t, ss[i]? = some x ∧ v = .str x t := fun i v hv => strsAre_at hS i v (by rw [← List.getElem?_toArray]; exact hv)
  refine genJ (c := 799) (P := 795) (l := l) (items := vs.toArray) (F := fun i y => ∃ x t, ss[i]? = some x ∧ y = .str (quoted x) t) (bm := bm) (ob := ob) (mg := mg) rfl (hT.keeps F'.keep) (stays_list F'.keep hl) (T.nolimit.keeps F'.keep) (M.keeps F'.keep) hh rfl rfl (by decide) rfl rfl rfl ?room (fun Q' hQ' => ld F' rfl hQ') ?elt ?ret (fun _ => rfl)
  case room => show A.depth + 1 < _; omega
  case elt =>
    intro code C A' E' i v t m₂ hA hD hU hi hns hm hC hk
    obtain ⟨x, tx, hx1, rfl⟩ := hat i v hi
    have kk : KpBut 795 s.heap t.heap := fun b o hb e => hk b o hb (F'.keep b o e)
    have Xt := kin_but X kk
    have Tt := top_but T kk
    show wpAny (model pw w) A' (do callWith _ (← eval (.Name (PySem.Str.ofString "quote") _) (genEnv _ _ C code builtinsNs _)) [] (backTo _ (starEach [.Name (PySem.Str.ofString "arg") _] (genEnv _ _ C code builtinsNs _))) (backToKw _ (keywordEach [] (genEnv _ _ C code builtinsNs _)))) _ E' t
    refine wpAny_bind (name_glob Tt.g (mg_of Xt Tt.g (glob_quote _)) rfl rfl (by decide) ?_)
    refine callWith_K Xt (keep808 _) ?_
    walk1
    refine wpAny_Name (wpAny_loadName_local rfl rfl hns hm ?_)
    walk1
    refine ⟨Xt, ?_⟩
    refine quote_spec Xt Tt (by have := hD; simp only [depth_deeper] at this; omega) (by have := hU; simp only [units_deeper] at this; omega) (by have := hx x (List.mem_of_getElem? hx1); omega) ?_
    intro h2 tk2 t2 k2
    exact ⟨⟨x, t2, hx1, rfl⟩, h2, tk2, rfl, k2⟩
  case ret =>
    intro a s₅ fp wr g St W hst hTy ha hfp hwr k5 ht5 hG5 hos hdr hP
    dsimp only
    walk1
    refine SC.joinGen W.in4_2 hTy hst hfp ha (fun i v hv => let ⟨x, t, _, e⟩ := hv; ⟨_, t, e⟩) ?_ ?_
    · intro s' lt hm hacc
      have hlen : lt.length = ss.length := by
        have := hacc.1
        rw [List.size_toArray, List.size_toArray, StrsAre.length hS] at this
        simpa [strValues] using this
      have hl2 : lt.map (·.1) = ss.map quoted := by
        apply List.ext_getElem?
        intro j
        by_cases hj : j < ss.length
        · have hj' : j < lt.length := hlen ▸ hj
          obtain ⟨x, u, e1, e2⟩ := hacc.2 j (.str lt[j].1 lt[j].2) (by simp [strValues, List.getElem?_eq_getElem hj'])
          injection e2 with e3 _
          rw [List.getElem?_map, List.getElem?_map, e1, List.getElem?_eq_getElem hj', Option.map_some, Option.map_some, e3]
        · rw [List.getElem?_eq_none (by rw [List.length_map]; omega), List.getElem?_eq_none (by rw [List.length_map]; omega)]
      rw [hl2]
      refine ⟨joinOk_quoted hn hx, fun t' k => ?_⟩
      have nw : ∀ b, b < h'.objs.size → b ∉ wr := fun b hb hm => Nat.lt_irrefl _ (Nat.lt_of_lt_of_le hb (hwr b hm))
      have lt5 := (hT.keeps F'.keep).lt
      refine h _ _ (fun b o hb e => hm.heap b o (nw b (Heap.lt_size (F'.keep b o e))) (k5 b o hb (F'.keep b o e))) (ht5.at2 (fun o e => hm.heap _ o (nw _ lt5.1) e) (fun o e => hm.heap _ o (nw _ lt5.2) e)) ((hG5 hG).moved hm.gens) (hm.os.trans hos)
    · rw [sizeLine_eq, List.size_toArray, StrsAre.length hS]; omega
end Mine
end

section
open PySem PySem.W PyProof.Rows PySem.Calls PySem.Spec
namespace Mine
/-! ## Objects whose dict is known as a map -/
noncomputable def ES (es : List DictEntry) (mm : PySem.Str → Option Value) : Prop := (∀ name, getL name es = some (mm name)) ∧ es.length ≤ 100
noncomputable def upd (mm : PySem.Str → Option Value) (x : PySem.Str) (v : Value) : PySem.Str → Option Value := fun y => if y = x then some v else mm y
theorem isStr_iff {v : Value} {n : PySem.Str} : v.isStr n = true ↔ ∃ t, v = .str n t := by
  cases v <;> simp [Value.isStr]
theorem putL_get (name : PySem.Str) (hsh : Int) (t : Tok) (v : Value) : ∀ (es : List DictEntry) (y : PySem.Str), (es.find? (·.key.isStr name)).isSome = true → (putL name hsh (.str name t) v es).find? (·.key.isStr y) = if y = name then (es.find? (·.key.isStr name)).map (fun e => ⟨e.hash, e.key, v⟩) else es.find? (·.key.isStr y)
  | [], y, h => by cases h
  | e :: r, y, h => by
    unfold putL
    cases he : e.key.isStr name with
    | true =>
      obtain ⟨u, hu⟩ := isStr_iff.mp he
      rw [if_pos rfl]
      by_cases hy : y = name
      · subst hy
        rw [if_pos rfl]
        simp only [List.find?_cons, he, Option.map_some]
      · rw [if_neg hy]
        have h1 : e.key.isStr y = false := by rw [hu]; simp [Value.isStr]; exact fun z => hy z.symm
        simp only [List.find?_cons, h1]
    | false =>
      rw [if_neg Bool.false_ne_true]
      simp only [List.find?_cons, he] at h ⊢
      cases hk : e.key.isStr y with
      | true =>
        have hy : y ≠ name := fun z => by rw [z, he] at hk; cases hk
        rw [if_neg hy]
      | false => exact putL_get name hsh t v r y h
theorem putL_len (name : PySem.Str) (hsh : Int) (k v : Value) : ∀ (es : List DictEntry), (es.find? (·.key.isStr name)).isSome = true → (putL name hsh k v es).length = es.length
  | [], h => by cases h
  | e :: r, h => by
    unfold putL
    cases he : e.key.isStr name with
    | true => rw [if_pos rfl]; rfl
    | false =>
      rw [if_neg Bool.false_ne_true]
      simp only [List.find?_cons, he] at h
      simp [putL_len name hsh k v r h]
theorem putL_refs (name : PySem.Str) (hsh : Int) (t : Tok) (v : Value) : ∀ (es : List DictEntry), es.any (·.refKey) = false → (putL name hsh (.str name t) v es).any (·.refKey) = false
  | [], _ => rfl
  | e :: r, h => by
    rw [List.any_cons, Bool.or_eq_false_iff] at h
    unfold putL
    split
    · rw [List.any_cons, Bool.or_eq_false_iff]; exact h
    · rw [List.any_cons, Bool.or_eq_false_iff]; exact ⟨h.1, putL_refs name hsh t v r h.2⟩
theorem getL_find {name : PySem.Str} {es : List DictEntry} {v : Value} (h : getL name es = some (some v)) : ∃ e, es.find? (·.key.isStr name) = some e ∧ e.val = v := by
  unfold getL at h
  split at h
  · rename_i e he; exact ⟨e, he, by injection h with h; injection h⟩
  · split at h <;> cases h
/-- a store to a name that the dict has -/
theorem ES.put {es : List DictEntry} {mm : PySem.Str → Option Value} (h : ES es mm) {name : PySem.Str} (hsh : Int) (t : Tok) (v : Value) (hm : (mm name).isSome = true) : ES (putL name hsh (.str name t) v es) (upd mm name v) := by
  obtain ⟨h1, h2⟩ := h
  obtain ⟨v0, hv0⟩ := Option.isSome_iff_exists.mp hm
  obtain ⟨e, he, _⟩ := getL_find (by rw [h1, hv0] : getL name es = some (some v0))
  have hsome : (es.find? (·.key.isStr name)).isSome = true := by rw [he]; rfl
  refine ⟨fun y => ?_, by rw [putL_len _ _ _ _ _ hsome]; exact h2⟩
  have hg := putL_get name hsh t v es y hsome
  unfold upd
  by_cases hy : y = name
  · subst hy
    rw [if_pos rfl] at hg ⊢
    unfold getL
    rw [hg, he]; rfl
  · rw [if_neg hy] at hg ⊢
    rw [← h1 y]
    unfold getL
    rw [hg]
    cases hf : es.find? (·.key.isStr y) with
    | some e => rfl
    | none =>
      have hy0 := h1 y
      unfold getL at hy0
      rw [hf] at hy0
      dsimp only at hy0 ⊢
      have hr : es.any (·.refKey) = false := by
        cases hr : es.any (·.refKey) with
        | false => rfl
        | true => rw [hr] at hy0; cases hy0
      rw [putL_refs _ _ _ _ _ hr, hr]
section
variable {w : World} {A : Around} {E : Value → Shared → Prop} {s : Shared} {x C dx L : Addr} {h₀ : Heap} {m mm : PySem.Str → Option Value} {news news' : List (Addr × Obj)} {es : List DictEntry} {n : Nat} {name : PySem.Str} {v : Value}
theorem get_es {expr : Bool} {Q : Value → Shared → Prop} (F : Fr h₀ L s.heap m) (X₀ : (K w.params).In h₀) (N : News h₀ L s.heap news) (h1 : (x, instObj C dx) ∈ news) (h2 : (dx, dictOf es n) ∈ news) (hE : ES es mm)
    (hg : plainGet (K w.params) C name = true) (hh : hasDictIn (K w.params) C = true) (ha : findIn (K w.params) (.ref C) name = some none) (hm : mm name = some v) (hv : handedIn v = true) (h : Q v { s with toks := s.toks + 1 }) :
    wpAny (model pw w) A (getAttr (.ref x) name expr) Q E s :=
  get_own F X₀ (InstAt.of_news N h1 h2) hg hh ha rfl (by rw [hE.1, hm]) hv h
theorem meth_es {pl : Sem Bool} {Q : Value × List Value → Shared → Prop} {f : Addr} (F : Fr h₀ L s.heap m) (X₀ : (K w.params).In h₀) (N : News h₀ L s.heap news) (h1 : (x, instObj C dx) ∈ news) (h2 : (dx, dictOf es n) ∈ news) (hE : ES es mm)
    (hg : plainGet (K w.params) C name = true) (hf : findIn (K w.params) (.ref C) name = some (some (.ref f))) (ht : isFn (K w.params) (.ref f) = true) (hm : mm name = none) (h : Q (.ref f, [.ref x]) s) : wpAny (model pw w) A (getMethod (.ref x) name pl) Q E s :=
  method_inst F X₀ (InstAt.of_news N h1 h2) hg hf ht (by rw [hE.1, hm]) h
theorem set_es {Q : Unit → Shared → Prop} (F : Fr h₀ L s.heap m) (X₀ : (K w.params).In h₀) (N : News h₀ L s.heap news) (h1 : (x, instObj C dx) ∈ news) (h2 : (dx, dictOf es n) ∈ news) (hE : ES es mm)
    (hs : findIn (K w.params) (.ref C) (PySem.Str.ofString "__setattr__") = some (some (.builtin "object.__setattr__"))) (hp : plainOver (K w.params) C = true) (ht : takerIn (K w.params) C name = some none) (hh : hasDictIn (K w.params) C = true) (hm : (mm name).isSome = true)
    (U : ∀ es' n', ∃ news', Upd dx (dictOf es n) (dictOf es' n') news news' ∧ ∀ h', Fr h₀ L h' m → News h₀ L h' news' → ES es' (upd mm name v) → Q () { s with heap := h', toks := s.toks + 2 }) :
    wpAny (model pw w) A (setAttr (.ref x) name v) Q E s := by
  obtain ⟨news', U1, U2⟩ := U (putL name (PyData.keyHash w.params name) (.str name (s.toks + 1)) v es) (putN name es n)
  have hE' := hE.put (PyData.keyHash w.params name) (s.toks + 1) v hm
  exact set_dict F X₀ N (InstAt.of_news N h1 h2) rfl hs hp ht hh (by rw [hE.1]; rfl) rfl U1 (Nat.le_trans hE'.2 (by decide)) fun h' F' N' => U2 h' F' N' hE'
end
end Mine
end

section
open PySem PySem.W PyProof.Rows PySem.Calls PySem.Spec
namespace Mine
/-! ## Entering a def with objects of the caller's that may change -/
theorem K_lo (P : Params) : ∀ p ∈ K P, p.1 < 859 := by
  have h : ((K P).map (·.1)).all (fun a => Nat.blt a 859) = true := by kernel_rfl
  intro p hp
  exact Nat.le_of_ble_eq_true (List.all_eq_true.mp h _ (List.mem_map_of_mem hp))
theorem K_lookup_lo {P : Params} {a : Addr} {o : Obj} (e : (K P).lookup a = some o) : a < 859 := K_lo P (a, o) (by
  have : ∀ (l : List (Addr × Obj)), l.lookup a = some o → (a, o) ∈ l := by
    intro l
    induction l with
    | nil => intro h; cases h
    | cons p r ih =>
      intro h
      obtain ⟨b, ob⟩ := p
      rw [List.lookup_cons] at h
      by_cases hb : a == b
      · rw [hb] at h; injection h with h; subst h; rw [beq_iff_eq.mp hb]; exact .head _
      · have hb' : (a == b) = false := by simpa using hb
        rw [hb'] at h; exact .tail _ (ih h)
  exact this _ e)
theorem kin_hide {P : Params} {h : Heap} {l : List Addr} (X : (K P).In h) (hlo : ∀ a ∈ l, 859 ≤ a) : (K P).In (hideAll h l) := fun a o e => hideAll_get _ (X a o e) fun hm => Nat.lt_irrefl _ (Nat.lt_of_lt_of_le (K_lookup_lo e) (hlo a hm))
theorem ns_hide {a : Addr} {h : Heap} {m : PySem.Str → Option Value} {l : List Addr} (n : h.Ns a m) (ha : a ∉ l) : (hideAll h l).Ns a m := let ⟨o, es, ep, ho, r⟩ := n; ⟨o, es, ep, hideAll_get _ ho ha, r⟩
theorem top_hide {mg mb : PySem.Str → Option Value} {h : Heap} {l : List Addr} (T : TopQ mg mb h) (hlo : ∀ a ∈ l, 859 ≤ a) : TopQ mg mb (hideAll h l) :=
  ⟨ns_hide T.g (fun hm => absurd (hlo _ hm) (by decide)), ns_hide T.b (fun hm => absurd (hlo _ hm) (by decide)), (let ⟨mc, n, e⟩ := T.nolimit; ⟨mc, ns_hide n (fun hm => absurd (hlo _ hm) (by decide)), e⟩), T.builtins, T.free⟩
theorem kp_news {g h h' : Heap} {L : Addr} {news : List (Addr × Obj)} (kg2 : ∀ b o, h.get? b = some o → b ∉ news.map (·.1) → g.get? b = some o) (k : Kp g h') (N : News g L h' news) (hn : ∀ p ∈ news, h.get? p.1 = some p.2) : Kp h h' := by
  intro b o e
  by_cases hb : b ∈ news.map (·.1)
  · obtain ⟨p, hp, rfl⟩ := List.mem_map.mp hb
    have := hn p hp
    rw [e] at this; injection this with this; subst this
    exact (N p hp).1
  · exact k b o (kg2 b o e hb)
theorem enterN {w : World} {A : Around} {s : Shared} {R : Result → Shared → Prop} {name qual : PySem.Str} {params : Arguments} {body : List Stmt} {scope : Scope} {dV kV doc pm cdv ct oc : Value} {an od : Option Addr} {osl : Array (Option Value)} {f : Addr} {args : Args} {binds : List (PySem.Str × Value)} {mg mb : PySem.Str → Option Value}
    (news : List (Addr × Obj)) (hn : ∀ p ∈ news, s.heap.get? p.1 = some p.2 ∧ 859 ≤ p.1) (X : (K w.params).In s.heap) (T : TopQ mg mb s.heap) (ho : (K w.params).lookup f = some ⟨oc, od, .func (fnOf name qual params body scope dV kV doc pm an cdv ct), osl⟩) (hcd : codeIn (K w.params) cdv qual = true) (hroom : A.depth < recursionLimit)
    (hbind : BindsTo s (fnOf name qual params body scope dV kV doc pm an cdv ct) args binds) (hloc : ∀ y ∈ binds, scope.names.lookup y.1 = some .local)
    (h : ∀ g h₁, Kp g s.heap → (∀ b o, s.heap.get? b = some o → b ∉ news.map (·.1) → g.get? b = some o) → g.objs.size = s.heap.objs.size → Fr g s.heap.objs.size h₁ (fun y => binds.reverse.lookup y) → News g s.heap.objs.size h₁ news → (K w.params).In g → TopQ mg mb g →
      wpAny (model pw w) (A.deeper (envOf qual scope s.heap.objs.size f cdv)) (execs body (envOf qual scope s.heap.objs.size f cdv))
        (fun fl s' => R (.ok (.ret (match fl with | .ret v => v | _ => .none))) s') (fun _ _ => False) { s with heap := h₁, toks := s.toks + binds.length })
    (hco : scope.isCoroutine = false) (hgen : scope.isGenerator = false) (hk : scope.kind = .function)
    (hcell : ∀ x ∈ scope.names, x.2 ≠ .cell) : codeAny (model pw w) A (.call (.ref f) args) R s := by
  have hlo : ∀ a ∈ news.map (·.1), 859 ≤ a := fun a ha => by obtain ⟨p, hp, rfl⟩ := List.mem_map.mp ha; exact (hn p hp).2
  refine codeAny_call_def (fd := fnOf name qual params body scope dV kV doc pm an cdv ct) (body := body) (binds := binds) hroom (X _ _ ho) rfl T.nolimit (codeRec_of X hcd) rfl hbind hcell hloc (fun h₁ hns hk₁ => ?_) hco hgen hk
  refine wpAny_mono (h (hideAll s.heap (news.map (·.1))) h₁ (fun b o e => of_hideAll _ e) (fun b o e hb => hideAll_get _ e hb) (hideAll_size _ _) ⟨hns, fun b o e => hk₁ b o (of_hideAll _ e), Nat.le_of_eq (hideAll_size _ _)⟩ (fun p hp => ⟨hk₁ _ _ (hn p hp).1, Nat.ne_of_lt (Heap.lt_size (hn p hp).1), hideAll_none _ (List.mem_map_of_mem hp)⟩) (kin_hide X hlo) (top_hide T hlo)) (fun _ _ x => x) fun _ _ x => x.elim
set_option maxHeartbeats 4000000 in
theorem index_spec {w : World} {A : Around} {mg mb : PySem.Str → Option Value} {s : Shared} {x : PySem.Str} {t u : Tok} {Q E : Value → Shared → Prop}
    (X : (K w.params).In s.heap) (T : TopQ mg mb s.heap) (hd : A.depth + 2 < recursionLimit)
    (h : ∀ h' tk' t', Kp s.heap h' → Q (.int 1 t') { s with heap := h', toks := tk' }) :
    wpAny (model pw w) A (call (.ref 112) [.int 1 t, .str x u]) Q E s := by
  refine wpAny_call ?_
  k_dflt (refine' enterK X T.nolimit ?k6 ?k7 ?k8 ?k9 ?kB ?_ ?c2 ?c3 ?c4 ?c5; (case k6 => k_is); (case k7 => k_is); (case k8 => omega); (case k9 => exact BindsTo.of_eq rfl); (case c5 => decide); (case kB => exact locs rfl); (case c2 => exact rfl); (case c3 => exact rfl); (case c4 => exact rfl); k_whole; intro h' F' N'; (try dsimp only); (try k_fold))
  k_steps
  show Q (.int 1 _) _
  exact h _ _ _ (Fr.keep (by assumption))
noncomputable def sioMap (nl : Value) (text : PySem.Str) (tb : Tok) (pos : Int) (tp : Tok) : PySem.Str → Option Value := fun y =>
  if y = PySem.Str.ofString "_StringIO__newline" then some nl else if y = PySem.Str.ofString "_StringIO__buf" then some (.str text tb) else if y = PySem.Str.ofString "_StringIO__pos" then some (.int pos tp) else none
local macro_rules | `(tactic| walk_at "getAttr ref") => `(tactic| (k_dflt (refine' get_es ?k1 ?k2 ?k3 ?k4 ?k5 ?k6 ?k7 ?k8 ?k9 ?k10 ?k11 ?_; (case k1 => k_asm); (case k2 => k_asm); (case k3 => k_asm); (case k4 => k_mem); (case k5 => k_mem); (case k6 => assumption); (case k7 => k_is); (case k8 => k_is); (case k9 => k_is); (case k10 => rfl); (case k11 => k_handed); k_whole)))
local macro_rules | `(tactic| walk_at "getMethod ref") => `(tactic| (k_dflt (refine' meth_es ?k1 ?k2 ?k3 ?k4 ?k5 ?k6 ?k7 ?k8 ?k9 ?k10 ?_; (case k1 => k_asm); (case k2 => k_asm); (case k3 => k_asm); (case k4 => k_mem); (case k5 => k_mem); (case k6 => assumption); (case k7 => k_is); (case k8 => k_is); (case k9 => k_is); (case k10 => rfl); k_whole)))
set_option maxHeartbeats 4000000 in
theorem check_spec {w : World} {A : Around} {mg mb : PySem.Str → Option Value} {s : Shared} {sio ds : Addr} {es : List DictEntry} {n : Nat} {nl : Value} {text : PySem.Str} {tb tp : Tok} {pos : Int} {Q E : Value → Shared → Prop}
    (X : (K w.params).In s.heap) (T : TopQ mg mb s.heap) (hd : A.depth + 2 < recursionLimit)
    (h1 : s.heap.get? sio = some (instObj 646 ds)) (h2 : s.heap.get? ds = some (dictOf es n)) (l1 : 859 ≤ sio) (l2 : 859 ≤ ds) (hE : ES es (sioMap nl text tb pos tp))
    (h : ∀ h' tk', Kp s.heap h' → Q .none { s with heap := h', toks := tk' }) :
    wpAny (model pw w) A (call (.ref 430) [.ref sio]) Q E s := by
  refine wpAny_call ?_
  k_dflt (refine' enterN [(sio, instObj 646 ds), (ds, dictOf es n)] ?hn X T ?k6 ?k7 ?k8 ?k9 ?kB ?_ ?c2 ?c3 ?c4 ?c5; (case hn => intro p hp; rcases List.mem_cons.mp hp with rfl | hp; exact ⟨h1, l1⟩; rcases List.mem_cons.mp hp with rfl | hp; exact ⟨h2, l2⟩; cases hp); (case k6 => k_is); (case k7 => k_is); (case k8 => omega); (case k9 => exact BindsTo.of_eq rfl); (case c5 => decide); (case kB => exact locs rfl); (case c2 => exact rfl); (case c3 => exact rfl); (case c4 => exact rfl); k_whole; intro g' h' kg kg2 gsz F' N' X' T'; (try dsimp only); (try k_fold))
  k_steps
  exact h _ _ (kp_news kg2 F'.keep N' fun p hp => by rcases List.mem_cons.mp hp with rfl | hp; exact h1; rcases List.mem_cons.mp hp with rfl | hp; exact h2; cases hp)
end Mine
end

section
open PySem PySem.W PyProof.Rows PySem.Calls PySem.Spec
namespace Mine
local macro_rules | `(tactic| walk_at "getAttr ref") => `(tactic| (k_dflt (refine' get_es ?k1 ?k2 ?k3 ?k4 ?k5 ?k6 ?k7 ?k8 ?k9 ?k10 ?k11 ?_; (case k1 => k_asm); (case k2 => k_asm); (case k3 => k_asm); (case k4 => k_mem); (case k5 => k_mem); (case k6 => assumption); (case k7 => k_is); (case k8 => k_is); (case k9 => k_is); (case k10 => rfl); (case k11 => k_handed); k_whole)))
local macro_rules | `(tactic| walk_at "getMethod ref") => `(tactic| (k_dflt (refine' meth_es ?k1 ?k2 ?k3 ?k4 ?k5 ?k6 ?k7 ?k8 ?k9 ?k10 ?_; (case k1 => k_asm); (case k2 => k_asm); (case k3 => k_asm); (case k4 => k_mem); (case k5 => k_mem); (case k6 => assumption); (case k7 => k_is); (case k8 => k_is); (case k9 => k_is); (case k10 => rfl); k_whole)))
theorem index_F {w : World} {A : Around} {mg mb : PySem.Str → Option Value} {s : Shared} {x : PySem.Str} {t u : Tok} {Q E : Value → Shared → Prop} {h₀ : Heap} {L : Addr} {m : PySem.Str → Option Value} {news : List (Addr × Obj)} (F : Fr h₀ L s.heap m) (N : News h₀ L s.heap news)
    (X : (K w.params).In h₀) (T : TopQ mg mb h₀) (hd : A.depth + 2 < recursionLimit)
    (h : ∀ h' tk' t', Fr h₀ L h' m → News h₀ L h' news → Q (.int 1 t') { s with heap := h', toks := tk' }) :
    wpAny (model pw w) A (call (.ref 112) [.int 1 t, .str x u]) Q E s :=
  index_spec (X.keeps F.keep) (T.keeps F.keep) hd fun h' tk' t' k => h h' tk' t' (F.keeps k) fun p hp => ⟨k _ _ (N p hp).1, (N p hp).2⟩
theorem check_F {w : World} {A : Around} {mg mb : PySem.Str → Option Value} {s : Shared} {Q E : Value → Shared → Prop} {h₀ : Heap} {L : Addr} {m : PySem.Str → Option Value} {news : List (Addr × Obj)} {sio ds : Addr} {es : List DictEntry} {n : Nat} {nl : Value} {text : PySem.Str} {tb tp : Tok} {pos : Int} (F : Fr h₀ L s.heap m) (N : News h₀ L s.heap news)
    (X : (K w.params).In h₀) (T : TopQ mg mb h₀) (hd : A.depth + 2 < recursionLimit) (h1 : (sio, instObj 646 ds) ∈ news) (h2 : (ds, dictOf es n) ∈ news) (l1 : 859 ≤ sio) (l2 : 859 ≤ ds) (hE : ES es (sioMap nl text tb pos tp))
    (h : ∀ h' tk', Fr h₀ L h' m → News h₀ L h' news → Q .none { s with heap := h', toks := tk' }) :
    wpAny (model pw w) A (call (.ref 430) [.ref sio]) Q E s :=
  check_spec (X.keeps F.keep) (T.keeps F.keep) hd (N _ h1).1 (N _ h2).1 l1 l2 hE fun h' tk' k => h h' tk' (F.keeps k) fun p hp => ⟨k _ _ (N p hp).1, (N p hp).2⟩
local macro_rules | `(tactic| walk_at "call ref") => `(tactic| first
  | (k_dflt (refine index_F (by k_asm) (by k_asm) (by k_asm) (by k_asm) (by simp only [depth_deeper]; omega) ?_; intro h' tk' t' F' N'))
  | (k_dflt (refine check_F (by k_asm) (by k_asm) (by k_asm) (by k_asm) (by simp only [depth_deeper]; omega) (by k_mem) (by k_mem) (by assumption) (by assumption) (by assumption) ?_; intro h' tk' F' N')))
local macro_rules | `(tactic| walk_at "call builtin:len") => `(tactic| (k_dflt (refine len_str ?_ ?_; (show ¬ ((PySem.Str.cps _).size : Int) ≥ 2 ^ 63); omega)))
local macro_rules | `(tactic| walk_at "setAttr ref") => `(tactic| (k_dflt (refine' set_es ?k1 ?k2 ?k3 ?k4 ?k5 ?k6 ?k7 ?k8 ?k9 ?k10 ?k11 ?_; (case k1 => k_asm); (case k2 => k_asm); (case k3 => k_asm); (case k4 => k_mem); (case k5 => k_mem); (case k6 => assumption); (case k7 => k_is); (case k8 => k_is); (case k9 => k_is); (case k10 => k_is); (case k11 => rfl); intro es' n'; refine' ⟨_, ?u, ?_⟩; (case u => k_upd); intro h' F' N' E')))
theorem end2 {g h h' : Heap} {L sio ds : Addr} {o1 o2 o2' : Obj} {m : PySem.Str → Option Value} (kg2 : ∀ b o, h.get? b = some o → b ∉ [(sio, o1), (ds, o2)].map (·.1) → g.get? b = some o) (h1 : h.get? sio = some o1) (F : Fr g L h' m) (N : News g L h' [(sio, o1), (ds, o2')]) : KpBut ds h h' ∧ h'.get? ds = some o2' := by
  refine ⟨fun b o hb e => ?_, (N _ (.tail _ (.head _))).1⟩
  by_cases hs : b = sio
  · subst hs; rw [e] at h1; injection h1 with h1; subst h1; exact (N _ (.head _)).1
  · exact F.keep _ _ (kg2 b o e (by simp [hs, hb]))
theorem upd_pos (nl : Value) (text : PySem.Str) (tb : Tok) (pos pos' : Int) (tp tp' : Tok) : upd (sioMap nl text tb pos tp) (PySem.Str.ofString "_StringIO__pos") (.int pos' tp') = sioMap nl text tb pos' tp' := by
  funext y
  unfold upd sioMap
  by_cases h : y = PySem.Str.ofString "_StringIO__pos"
  · rw [if_pos h]; subst h; rfl
  · rw [if_neg h, if_neg h, if_neg h]
noncomputable def at1 (x : PySem.Str) (pos : Nat) : PySem.Str := ⟨((x.cps.toList.drop pos).take 1).toArray⟩
theorem slice1 {text : PySem.Str} {pos n : Nat} (hn : n = pos + 1) (h : n ≤ text.cps.size) : Txt.slice text (some (pos : Int)) (some (n : Int)) = at1 text pos := by
  subst hn
  have := slice_closes (x := text) (i := (pos : Int)) (j := ((pos + 1 : Nat) : Int)) ⟨by omega, by omega, by rw [Array.length_toList]; omega⟩
  rw [eq_of_beq this]
  unfold at1
  rw [show ((pos : Int)).toNat = pos by omega, show (((pos + 1 : Nat) : Int) - (pos : Int)).toNat = 1 by omega]
set_option maxHeartbeats 4000000 in
theorem read_spec {w : World} {A : Around} {mg mb : PySem.Str → Option Value} {s : Shared} {sio ds : Addr} {es : List DictEntry} {n : Nat} {nl : Value} {text : PySem.Str} {tb tp t : Tok} {pos : Nat} {Q E : Value → Shared → Prop}
    (X : (K w.params).In s.heap) (T : TopQ mg mb s.heap) (hd : A.depth + 3 < recursionLimit)
    (h1 : s.heap.get? sio = some (instObj 646 ds)) (h2 : s.heap.get? ds = some (dictOf es n)) (l1 : 859 ≤ sio) (l2 : 859 ≤ ds) (hE : ES es (sioMap nl text tb pos tp)) (hp : pos ≤ text.cps.size) (hz : text.cps.size < 100000) (ne : @Ne Nat sio ds)
    (h : ∀ h' tk' es' n' tp' t', KpBut ds s.heap h' → h'.get? ds = some (dictOf es' n') → ES es' (sioMap nl text tb (if pos < text.cps.size then pos + 1 else pos : Nat) tp') → Q (.str (at1 text pos) t') { s with heap := h', toks := tk' }) :
    wpAny (model pw w) A (call (.ref 592) [.ref sio, .int 1 t]) Q E s := by
  refine wpAny_call ?_
  k_dflt (refine' enterN (binds := [(PySem.Str.ofString "self", .ref sio), (PySem.Str.ofString "size", .int 1 t)]) [(sio, instObj 646 ds), (ds, dictOf es n)] ?hn X T ?k6 ?k7 ?k8 ?k9 ?kB ?_ ?c2 ?c3 ?c4 ?c5; (case hn => intro p hp; rcases List.mem_cons.mp hp with rfl | hp; exact ⟨h1, l1⟩; rcases List.mem_cons.mp hp with rfl | hp; exact ⟨h2, l2⟩; cases hp); (case k6 => k_is); (case k7 => k_is); (case k8 => omega); (case k9 => exact binds_K X rfl (by k_is) rfl rfl rfl); (case c5 => decide); (case kB => exact locs rfl); (case c2 => exact rfl); (case c3 => exact rfl); (case c4 => exact rfl); k_whole; intro g' h' kg kg2 gsz F' N' X' T'; (try dsimp only); (try k_fold))
  k_steps
  · show Q (.str (PySem.Str.ofString "") _) _
    have e : at1 text pos = PySem.Str.ofString "" := by
      unfold at1; rw [List.drop_eq_nil_of_le (by rw [Array.length_toList]; show text.length ≤ _; omega)]; rfl
    have en := end2 kg2 h1 (by assumption) (by assumption)
    rw [← e]
    exact h _ _ _ _ _ _ en.1 en.2 (by rw [if_neg (by show ¬ _ < text.length; omega)]; exact hE)
  · have hlt : pos < text.length := by omega
    show Q (.str (Txt.slice text (some (pos : Int)) (some ((pos + 1 : Nat) : Int))) _) _
    have e : Txt.slice text (some (pos : Int)) (some ((pos + 1 : Nat) : Int)) = at1 text pos := slice1 (by omega) (by show pos + 1 ≤ text.length; omega)
    have en := end2 kg2 h1 (by assumption) (by assumption)
    rw [e]
    rename ES _ (upd _ _ _) => hE2
    rw [upd_pos] at hE2
    exact h _ _ _ _ _ _ en.1 en.2 (by rw [if_pos (show pos < text.cps.size from hlt)]; exact hE2)
  · have hlt : pos + 1 = text.length := by omega
    show Q (.str (Txt.slice text (some (pos : Int)) (some (text.length : Int))) _) _
    have e : Txt.slice text (some (pos : Int)) (some (text.length : Int)) = at1 text pos := by rw [← hlt]; exact slice1 (by omega) (by show pos + 1 ≤ text.length; omega)
    have en := end2 kg2 h1 (by assumption) (by assumption)
    rw [e]
    rename ES _ (upd _ _ _) => hE2
    rw [upd_pos] at hE2
    exact h _ _ _ _ _ _ en.1 en.2 (by rw [if_pos (show pos < text.cps.size from (by omega : pos < text.length)), hlt]; exact hE2)
end Mine
end

section
open PySem PySem.W PyProof.Rows PySem.Calls PySem.Spec
namespace Mine
/-! ## The lexer's record -/
structure LexC where
  sio : Addr
  pb : Addr
  fs : Addr
  T : Nat → Tok
noncomputable def wordCs : PySem.Str := PySem.Str.ofString "abcdfeghijklmnopqrstuvwxyzABCDEFGHIJKLMNOPQRSTUVWXYZ0123456789_" ++ PySem.Str.ofString "ßàáâãäåæçèéêëìíîïðñòóôõöøùúûüýþÿÀÁÂÃÄÅÆÇÈÉÊËÌÍÎÏÐÑÒÓÔÕÖØÙÚÛÜÝÞ"
noncomputable def lexMap (C : LexC) (st tv lv : Value) : PySem.Str → Option Value := fun y =>
  if y = PySem.Str.ofString "state" then some st else
  if y = PySem.Str.ofString "token" then some tv else
  if y = PySem.Str.ofString "lineno" then some lv else
  if y = PySem.Str.ofString "posix" then some (.bool true) else
  if y = PySem.Str.ofString "debug" then some (.int 0 (C.T 0)) else
  if y = PySem.Str.ofString "_punctuation_chars" then some (.str (PySem.Str.ofString "") (C.T 1)) else
  if y = PySem.Str.ofString "instream" then some (.ref C.sio) else
  if y = PySem.Str.ofString "quotes" then some (.str (PySem.Str.ofString "'\"") (C.T 2)) else
  if y = PySem.Str.ofString "whitespace" then some (.str (PySem.Str.ofString " \t\r\n") (C.T 3)) else
  if y = PySem.Str.ofString "commenters" then some (.str (PySem.Str.ofString "") (C.T 4)) else
  if y = PySem.Str.ofString "escape" then some (.str (PySem.Str.ofString "\\") (C.T 5)) else
  if y = PySem.Str.ofString "escapedquotes" then some (.str (PySem.Str.ofString "\"") (C.T 6)) else
  if y = PySem.Str.ofString "wordchars" then some (.str wordCs (C.T 7)) else
  if y = PySem.Str.ofString "whitespace_split" then some (.bool true) else
  if y = PySem.Str.ofString "infile" then some .none else
  if y = PySem.Str.ofString "eof" then some .none else
  if y = PySem.Str.ofString "pushback" then some (.ref C.pb) else
  if y = PySem.Str.ofString "filestack" then some (.ref C.fs) else
  if y = PySem.Str.ofString "source" then some .none else none
theorem lex_st (C : LexC) (st tv lv v : Value) : upd (lexMap C st tv lv) (PySem.Str.ofString "state") v = lexMap C v tv lv := by
  funext y; unfold upd lexMap
  by_cases h : y = PySem.Str.ofString "state"
  · rw [if_pos h, if_pos h]
  · rw [if_neg h, if_neg h, if_neg h]
theorem lex_tv (C : LexC) (st tv lv v : Value) : upd (lexMap C st tv lv) (PySem.Str.ofString "token") v = lexMap C st v lv := by
  funext y; unfold upd lexMap
  by_cases h : y = PySem.Str.ofString "token"
  · rw [if_pos h]; subst h; rfl
  · rw [if_neg h, if_neg h, if_neg h]
theorem lex_lv (C : LexC) (st tv lv v : Value) : upd (lexMap C st tv lv) (PySem.Str.ofString "lineno") v = lexMap C st tv v := by
  funext y; unfold upd lexMap
  by_cases h : y = PySem.Str.ofString "lineno"
  · rw [if_pos h]; subst h; rfl
  · rw [if_neg h, if_neg h, if_neg h]
/-! ## Strings of one sign -/
noncomputable abbrev sg (c : Nat) : PySem.Str := ⟨#[c]⟩
section
variable {w : World} {A : Around} {E : Value → Shared → Prop} {s : Shared} {x y : PySem.Str} {t u : Tok} {c : Nat}
theorem in_c {Q : Value → Shared → Prop} (b : Bool) (hb : decide (c ∈ x.cps.toList) = b) (h : Q (.bool b) s) : wpAny (model pw w) A (compareOp .In (.str (sg c) u) (.str x t)) Q E s := by
  refine in_str ?_
  rw [← hb, ← StrLaws.found_one] at h
  exact h
theorem notIn_c {Q : Value → Shared → Prop} (b : Bool) (hb : decide (c ∈ x.cps.toList) = b) (h : Q (.bool !b) s) : wpAny (model pw w) A (compareOp .NotIn (.str (sg c) u) (.str x t)) Q E s := by
  refine notIn_str ?_
  rw [← hb, ← StrLaws.found_one] at h
  exact h
theorem eq_c {Q : Value → Shared → Prop} (b : Bool) (hb : (x == y) = b) (h : Q (.bool b) s) : wpAny (model pw w) A (compareOp .Eq (.str x t) (.str y u)) Q E s := eq_str (hb ▸ h)
theorem truthy_c {Q : Bool → Shared → Prop} (b : Bool) (hz : x.cps.size < 1000000) (hb : decide (x.cps.size ≠ 0) = b) (h : ∀ tk, Q b { s with toks := tk }) : wpAny (model pw w) A (truthy (.str x t)) Q E s := by
  refine P.truthy_str (by show ¬ ((x.cps.size : Nat) : Int) ≥ 2 ^ 63; omega) ?_
  have e : ((x.length : Int) != 0) = b := by
    rw [← hb]
    show (((x.cps.size : Nat) : Int) != 0) = _
    by_cases h0 : x.cps.size = 0
    · rw [h0]; rfl
    · have : ((x.cps.size : Nat) : Int) ≠ 0 := by omega
      simp [h0]
  rw [e]; exact h _
end
theorem after_but {s : Shared} {h₀ h' : Heap} {L d : Addr} {o o' : Obj} {m : PySem.Str → Option Value} {news news' : List (Addr × Obj)} (F : Fr h₀ L s.heap m) (N : News h₀ L s.heap news) (h2 : (d, o) ∈ news) (k : KpBut d s.heap h') (hd : h'.get? d = some o') (U : Upd d o o' news news') : Fr h₀ L h' m ∧ News h₀ L h' news' := by
  obtain ⟨pre, post, e1, e2, n1, n2⟩ := U.split
  refine ⟨⟨ns_but F.ns (fun z => (N _ h2).2.1 z.symm) k, fun b o e => k b o (fun z => by rw [z] at e; rw [(N _ h2).2.2] at e; cases e) (F.keep b o e), F.3⟩, fun p hp => ?_⟩
  rw [e2] at hp
  rcases List.mem_append.mp hp with hp | hp
  · exact ⟨k _ _ (n1 p hp) (N p (by rw [e1]; exact List.mem_append_left _ hp)).1, (N p (by rw [e1]; exact List.mem_append_left _ hp)).2⟩
  · rcases List.mem_cons.mp hp with rfl | hp
    · exact ⟨hd, (N _ h2).2⟩
    · exact ⟨k _ _ (n2 p hp) (N p (by rw [e1]; exact List.mem_append_right _ (.tail _ hp))).1, (N p (by rw [e1]; exact List.mem_append_right _ (.tail _ hp))).2⟩
theorem read_F {w : World} {A : Around} {mg mb : PySem.Str → Option Value} {s : Shared} {Q E : Value → Shared → Prop} {h₀ : Heap} {L : Addr} {m : PySem.Str → Option Value} {news : List (Addr × Obj)} {sio ds : Addr} {es : List DictEntry} {n : Nat} {nl : Value} {text : PySem.Str} {tb tp t : Tok} {pos : Nat} (F : Fr h₀ L s.heap m) (N : News h₀ L s.heap news)
    (X : (K w.params).In h₀) (T : TopQ mg mb h₀) (hd : A.depth + 3 < recursionLimit) (h1 : (sio, instObj 646 ds) ∈ news) (h2 : (ds, dictOf es n) ∈ news) (l1 : 859 ≤ sio) (l2 : 859 ≤ ds) (hE : ES es (sioMap nl text tb pos tp)) (hp : pos ≤ text.cps.size) (hz : text.cps.size < 100000) (ne : @Ne Nat sio ds)
    (U : ∀ es' n', ∃ news', Upd ds (dictOf es n) (dictOf es' n') news news' ∧ ∀ h' tk' tp' t', Fr h₀ L h' m → News h₀ L h' news' → ES es' (sioMap nl text tb (if pos < text.cps.size then pos + 1 else pos : Nat) tp') → Q (.str (at1 text pos) t') { s with heap := h', toks := tk' }) :
    wpAny (model pw w) A (call (.ref 592) [.ref sio, .int 1 t]) Q E s :=
  read_spec (X.keeps F.keep) (T.keeps F.keep) hd (N _ h1).1 (N _ h2).1 l1 l2 hE hp hz ne fun h' tk' es' n' tp' t' k hds hE' =>
    let ⟨_, U1, U2⟩ := U es' n'
    let ⟨F', N'⟩ := after_but F N h2 k hds U1
    U2 h' tk' tp' t' F' N' hE'
local macro_rules | `(tactic| walk_at "getAttr ref") => `(tactic| (k_dflt (refine' get_es ?k1 ?k2 ?k3 ?k4 ?k5 ?k6 ?k7 ?k8 ?k9 ?k10 ?k11 ?_; (case k1 => k_asm); (case k2 => k_asm); (case k3 => k_asm); (case k4 => k_mem); (case k5 => k_mem); (case k6 => assumption); (case k7 => k_is); (case k8 => k_is); (case k9 => k_is); (case k10 => rfl); (case k11 => k_handed); k_whole)))
set_option maxHeartbeats 4000000 in
theorem punct_spec {w : World} {A : Around} {mg mb : PySem.Str → Option Value} {s : Shared} {lex dl : Addr} {es : List DictEntry} {n : Nat} {C : LexC} {st tv lv : Value} {R : Result → Shared → Prop}
    (X : (K w.params).In s.heap) (T : TopQ mg mb s.heap) (hd : A.depth + 2 < recursionLimit)
    (h1 : s.heap.get? lex = some (instObj 781 dl)) (h2 : s.heap.get? dl = some (dictOf es n)) (l1 : 859 ≤ lex) (l2 : 859 ≤ dl) (hE : ES es (lexMap C st tv lv))
    (h : ∀ h' tk', Kp s.heap h' → R (.ok (.ret (.str (PySem.Str.ofString "") (C.T 1)))) { s with heap := h', toks := tk' }) :
    codeAny (model pw w) A (.call (.ref 712) ⟨[.ref lex], []⟩) R s := by
  k_dflt (refine' enterN [(lex, instObj 781 dl), (dl, dictOf es n)] ?hn X T ?k6 ?k7 ?k8 ?k9 ?kB ?_ ?c2 ?c3 ?c4 ?c5; (case hn => intro p hp; rcases List.mem_cons.mp hp with rfl | hp; exact ⟨h1, l1⟩; rcases List.mem_cons.mp hp with rfl | hp; exact ⟨h2, l2⟩; cases hp); (case k6 => k_is); (case k7 => k_is); (case k8 => omega); (case k9 => exact BindsTo.of_eq rfl); (case c5 => decide); (case kB => exact locs rfl); (case c2 => exact rfl); (case c3 => exact rfl); (case c4 => exact rfl); k_whole; intro g' h' kg kg2 gsz F' N' X' T'; (try dsimp only); (try k_fold))
  k_steps
  exact h _ _ (kp_news kg2 F'.keep N' fun p hp => by rcases List.mem_cons.mp hp with rfl | hp; exact h1; rcases List.mem_cons.mp hp with rfl | hp; exact h2; cases hp)
set_option maxHeartbeats 4000000 in
theorem punct_F {w : World} {A : Around} {mg mb : PySem.Str → Option Value} {s : Shared} {Q E : Value → Shared → Prop} {h₀ : Heap} {L : Addr} {m : PySem.Str → Option Value} {news : List (Addr × Obj)} {lex dl : Addr} {es : List DictEntry} {n : Nat} {C : LexC} {st tv lv : Value} {expr : Bool} (F : Fr h₀ L s.heap m) (N : News h₀ L s.heap news)
    (X : (K w.params).In h₀) (T : TopQ mg mb h₀) (hd : A.depth + 2 < recursionLimit) (h1 : (lex, instObj 781 dl) ∈ news) (h2 : (dl, dictOf es n) ∈ news) (l1 : 859 ≤ lex) (l2 : 859 ≤ dl) (hE : ES es (lexMap C st tv lv))
    (h : ∀ h' tk', Fr h₀ L h' m → News h₀ L h' news → Q (.str (PySem.Str.ofString "") (C.T 1)) { s with heap := h', toks := tk' }) :
    wpAny (model pw w) A (getAttr (.ref lex) (PySem.Str.ofString "punctuation_chars") expr) Q E s := by
  k_dflt (refine' get_prop (fget := 712) F X (InstAt.of_news N h1 h2) ?k1 ?k2 ?k3 ?k4 ?k5 ?k6 ?_; (case k1 => k_is); (case k2 => k_is); (case k3 => k_is); (case k4 => k_is); (case k5 => k_is); (case k6 => k_is); k_whole)
  refine punct_spec (X.keeps F.keep) (T.keeps F.keep) hd (N _ h1).1 (N _ h2).1 l1 l2 hE fun h' tk' k => ?_
  exact handed_on rfl (h h' tk' (F.keeps k) fun p hp => ⟨k _ _ (N p hp).1, (N p hp).2⟩)
local macro_rules | `(tactic| walk_at "setAttr ref") => `(tactic| (k_dflt (refine' set_es ?k1 ?k2 ?k3 ?k4 ?k5 ?k6 ?k7 ?k8 ?k9 ?k10 ?k11 ?_; (case k1 => k_asm); (case k2 => k_asm); (case k3 => k_asm); (case k4 => k_mem); (case k5 => k_mem); (case k6 => assumption); (case k7 => k_is); (case k8 => k_is); (case k9 => k_is); (case k10 => k_is); (case k11 => rfl); intro es' n'; refine' ⟨_, ?u, ?_⟩; (case u => k_upd); intro h' F' N' E')))
local macro_rules | `(tactic| walk_at "eval Name") => `(tactic| (k_dflt (refine ld (by k_asm) (by assumption) ?_ (by assumption) (by assumption))))
set_option maxHeartbeats 4000000 in
theorem if_nl {w : World} {A : Around} {mg mb : PySem.Str → Option Value} {s : Shared} {Q : Flow → Shared → Prop} {E : Value → Shared → Prop} {h₀ : Heap} {L : Addr} {m : PySem.Str → Option Value} {lex dl sio ds : Addr} {el : List DictEntry} {n : Nat} {os : Obj} {C : LexC} {st tv : Value} {ln : Int} {tl : Tok} {x : PySem.Str} {t : Tok} {cn : PySem.Str} {cs : Scope} {a : Addr} {ccd : Value} {p1 p2 p3 p4 p5 p6 p7 p8 : Pos} {k1 k2 : Nat}
    (F : Fr h₀ L s.heap m) (N : News h₀ L s.heap [(lex, instObj 781 dl), (dl, dictOf el n), (sio, instObj 646 ds), (ds, os)])
    (X : (K w.params).In h₀) (T : TopQ mg mb h₀) (hE : ES el (lexMap C st tv (.int ln tl))) (n1 : @Ne Nat lex dl) (n2 : @Ne Nat sio dl) (n3 : @Ne Nat ds dl)
    (m1 : m (PySem.Str.ofString "nextchar") = some (.str x t)) (m2 : m (PySem.Str.ofString "self") = some (.ref lex)) (kf : cs.kind = .function) (c1 : (envOf cn cs L a ccd).kindOf (PySem.Str.ofString "nextchar") = some .local) (c2 : (envOf cn cs L a ccd).kindOf (PySem.Str.ofString "self") = some .local)
    (h : ∀ h' tk' el' n' ln' tl', Fr h₀ L h' m → News h₀ L h' [(lex, instObj 781 dl), (dl, dictOf el' n'), (sio, instObj 646 ds), (ds, os)] → ES el' (lexMap C st tv (.int ln' tl')) → Q .next { s with heap := h', toks := tk' }) :
    wpAny (model pw w) A (exec (.If (.Compare (.Name (PySem.Str.ofString "nextchar") p1) [.Eq] [.Constant (.str (PySem.Str.ofString "\n")) k1 p2] p3) [.AugAssign (.Attribute (.Name (PySem.Str.ofString "self") p4) (PySem.Str.ofString "lineno") p5) .Add (.Constant (.int 1) k2 p6) p7] [] p8) (envOf cn cs L a ccd)) Q E s := by
  k_steps
  · rename ES _ (upd _ _ _) => hE2
    rw [lex_lv] at hE2
    exact h _ _ _ _ _ _ (by assumption) (by assumption) hE2
  · exact h _ _ _ _ _ _ (by assumption) (by assumption) hE
end Mine
end

section
namespace Mine
/-! ## The lexer as a plain automaton.  States: 0 no state, 32 between words, 97 in a word, 39 and 34 in quotes. -/
noncomputable def lexGo : Nat → List Nat → Bool → List Nat → Option (List Nat × Bool × Nat × List Nat)
  | k, tok, qd, [] => if k = 0 then some ([], qd, 0, []) else if k = 32 ∨ k = 97 then some (tok, qd, 0, []) else none
  | k, tok, qd, c :: r =>
    if k = 32 then
      if safeCp c = true then lexGo 97 [c] qd r else if c = 39 then lexGo c tok qd r else none
    else if k = 39 ∨ k = 34 then
      if c = k then lexGo 97 tok true r else if k = 34 ∧ c = 92 then none else lexGo k (tok ++ [c]) true r
    else if k = 97 then
      if c = 32 then (if tok ≠ [] ∨ qd = true then some (tok, qd, 32, r) else none)
      else if c = 39 ∨ c = 34 then lexGo c tok qd r
      else if safeCp c = true then lexGo 97 (tok ++ [c]) qd r else none
    else none
/-- what may follow a word -/
noncomputable def restOk (r : List Nat) : Prop := r = [] ∨ ∃ r', r = 32 :: r'
noncomputable def afterW (tok : List Nat) (qd : Bool) (r : List Nat) : List Nat × Bool × Nat × List Nat := match r with | [] => (tok, qd, 0, []) | _ :: r' => (tok, qd, 32, r')
theorem go_end (tok : List Nat) (qd : Bool) (h : tok ≠ [] ∨ qd = true) {r : List Nat} (hr : restOk r) : lexGo 97 tok qd r = some (afterW tok qd r) := by
  rcases hr with rfl | ⟨r', rfl⟩
  · rfl
  · simp [lexGo, afterW, h]
theorem safe_not (c : Nat) (h : safeCp c = true) : c ≠ 32 ∧ c ≠ 39 ∧ c ≠ 34 ∧ c ≠ 92 ∧ c ≠ 9 ∧ c ≠ 13 ∧ c ≠ 10 := by
  refine ⟨?_, ?_, ?_, ?_, ?_, ?_, ?_⟩ <;> (intro e; subst e; revert h; decide +kernel)
theorem go_safe (qd : Bool) {r : List Nat} (hr : restOk r) : ∀ (w tok : List Nat), tok ≠ [] → w.all safeCp = true → lexGo 97 tok qd (w ++ r) = some (afterW (tok ++ w) qd r)
  | [], tok, ht, _ => by rw [List.append_nil]; exact go_end tok qd (.inl ht) hr
  | c :: w, tok, ht, h => by
    rw [List.all_cons, Bool.and_eq_true] at h
    obtain ⟨n1, n2, n3, _⟩ := safe_not c h.1
    have e := go_safe qd hr w (tok ++ [c]) (by simp) h.2
    rw [List.append_assoc] at e
    rw [List.cons_append, lexGo, if_neg (by decide), if_neg (by decide), if_pos rfl, if_neg n1, if_neg (by simp [n2, n3]), if_pos h.1, e]
    rfl
theorem go_quote {r : List Nat} (hr : restOk r) : ∀ (w tok : List Nat) (qd : Bool), lexGo 39 tok qd (repl 39 apos5 w ++ 39 :: r) = some (afterW (tok ++ w) true r)
  | [], tok, qd => by
    show lexGo 39 tok qd (39 :: r) = _
    rw [lexGo, if_neg (by decide), if_pos (.inl rfl), if_pos rfl, List.append_nil]
    exact go_end tok true (.inr rfl) hr
  | c :: w, tok, qd => by
    by_cases hc : c = 39
    · subst hc
      show lexGo 39 tok qd (39 :: 34 :: 39 :: 34 :: 39 :: (repl 39 apos5 w ++ 39 :: r)) = _
      rw [lexGo, if_neg (by decide), if_pos (.inl rfl), if_pos rfl]
      rw [lexGo, if_neg (by decide), if_neg (by decide), if_pos rfl, if_neg (by decide), if_pos (.inr rfl)]
      rw [lexGo, if_neg (by decide), if_pos (.inr rfl), if_neg (by decide), if_neg (by decide)]
      rw [lexGo, if_neg (by decide), if_pos (.inr rfl), if_pos rfl]
      rw [lexGo, if_neg (by decide), if_neg (by decide), if_pos rfl, if_neg (by decide), if_pos (.inl rfl)]
      rw [go_quote hr w, List.append_assoc]; rfl
    · have e : repl 39 apos5 (c :: w) = c :: repl 39 apos5 w := by simp [repl, hc]
      rw [e, List.cons_append, lexGo, if_neg (by decide), if_pos (.inl rfl), if_neg hc, if_neg (by simp), go_quote hr w, List.append_assoc]; rfl
/-- reading a quoted word gives the word -/
theorem go_word (w : List Nat) {r : List Nat} (hr : restOk r) : ∃ qd, lexGo 32 [] false (quotedL w ++ r) = some (afterW w qd r) ∧ (w = [] → qd = true) := by
  unfold quotedL
  by_cases h0 : w = []
  · subst h0
    refine ⟨true, ?_, fun _ => rfl⟩
    rw [if_pos rfl]
    show lexGo 32 [] false (39 :: 39 :: r) = _
    rw [lexGo, if_pos rfl, if_neg (by decide +kernel), if_pos rfl, lexGo, if_neg (by decide), if_pos (.inl rfl), if_pos rfl]
    exact go_end [] true (.inr rfl) hr
  · rw [if_neg h0]
    by_cases hs : w.all safeCp = true
    · refine ⟨false, ?_, fun e => absurd e h0⟩
      rw [if_pos hs]
      cases w with
      | nil => exact absurd rfl h0
      | cons c w =>
        rw [List.all_cons, Bool.and_eq_true] at hs
        rw [List.cons_append, lexGo, if_pos rfl, if_pos hs.1]
        exact go_safe false hr w [c] (by simp) hs.2
    · refine ⟨true, ?_, fun _ => rfl⟩
      rw [if_neg hs, List.cons_append, List.append_assoc, lexGo, if_pos rfl, if_neg (by decide +kernel), if_pos rfl]
      exact go_quote hr w [] false
end Mine
end

section
open PySem PySem.W PyProof.Rows PySem.Calls PySem.Spec
namespace Mine
/-! ## A small logic: expressions and tests that leave a state's description as it is -/
noncomputable def EV (w : World) (A : Around) (env : Env) (S : Shared → Prop) (e : PySem.Expr) (P : Value → Prop) : Prop :=
  ∀ (s : Shared) (Q E : Value → Shared → Prop), S s → (∀ v s', P v → S s' → Q v s') → wpAny (model pw w) A (eval e env) Q E s
noncomputable def TV (w : World) (A : Around) (env : Env) (S : Shared → Prop) (e : PySem.Expr) (b : Bool) : Prop :=
  ∀ (s : Shared) (Q : Bool → Shared → Prop) (E : Value → Shared → Prop), S s → (∀ s', S s' → Q b s') → wpAny (model pw w) A (PySem.isTrue e env (eval e env)) Q E s
noncomputable def Tk (S : Shared → Prop) : Prop := ∀ s tk, S s → S { s with toks := tk }
noncomputable abbrev IsS (x : PySem.Str) : Value → Prop := fun v => ∃ t, v = .str x t
noncomputable abbrev IsI (i : Int) : Value → Prop := fun v => ∃ t, v = .int i t
section
variable {w : World} {A : Around} {env : Env} {S S' : Shared → Prop} {e l r x y z : PySem.Expr} {P R : Value → Prop} {a b c : Bool} {p : Pos} {k : Nat}
theorem EV.str (hS : Tk S) {u : PySem.Str} : EV w A env S (.Constant (.str u) k p) (IsS u) := fun s _ _ hs h => wpAny_Constant_str (h _ _ ⟨_, rfl⟩ (hS s _ hs))
theorem EV.int (hS : Tk S) {i : Int} : EV w A env S (.Constant (.int i) k p) (IsI i) := fun s _ _ hs h => wpAny_Constant_int (h _ _ ⟨_, rfl⟩ (hS s _ hs))
theorem EV.none : EV w A env S (.Constant .none k p) (· = .none) := fun _ _ _ hs h => wpAny_Constant_none (h _ _ rfl hs)
theorem EV.bool : EV w A env S (.Constant (.bool b) k p) (· = .bool b) := fun _ _ _ hs h => wpAny_Constant_bool (h _ _ rfl hs)
theorem EV.imp {P' : Value → Prop} (h : EV w A env S e P) (hp : ∀ v, P v → P' v) : EV w A env S e P' := fun s Q E hs hq => h s Q E hs fun v s' hv => hq v s' (hp v hv)
theorem TV.not (h : TV w A env S x b) : TV w A env S (.UnaryOp .Not x p) (!b) := fun s _ _ hs hq => isTrue_not (h s _ _ hs hq)
theorem TV.and2 (hx : TV w A env S x a) (hy : a = true → TV w A env S y b) : TV w A env S (.BoolOp .And [x, y] p) (a && b) := fun s Q E hs h =>
  isTrue_and (hx s _ _ hs fun s1 h1 => by
    cases a with
    | false => exact h s1 h1
    | true => exact isTrue_and (hy rfl s1 _ _ h1 fun s2 h2 => by
        cases b with
        | false => exact h s2 h2
        | true => exact isTrue_and_nil (h s2 h2)))
theorem TV.and3 (hx : TV w A env S x a) (hy : a = true → TV w A env S y b) (hz : a = true → b = true → TV w A env S z c) : TV w A env S (.BoolOp .And [x, y, z] p) (a && (b && c)) := fun s Q E hs h =>
  isTrue_and (hx s _ _ hs fun s1 h1 => by
    cases a with
    | false => exact h s1 h1
    | true => exact isTrue_and (hy rfl s1 _ _ h1 fun s2 h2 => by
        cases b with
        | false => exact h s2 h2
        | true => exact isTrue_and (hz rfl rfl s2 _ _ h2 fun s3 h3 => by
          cases c with
          | false => exact h s3 h3
          | true => exact isTrue_and_nil (h s3 h3))))
theorem TV.or2 (hx : TV w A env S x a) (hy : a = false → TV w A env S y b) : TV w A env S (.BoolOp .Or [x, y] p) (a || b) := fun s Q E hs h =>
  isTrue_or (hx s _ _ hs fun s1 h1 => by
    cases a with
    | true => exact h s1 h1
    | false => exact isTrue_or (hy rfl s1 _ _ h1 fun s2 h2 => by
        cases b with
        | true => exact h s2 h2
        | false => exact isTrue_or_nil (h s2 h2)))
theorem TV.or3 (hx : TV w A env S x a) (hy : a = false → TV w A env S y b) (hz : a = false → b = false → TV w A env S z c) : TV w A env S (.BoolOp .Or [x, y, z] p) (a || (b || c)) := fun s Q E hs h =>
  isTrue_or (hx s _ _ hs fun s1 h1 => by
    cases a with
    | true => exact h s1 h1
    | false => exact isTrue_or (hy rfl s1 _ _ h1 fun s2 h2 => by
        cases b with
        | true => exact h s2 h2
        | false => exact isTrue_or (hz rfl rfl s2 _ _ h2 fun s3 h3 => by
          cases c with
          | true => exact h s3 h3
          | false => exact isTrue_or_nil (h s3 h3))))
theorem TV.cmp {op : CmpOp} (hl : EV w A env S l P) (hr : EV w A env S r R) (hm : behindInMarks op r = false)
    (hc : ∀ v u (s : Shared) (Q E : Value → Shared → Prop), P v → R u → S s → (∀ s', S s' → Q (.bool b) s') → wpAny (model pw w) A (compareOp op v u) Q E s) : TV w A env S (.Compare l [op] [r] p) b := fun s Q E hs h =>
  wpAny_isTrue_Compare1 (hl s _ _ hs fun v s1 hv h1 => hr s1 _ _ h1 fun u s2 hu h2 => hc v u s2 _ _ hv hu h2 fun s3 h3 => wpAny_truthy_bool (h s3 h3)) hm
theorem TV.in_ {d : Nat} {u : PySem.Str} (hl : EV w A env S l (IsS (sg d))) (hr : EV w A env S r (IsS u)) (hb : decide (d ∈ u.cps.toList) = b) (hm : behindInMarks .In r = false) : TV w A env S (.Compare l [.In] [r] p) b :=
  .cmp hl hr hm fun _ _ s Q E ⟨_, e1⟩ ⟨_, e2⟩ hs h => by subst e1 e2; exact in_c b hb (h s hs)
theorem TV.notIn {d : Nat} {u : PySem.Str} (hl : EV w A env S l (IsS (sg d))) (hr : EV w A env S r (IsS u)) (hb : decide (d ∈ u.cps.toList) = b) (hm : behindInMarks .NotIn r = false) : TV w A env S (.Compare l [.NotIn] [r] p) (!b) :=
  .cmp hl hr hm fun _ _ s Q E ⟨_, e1⟩ ⟨_, e2⟩ hs h => by subst e1 e2; exact notIn_c b hb (h s hs)
theorem TV.eq_ {u v : PySem.Str} (hl : EV w A env S l (IsS u)) (hr : EV w A env S r (IsS v)) (hb : (u == v) = b) : TV w A env S (.Compare l [.Eq] [r] p) b :=
  .cmp hl hr (by cases r <;> first | rfl | exact Bool.and_eq_false_iff.mpr (.inl (Bool.and_eq_false_iff.mpr (.inr rfl)))) fun _ _ s Q E ⟨_, e1⟩ ⟨_, e2⟩ hs h => by subst e1 e2; exact eq_c b hb (h s hs)
theorem TV.isNone' {v : Value} {p' : Pos} (hl : EV w A env S l (· = v)) (hb : (v == .none) = b) : TV w A env S (.Compare l [.Is] [.Constant .none k p] p') b :=
  .cmp hl EV.none rfl fun _ _ s Q E e1 e2 hs h => by subst e1 e2; exact is_none_gen (hb.symm ▸ h s hs)
theorem TV.isNotNone {v : Value} {p' : Pos} (hl : EV w A env S l (· = v)) (hb : (v == .none) = b) : TV w A env S (.Compare l [.IsNot] [.Constant .none k p] p') (!b) :=
  .cmp hl EV.none rfl fun _ _ s Q E e1 e2 hs h => by subst e1 e2; exact isnot_none_gen (hb.symm ▸ h s hs)
theorem TV.ge {i j : Int} (hl : EV w A env S l (IsI i)) (hr : EV w A env S r (IsI j)) (hb : decide (j ≤ i) = b) : TV w A env S (.Compare l [.GtE] [r] p) b :=
  .cmp hl hr (by cases r <;> first | rfl | exact Bool.and_eq_false_iff.mpr (.inl (Bool.and_eq_false_iff.mpr (.inr rfl)))) fun _ _ s Q E ⟨_, e1⟩ ⟨_, e2⟩ hs h => by subst e1 e2; exact PyProof.Rows.ge_int (hb.symm ▸ h s hs)
theorem TV.plain (hv : EV w A env S e P) (he : PySem.isTrue e env (eval e env) = (do let v ← eval e env; standAt e.pos; holding [v] (truthy v)))
    (ht : ∀ v (s : Shared) (Q : Bool → Shared → Prop) (E : Value → Shared → Prop), P v → S s → (∀ s', S s' → Q b s') → wpAny (model pw w) A (truthy v) Q E s) : TV w A env S e b := fun s Q E hs h =>
  isTrue_plain (hv s _ _ hs fun v s1 h1 h2 => ht v s1 _ _ h1 h2 h) he
theorem TV.bool_ (hv : EV w A env S e (· = .bool b)) (he : PySem.isTrue e env (eval e env) = (do let v ← eval e env; standAt e.pos; holding [v] (truthy v))) : TV w A env S e b :=
  .plain hv he fun v s Q E e1 hs h => by subst e1; exact wpAny_truthy_bool (h s hs)
theorem TV.str_ (hS : Tk S) {u : PySem.Str} (hv : EV w A env S e (IsS u)) (hz : u.cps.size < 1000000) (hb : decide (u.cps.size ≠ 0) = b) (he : PySem.isTrue e env (eval e env) = (do let v ← eval e env; standAt e.pos; holding [v] (truthy v))) : TV w A env S e b :=
  .plain hv he fun v s Q E ⟨_, e1⟩ hs h => by subst e1; exact truthy_c b hz hb fun tk => h _ (hS s tk hs)
/-! statements -/
variable {Q : Flow → Shared → Prop} {E : Value → Shared → Prop} {s : Shared} {st : Stmt} {rest body orelse : List Stmt}
theorem if_t (ht : TV w A env S e true) (hs : S s) (h : ∀ s', S s' → wpAny (model pw w) A (execs body env) Q E s') : wpAny (model pw w) A (exec (.If e body orelse p) env) Q E s :=
  wpAny_If (ht s _ _ hs fun s' h' => h s' h')
theorem if_f (ht : TV w A env S e false) (hs : S s) (h : ∀ s', S s' → wpAny (model pw w) A (execs orelse env) Q E s') : wpAny (model pw w) A (exec (.If e body orelse p) env) Q E s :=
  wpAny_If (ht s _ _ hs fun s' h' => h s' h')
theorem execs_one (h : wpAny (model pw w) A (exec st env) Q E s) : wpAny (model pw w) A (execs [st] env) Q E s :=
  wpAny_execs_cons (wpAny_mono h (fun fl s' hq => by cases fl <;> first | exact wpAny_execs_nil hq | exact hq) fun _ _ x => x)
/-- a statement that goes on -/
noncomputable def DO (w : World) (A : Around) (env : Env) (S : Shared → Prop) (st : Stmt) (S' : Shared → Prop) : Prop := ∀ (s : Shared) (Q : Flow → Shared → Prop) (E : Value → Shared → Prop), S s → (∀ s', S' s' → Q .next s') → wpAny (model pw w) A (exec st env) Q E s
theorem seq (hd : DO w A env S st S') (hs : S s) (h : ∀ s', S' s' → wpAny (model pw w) A (execs rest env) Q E s') : wpAny (model pw w) A (execs (st :: rest) env) Q E s :=
  wpAny_execs_cons (hd s _ _ hs h)
theorem last (hd : DO w A env S st S') (hs : S s) (h : ∀ s', S' s' → Q .next s') : wpAny (model pw w) A (execs [st] env) Q E s := execs_one (hd s _ _ hs h)
theorem DO.skip (ht : TV w A env S e false) : DO w A env S (.If e body [] p) S := fun s _ _ hs h => if_f ht hs fun s' h' => wpAny_execs_nil (h s' h')
theorem DO.ifT (ht : TV w A env S e true) (h : DO w A env S st S') : DO w A env S (.If e [st] orelse p) S' := fun _ _ _ hs hq => if_t ht hs fun s' h' => last h h' hq
theorem DO.ifF (ht : TV w A env S e false) (h : DO w A env S st S') : DO w A env S (.If e body [st] p) S' := fun _ _ _ hs hq => if_f ht hs fun s' h' => last h h' hq
end
end Mine
end

section
open PySem PySem.W PyProof.Rows PySem.Calls PySem.Spec
namespace Mine
noncomputable def StOk (st : Value) (k : Nat) : Prop := (k = 0 ∧ st = .none) ∨ (k ≠ 0 ∧ ∃ t, st = .str (sg k) t)
theorem in_emp (c : Nat) : decide (c ∈ (PySem.Str.ofString "").cps.toList) = false := rfl
noncomputable def tokOf (l : List Nat) : PySem.Str := ⟨l.toArray⟩
theorem tok_add (tok : List Nat) (c : Nat) : tokOf tok ++ sg c = tokOf (tok ++ [c]) := PyProof.Rows.str_of_list (by
  show ((tokOf tok).cps ++ (sg c).cps).toList = _
  simp [tokOf])
structure LexNe (lex dl sio ds : Addr) : Prop where
  l1 : 859 ≤ lex
  l2 : 859 ≤ dl
  l3 : 859 ≤ sio
  l4 : 859 ≤ ds
  n1 : @Ne Nat lex dl
  n2 : @Ne Nat lex sio
  n3 : @Ne Nat lex ds
  n4 : @Ne Nat dl sio
  n5 : @Ne Nat dl ds
  n6 : @Ne Nat sio ds
structure LP where
  g : Heap
  L : Addr
  s : Shared
  lex : Addr
  dl : Addr
  ds : Addr
  C : LexC
  nlv : Value
  text : PySem.Str
  tb : Tok
noncomputable def LX (p : LP) (m : PySem.Str → Option Value) (k : Nat) (tok : List Nat) (pos : Nat) (s : Shared) : Prop :=
  ∃ st tt ln tl el nl es ns tp h tk, s = { p.s with heap := h, toks := tk } ∧ StOk st k ∧ Fr p.g p.L h m ∧ News p.g p.L h [(p.lex, instObj 781 p.dl), (p.dl, dictOf el nl), (p.C.sio, instObj 646 p.ds), (p.ds, dictOf es ns)] ∧ ES el (lexMap p.C st (.str (tokOf tok) tt) (.int ln tl)) ∧ ES es (sioMap p.nlv p.text p.tb pos tp)
theorem lx_tk {p : LP} {m : PySem.Str → Option Value} {k : Nat} {tok : List Nat} {pos : Nat} : Tk (LX p m k tok pos) := by
  rintro s tk ⟨st, tt, ln, tl, el, nl, es, ns, tp, h, tk0, rfl, r⟩
  exact ⟨st, tt, ln, tl, el, nl, es, ns, tp, h, tk, rfl, r⟩
noncomputable def lexNames : List PySem.Str := [PySem.Str.ofString "state", PySem.Str.ofString "token", PySem.Str.ofString "lineno", PySem.Str.ofString "posix", PySem.Str.ofString "debug", PySem.Str.ofString "instream", PySem.Str.ofString "quotes", PySem.Str.ofString "whitespace", PySem.Str.ofString "commenters", PySem.Str.ofString "escape", PySem.Str.ofString "escapedquotes", PySem.Str.ofString "wordchars", PySem.Str.ofString "whitespace_split", PySem.Str.ofString "eof", PySem.Str.ofString "pushback", PySem.Str.ofString "filestack", PySem.Str.ofString "source"]
theorem lex_tab (P : Params) : lexNames.all (fun n => plainGet (K P) 781 n && (match findIn (K P) (.ref 781) n with | some none => true | _ => false)) = true := by kernel_rfl
theorem lex_tab2 (P : Params) : lexNames.all (fun n => match takerIn (K P) 781 n with | some none => true | _ => false) = true := by kernel_rfl
theorem lex_get {P : Params} {n : PySem.Str} (h : n ∈ lexNames) : plainGet (K P) 781 n = true ∧ findIn (K P) (.ref 781) n = some none := by
  have := List.all_eq_true.mp (lex_tab P) n h
  obtain ⟨a, b⟩ := Bool.and_eq_true_iff.mp this
  refine ⟨a, ?_⟩
  split at b
  · assumption
  · cases b
theorem lex_take {P : Params} {n : PySem.Str} (h : n ∈ lexNames) : takerIn (K P) 781 n = some none := by
  have := List.all_eq_true.mp (lex_tab2 P) n h
  split at this
  · assumption
  · cases this
theorem lex_dict (P : Params) : hasDictIn (K P) 781 = true := by kernel_rfl
theorem lex_over (P : Params) : plainOver (K P) 781 = true := by kernel_rfl
theorem lex_setter (P : Params) : findIn (K P) (.ref 781) (PySem.Str.ofString "__setattr__") = some (some (.builtin "object.__setattr__")) := by kernel_rfl
theorem upd4 {lex dl sio ds : Addr} {o o' o1 o3 o4 : Obj} (a : @Ne Nat lex dl) (b : @Ne Nat dl sio) (c : @Ne Nat dl ds) : Upd dl o o' [(lex, o1), (dl, o), (sio, o3), (ds, o4)] [(lex, o1), (dl, o'), (sio, o3), (ds, o4)] :=
  .tail a (.head fun p hp => by rcases List.mem_cons.mp hp with rfl | hp; exact fun z => b z.symm; rcases List.mem_cons.mp hp with rfl | hp; exact fun z => c z.symm; cases hp)
section
variable {w : World} {A : Around} {p : LP} {m : PySem.Str → Option Value} {k : Nat} {tok : List Nat} {pos : Nat} {qn : PySem.Str} {sc : Scope} {f : Addr} {cd : Value} {P : Value → Prop} {q q1 q2 q3 : Pos} {e : PySem.Expr}
theorem lx_name {x : PySem.Str} {v : Value} (hm : m x = some v) (kf : sc.kind = .function) (kx : sc.names.lookup x = some .local) (hd : (x == PySem.Str.ofString "__debug__") = false) : EV w A (envOf qn sc p.L f cd) (LX p m k tok pos) (.Name x q) (· = v) := by
  intro s Q E hs h
  obtain ⟨st, tt, ln, tl, el, nl, es, ns, tp, hp, tk, rfl, h1, F, r⟩ := id hs
  exact ld F hm (h _ _ rfl hs) kf kx hd
theorem lx_attr {name : PySem.Str} (X : (K w.params).In p.g) (ms : m (PySem.Str.ofString "self") = some (.ref p.lex)) (kf : sc.kind = .function) (kx : sc.names.lookup (PySem.Str.ofString "self") = some .local) (hn : name ∈ lexNames)
    (hv : ∀ st tt ln tl, StOk st k → ∃ v, lexMap p.C st (.str (tokOf tok) tt) (.int ln tl) name = some v ∧ P v ∧ handedIn v = true) : EV w A (envOf qn sc p.L f cd) (LX p m k tok pos) (.Attribute (.Name (PySem.Str.ofString "self") q1) name q2) P := by
  intro s Q E hs h
  obtain ⟨st, tt, ln, tl, el, nl, es, ns, tp, hp, tk, rfl, h1, F, N, hL, r⟩ := id hs
  obtain ⟨v, hm, hP, hh⟩ := hv st tt ln tl h1
  refine Attribute_name (ld F ms ?_ kf kx)
  exact get_es F X N (.head _) (.tail _ (.head _)) hL (lex_get hn).1 (lex_dict _) (lex_get hn).2 hm hh (h _ _ hP (lx_tk _ _ hs))
theorem lx_punct {mg mb : PySem.Str → Option Value} (X : (K w.params).In p.g) (T : TopQ mg mb p.g) (hd : A.depth + 2 < recursionLimit) (hN : LexNe p.lex p.dl p.C.sio p.ds) (ms : m (PySem.Str.ofString "self") = some (.ref p.lex)) (kf : sc.kind = .function) (kx : sc.names.lookup (PySem.Str.ofString "self") = some .local) :
    EV w A (envOf qn sc p.L f cd) (LX p m k tok pos) (.Attribute (.Name (PySem.Str.ofString "self") q1) (PySem.Str.ofString "punctuation_chars") q2) (IsS (PySem.Str.ofString "")) := by
  intro s Q E hs h
  obtain ⟨st, tt, ln, tl, el, nl, es, ns, tp, hp, tk, rfl, h1, F, N, hL, r⟩ := id hs
  refine Attribute_name (ld F ms ?_ kf kx)
  exact punct_F F N X T hd (.head _) (.tail _ (.head _)) hN.l1 hN.l2 hL fun h' tk' F' N' => h _ _ ⟨_, rfl⟩ ⟨st, tt, ln, tl, el, nl, es, ns, tp, h', tk', rfl, h1, F', N', hL, r⟩
/-! stores -/
theorem lx_set {name : PySem.Str} {S' : Shared → Prop} (X : (K w.params).In p.g) (hN : LexNe p.lex p.dl p.C.sio p.ds) (ms : m (PySem.Str.ofString "self") = some (.ref p.lex)) (kf : sc.kind = .function) (kx : sc.names.lookup (PySem.Str.ofString "self") = some .local) (hn : name ∈ lexNames)
    (he : EV w A (envOf qn sc p.L f cd) (LX p m k tok pos) e P) (hsw : swapsWith e (some (.Attribute (.Name (PySem.Str.ofString "self") q1) name q2)) q3.line (envOf qn sc p.L f cd) = pure false)
    (hsome : ∀ st tt ln tl, (lexMap p.C st (.str (tokOf tok) tt) (.int ln tl) name).isSome = true)
    (hS : ∀ v st tt ln tl el nl es ns tp h tk, P v → StOk st k → Fr p.g p.L h m → News p.g p.L h [(p.lex, instObj 781 p.dl), (p.dl, dictOf el nl), (p.C.sio, instObj 646 p.ds), (p.ds, dictOf es ns)] → ES el (upd (lexMap p.C st (.str (tokOf tok) tt) (.int ln tl)) name v) → ES es (sioMap p.nlv p.text p.tb pos tp) → S' { p.s with heap := h, toks := tk }) :
    DO w A (envOf qn sc p.L f cd) (LX p m k tok pos) (.Assign [.Attribute (.Name (PySem.Str.ofString "self") q1) name q2] e q3) S' := by
  intro s Q E hs h
  refine plainObj_wpAny_Assign_Attribute (he s _ _ hs fun v s1 hv hs1 => ?_) hsw
  obtain ⟨st, tt, ln, tl, el, nl, es, ns, tp, hp, tk, rfl, h1, F, N, hL, r⟩ := id hs1
  refine ld F ms ?_ kf kx
  refine set_es F X N (.head _) (.tail _ (.head _)) hL (lex_setter _) (lex_over _) (lex_take hn) (lex_dict _) (hsome _ _ _ _) fun es' n' => ⟨_, upd4 hN.n1 hN.n4 hN.n5, fun h' F' N' E' => ?_⟩
  exact h _ (hS v st tt ln tl _ _ _ _ _ _ _ hv h1 F' N' E' r)
theorem lx_state {k' : Nat} (X : (K w.params).In p.g) (hN : LexNe p.lex p.dl p.C.sio p.ds) (ms : m (PySem.Str.ofString "self") = some (.ref p.lex)) (kf : sc.kind = .function) (kx : sc.names.lookup (PySem.Str.ofString "self") = some .local)
    (he : EV w A (envOf qn sc p.L f cd) (LX p m k tok pos) e (StOk · k')) (hsw : swapsWith e (some (.Attribute (.Name (PySem.Str.ofString "self") q1) (PySem.Str.ofString "state") q2)) q3.line (envOf qn sc p.L f cd) = pure false) :
    DO w A (envOf qn sc p.L f cd) (LX p m k tok pos) (.Assign [.Attribute (.Name (PySem.Str.ofString "self") q1) (PySem.Str.ofString "state") q2] e q3) (LX p m k' tok pos) :=
  lx_set X hN ms kf kx (.head _) he hsw (fun _ _ _ _ => rfl) fun v st tt ln tl el nl es ns tp h tk hv _ F N hE r => ⟨v, tt, ln, tl, el, nl, es, ns, tp, h, tk, rfl, hv, F, N, lex_st .. ▸ hE, r⟩
theorem lx_token {tok' : List Nat} (X : (K w.params).In p.g) (hN : LexNe p.lex p.dl p.C.sio p.ds) (ms : m (PySem.Str.ofString "self") = some (.ref p.lex)) (kf : sc.kind = .function) (kx : sc.names.lookup (PySem.Str.ofString "self") = some .local)
    (he : EV w A (envOf qn sc p.L f cd) (LX p m k tok pos) e (IsS (tokOf tok'))) (hsw : swapsWith e (some (.Attribute (.Name (PySem.Str.ofString "self") q1) (PySem.Str.ofString "token") q2)) q3.line (envOf qn sc p.L f cd) = pure false) :
    DO w A (envOf qn sc p.L f cd) (LX p m k tok pos) (.Assign [.Attribute (.Name (PySem.Str.ofString "self") q1) (PySem.Str.ofString "token") q2] e q3) (LX p m k tok' pos) :=
  lx_set X hN ms kf kx (.tail _ (.head _)) he hsw (fun _ _ _ _ => rfl) fun v st tt ln tl el nl es ns tp h tk hv hst F N hE r => by
    obtain ⟨t, rfl⟩ := hv
    exact ⟨st, t, ln, tl, el, nl, es, ns, tp, h, tk, rfl, hst, F, N, lex_tv .. ▸ hE, r⟩
theorem lx_more {c : Nat} (X : (K w.params).In p.g) (hN : LexNe p.lex p.dl p.C.sio p.ds) (ms : m (PySem.Str.ofString "self") = some (.ref p.lex)) (kf : sc.kind = .function) (kx : sc.names.lookup (PySem.Str.ofString "self") = some .local) (hz : tok.length < 1000000)
    (he : EV w A (envOf qn sc p.L f cd) (LX p m k tok pos) e (IsS (sg c))) :
    DO w A (envOf qn sc p.L f cd) (LX p m k tok pos) (.AugAssign (.Attribute (.Name (PySem.Str.ofString "self") q1) (PySem.Str.ofString "token") q2) .Add e q3) (LX p m k (tok ++ [c]) pos) := by
  intro s Q E hs h
  refine wpAny_AugAssign_AttributeAny ?_
  obtain ⟨st, tt, ln, tl, el, nl, es, ns, tp, hp, tk, rfl, h1, F, N, hL, r⟩ := id hs
  refine ld F ms ?_ kf kx
  have hn : PySem.Str.ofString "token" ∈ lexNames := .tail _ (.head _)
  refine get_es F X N (.head _) (.tail _ (.head _)) hL (lex_get hn).1 (lex_dict _) (lex_get hn).2 rfl rfl ?_
  refine he _ _ _ (lx_tk _ _ hs) fun v s1 hv hs1 => ?_
  obtain ⟨t, rfl⟩ := hv
  obtain ⟨st, tt, ln, tl, el, nl, es, ns, tp, hp, tk, rfl, h1, F, N, hL, r⟩ := id hs1
  refine PyProof.Rows.iadd_str (fun t' tk' => ?_) (by rw [sizeLine_eq]; show (tok.toArray).size + 1 ≤ _; rw [List.size_toArray]; omega)
  rw [tok_add]
  refine set_es F X N (.head _) (.tail _ (.head _)) hL (lex_setter _) (lex_over _) (lex_take hn) (lex_dict _) rfl fun es' n' => ⟨_, upd4 hN.n1 hN.n4 hN.n5, fun h' F' N' E' => ?_⟩
  exact h _ ⟨st, t', ln, tl, _, _, es, ns, tp, h', _, rfl, h1, F', N', lex_tv .. ▸ E', r⟩
theorem lx_local {x : PySem.Str} {v : Value} {m' : PySem.Str → Option Value} (kf : sc.kind = .function) (kx : sc.names.lookup x = some .local) (hm : (fun y => if y = x then some v else m y) = m')
    (he : EV w A (envOf qn sc p.L f cd) (LX p m k tok pos) e (· = v)) (hsw : swapsWith e (some (.Name x q1)) q3.line (envOf qn sc p.L f cd) = pure false) :
    DO w A (envOf qn sc p.L f cd) (LX p m k tok pos) (.Assign [.Name x q1] e q3) (LX p m' k tok pos) := by
  intro s Q E hs h
  refine wpAny_Assign_Name (he s _ _ hs fun v s1 hv hs1 => ?_) hsw
  obtain ⟨st, tt, ln, tl, el, nl, es, ns, tp, hp, tk, rfl, h1, F, N, hL, r⟩ := id hs1
  subst hv
  refine wpAny_storeName_local kx F.ns (fun h' hn hs' => ?_) (by show (sc.kind == .class || (sc.kind == .module && p.L != mainGlobals)) = false; rw [kf]; rfl)
  exact h _ ⟨st, tt, ln, tl, el, nl, es, ns, tp, h', _, rfl, h1, hm ▸ F.set hn hs', N.set hs', hL, r⟩
end
end Mine
end

section
open PySem PySem.W PyProof.Rows PySem.Calls PySem.Spec
namespace Mine
theorem at1_nil {x : PySem.Str} {p : Nat} (h : x.cps.toList.drop p = []) : at1 x p = PySem.Str.ofString "" := by unfold at1; rw [h]; rfl
theorem at1_end {x : PySem.Str} {p : Nat} (h : x.cps.toList.drop p = []) : ¬ p < x.cps.size := by
  have := congrArg List.length h
  rw [List.length_drop, Array.length_toList] at this
  have e : ([] : List Nat).length = 0 := rfl
  omega
theorem at1_cons {x : PySem.Str} {p c : Nat} {r : List Nat} (h : x.cps.toList.drop p = c :: r) : at1 x p = sg c ∧ p < x.cps.size ∧ x.cps.toList.drop (p + 1) = r := by
  refine ⟨by unfold at1; rw [h]; rfl, ?_, ?_⟩
  · have := congrArg List.length h
    rw [List.length_drop, Array.length_toList, List.length_cons] at this
    omega
  · have e : x.cps.toList.drop (p + 1) = (x.cps.toList.drop p).drop 1 := by rw [List.drop_drop]
    rw [e, h]; rfl
theorem read_D {w : World} {A : Around} {mg mb : PySem.Str → Option Value} {s : Shared} {Q E : Value → Shared → Prop} {h₀ : Heap} {L : Addr} {m : PySem.Str → Option Value} {lex dl sio ds : Addr} {o1 o2 : Obj} {es : List DictEntry} {n : Nat} {nl : Value} {text : PySem.Str} {tb tp t : Tok} {pos : Nat} (F : Fr h₀ L s.heap m) (N : News h₀ L s.heap [(lex, o1), (dl, o2), (sio, instObj 646 ds), (ds, dictOf es n)])
    (X : (K w.params).In h₀) (T : TopQ mg mb h₀) (hd : A.depth + 3 < recursionLimit) (hN : LexNe lex dl sio ds) (hE : ES es (sioMap nl text tb pos tp)) (hp : pos ≤ text.cps.size) (hz : text.cps.size < 100000)
    (U : ∀ es' n' h' tk' tp' t', Fr h₀ L h' m → News h₀ L h' [(lex, o1), (dl, o2), (sio, instObj 646 ds), (ds, dictOf es' n')] → ES es' (sioMap nl text tb (if pos < text.cps.size then pos + 1 else pos : Nat) tp') → Q (.str (at1 text pos) t') { s with heap := h', toks := tk' }) :
    wpAny (model pw w) A (call (.ref 592) [.ref sio, .int 1 t]) Q E s :=
  read_F F N X T hd (.tail _ (.tail _ (.head _))) (.tail _ (.tail _ (.tail _ (.head _)))) hN.l3 hN.l4 hE hp hz hN.n6
    fun es' n' => ⟨_, .tail hN.n3 (.tail hN.n5 (.tail hN.n6 (.head (List.forall_mem_nil _)))), fun h' tk' tp' t' => U es' n' h' tk' tp' t'⟩
theorem sio_read (P : Params) : plainGet (K P) 646 (PySem.Str.ofString "read") = true ∧ findIn (K P) (.ref 646) (PySem.Str.ofString "read") = some (some (.ref 592)) ∧ isFn (K P) (.ref 592) = true ∧ keepIn (K P) (.ref 592) = true := ⟨by kernel_rfl, by kernel_rfl, by kernel_rfl, by kernel_rfl⟩
theorem rd_do {w : World} {A : Around} {mg mb : PySem.Str → Option Value} {p : LP} {m : PySem.Str → Option Value} {k : Nat} {tok : List Nat} {pos : Nat} {qn : PySem.Str} {sc : Scope} {f : Addr} {cd : Value} {p1 p2 p3 p4 p6 : Pos} {k1 : Nat}
    (X : (K w.params).In p.g) (T : TopQ mg mb p.g) (hd : A.depth + 3 < recursionLimit) (hN : LexNe p.lex p.dl p.C.sio p.ds) (ms : m (PySem.Str.ofString "self") = some (.ref p.lex)) (kf : sc.kind = .function) (kx : sc.names.lookup (PySem.Str.ofString "self") = some .local) (kn : sc.names.lookup (PySem.Str.ofString "nextchar") = some .local)
    (hp : pos ≤ p.text.cps.size) (hz : p.text.cps.size < 100000) :
    DO w A (envOf qn sc p.L f cd) (LX p m k tok pos) (.Assign [.Name (PySem.Str.ofString "nextchar") p1] (.Call (.Attribute (.Attribute (.Name (PySem.Str.ofString "self") p2) (PySem.Str.ofString "instream") p3) (PySem.Str.ofString "read") ⟨615, 27, 615, 45⟩) [.Constant (.int 1) k1 p4] [] ⟨615, 27, 615, 48⟩) p6)
      (fun s => ∃ t, LX p (fun y => if y = PySem.Str.ofString "nextchar" then some (.str (at1 p.text pos) t) else m y) k tok (if pos < p.text.cps.size then pos + 1 else pos) s) := by
  intro s Q E hs hq
  refine wpAny_Assign_Name (MethodCall_ ?_) rfl
  refine lx_attr (P := (· = .ref p.C.sio)) X ms kf kx (.tail _ (.tail _ (.tail _ (.tail _ (.tail _ (.head _)))))) (fun _ _ _ _ _ => ⟨_, rfl, rfl, rfl⟩) s _ _ hs fun v s1 hv hs1 => ?_
  subst hv
  obtain ⟨st, tt, ln, tl, el, nl, es, ns, tp, h, tk, rfl, h1, F, N, hL, r⟩ := hs1
  obtain ⟨a1, a2, a3, a4⟩ := sio_read w.params
  refine meth_es F X N (.tail _ (.tail _ (.head _))) (.tail _ (.tail _ (.tail _ (.head _)))) r a1 a2 a3 rfl ?_
  refine callWith_K X a4 (args_cons (wpAny_Constant_int (args_nil ⟨X.keeps F.keep, ?_⟩)))
  refine read_D F N X T hd hN r hp hz fun es' n' h' tk' tp' t' F' N' E' => ?_
  refine wpAny_storeName_local kn F'.ns (fun h2 hn hs' => ?_) (by show (sc.kind == .class || (sc.kind == .module && p.L != mainGlobals)) = false; rw [kf]; rfl)
  exact hq _ ⟨t', st, tt, ln, tl, el, nl, es', n', tp', h2, _, rfl, h1, F'.set hn hs', N'.set hs', hL, E'⟩
theorem nl_do {w : World} {A : Around} {mg mb : PySem.Str → Option Value} {p : LP} {m : PySem.Str → Option Value} {k : Nat} {tok : List Nat} {pos : Nat} {qn : PySem.Str} {sc : Scope} {f : Addr} {cd : Value} {p1 p2 p3 p4 p5 p6 p7 p8 : Pos} {k1 k2 : Nat} {x : PySem.Str} {t : Tok}
    (X : (K w.params).In p.g) (T : TopQ mg mb p.g) (hN : LexNe p.lex p.dl p.C.sio p.ds) (ms : m (PySem.Str.ofString "self") = some (.ref p.lex)) (mn : m (PySem.Str.ofString "nextchar") = some (.str x t)) (kf : sc.kind = .function) (kx : sc.names.lookup (PySem.Str.ofString "self") = some .local) (kn : sc.names.lookup (PySem.Str.ofString "nextchar") = some .local) :
    DO w A (envOf qn sc p.L f cd) (LX p m k tok pos) (.If (.Compare (.Name (PySem.Str.ofString "nextchar") p1) [.Eq] [.Constant (.str (PySem.Str.ofString "\n")) k1 p2] p3) [.AugAssign (.Attribute (.Name (PySem.Str.ofString "self") p4) (PySem.Str.ofString "lineno") p5) .Add (.Constant (.int 1) k2 p6) p7] [] p8) (LX p m k tok pos) := by
  intro s Q E hs hq
  obtain ⟨st, tt, ln, tl, el, nl, es, ns, tp, h, tk, rfl, h1, F, N, hL, r⟩ := hs
  exact if_nl F N X T hL hN.n1 (fun z => hN.n4 z.symm) (fun z => hN.n5 z.symm) mn ms kf kn kx fun h' tk' el' n' ln' tl' F' N' E' => hq _ ⟨st, tt, ln', tl', el', n', es, ns, tp, h', tk', rfl, h1, F', N', E', r⟩
end Mine
end

section
open PySem PySem.W PyProof.Rows PySem.Calls PySem.Spec
namespace Mine
/-- the locals of the loop -/
noncomputable def locM (nc : Option Value) (qd : Bool) (m0 : PySem.Str → Option Value) : PySem.Str → Option Value := fun y => if y = PySem.Str.ofString "nextchar" then nc else if y = PySem.Str.ofString "quoted" then some (.bool qd) else m0 y
noncomputable def m0 (lex : Addr) (ev : Value) : PySem.Str → Option Value := fun y => if y = PySem.Str.ofString "self" then some (.ref lex) else if y = PySem.Str.ofString "escapedstate" then some ev else none
theorem loc_nc (nc : Option Value) (qd : Bool) (m : PySem.Str → Option Value) (v : Value) : (fun y => if y = PySem.Str.ofString "nextchar" then some v else locM nc qd m y) = locM (some v) qd m := by
  funext y; unfold locM; by_cases h : y = PySem.Str.ofString "nextchar"
  · rw [if_pos h, if_pos h]
  · rw [if_neg h, if_neg h, if_neg h]
theorem loc_qd (nc : Option Value) (qd b : Bool) (m : PySem.Str → Option Value) : (fun y => if y = PySem.Str.ofString "quoted" then some (.bool b) else locM nc qd m y) = locM nc b m := by
  funext y; unfold locM; by_cases h : y = PySem.Str.ofString "quoted"
  · rw [if_pos h]; subst h; rfl
  · rw [if_neg h]; by_cases h2 : y = PySem.Str.ofString "nextchar"
    · rw [if_pos h2, if_pos h2]
    · rw [if_neg h2, if_neg h2, if_neg h, if_neg h]
theorem loc_init (lex : Addr) (ev : Value) : (fun y => if y = PySem.Str.ofString "escapedstate" then some ev else if y = PySem.Str.ofString "quoted" then some (.bool false) else List.lookup y [(PySem.Str.ofString "self", Value.ref lex)].reverse) = locM none false (m0 lex ev) := by
  funext y; unfold locM m0
  by_cases h1 : y = PySem.Str.ofString "escapedstate"
  · subst h1; rfl
  · by_cases h2 : y = PySem.Str.ofString "quoted"
    · subst h2; rfl
    · by_cases h3 : y = PySem.Str.ofString "nextchar"
      · subst h3; rfl
      · by_cases h4 : y = PySem.Str.ofString "self"
        · subst h4; rfl
        · rw [if_neg h1, if_neg h2, if_neg h3, if_neg h2, if_neg h4, if_neg h1]
          show List.lookup y [(PySem.Str.ofString "self", Value.ref lex)] = none
          rw [List.lookup_cons]
          have : (y == PySem.Str.ofString "self") = false := by simpa using h4
          rw [this]; rfl
theorem ws_safe {c : Nat} (h : safeCp c = true) : decide (c ∈ (PySem.Str.ofString " \t\r\n").cps.toList) = false ∧ decide (c ∈ (PySem.Str.ofString "\\").cps.toList) = false ∧ decide (c ∈ (PySem.Str.ofString "'\"").cps.toList) = false := by
  obtain ⟨a1, a2, a3, a4, a5, a6, a7⟩ := safe_not c h
  rw [show (PySem.Str.ofString " \t\r\n").cps.toList = [32, 9, 13, 10] by decide +kernel, show (PySem.Str.ofString "\\").cps.toList = [92] by decide +kernel, show (PySem.Str.ofString "'\"").cps.toList = [39, 34] by decide +kernel]
  simp [a1, a2, a3, a4, a5, a6, a7]
theorem in_esc {c : Nat} (h : c ≠ 92) : decide (c ∈ (PySem.Str.ofString "\\").cps.toList) = false := by
  rw [show (PySem.Str.ofString "\\").cps.toList = [92] by decide +kernel]; simp [h]
inductive TurnPost (I : Nat → Shared → Prop) (P : Shared → Prop) (n : Nat) : Flow → Shared → Prop
  | next {s : Shared} (m : Nat) : m < n → I m s → TurnPost I P n .next s
  | cont {s : Shared} (m : Nat) : m < n → I m s → TurnPost I P n .cont s
  | brk {s : Shared} : P s → TurnPost I P n .brk s
theorem while_I {w : World} {A : Around} {s : Shared} {test : PySem.Expr} {body orelse : List Stmt} {pos : Pos} {env : Env} (I : Nat → Shared → Prop) (P : Shared → Prop)
    (turn : ∀ n s, I n s → ∀ TP : Flow → Shared → Prop, (∀ f s', TurnPost I P n f s' → TP f s') → wpAny (model pw w) A (PySem.isTrue test env (eval test env)) (fun b s₂ => if b then wpAny (model pw w) A (execs body env) TP (fun _ _ => False) s₂ else wpAny (model pw w) A (execs orelse env) (fun f s₃ => f = .next ∧ P s₃) (fun _ _ => False) s₂) (fun _ _ => False) s)
    (n : Nat) (h : I n s) : wpAny (model pw w) A (exec (.While test body orelse pos) env) (fun fl s' => fl = .next ∧ P s') (fun _ _ => False) s := by
  refine wpAny_While (codeAny_whileLoop I (fun n s hI => ?_) n h)
  refine wpAny_mono (turn n s hI (TurnPost I P n) (fun _ _ x => x)) (fun b s₂ hb => ?_) (fun _ _ x => x.elim)
  cases b with
  | true => exact wpAny_mono hb (fun f s₃ hf => by cases hf with | next m a b => exact ⟨m, a, b⟩ | cont m a b => exact ⟨m, a, b⟩ | brk a => exact ⟨rfl, a⟩) (fun _ _ x => x.elim)
  | false => exact wpAny_mono hb (fun f s₃ hf => hf) (fun _ _ x => x.elim)
theorem after_while {w : World} {A : Around} {s : Shared} {x : Sem Flow} {Q : Flow → Shared → Prop} {E : Value → Shared → Prop} (P : Shared → Prop) (h : wpAny (model pw w) A x (fun fl s' => fl = .next ∧ P s') (fun _ _ => False) s) (k : ∀ s', P s' → Q .next s') : wpAny (model pw w) A x Q E s :=
  wpAny_mono h (fun fl s' hx => hx.1 ▸ k s' hx.2) (fun _ _ x => x.elim)
structure Rt (w : World) (A : Around) (p : LP) (sc : Scope) (mg mb : PySem.Str → Option Value) : Prop where
  X : (K w.params).In p.g
  T : TopQ mg mb p.g
  hd : A.depth + 3 < recursionLimit
  hN : LexNe p.lex p.dl p.C.sio p.ds
  hz : p.text.cps.size < 100000
  kf : sc.kind = .function
  ks : sc.names.lookup (PySem.Str.ofString "self") = some .local
  kn : sc.names.lookup (PySem.Str.ofString "nextchar") = some .local
  kq : sc.names.lookup (PySem.Str.ofString "quoted") = some .local
  ke : sc.names.lookup (PySem.Str.ofString "escapedstate") = some .local
  kr : sc.names.lookup (PySem.Str.ofString "result") = some .local
noncomputable abbrev M1 (p : LP) (nc : Option Value) (qd : Bool) (ev : Value) : PySem.Str → Option Value := locM nc qd (m0 p.lex ev)
section
variable {w : World} {A : Around} {p : LP} {sc : Scope} {mg mb : PySem.Str → Option Value} {k : Nat} {tok : List Nat} {pos : Nat} {qn : PySem.Str} {f : Addr} {cd : Value} {q q1 q2 q3 q4 q5 q6 : Pos} {e : PySem.Expr} {x : PySem.Str} {t : Tok} {qd : Bool} {ev : Value} {nc : Option Value} {b : Bool} {i : Nat}
theorem e_nc (R : Rt w A p sc mg mb) : EV w A (envOf qn sc p.L f cd) (LX p (M1 p (some (.str x t)) qd ev) k tok pos) (.Name (PySem.Str.ofString "nextchar") q) (IsS x) := (lx_name rfl R.kf R.kn (by decide)).imp fun _ e => ⟨t, e⟩
theorem e_qd (R : Rt w A p sc mg mb) : EV w A (envOf qn sc p.L f cd) (LX p (M1 p nc qd ev) k tok pos) (.Name (PySem.Str.ofString "quoted") q) (· = .bool qd) := lx_name rfl R.kf R.kq (by decide)
theorem e_at (R : Rt w A p sc mg mb) {name : PySem.Str} {P : Value → Prop} (hn : name ∈ lexNames) (hv : ∀ st tt ln tl, StOk st k → ∃ v, lexMap p.C st (.str (tokOf tok) tt) (.int ln tl) name = some v ∧ P v ∧ handedIn v = true) : EV w A (envOf qn sc p.L f cd) (LX p (M1 p nc qd ev) k tok pos) (.Attribute (.Name (PySem.Str.ofString "self") q1) name q2) P :=
  lx_attr R.X rfl R.kf R.ks hn hv
theorem st_handed {st : Value} (h : StOk st k) : handedIn st = true := by
  rcases h with ⟨_, rfl⟩ | ⟨_, t, rfl⟩ <;> rfl
theorem e_st (R : Rt w A p sc mg mb) : EV w A (envOf qn sc p.L f cd) (LX p (M1 p nc qd ev) k tok pos) (.Attribute (.Name (PySem.Str.ofString "self") q1) (PySem.Str.ofString "state") q2) (StOk · k) :=
  e_at R (.head _) fun st _ _ _ h => ⟨st, rfl, h, st_handed h⟩
theorem e_sts (R : Rt w A p sc mg mb) (hk : k ≠ 0) : EV w A (envOf qn sc p.L f cd) (LX p (M1 p nc qd ev) k tok pos) (.Attribute (.Name (PySem.Str.ofString "self") q1) (PySem.Str.ofString "state") q2) (IsS (sg k)) :=
  (e_st R).imp fun _ h => by rcases h with ⟨h, _⟩ | ⟨_, h⟩; exact absurd h hk; exact h
theorem e_tok (R : Rt w A p sc mg mb) : EV w A (envOf qn sc p.L f cd) (LX p (M1 p nc qd ev) k tok pos) (.Attribute (.Name (PySem.Str.ofString "self") q1) (PySem.Str.ofString "token") q2) (IsS (tokOf tok)) :=
  e_at R (.tail _ (.head _)) fun _ t _ _ _ => ⟨_, rfl, ⟨t, rfl⟩, rfl⟩
theorem e_posix (R : Rt w A p sc mg mb) : EV w A (envOf qn sc p.L f cd) (LX p (M1 p nc qd ev) k tok pos) (.Attribute (.Name (PySem.Str.ofString "self") q1) (PySem.Str.ofString "posix") q2) (· = .bool true) :=
  e_at R (by decide) fun _ _ _ _ _ => ⟨_, rfl, rfl, rfl⟩
theorem e_split (R : Rt w A p sc mg mb) : EV w A (envOf qn sc p.L f cd) (LX p (M1 p nc qd ev) k tok pos) (.Attribute (.Name (PySem.Str.ofString "self") q1) (PySem.Str.ofString "whitespace_split") q2) (· = .bool true) :=
  e_at R (by decide) fun _ _ _ _ _ => ⟨_, rfl, rfl, rfl⟩
theorem e_debug (R : Rt w A p sc mg mb) : EV w A (envOf qn sc p.L f cd) (LX p (M1 p nc qd ev) k tok pos) (.Attribute (.Name (PySem.Str.ofString "self") q1) (PySem.Str.ofString "debug") q2) (IsI 0) :=
  e_at R (by decide) fun _ _ _ _ _ => ⟨_, rfl, ⟨_, rfl⟩, rfl⟩
theorem e_quotes (R : Rt w A p sc mg mb) : EV w A (envOf qn sc p.L f cd) (LX p (M1 p nc qd ev) k tok pos) (.Attribute (.Name (PySem.Str.ofString "self") q1) (PySem.Str.ofString "quotes") q2) (IsS (PySem.Str.ofString "'\"")) :=
  e_at R (by decide) fun _ _ _ _ _ => ⟨_, rfl, ⟨_, rfl⟩, rfl⟩
theorem e_white (R : Rt w A p sc mg mb) : EV w A (envOf qn sc p.L f cd) (LX p (M1 p nc qd ev) k tok pos) (.Attribute (.Name (PySem.Str.ofString "self") q1) (PySem.Str.ofString "whitespace") q2) (IsS (PySem.Str.ofString " \t\r\n")) :=
  e_at R (by decide) fun _ _ _ _ _ => ⟨_, rfl, ⟨_, rfl⟩, rfl⟩
theorem e_comm (R : Rt w A p sc mg mb) : EV w A (envOf qn sc p.L f cd) (LX p (M1 p nc qd ev) k tok pos) (.Attribute (.Name (PySem.Str.ofString "self") q1) (PySem.Str.ofString "commenters") q2) (IsS (PySem.Str.ofString "")) :=
  e_at R (by decide) fun _ _ _ _ _ => ⟨_, rfl, ⟨_, rfl⟩, rfl⟩
theorem e_esc (R : Rt w A p sc mg mb) : EV w A (envOf qn sc p.L f cd) (LX p (M1 p nc qd ev) k tok pos) (.Attribute (.Name (PySem.Str.ofString "self") q1) (PySem.Str.ofString "escape") q2) (IsS (PySem.Str.ofString "\\")) :=
  e_at R (by decide) fun _ _ _ _ _ => ⟨_, rfl, ⟨_, rfl⟩, rfl⟩
theorem e_escq (R : Rt w A p sc mg mb) : EV w A (envOf qn sc p.L f cd) (LX p (M1 p nc qd ev) k tok pos) (.Attribute (.Name (PySem.Str.ofString "self") q1) (PySem.Str.ofString "escapedquotes") q2) (IsS (PySem.Str.ofString "\"")) :=
  e_at R (by decide) fun _ _ _ _ _ => ⟨_, rfl, ⟨_, rfl⟩, rfl⟩
theorem e_word (R : Rt w A p sc mg mb) : EV w A (envOf qn sc p.L f cd) (LX p (M1 p nc qd ev) k tok pos) (.Attribute (.Name (PySem.Str.ofString "self") q1) (PySem.Str.ofString "wordchars") q2) (IsS wordCs) :=
  e_at R (by decide) fun _ _ _ _ _ => ⟨_, rfl, ⟨_, rfl⟩, rfl⟩
theorem e_punct (R : Rt w A p sc mg mb) : EV w A (envOf qn sc p.L f cd) (LX p (M1 p nc qd ev) k tok pos) (.Attribute (.Name (PySem.Str.ofString "self") q1) (PySem.Str.ofString "punctuation_chars") q2) (IsS (PySem.Str.ofString "")) :=
  lx_punct R.X R.T (by have := R.hd; omega) R.hN rfl R.kf R.ks
/-! tests -/
theorem t_none (R : Rt w A p sc mg mb) (hb : decide (k = 0) = b) : TV w A (envOf qn sc p.L f cd) (LX p (M1 p nc qd ev) k tok pos) (.Compare (.Attribute (.Name (PySem.Str.ofString "self") q1) (PySem.Str.ofString "state") q2) [.Is] [.Constant .none i q3] q4) b :=
  .cmp (e_st R) EV.none rfl fun v _ s Q E h e2 hs hq => by
    subst e2
    refine is_none_gen ?_
    rcases h with ⟨rfl, rfl⟩ | ⟨hk, t, rfl⟩
    · rw [show (Value.none == Value.none) = b from hb]; exact hq s hs
    · rw [decide_eq_false hk] at hb; rw [show (Value.str (sg k) t == Value.none) = b from hb]; exact hq s hs
theorem t_nc (R : Rt w A p sc mg mb) (hz : x.cps.size < 1000000) (hb : decide (x.cps.size ≠ 0) = b) : TV w A (envOf qn sc p.L f cd) (LX p (M1 p (some (.str x t)) qd ev) k tok pos) (.Name (PySem.Str.ofString "nextchar") q) b :=
  .str_ lx_tk (e_nc R) hz hb rfl
theorem t_dbg (R : Rt w A p sc mg mb) {j : Int} (hj : decide (j ≤ 0) = false) : TV w A (envOf qn sc p.L f cd) (LX p (M1 p nc qd ev) k tok pos) (.Compare (.Attribute (.Name (PySem.Str.ofString "self") q1) (PySem.Str.ofString "debug") q2) [.GtE] [.Constant (.int j) i q3] q4) false :=
  .ge (e_debug R) (.int lx_tk) hj
theorem t_posix (R : Rt w A p sc mg mb) : TV w A (envOf qn sc p.L f cd) (LX p (M1 p nc qd ev) k tok pos) (.Attribute (.Name (PySem.Str.ofString "self") q1) (PySem.Str.ofString "posix") q2) true := .bool_ (e_posix R) rfl
theorem t_tq (R : Rt w A p sc mg mb) (ht : tok.length < 1000000) (hb : (decide (tok ≠ []) || qd) = b) : TV w A (envOf qn sc p.L f cd) (LX p (M1 p nc qd ev) k tok pos) (.BoolOp .Or [.Attribute (.Name (PySem.Str.ofString "self") q1) (PySem.Str.ofString "token") q2, .BoolOp .And [.Attribute (.Name (PySem.Str.ofString "self") q3) (PySem.Str.ofString "posix") q4, .Name (PySem.Str.ofString "quoted") q5] q6] q) b :=
  hb ▸ TV.or2 (TV.str_ lx_tk (e_tok R) (by show tok.toArray.size < _; rw [List.size_toArray]; exact ht) (by show decide (tok.toArray.size ≠ 0) = _; rw [List.size_toArray]; simp) rfl) (fun _ => TV.and2 (a := true) (t_posix R) fun _ => .bool_ (e_qd R) rfl)
theorem t_ac (R : Rt w A p sc mg mb) (hk : k ≠ 0) (hb : [PySem.Str.ofString "a", PySem.Str.ofString "c"].any (· == sg k) = b) {i j l : Nat} : TV w A (envOf qn sc p.L f cd) (LX p (M1 p nc qd ev) k tok pos) (.Compare (.Attribute (.Name (PySem.Str.ofString "self") q1) (PySem.Str.ofString "state") q2) [.In] [.Tuple [.Constant (.str (PySem.Str.ofString "a")) i q3, .Constant (.str (PySem.Str.ofString "c")) j q4] l q5] q6) b := by
  intro s Q E hs hq
  refine wpAny_isTrue_Compare1 (e_sts R hk s _ _ hs fun v s1 hv hs1 => ?_) rfl
  obtain ⟨t, rfl⟩ := hv
  obtain ⟨st, tt, ln, tl, el, nl, es, ns, tp, h, tk, rfl, h1, F, N, r⟩ := hs1
  refine wpAny_Tuple (args_cons (wpAny_Constant_str (args_cons (wpAny_Constant_str (args_nil ⟨by rw [sizeLine_eq]; show 2 ≤ _; decide, ?_⟩)))))
  refine in_tuple_strs (ys := [PySem.Str.ofString "a", PySem.Str.ofString "c"]) ⟨_, Heap.get?_push_size _ rfl, rfl, _, rfl⟩ (.cons _ _ (.cons _ _ .nil)) ?_
  rw [hb]
  refine wpAny_truthy_bool (hq _ ⟨st, tt, ln, tl, el, nl, es, ns, tp, _, _, rfl, h1, F.keeps fun b o e => Heap.get?_push_of_some _ e, N.pushKeep _, r⟩)
end
end Mine
end

section
open PySem PySem.W PyProof.Rows PySem.Calls PySem.Spec
namespace Mine
noncomputable abbrev KpBut2 (d e : Addr) (h h' : Heap) : Prop := ∀ b o, b ≠ d → b ≠ e → h.get? b = some o → h'.get? b = some o
/-- a lexer between two reads -/
noncomputable def LexIn (h : Heap) (lex dl ds : Addr) (C : LexC) (nlv : Value) (text : PySem.Str) (tb : Tok) (k pos : Nat) : Prop :=
  ∃ st tt ln tl el nl es ns tp, h.get? lex = some (instObj 781 dl) ∧ h.get? dl = some (dictOf el nl) ∧ h.get? C.sio = some (instObj 646 ds) ∧ h.get? ds = some (dictOf es ns) ∧ ES el (lexMap C st (.str (tokOf []) tt) (.int ln tl)) ∧ ES es (sioMap nlv text tb pos tp) ∧ StOk st k ∧ pos ≤ text.cps.size
noncomputable def LS (p : LP) (k : Nat) (tok : List Nat) (qd : Bool) (pos : Nat) (s : Shared) : Prop := pos ≤ p.text.cps.size ∧ tok.length ≤ pos ∧ ∃ nc ev, LX p (M1 p nc qd ev) k tok pos s
theorem stOk_s {k : Nat} (hk : k ≠ 0) {x : PySem.Str} (hx : x = sg k) (v : Value) (h : IsS x v) : StOk v k := .inr ⟨hk, hx ▸ h⟩
theorem stOk_n (v : Value) (h : v = .none) : StOk v 0 := .inl ⟨rfl, h⟩
theorem ofs_a : PySem.Str.ofString "a" = sg 97 := by decide +kernel
theorem ofs_sp : PySem.Str.ofString " " = sg 32 := by decide +kernel
theorem sg_ne {c k : Nat} (h : c ≠ k) : (sg c == sg k) = false := by
  rw [beq_eq_false_iff_ne]; intro e; exact h (by injection e with e; simpa using e)
theorem TV.to {w : World} {A : Around} {env : Env} {S : Shared → Prop} {e : PySem.Expr} {a b : Bool} (h : TV w A env S e a) (hab : a = b) : TV w A env S e b := hab ▸ h
theorem TV.gt {w : World} {A : Around} {env : Env} {S : Shared → Prop} {l r : PySem.Expr} {q : Pos} {b : Bool} {i j : Int} (hl : EV w A env S l (IsI i)) (hr : EV w A env S r (IsI j)) (hb : decide (j < i) = b) : TV w A env S (.Compare l [.Gt] [r] q) b :=
  .cmp hl hr (by cases r <;> first | rfl | exact Bool.and_eq_false_iff.mpr (.inl (Bool.and_eq_false_iff.mpr (.inr rfl)))) fun _ _ s _ _ ⟨_, e1⟩ ⟨_, e2⟩ hs h => by subst e1 e2; exact PyProof.Rows.gt_int (hb.symm ▸ h s hs)
theorem lx_localP {w : World} {A : Around} {p : LP} {m : PySem.Str → Option Value} {k : Nat} {tok : List Nat} {pos : Nat} {qn : PySem.Str} {sc : Scope} {f : Addr} {cd : Value} {P : Value → Prop} {q1 q3 : Pos} {e : PySem.Expr} {x : PySem.Str} (kf : sc.kind = .function) (kx : sc.names.lookup x = some .local)
    (he : EV w A (envOf qn sc p.L f cd) (LX p m k tok pos) e P) (hsw : swapsWith e (some (.Name x q1)) q3.line (envOf qn sc p.L f cd) = pure false) :
    DO w A (envOf qn sc p.L f cd) (LX p m k tok pos) (.Assign [.Name x q1] e q3) (fun s => ∃ v, P v ∧ LX p (fun y => if y = x then some v else m y) k tok pos s) := by
  intro s Q E hs h
  refine wpAny_Assign_Name (he s _ _ hs fun v s1 hv hs1 => ?_) hsw
  obtain ⟨st, tt, ln, tl, el, nl, es, ns, tp, hp, tk, rfl, h1, F, N, hL, r⟩ := id hs1
  refine wpAny_storeName_local kx F.ns (fun h' hn hs' => ?_) (by show (sc.kind == .class || (sc.kind == .module && p.L != mainGlobals)) = false; rw [kf]; rfl)
  exact h _ ⟨v, hv, st, tt, ln, tl, el, nl, es, ns, tp, h', _, rfl, h1, F.set hn hs', N.set hs', hL, r⟩
theorem tx_posix {w : World} {A : Around} {p : LP} {m mg mb : PySem.Str → Option Value} {k : Nat} {tok : List Nat} {pos : Nat} {qn : PySem.Str} {sc : Scope} {f : Addr} {cd : Value} {q1 q2 : Pos} (R : Rt w A p sc mg mb) (ms : m (PySem.Str.ofString "self") = some (.ref p.lex)) :
    TV w A (envOf qn sc p.L f cd) (LX p m k tok pos) (.Attribute (.Name (PySem.Str.ofString "self") q1) (PySem.Str.ofString "posix") q2) true := .bool_ (lx_attr (P := (· = .bool true)) R.X ms R.kf R.ks (by decide) (fun _ _ _ _ _ => ⟨_, rfl, rfl, rfl⟩)) rfl
theorem tx_dbg {w : World} {A : Around} {p : LP} {m mg mb : PySem.Str → Option Value} {k : Nat} {tok : List Nat} {pos : Nat} {qn : PySem.Str} {sc : Scope} {f : Addr} {cd : Value} {q1 q2 q3 q4 : Pos} {i : Nat} (R : Rt w A p sc mg mb) (ms : m (PySem.Str.ofString "self") = some (.ref p.lex)) :
    TV w A (envOf qn sc p.L f cd) (LX p m k tok pos) (.Compare (.Attribute (.Name (PySem.Str.ofString "self") q1) (PySem.Str.ofString "debug") q2) [.Gt] [.Constant (.int 1) i q3] q4) false := .gt (i := 0) (lx_attr R.X ms R.kf R.ks (by decide) (fun _ _ _ _ _ => ⟨_, rfl, ⟨_, rfl⟩, rfl⟩)) (.int lx_tk) rfl
theorem with_LP {P : LP → Prop} {g : Heap} {L : Addr} {s : Shared} {lex dl ds : Addr} {C : LexC} {nlv : Value} {text : PySem.Str} {tb : Tok} (h : ∀ p : LP, p.g = g → p.L = L → p.s = s → p.lex = lex → p.dl = dl → p.ds = ds → p.C = C → p.nlv = nlv → p.text = text → p.tb = tb → P p) : P (LP.mk g L s lex dl ds C nlv text tb) := h _ rfl rfl rfl rfl rfl rfl rfl rfl rfl rfl
theorem with_Rt {w : World} {A : Around} {p : LP} {qn : PySem.Str} {sc : Scope} {f : Addr} {cd : Value} {body : List Stmt} {Q : Flow → Shared → Prop} {E : Value → Shared → Prop} {s : Shared} {mg mb : PySem.Str → Option Value} (R : Rt w A p sc mg mb) (h : Rt w A p sc mg mb → wpAny (model pw w) A (execs body (envOf qn sc p.L f cd)) Q E s) : wpAny (model pw w) A (execs body (envOf qn sc p.L f cd)) Q E s := h R
theorem lx_kp {p : LP} {m : PySem.Str → Option Value} {k pos : Nat} {s : Shared} {tok : List Nat} {h0 : Heap} {el es : List DictEntry} {nl ns : Nat} (h : LX p m k tok pos s) (kg2 : ∀ b o, h0.get? b = some o → b ∉ [(p.lex, instObj 781 p.dl), (p.dl, dictOf el nl), (p.C.sio, instObj 646 p.ds), (p.ds, dictOf es ns)].map (·.1) → p.g.get? b = some o) (h1 : h0.get? p.lex = some (instObj 781 p.dl)) (h3 : h0.get? p.C.sio = some (instObj 646 p.ds)) : KpBut2 p.dl p.ds h0 s.heap := by
  obtain ⟨st, tt, ln, tl, el, nl, es, ns, tp, h, tk, rfl, _, F, N, _⟩ := h
  intro b o hb1 hb2 e
  by_cases hl : b = p.lex
  · subst hl; rw [h1] at e; cases e; exact (N _ (.head _)).1
  · by_cases hl2 : b = p.C.sio
    · subst hl2; rw [h3] at e; cases e; exact (N _ (.tail _ (.tail _ (.head _)))).1
    · exact F.keep _ _ (kg2 b o e (by simp [hl, hl2, hb1, hb2]))
theorem lexin_of {p : LP} {m : PySem.Str → Option Value} {k pos : Nat} {s : Shared} (h : LX p m k [] pos s) (hp : pos ≤ p.text.cps.size) : LexIn s.heap p.lex p.dl p.ds p.C p.nlv p.text p.tb k pos := by
  obtain ⟨st, tt, ln, tl, el, nl, es, ns, tp, h, tk, rfl, h1, F, N, hL, r⟩ := h
  exact ⟨st, tt, ln, tl, el, nl, es, ns, tp, (N _ (.head _)).1, (N _ (.tail _ (.head _))).1, (N _ (.tail _ (.tail _ (.head _)))).1, (N _ (.tail _ (.tail _ (.tail _ (.head _))))).1, hL, r, h1, hp⟩
set_option maxHeartbeats 4000000 in
theorem rt_spec {w : World} {A : Around} {mg mb : PySem.Str → Option Value} {s : Shared} {lex dl ds : Addr} {C : LexC} {text : PySem.Str} {k pos : Nat} {nlv : Value} {tb : Tok} {Q E : Value → Shared → Prop} {tok' : List Nat} {qd' : Bool} {k' : Nat} {rest : List Nat}
    (X : (K w.params).In s.heap) (T : TopQ mg mb s.heap) (hd : A.depth + 5 < recursionLimit) (hN : LexNe lex dl C.sio ds) (hI : LexIn s.heap lex dl ds C nlv text tb k pos) (hz : text.cps.size < 100000)
    (hgo : lexGo k [] false (text.cps.toList.drop pos) = some (tok', qd', k', rest))
    (h : ∀ h' tk' t' pos', KpBut2 dl ds s.heap h' → LexIn h' lex dl ds C nlv text tb k' pos' → text.cps.toList.drop pos' = rest → Q (if tok' = [] ∧ qd' = false then .none else .str (tokOf tok') t') { s with heap := h', toks := tk' }) :
    wpAny (model pw w) A (call (.ref 749) [.ref lex]) Q E s := by
  obtain ⟨st, tt, ln, tl, el, nl, es, ns, tp, h1, h2, h3, h4, hL, hS, hst, hp⟩ := hI
  refine wpAny_call ?_
  k_dflt (refine' enterN (binds := [(PySem.Str.ofString "self", .ref lex)]) [(lex, instObj 781 dl), (dl, dictOf el nl), (C.sio, instObj 646 ds), (ds, dictOf es ns)] ?hn X T ?k6 ?k7 ?k8 ?k9 ?kB ?_ ?c2 ?c3 ?c4 ?c5; (case hn => intro p hp; rcases List.mem_cons.mp hp with rfl | hp; exact ⟨h1, hN.l1⟩; rcases List.mem_cons.mp hp with rfl | hp; exact ⟨h2, hN.l2⟩; rcases List.mem_cons.mp hp with rfl | hp; exact ⟨h3, hN.l3⟩; rcases List.mem_cons.mp hp with rfl | hp; exact ⟨h4, hN.l4⟩; cases hp); (case k6 => k_is); (case k7 => k_is); (case k8 => omega); (case k9 => exact BindsTo.of_eq rfl); (case c5 => decide); (case kB => exact locs rfl); (case c2 => exact rfl); (case c3 => exact rfl); (case c4 => exact rfl); k_whole; intro g' h' kg kg2 gsz F' N' X' T'; (try dsimp only))
  revert F' N' X' T' gsz kg2 kg
  refine with_LP (P := fun p => Kp p.g p.s.heap → (∀ b o, p.s.heap.get? b = some o → b ∉ [(p.lex, instObj 781 p.dl), (p.dl, dictOf el nl), (p.C.sio, instObj 646 p.ds), (p.ds, dictOf es ns)].map (·.1) → p.g.get? b = some o) → p.g.objs.size = p.s.heap.objs.size → Fr p.g p.L h' _ → News p.g p.L h' [(p.lex, instObj 781 p.dl), (p.dl, dictOf el nl), (p.C.sio, instObj 646 p.ds), (p.ds, dictOf es ns)] → (K w.params).In p.g → TopQ mg mb p.g → wpAny (model pw w) (A.deeper (envOf _ _ p.L 749 _)) (execs _ (envOf _ _ p.L 749 _)) _ _ _) (g := g') (L := s.heap.objs.size) (s := s) (lex := lex) (dl := dl) (ds := ds) (C := C) (nlv := nlv) (text := text) (tb := tb) ?_
  rintro p rfl hL0 rfl rfl rfl rfl rfl rfl rfl rfl kg kg2 gsz F' N' X' T'
  k_dflt (refine with_Rt ⟨X', T', (by simp only [depth_deeper]; omega), hN, hz, rfl, rfl, rfl, rfl, rfl, rfl⟩ fun R => ?_)
  have hs : LX p _ k [] pos _ := ⟨st, tt, ln, tl, el, nl, es, ns, tp, h', p.s.toks + 1, rfl, hst, F', N', hL, hS⟩
  refine seq (lx_local R.kf R.kq rfl EV.bool rfl) hs fun s1 hs => ?_
  refine seq (lx_localP R.kf R.ke (EV.str lx_tk) rfl) hs ?_
  rintro s1 ⟨ev0, -, hs⟩
  rw [loc_init] at hs
  refine wpAny_execs_cons (after_while (fun s' => ∃ pos', p.text.cps.toList.drop pos' = rest ∧ LS p k' tok' qd' pos' s') ?loop ?after)
  case loop =>
    refine while_I (fun n s₁ => ∃ k₁ tok₁ qd₁ pos₁, n = p.text.cps.size + 1 - pos₁ ∧ lexGo k₁ tok₁ qd₁ (p.text.cps.toList.drop pos₁) = some (tok', qd', k', rest) ∧ LS p k₁ tok₁ qd₁ pos₁ s₁) _ ?turn (p.text.cps.size + 1 - pos) ⟨k, [], false, pos, rfl, hgo, hp, Nat.zero_le _, _, _, hs⟩
    case turn =>
      clear hgo hs hp hst hL hS h1 h2 h3 h4
      rintro n s₁ ⟨k, tok, qd, pos, rfl, hgo, hp, htl, nc, ev, hs⟩ TP hTP
      have hz := R.hz
      refine TV.bool_ (S := LX p (M1 p nc qd ev) k tok pos) EV.bool rfl s₁ _ _ hs fun s₁ hs => ?_
      refine seq (DO.ifF (TV.and2 (a := false) (b := false) (TV.str_ lx_tk (e_punct R) (by decide +kernel) (by decide +kernel) rfl) (fun e => by cases e)) (rd_do R.X R.T R.hd R.hN rfl R.kf R.ks R.kn hp R.hz)) hs ?_
      rintro s₁ ⟨t, hs⟩
      rw [loc_nc] at hs
      refine seq (nl_do R.X R.T R.hN rfl rfl R.kf R.ks R.kn) hs fun s₁ hs => ?_
      refine seq (DO.skip (t_dbg R rfl)) hs fun s₁ hs => execs_one ?_
      cases hr : p.text.cps.toList.drop pos with
      | nil =>
        rw [hr] at hgo
        rw [at1_nil hr, if_neg (at1_end hr)] at hs
        by_cases hk : k = 0
        · rw [lexGo, if_pos hk] at hgo
          cases hgo
          refine if_t (t_none R (decide_eq_true hk)) hs fun s₁ hs => ?_
          refine seq (lx_token R.X R.hN rfl R.kf R.ks (EV.str lx_tk) rfl) hs fun s₁ hs => ?_
          exact execs_one (wpAny_Break (hTP _ _ (.brk ⟨pos, hr, hp, Nat.zero_le _, _, _, hk ▸ hs⟩)))
        · have hk2 : k = 32 ∨ k = 97 := by
            rw [lexGo, if_neg hk] at hgo
            split at hgo
            · assumption
            · cases hgo
          rw [lexGo, if_neg hk, if_pos hk2] at hgo
          cases hgo
          refine if_f (t_none R (decide_eq_false hk)) hs fun s₁ hs => execs_one ?_
          rcases hk2 with rfl | rfl
          · refine if_t (TV.eq_ (e_sts R hk) (EV.str lx_tk) (by decide +kernel)) hs fun s₁ hs => execs_one ?_
            refine if_t (TV.not (b := false) (t_nc R (by decide +kernel) (by decide +kernel))) hs fun s₁ hs => ?_
            refine seq (lx_state (k' := 0) R.X R.hN rfl R.kf R.ks (EV.none.imp stOk_n) rfl) hs fun s₁ hs => ?_
            exact execs_one (wpAny_Break (hTP _ _ (.brk ⟨pos, hr, hp, htl, _, _, hs⟩)))
          · refine if_f (TV.eq_ (e_sts R hk) (EV.str lx_tk) (by decide +kernel)) hs fun s₁ hs => execs_one ?_
            refine if_f (TV.in_ (e_sts R hk) (e_quotes R) (by decide +kernel) rfl) hs fun s₁ hs => execs_one ?_
            refine if_f (TV.in_ (e_sts R hk) (e_esc R) (by decide +kernel) rfl) hs fun s₁ hs => execs_one ?_
            refine if_t (t_ac R hk (by decide +kernel)) hs fun s₁ hs => execs_one ?_
            refine if_t (TV.not (b := false) (t_nc R (by decide +kernel) (by decide +kernel))) hs fun s₁ hs => ?_
            refine seq (lx_state (k' := 0) R.X R.hN rfl R.kf R.ks (EV.none.imp stOk_n) rfl) hs fun s₁ hs => ?_
            exact execs_one (wpAny_Break (hTP _ _ (.brk ⟨pos, hr, hp, htl, _, _, hs⟩)))
      | cons c r =>
        rw [hr] at hgo
        obtain ⟨e1, e2, e3⟩ := at1_cons hr
        rw [e1, if_pos e2] at hs
        have hz1 : (sg c).cps.size < 1000000 := by show 1 < 1000000; decide
        have ht1 : decide ((sg c).cps.size ≠ 0) = true := rfl
        have hzt : tok.length < 1000000 := by omega
        have hm1 : p.text.cps.size + 1 - (pos + 1) < p.text.cps.size + 1 - pos := by omega
        by_cases hk : k = 0
        · rw [hk, lexGo] at hgo; simp at hgo
        refine if_f (t_none R (decide_eq_false hk)) hs fun s₁ hs => execs_one ?_
        by_cases hk32 : k = 32
        · subst hk32
          rw [lexGo, if_pos rfl] at hgo
          refine if_t (TV.eq_ (e_sts R hk) (EV.str lx_tk) (by decide +kernel)) hs fun s₁ hs => execs_one ?_
          refine if_f (TV.not (b := true) (t_nc R hz1 ht1)) hs fun s₁ hs => execs_one ?_
          by_cases hsf : safeCp c = true
          · rw [if_pos hsf] at hgo
            obtain ⟨hws, hes, hqt⟩ := ws_safe hsf
            refine if_f (TV.in_ (e_nc R) (e_white R) hws rfl) hs fun s₁ hs => execs_one ?_
            refine if_f (TV.in_ (e_nc R) (e_comm R) (in_emp _) rfl) hs fun s₁ hs => execs_one ?_
            refine if_f (TV.and2 (a := true) (b := false) (t_posix R) fun _ => TV.in_ (e_nc R) (e_esc R) hes rfl) hs fun s₁ hs => execs_one ?_
            cases hw : decide (c ∈ wordCs.cps.toList)
            · refine if_f (TV.in_ (e_nc R) (e_word R) hw rfl) hs fun s₁ hs => execs_one ?_
              refine if_f (TV.in_ (e_nc R) (e_punct R) (in_emp _) rfl) hs fun s₁ hs => execs_one ?_
              refine if_f (TV.in_ (e_nc R) (e_quotes R) hqt rfl) hs fun s₁ hs => execs_one ?_
              refine if_t (TV.bool_ (e_split R) rfl) hs fun s₁ hs => ?_
              refine seq (lx_token (tok' := [c]) R.X R.hN rfl R.kf R.ks (e_nc R) rfl) hs fun s₁ hs => ?_
              exact last (lx_state (k' := 97) R.X R.hN rfl R.kf R.ks ((EV.str lx_tk).imp (stOk_s (by decide) ofs_a)) rfl) hs fun s₁ hs => hTP _ _ (.next _ hm1 ⟨97, [c], qd, pos + 1, rfl, e3.symm ▸ hgo, e2, Nat.succ_le_succ (Nat.zero_le _), _, _, hs⟩)
            · refine if_t (TV.in_ (e_nc R) (e_word R) hw rfl) hs fun s₁ hs => ?_
              refine seq (lx_token (tok' := [c]) R.X R.hN rfl R.kf R.ks (e_nc R) rfl) hs fun s₁ hs => ?_
              exact last (lx_state (k' := 97) R.X R.hN rfl R.kf R.ks ((EV.str lx_tk).imp (stOk_s (by decide) ofs_a)) rfl) hs fun s₁ hs => hTP _ _ (.next _ hm1 ⟨97, [c], qd, pos + 1, rfl, e3.symm ▸ hgo, e2, Nat.succ_le_succ (Nat.zero_le _), _, _, hs⟩)
          · rw [if_neg hsf] at hgo
            by_cases hc : c = 39
            · rw [if_pos hc] at hgo
              subst hc
              refine if_f (TV.in_ (e_nc R) (e_white R) (by decide +kernel) rfl) hs fun s₁ hs => execs_one ?_
              refine if_f (TV.in_ (e_nc R) (e_comm R) (in_emp _) rfl) hs fun s₁ hs => execs_one ?_
              refine if_f (TV.and2 (a := true) (b := false) (t_posix R) fun _ => TV.in_ (e_nc R) (e_esc R) (by decide +kernel) rfl) hs fun s₁ hs => execs_one ?_
              refine if_f (TV.in_ (e_nc R) (e_word R) (by decide +kernel) rfl) hs fun s₁ hs => execs_one ?_
              refine if_f (TV.in_ (e_nc R) (e_punct R) (in_emp _) rfl) hs fun s₁ hs => execs_one ?_
              refine if_t (TV.in_ (e_nc R) (e_quotes R) (by decide +kernel) rfl) hs fun s₁ hs => ?_
              refine seq (DO.skip (TV.not (b := true) (t_posix R))) hs fun s₁ hs => ?_
              exact last (lx_state (k' := 39) R.X R.hN rfl R.kf R.ks ((e_nc R).imp (stOk_s (by decide) rfl)) rfl) hs fun s₁ hs => hTP _ _ (.next _ hm1 ⟨39, tok, qd, pos + 1, rfl, e3.symm ▸ hgo, e2, Nat.le_succ_of_le htl, _, _, hs⟩)
            · rw [if_neg hc] at hgo; cases hgo
        by_cases hkq : k = 39 ∨ k = 34
        · rw [lexGo, if_neg hk32, if_pos hkq] at hgo
          have hsp : (sg k == PySem.Str.ofString " ") = false := by rcases hkq with rfl | rfl <;> decide +kernel
          have hqq : decide (k ∈ (PySem.Str.ofString "'\"").cps.toList) = true := by rcases hkq with rfl | rfl <;> decide +kernel
          refine if_f (TV.eq_ (e_sts R hk) (EV.str lx_tk) hsp) hs fun s₁ hs => execs_one ?_
          refine if_t (TV.in_ (e_sts R hk) (e_quotes R) hqq rfl) hs fun s₁ hs => ?_
          refine seq (lx_local R.kf R.kq (loc_qd _ _ _ _) EV.bool rfl) hs fun s₁ hs => ?_
          refine seq (DO.skip (TV.not (b := true) (t_nc R hz1 ht1))) hs fun s₁ hs => execs_one ?_
          by_cases hc : c = k
          · rw [if_pos hc] at hgo
            refine if_t (TV.eq_ (e_nc R) (e_sts R hk) (hc ▸ beq_self_eq_true _)) hs fun s₁ hs => execs_one ?_
            refine if_f (TV.not (b := true) (t_posix R)) hs fun s₁ hs => ?_
            exact last (lx_state (k' := 97) R.X R.hN rfl R.kf R.ks ((EV.str lx_tk).imp (stOk_s (by decide) ofs_a)) rfl) hs fun s₁ hs => hTP _ _ (.next _ hm1 ⟨97, tok, true, pos + 1, rfl, e3.symm ▸ hgo, e2, Nat.le_succ_of_le htl, _, _, hs⟩)
          · rw [if_neg hc] at hgo
            refine if_f (TV.eq_ (e_nc R) (e_sts R hk) (sg_ne hc)) hs fun s₁ hs => execs_one ?_
            by_cases hbs : k = 34 ∧ c = 92
            · rw [if_pos hbs] at hgo; cases hgo
            rw [if_neg hbs] at hgo
            have hfin : ∀ s₁, LX p (M1 p (some (.str (sg c) t)) true ev) k (tok ++ [c]) (pos + 1) s₁ → TP .next s₁ := fun s₁ hs => hTP _ _ (.next _ hm1 ⟨k, tok ++ [c], true, pos + 1, rfl, e3.symm ▸ hgo, e2, by rw [List.length_append]; exact Nat.succ_le_succ htl, _, _, hs⟩)
            by_cases hc92 : c = 92
            · have hk39 : k = 39 := by rcases hkq with h | h; exact h; exact absurd ⟨h, hc92⟩ hbs
              refine if_f (TV.and3 (a := true) (b := true) (c := false) (t_posix R) (fun _ => TV.in_ (e_nc R) (e_esc R) (hc92 ▸ by decide +kernel) rfl) fun _ _ => TV.in_ (e_sts R hk) (e_escq R) (hk39 ▸ by decide +kernel) rfl) hs fun s₁ hs => ?_
              exact last (lx_more R.X R.hN rfl R.kf R.ks hzt (e_nc R)) hs hfin
            · refine if_f (TV.and3 (a := true) (b := false) (c := false) (t_posix R) (fun _ => TV.in_ (e_nc R) (e_esc R) (in_esc hc92) rfl) fun _ e => by cases e) hs fun s₁ hs => ?_
              exact last (lx_more R.X R.hN rfl R.kf R.ks hzt (e_nc R)) hs hfin
        by_cases hk97 : k = 97
        · subst hk97
          rw [lexGo, if_neg hk32, if_neg hkq, if_pos rfl] at hgo
          refine if_f (TV.eq_ (e_sts R hk) (EV.str lx_tk) (by decide +kernel)) hs fun s₁ hs => execs_one ?_
          refine if_f (TV.in_ (e_sts R hk) (e_quotes R) (by decide +kernel) rfl) hs fun s₁ hs => execs_one ?_
          refine if_f (TV.in_ (e_sts R hk) (e_esc R) (by decide +kernel) rfl) hs fun s₁ hs => execs_one ?_
          refine if_t (t_ac R hk (by decide +kernel)) hs fun s₁ hs => execs_one ?_
          refine if_f (TV.not (b := true) (t_nc R hz1 ht1)) hs fun s₁ hs => execs_one ?_
          by_cases hc32 : c = 32
          · rw [if_pos hc32] at hgo
            subst hc32
            by_cases htk : tok ≠ [] ∨ qd = true
            · rw [if_pos htk] at hgo
              cases hgo
              refine if_t (TV.in_ (e_nc R) (e_white R) (by decide +kernel) rfl) hs fun s₁ hs => ?_
              refine seq (DO.skip (t_dbg R rfl)) hs fun s₁ hs => ?_
              refine seq (lx_state (k' := 32) R.X R.hN rfl R.kf R.ks ((EV.str lx_tk).imp (stOk_s (by decide) ofs_sp)) rfl) hs fun s₁ hs => execs_one ?_
              refine if_t (t_tq R hzt (by simpa using htk)) hs fun s₁ hs => ?_
              exact execs_one (wpAny_Break (hTP _ _ (.brk ⟨pos + 1, e3, e2, Nat.le_succ_of_le htl, _, _, hs⟩)))
            · rw [if_neg htk] at hgo; cases hgo
          rw [if_neg hc32] at hgo
          by_cases hcq : c = 39 ∨ c = 34
          · rw [if_pos hcq] at hgo
            have hws : decide (c ∈ (PySem.Str.ofString " \t\r\n").cps.toList) = false := by rcases hcq with rfl | rfl <;> decide +kernel
            have hqq : decide (c ∈ (PySem.Str.ofString "'\"").cps.toList) = true := by rcases hcq with rfl | rfl <;> decide +kernel
            refine if_f (TV.in_ (e_nc R) (e_white R) hws rfl) hs fun s₁ hs => execs_one ?_
            refine if_f (TV.in_ (e_nc R) (e_comm R) (in_emp _) rfl) hs fun s₁ hs => execs_one ?_
            refine if_f (TV.eq_ (e_sts R hk) (EV.str lx_tk) (by decide +kernel)) hs fun s₁ hs => execs_one ?_
            refine if_t (TV.and2 (a := true) (b := true) (t_posix R) fun _ => TV.in_ (e_nc R) (e_quotes R) hqq rfl) hs fun s₁ hs => ?_
            have hc0 : c ≠ 0 := by omega
            exact last (lx_state (k' := c) R.X R.hN rfl R.kf R.ks ((e_nc R).imp (stOk_s hc0 rfl)) rfl) hs fun s₁ hs => hTP _ _ (.next _ hm1 ⟨c, tok, qd, pos + 1, rfl, e3.symm ▸ hgo, e2, Nat.le_succ_of_le htl, _, _, hs⟩)
          rw [if_neg hcq] at hgo
          by_cases hsf : safeCp c = true
          · rw [if_pos hsf] at hgo
            obtain ⟨hws, hes, hqt⟩ := ws_safe hsf
            refine if_f (TV.in_ (e_nc R) (e_white R) hws rfl) hs fun s₁ hs => execs_one ?_
            refine if_f (TV.in_ (e_nc R) (e_comm R) (in_emp _) rfl) hs fun s₁ hs => execs_one ?_
            refine if_f (TV.eq_ (e_sts R hk) (EV.str lx_tk) (by decide +kernel)) hs fun s₁ hs => execs_one ?_
            refine if_f (TV.and2 (a := true) (b := false) (t_posix R) fun _ => TV.in_ (e_nc R) (e_quotes R) hqt rfl) hs fun s₁ hs => execs_one ?_
            refine if_f (TV.and2 (a := true) (b := false) (t_posix R) fun _ => TV.in_ (e_nc R) (e_esc R) hes rfl) hs fun s₁ hs => execs_one ?_
            refine if_t (TV.to (TV.or3 (TV.in_ (e_nc R) (e_word R) rfl rfl) (fun _ => TV.in_ (e_nc R) (e_quotes R) hqt rfl) fun _ _ => TV.and2 (TV.bool_ (e_split R) rfl) fun _ => TV.notIn (e_nc R) (e_punct R) (in_emp _) rfl) (Bool.or_true _)) hs fun s₁ hs => ?_
            exact last (lx_more R.X R.hN rfl R.kf R.ks hzt (e_nc R)) hs fun s₁ hs => hTP _ _ (.next _ hm1 ⟨97, tok ++ [c], qd, pos + 1, rfl, e3.symm ▸ hgo, e2, by rw [List.length_append]; exact Nat.succ_le_succ htl, _, _, hs⟩)
          · rw [if_neg hsf] at hgo; cases hgo
        · rw [lexGo, if_neg hk32, if_neg hkq, if_neg hk97] at hgo; cases hgo
  case after =>
    rintro s₁ ⟨pos', hrest, hp', htl', nc, ev, hs⟩
    have fin : ∀ m v s₁, LX p m k' [] pos' s₁ → (∃ t, v = if tok' = [] ∧ qd' = false then .none else .str (tokOf tok') t) → Q v s₁ := by
      rintro m v s₁ hs ⟨t, rfl⟩
      have hk := lx_kp hs kg2 h1 h3
      have hl := lexin_of hs hp'
      obtain ⟨st, tt, ln, tl, el, nl, es, ns, tp, h', tk, rfl, _⟩ := hs
      exact h h' tk t pos' hk hl hrest
    refine seq (lx_localP R.kf R.kr (e_tok R) rfl) hs ?_
    rintro s₁ ⟨v, ⟨t, rfl⟩, hs⟩
    refine seq (lx_token (tok' := []) R.X R.hN rfl R.kf R.ks (EV.str lx_tk) rfl) hs fun s₁ hs => ?_
    by_cases htq : tok' = [] ∧ qd' = false
    · refine seq (DO.ifT (TV.and3 (a := true) (b := true) (c := true) (tx_posix R rfl) (fun _ => TV.not (b := false) (.bool_ (lx_name (by rw [← htq.2]; rfl) R.kf R.kq (by decide)) rfl)) (fun _ _ => TV.eq_ ((lx_name rfl R.kf R.kr (by decide)).imp fun _ e => ⟨t, e⟩) (EV.str lx_tk) (by rw [htq.1]; decide +kernel))) (lx_local R.kf R.kr rfl EV.none rfl)) hs fun s₁ hs => ?_
      refine seq (DO.skip (tx_dbg R rfl)) hs fun s₁ hs => ?_
      exact execs_one (wpAny_Return_some (lx_name rfl R.kf R.kr (by decide) s₁ _ _ hs fun v s₂ hv hs => fin _ _ _ hs ⟨0, by rw [if_pos htq]; exact hv⟩))
    · refine seq (DO.skip (TV.to (TV.and3 (a := true) (b := !qd') (c := tokOf tok' == PySem.Str.ofString "") (tx_posix R rfl) (fun _ => TV.not (.bool_ (lx_name rfl R.kf R.kq (by decide)) rfl)) (fun _ _ => TV.eq_ ((lx_name rfl R.kf R.kr (by decide)).imp fun _ e => ⟨t, e⟩) (EV.str lx_tk) rfl)) ?_)) hs fun s₁ hs => ?_
      · cases hqd : qd' with
        | true => rfl
        | false =>
          have : tok' ≠ [] := fun e => htq ⟨e, hqd⟩
          have e : (tokOf tok' == PySem.Str.ofString "") = false := by
            rw [beq_eq_false_iff_ne]; intro e
            exact this (congrArg (fun x : PySem.Str => x.cps.toList) e)
          rw [e]; rfl
      refine seq (DO.skip (tx_dbg R rfl)) hs fun s₁ hs => ?_
      exact execs_one (wpAny_Return_some (lx_name rfl R.kf R.kr (by decide) s₁ _ _ hs fun v s₂ hv hs => fin _ _ _ hs ⟨t, by rw [if_neg htq]; exact hv⟩))
end Mine
end

section
open PySem PySem.W PyProof.Rows PySem.Calls PySem.Spec
namespace Mine
/-! ## An empty deque -/
noncomputable def DqE (h : Heap) (a : Addr) : Prop := ∃ o vs, h.get? a = some o ∧ o.cls = .type "collections.deque" ∧ o.data = .fields vs ∧ vs.size = 2
theorem DqE.keeps {h h' : Heap} {a : Addr} (x : DqE h a) (k : ∀ o, h.get? a = some o → h'.get? a = some o) : DqE h' a := let ⟨o, vs, e, r⟩ := x; ⟨o, vs, k o e, r⟩
theorem DqE.ne {h : Heap} {a b : Addr} {o : Obj} (x : DqE h a) (e : h.get? b = some o) (hc : o.cls ≠ .type "collections.deque") : a ≠ b := fun z => by
  obtain ⟨o', vs, e', c, _⟩ := x
  rw [z, e] at e'; cases e'; exact hc c
theorem slot_dq_len : Slot "collections.deque" "__len__" "collections.deque.__len__" :=
  .of (owner := "collections.deque") (n := "__len__") (by rw [typeLookup_type, builtinLookup_eq_fast]; kernel_rfl) (by decide +kernel) (by decide +kernel) (by decide +kernel)
    (by first | exact .inl (by decide +kernel) | exact .inr (by decide +kernel)) (by rw [isSubtype_type]; kernel_rfl)
theorem entry_dq_len : entryFor table "collections.deque.__len__" = some Builtin.«collections.deque.__len__» := entryFor_of_fast (by kernel_rfl)
theorem args_dq_len (a : Value) : argsOk "collections.deque.__len__" ⟨[a], []⟩ := by unfold argsOk; kernel_rfl
theorem noBool_dq : typeLookup (.type "collections.deque") "__bool__" = pure none := by rw [typeLookup_type, builtinLookup_eq_fast]; kernel_rfl
theorem truthy_dq {w : World} {A : Around} {E : Value → Shared → Prop} {s : Shared} {a : Addr} {Q : Bool → Shared → Prop} (hd : DqE s.heap a) (h : ∀ tk, Q false { s with toks := tk }) : wpAny (model pw w) A (truthy (.ref a)) Q E s := by
  obtain ⟨o, vs, ho, hc, hdt, hsz⟩ := hd
  have hT : s.TypeIs (.ref a) "collections.deque" := (show ∃ o, s.heap.get? a = some o ∧ o.cls = .type "collections.deque" from ⟨o, ho, hc⟩)
  have key : wpAny (model pw w) A (runValue (.builtin "len" ⟨[.ref a], []⟩)) (fun r s' => (∃ t, r = .int 0 t) ∧ Q false s') E s := by
    refine wpAny_runValue (codeAny_builtin entry_len ?_)
    rw [Around.under_plainId plain_len _]
    unfold Builtin.«len»
    refine wpAny_bind (m := oneArg "len" _) (wpAny_pure ?_)
    refine wpAny_bind (m := callSpecial? (.ref a) (PySem.Str.ofString "__len__")) (wpAny_callSpecial?_slot (name := PySem.Str.ofString "__len__") hT slot_dq_len
      (wpAny_call_entry slot_dq_len hT entry_dq_len ?_ (args_dq_len _)))
    show wpAny _ _ (do retInt (← Builtin.Deque.size (.ref a))) _ _ s
    unfold Builtin.Deque.size
    refine wpAny_bind (wpAny_bind (wpAny_bind (wpAny_load ho ?_)))
    rw [hdt]
    refine wpAny_pure (wpAny_pure (wpAny_bind (wpAny_mkInt (wpAny_pure ⟨_, rfl, ?_⟩))))
    refine wpAny_bind (wpAny_holding (wpAny_pure ?_))
    refine wpAny_bind (wpAny_letGo ?_)
    rw [show ((vs.size - 2 : Nat) : Int) = 0 by omega]
    show wpAny _ _ (if (0 : Int) < 0 then _ else _) _ _ _
    rw [if_neg (by omega)]
    show wpAny _ _ (if (0 : Int) ≥ 2 ^ 63 then _ else _) _ _ _
    rw [if_neg (by omega)]
    exact wpAny_bind (wpAny_mkInt (wpAny_pure ⟨⟨_, rfl⟩, h _⟩))
  unfold truthy
  first
    | refine wpAny_bind (wpAny_callSpecial?_none (name := PySem.Str.ofString "__bool__") hT noBool_dq ?_)
    | refine wpAny_bind (wpAny_pure (wpAny_bind (wpAny_callSpecial?_none (name := PySem.Str.ofString "__bool__") hT noBool_dq ?_)))
  first
    | refine wpAny_bind (wpAny_specialOf (name := PySem.Str.ofString "__len__") hT slot_dq_len.lookup ?_)
    | refine wpAny_bind (wpAny_pure (wpAny_bind (wpAny_specialOf (name := PySem.Str.ofString "__len__") hT slot_dq_len.lookup ?_)))
  first
    | exact wpAny_bind (wpAny_mono key (fun r s' h' => by obtain ⟨⟨t, rfl⟩, hq⟩ := h'; exact wpAny_pure hq) fun _ _ e => e)
    | exact wpAny_bind (wpAny_pure (wpAny_bind (wpAny_mono key (fun r s' h' => by obtain ⟨⟨t, rfl⟩, hq⟩ := h'; exact wpAny_pure hq) fun _ _ e => e)))
/-! ## get_token -/
theorem lx_after {p : LP} {m : PySem.Str → Option Value} {k k' : Nat} {tok : List Nat} {pos pos' : Nat} {s : Shared} {h' : Heap} {tk' : Nat} (hs : LX p m k tok pos s) (hk : KpBut2 p.dl p.ds s.heap h') (hl : LexIn h' p.lex p.dl p.ds p.C p.nlv p.text p.tb k' pos') : LX p m k' [] pos' { s with heap := h', toks := tk' } := by
  obtain ⟨st, tt, ln, tl, el, nl, es, ns, tp, h, tk, rfl, h1, F, N, hL, r⟩ := hs
  obtain ⟨st, tt, ln, tl, el', nl', es', ns', tp, g1, g2, g3, g4, hL', r', h1', hp'⟩ := hl
  have n1 := N _ (.head _)
  have n2 := N _ (.tail _ (.head _))
  have n3 := N _ (.tail _ (.tail _ (.head _)))
  have n4 := N _ (.tail _ (.tail _ (.tail _ (.head _))))
  refine ⟨st, tt, ln, tl, el', nl', es', ns', tp, h', tk', rfl, h1', ⟨?_, fun b o e => ?_, F.above⟩, ?_, hL', r'⟩
  · obtain ⟨o, e1, e2, e3, rr⟩ := F.ns
    exact ⟨o, e1, e2, hk _ _ (fun z => n2.2.1 z.symm) (fun z => n4.2.1 z.symm) e3, rr⟩
  · exact hk b o (fun z => by rw [z, n2.2.2] at e; cases e) (fun z => by rw [z, n4.2.2] at e; cases e) (F.keep b o e)
  · intro q hq
    rcases List.mem_cons.mp hq with rfl | hq
    · exact ⟨g1, n1.2⟩
    rcases List.mem_cons.mp hq with rfl | hq
    · exact ⟨g2, n2.2⟩
    rcases List.mem_cons.mp hq with rfl | hq
    · exact ⟨g3, n3.2⟩
    rcases List.mem_cons.mp hq with rfl | hq
    · exact ⟨g4, n4.2⟩
    cases hq
theorem lx_heap {p : LP} {m : PySem.Str → Option Value} {k : Nat} {tok : List Nat} {pos : Nat} {s : Shared} (hs : LX p m k tok pos s) : Kp p.g s.heap := by
  obtain ⟨st, tt, ln, tl, el, nl, es, ns, tp, h, tk, rfl, h1, F, N, hL, r⟩ := hs
  exact F.keep
/-- facts for the short methods of the lexer -/
structure Gt (w : World) (A : Around) (p : LP) (sc : Scope) (mg mb : PySem.Str → Option Value) : Prop where
  X : (K w.params).In p.g
  T : TopQ mg mb p.g
  hd : A.depth + 5 < recursionLimit
  hN : LexNe p.lex p.dl p.C.sio p.ds
  hz : p.text.cps.size < 100000
  kf : sc.kind = .function
  ks : sc.names.lookup (PySem.Str.ofString "self") = some .local
  pb : DqE p.g p.C.pb
  fs : DqE p.g p.C.fs
theorem with_Gt {w : World} {A : Around} {p : LP} {qn : PySem.Str} {sc : Scope} {f : Addr} {cd : Value} {body : List Stmt} {Q : Flow → Shared → Prop} {E : Value → Shared → Prop} {s : Shared} {mg mb : PySem.Str → Option Value} (R : Gt w A p sc mg mb) (h : Gt w A p sc mg mb → wpAny (model pw w) A (execs body (envOf qn sc p.L f cd)) Q E s) : wpAny (model pw w) A (execs body (envOf qn sc p.L f cd)) Q E s := h R
section
variable {w : World} {A : Around} {p : LP} {sc : Scope} {m mg mb : PySem.Str → Option Value} {k : Nat} {tok : List Nat} {pos : Nat} {qn : PySem.Str} {f : Addr} {cd : Value} {q q1 q2 q3 q4 q5 q6 : Pos} {b : Bool} {i : Nat}
theorem t_pb (R : Gt w A p sc mg mb) (ms : m (PySem.Str.ofString "self") = some (.ref p.lex)) : TV w A (envOf qn sc p.L f cd) (LX p m k tok pos) (.Attribute (.Name (PySem.Str.ofString "self") q1) (PySem.Str.ofString "pushback") q2) false :=
  .plain (lx_attr (P := (· = .ref p.C.pb)) R.X ms R.kf R.ks (by decide) (fun _ _ _ _ _ => ⟨_, rfl, rfl, rfl⟩)) rfl fun v s Q E hv hs hq => by
    subst hv; exact truthy_dq (R.pb.keeps fun o e => lx_heap hs _ _ e) fun tk => hq _ (lx_tk _ _ hs)
theorem t_fs (R : Gt w A p sc mg mb) (ms : m (PySem.Str.ofString "self") = some (.ref p.lex)) : TV w A (envOf qn sc p.L f cd) (LX p m k tok pos) (.Attribute (.Name (PySem.Str.ofString "self") q1) (PySem.Str.ofString "filestack") q2) false :=
  .plain (lx_attr (P := (· = .ref p.C.fs)) R.X ms R.kf R.ks (by decide) (fun _ _ _ _ _ => ⟨_, rfl, rfl, rfl⟩)) rfl fun v s Q E hv hs hq => by
    subst hv; exact truthy_dq (R.fs.keeps fun o e => lx_heap hs _ _ e) fun tk => hq _ (lx_tk _ _ hs)
theorem g_eof (R : Gt w A p sc mg mb) (ms : m (PySem.Str.ofString "self") = some (.ref p.lex)) : EV w A (envOf qn sc p.L f cd) (LX p m k tok pos) (.Attribute (.Name (PySem.Str.ofString "self") q1) (PySem.Str.ofString "eof") q2) (· = .none) :=
  lx_attr R.X ms R.kf R.ks (by decide) (fun _ _ _ _ _ => ⟨_, rfl, rfl, rfl⟩)
theorem g_dbg (R : Gt w A p sc mg mb) (ms : m (PySem.Str.ofString "self") = some (.ref p.lex)) {j : Int} (hj : decide (j ≤ 0) = false) : TV w A (envOf qn sc p.L f cd) (LX p m k tok pos) (.Compare (.Attribute (.Name (PySem.Str.ofString "self") q1) (PySem.Str.ofString "debug") q2) [.GtE] [.Constant (.int j) i q3] q4) false :=
  .ge (i := 0) (lx_attr R.X ms R.kf R.ks (by decide) (fun _ _ _ _ _ => ⟨_, rfl, ⟨_, rfl⟩, rfl⟩)) (.int lx_tk) hj
theorem g_source (R : Gt w A p sc mg mb) (ms : m (PySem.Str.ofString "self") = some (.ref p.lex)) : TV w A (envOf qn sc p.L f cd) (LX p m k tok pos) (.Compare (.Attribute (.Name (PySem.Str.ofString "self") q1) (PySem.Str.ofString "source") q2) [.IsNot] [.Constant .none i q3] q4) false :=
  .isNotNone (b := true) (lx_attr R.X ms R.kf R.ks (by decide) (fun _ _ _ _ _ => ⟨_, rfl, rfl, rfl⟩)) rfl
/-- a value that is None or a text, against None -/
noncomputable def NoS (v : Value) : Prop := v = .none ∨ ∃ x t, v = .str x t
theorem g_eq (R : Gt w A p sc mg mb) (ms : m (PySem.Str.ofString "self") = some (.ref p.lex)) {x : PySem.Str} {v : Value} (hm : m x = some v) (hv : NoS v) (kx : sc.names.lookup x = some .local) (hd : (x == PySem.Str.ofString "__debug__") = false) (hb : (v == .none) = b) : TV w A (envOf qn sc p.L f cd) (LX p m k tok pos) (.Compare (.Name x q) [.Eq] [.Attribute (.Name (PySem.Str.ofString "self") q1) (PySem.Str.ofString "eof") q2] q3) b :=
  .cmp (lx_name hm R.kf kx hd) (g_eof R ms) rfl fun v' u s Q E e1 e2 hs hq => by
    subst e1 e2 hb
    rcases hv with rfl | ⟨x, t, rfl⟩
    · exact EqNone.eq_none_none (hq s hs)
    · exact EqNone.eq_str_none (hq s hs)
end
theorem lex_meth (P : Params) : plainGet (K P) 781 (PySem.Str.ofString "read_token") = true ∧ findIn (K P) (.ref 781) (PySem.Str.ofString "read_token") = some (some (.ref 749)) ∧ isFn (K P) (.ref 749) = true ∧ keepIn (K P) (.ref 749) = true := ⟨by kernel_rfl, by kernel_rfl, by kernel_rfl, by kernel_rfl⟩
theorem lex_meth2 (P : Params) : plainGet (K P) 781 (PySem.Str.ofString "get_token") = true ∧ findIn (K P) (.ref 781) (PySem.Str.ofString "get_token") = some (some (.ref 742)) ∧ isFn (K P) (.ref 742) = true ∧ keepIn (K P) (.ref 742) = true := ⟨by kernel_rfl, by kernel_rfl, by kernel_rfl, by kernel_rfl⟩
/-- what a read gives -/
noncomputable def tokV (tok : List Nat) (qd : Bool) (t : Tok) : Value := if tok = [] ∧ qd = false then .none else .str (tokOf tok) t
theorem tokV_noS (tok : List Nat) (qd : Bool) (t : Tok) : NoS (tokV tok qd t) := by unfold tokV; split; exact .inl rfl; exact .inr ⟨_, _, rfl⟩
theorem rt_do {w : World} {A : Around} {p : LP} {sc : Scope} {m mg mb : PySem.Str → Option Value} {k : Nat} {pos : Nat} {qn : PySem.Str} {f : Addr} {cd : Value} {q1 q2 q3 : Pos} {tok' : List Nat} {qd' : Bool} {k' : Nat} {rest : List Nat} (R : Gt w A p sc mg mb) (ms : m (PySem.Str.ofString "self") = some (.ref p.lex)) (kr : sc.names.lookup (PySem.Str.ofString "raw") = some .local) (hp : pos ≤ p.text.cps.size)
    (hgo : lexGo k [] false (p.text.cps.toList.drop pos) = some (tok', qd', k', rest)) :
    DO w A (envOf qn sc p.L f cd) (LX p m k [] pos) (.Assign [.Name (PySem.Str.ofString "raw") q1] (.Call (.Attribute (.Name (PySem.Str.ofString "self") q2) (PySem.Str.ofString "read_token") ⟨587, 14, 587, 29⟩) [] [] ⟨587, 14, 587, 31⟩) q3)
      (fun s => ∃ t pos', pos' ≤ p.text.cps.size ∧ p.text.cps.toList.drop pos' = rest ∧ LX p (fun y => if y = PySem.Str.ofString "raw" then some (tokV tok' qd' t) else m y) k' [] pos' s) := by
  intro s Q E hs hq
  refine wpAny_Assign_Name (MethodCall_ ?_) rfl
  have hl := lexin_of hs hp
  have hs0 := hs
  obtain ⟨st, tt, ln, tl, el, nl, es, ns, tp, h, tk, rfl, h1, F, N, hL, r⟩ := hs
  obtain ⟨a1, a2, a3, a4⟩ := lex_meth w.params
  refine ld F ms ?_ R.kf R.ks
  refine meth_es F R.X N (.head _) (.tail _ (.head _)) hL a1 a2 a3 rfl ?_
  refine callWith_K0 (R.X.keeps F.keep) a4 ?_
  refine rt_spec (R.X.keeps F.keep) (R.T.keeps F.keep) R.hd R.hN hl R.hz hgo fun h' tk' t' pos' hk hl' hrest => ?_
  have hs' := lx_after (tk' := tk') hs0 hk hl'
  have hp' : pos' ≤ p.text.cps.size := by obtain ⟨_, _, _, _, _, _, _, _, _, _, _, _, _, _, _, _, hp'⟩ := hl'; exact hp'
  obtain ⟨st, tt, ln, tl, el, nl, es, ns, tp, h2, tk2, e2, h1, F, N, hL, r⟩ := hs'
  cases e2
  refine wpAny_storeName_local kr F.ns (fun h3 hn hs' => ?_) (by show (sc.kind == .class || (sc.kind == .module && p.L != mainGlobals)) = false; rw [R.kf]; rfl)
  exact hq _ ⟨t', pos', hp', hrest, st, tt, ln, tl, el, nl, es, ns, tp, h3, _, rfl, h1, F.set hn hs', N.set hs', hL, r⟩
theorem while_false {w : World} {A : Around} {env : Env} {S : Shared → Prop} {e : PySem.Expr} {body : List Stmt} {ps : Pos} {Q : Flow → Shared → Prop} {E : Value → Shared → Prop} {s : Shared} (ht : TV w A env S e false) (hs : S s) (h : ∀ s', S s' → Q .next s') : wpAny (model pw w) A (exec (.While e body [] ps) env) Q E s :=
  wpAny_While (codeAny_whileLoop (fun _ s => S s) (fun _ s hs => ht s _ _ hs fun s' hs' => wpAny_execs_nil (h s' hs')) 0 hs)
theorem while_ret {w : World} {A : Around} {env : Env} {S : Shared → Prop} {e : PySem.Expr} {body orelse : List Stmt} {ps : Pos} {Q : Flow → Shared → Prop} {E : Value → Shared → Prop} {s : Shared} (ht : TV w A env S e true) (hs : S s) (h : ∀ s', S s' → wpAny (model pw w) A (execs body env) (fun f s₃ => ∃ v, f = .ret v ∧ Q (.ret v) s₃) (fun _ _ => False) s') : wpAny (model pw w) A (exec (.While e body orelse ps) env) Q E s :=
  wpAny_While (codeAny_whileLoop (fun _ s => S s) (fun _ s hs => ht s _ _ hs fun s' hs' => wpAny_mono (h s' hs') (fun f s₃ ⟨v, e, hq⟩ => by subst e; exact hq) (fun _ _ x => x.elim)) 0 hs)
set_option maxHeartbeats 4000000 in
theorem gt_spec {w : World} {A : Around} {mg mb : PySem.Str → Option Value} {s : Shared} {lex dl ds : Addr} {C : LexC} {text : PySem.Str} {k pos : Nat} {nlv : Value} {tb : Tok} {Q E : Value → Shared → Prop} {tok' : List Nat} {qd' : Bool} {k' : Nat} {rest : List Nat}
    (X : (K w.params).In s.heap) (T : TopQ mg mb s.heap) (hd : A.depth + 6 < recursionLimit) (hN : LexNe lex dl C.sio ds) (hI : LexIn s.heap lex dl ds C nlv text tb k pos) (hpb : DqE s.heap C.pb) (hfs : DqE s.heap C.fs) (hz : text.cps.size < 100000)
    (hgo : lexGo k [] false (text.cps.toList.drop pos) = some (tok', qd', k', rest))
    (h : ∀ h' tk' t' pos', KpBut2 dl ds s.heap h' → LexIn h' lex dl ds C nlv text tb k' pos' → text.cps.toList.drop pos' = rest → Q (tokV tok' qd' t') { s with heap := h', toks := tk' }) :
    wpAny (model pw w) A (call (.ref 742) [.ref lex]) Q E s := by
  obtain ⟨st, tt, ln, tl, el, nl, es, ns, tp, h1, h2, h3, h4, hL, hS, hst, hp⟩ := hI
  refine wpAny_call ?_
  k_dflt (refine' enterN (binds := [(PySem.Str.ofString "self", .ref lex)]) [(lex, instObj 781 dl), (dl, dictOf el nl), (C.sio, instObj 646 ds), (ds, dictOf es ns)] ?hn X T ?k6 ?k7 ?k8 ?k9 ?kB ?_ ?c2 ?c3 ?c4 ?c5; (case hn => intro p hp; rcases List.mem_cons.mp hp with rfl | hp; exact ⟨h1, hN.l1⟩; rcases List.mem_cons.mp hp with rfl | hp; exact ⟨h2, hN.l2⟩; rcases List.mem_cons.mp hp with rfl | hp; exact ⟨h3, hN.l3⟩; rcases List.mem_cons.mp hp with rfl | hp; exact ⟨h4, hN.l4⟩; cases hp); (case k6 => k_is); (case k7 => k_is); (case k8 => omega); (case k9 => exact BindsTo.of_eq rfl); (case c5 => decide); (case kB => exact locs rfl); (case c2 => exact rfl); (case c3 => exact rfl); (case c4 => exact rfl); k_whole; intro g' h' kg kg2 gsz F' N' X' T'; (try dsimp only))
  have gdq : ∀ a, DqE s.heap a → DqE g' a := fun a ha => ha.keeps fun o e => kg2 a o e (by
    have a1 := ha.ne h1 (by simp [instObj])
    have a2 := ha.ne h2 (by simp [dictOf])
    have a3 := ha.ne h3 (by simp [instObj])
    have a4 := ha.ne h4 (by simp [dictOf])
    simp [a1, a2, a3, a4])
  have hpb' := gdq _ hpb
  have hfs' := gdq _ hfs
  clear gdq
  revert F' N' X' T' gsz kg2 kg hpb' hfs'
  refine with_LP (P := fun p => Kp p.g p.s.heap → (∀ b o, p.s.heap.get? b = some o → b ∉ [(p.lex, instObj 781 p.dl), (p.dl, dictOf el nl), (p.C.sio, instObj 646 p.ds), (p.ds, dictOf es ns)].map (·.1) → p.g.get? b = some o) → p.g.objs.size = p.s.heap.objs.size → Fr p.g p.L h' _ → News p.g p.L h' [(p.lex, instObj 781 p.dl), (p.dl, dictOf el nl), (p.C.sio, instObj 646 p.ds), (p.ds, dictOf es ns)] → (K w.params).In p.g → TopQ mg mb p.g → DqE p.g p.C.pb → DqE p.g p.C.fs → wpAny (model pw w) (A.deeper (envOf _ _ p.L 742 _)) (execs _ (envOf _ _ p.L 742 _)) _ _ _) (g := g') (L := s.heap.objs.size) (s := s) (lex := lex) (dl := dl) (ds := ds) (C := C) (nlv := nlv) (text := text) (tb := tb) ?_
  rintro p rfl hL0 rfl rfl rfl rfl rfl rfl rfl rfl kg kg2 gsz F' N' X' T' hpb' hfs'
  k_dflt (refine with_Gt ⟨X', T', (by simp only [depth_deeper]; omega), hN, hz, rfl, rfl, hpb', hfs'⟩ fun R => ?_)
  have hs : LX p _ k [] pos _ := ⟨st, tt, ln, tl, el, nl, es, ns, tp, h', p.s.toks + 1, rfl, hst, F', N', hL, hS⟩
  have fin : ∀ m v s₁ pos', LX p m k' [] pos' s₁ → pos' ≤ p.text.cps.size → p.text.cps.toList.drop pos' = rest → (∃ t, v = tokV tok' qd' t) → Q v s₁ := by
    rintro m v s₁ pos' hs hp' hrest ⟨t, rfl⟩
    have hk := lx_kp hs kg2 h1 h3
    have hl := lexin_of hs hp'
    obtain ⟨st, tt, ln, tl, el, nl, es, ns, tp, h', tk, rfl, _⟩ := hs
    exact h h' tk t pos' hk hl hrest
  refine seq (DO.skip (t_pb R rfl)) hs fun s1 hs => ?_
  refine seq (rt_do R rfl rfl hp hgo) hs ?_
  rintro s1 ⟨t, pos', hp', hrest, hs⟩
  refine seq (DO.skip (g_source R rfl)) hs fun s1 hs => ?_
  by_cases htq : tok' = [] ∧ qd' = false
  · have hv : tokV tok' qd' t = .none := if_pos htq
    refine wpAny_execs_cons (while_ret (g_eq (b := true) R rfl rfl (tokV_noS _ _ _) rfl (by decide) (by rw [hv]; rfl)) hs fun s1 hs => execs_one ?_)
    refine if_t (TV.not (b := false) (t_fs R rfl)) hs fun s1 hs => ?_
    exact execs_one (wpAny_Return_some (g_eof R rfl s1 _ _ hs fun v s2 hv2 hs => ⟨v, rfl, fin _ _ _ _ hs hp' hrest ⟨t, hv2.trans hv.symm⟩⟩))
  · have hv : tokV tok' qd' t = .str (tokOf tok') t := if_neg htq
    refine wpAny_execs_cons (while_false (g_eq (b := false) R rfl rfl (tokV_noS _ _ _) rfl (by decide) (by rw [hv]; rfl)) hs fun s1 hs => ?_)
    refine seq (DO.skip (g_dbg R rfl rfl)) hs fun s1 hs => ?_
    exact execs_one (wpAny_Return_some (lx_name rfl R.kf rfl (by decide) s1 _ _ hs fun v s2 hv2 hs => fin _ _ _ _ hs hp' hrest ⟨t, hv2⟩))
end Mine
end

section
open PySem PySem.W PyProof.Rows PySem.Calls PySem.Spec
namespace Mine
/-! ## The frames above: a raise writes into their slots -/
noncomputable def frs (outer : List Env) : List Addr := outer.filterMap (·.frame)
noncomputable def FrOk (h : Heap) (outer : List Env) : Prop := ∀ env ∈ outer, env.scope.kind ≠ .module ∧ ∃ L o, env.frame = some L ∧ h.get? L = some o ∧ (∀ vs, o.data ≠ .fields vs) ∧ 859 ≤ L
structure Fs (A : Around) (outer : List Env) (h : Heap) : Prop where
  stack : A.frames = some outer
  ok : FrOk h outer
noncomputable abbrev KpH (l : List Addr) (h h' : Heap) : Prop := ∀ b o, b ∉ l → h.get? b = some o → h'.get? b = some o
/-- the frames' objects keep all but their slots -/
noncomputable def FrS (l : List Addr) (h h' : Heap) : Prop := ∀ b ∈ l, ∀ o, h.get? b = some o → ∃ sl, h'.get? b = some { o with slots := sl }
theorem funFrames {h base : Heap} : ∀ {outer : List Env}, FrOk h outer → (∀ f ∈ frs outer, base.get? f = none) → h.FunFrames base outer
  | [], _, _ => trivial
  | env :: rest, ho, hb => by
    obtain ⟨hk, L, o, hf, hg, hn, _⟩ := ho env (.head _)
    exact ⟨hk, ⟨L, o, hf, hb L (List.mem_filterMap.mpr ⟨env, .head _, hf⟩), hg, hn⟩, funFrames (fun e he => ho e (.tail _ he)) fun f hf' => hb f (by
      obtain ⟨e, he, hfe⟩ := List.mem_filterMap.mp hf'
      exact List.mem_filterMap.mpr ⟨e, .tail _ he, hfe⟩)⟩
theorem FrOk.mem {h : Heap} {outer : List Env} (ho : FrOk h outer) {f : Addr} (hf : f ∈ frs outer) : ∃ o, h.get? f = some o ∧ (∀ vs, o.data ≠ .fields vs) ∧ 859 ≤ f := by
  obtain ⟨env, he, hfe⟩ := List.mem_filterMap.mp hf
  obtain ⟨_, L, o, h1, h2, h3, h4⟩ := ho env he
  rw [h1] at hfe; cases hfe
  exact ⟨o, h2, h3, h4⟩
theorem FrOk.step {h h' : Heap} {outer : List Env} (ho : FrOk h outer) (k : FrS (frs outer) h h') : FrOk h' outer := fun env he => by
  obtain ⟨hk, L, o, h1, h2, h3, h4⟩ := ho env he
  obtain ⟨sl, e⟩ := k L (List.mem_filterMap.mpr ⟨env, he, h1⟩) o h2
  exact ⟨hk, L, _, h1, e, h3, h4⟩
theorem FrS.of_kp {l : List Addr} {h h' : Heap} (k : ∀ b ∈ l, ∀ o, h.get? b = some o → h'.get? b = some o) : FrS l h h' := fun b hb o e => ⟨o.slots, k b hb o e⟩
theorem FrS.trans {l : List Addr} {h h' h'' : Heap} (a : FrS l h h') (b : FrS l h' h'') : FrS l h h'' := fun x hx o e => by
  obtain ⟨sl, e1⟩ := a x hx o e
  obtain ⟨sl2, e2⟩ := b x hx _ e1
  exact ⟨sl2, e2⟩
theorem enterR {w : World} {A : Around} {s : Shared} {R : Result → Shared → Prop} {name qual : PySem.Str} {params : Arguments} {body : List Stmt} {scope : Scope} {dV kV doc pm cdv ct oc : Value} {an od : Option Addr} {osl : Array (Option Value)} {f : Addr} {args : Args} {binds : List (PySem.Str × Value)} {mg mb : PySem.Str → Option Value}
    (news : List (Addr × Obj)) (hn : ∀ p ∈ news, s.heap.get? p.1 = some p.2 ∧ 859 ≤ p.1) (X : (K w.params).In s.heap) (T : TopQ mg mb s.heap) (ho : (K w.params).lookup f = some ⟨oc, od, .func (fnOf name qual params body scope dV kV doc pm an cdv ct), osl⟩) (hcd : codeIn (K w.params) cdv qual = true) (hroom : A.depth < recursionLimit)
    (hbind : BindsTo s (fnOf name qual params body scope dV kV doc pm an cdv ct) args binds) (hloc : ∀ y ∈ binds, scope.names.lookup y.1 = some .local)
    (h : ∀ g h₁, Kp g s.heap → (∀ b o, s.heap.get? b = some o → b ∉ news.map (·.1) → g.get? b = some o) → g.objs.size = s.heap.objs.size → Fr g s.heap.objs.size h₁ (fun y => binds.reverse.lookup y) → News g s.heap.objs.size h₁ news → (K w.params).In g → TopQ mg mb g →
      wpAny (model pw w) (A.deeper (envOf qual scope s.heap.objs.size f cdv)) (execs body (envOf qual scope s.heap.objs.size f cdv))
        (fun fl s' => R (.ok (.ret (match fl with | .ret v => v | _ => .none))) s')
        (fun e s' => wpAny (model pw w) (A.deeper (envOf qual scope s.heap.objs.size f cdv)) (leaving (envOf qual scope s.heap.objs.size f cdv) e) (fun _ s'' => R (.error e) s'') (fun e' s'' => R (.error e') s'') s')
        { s with heap := h₁, toks := s.toks + binds.length })
    (hco : scope.isCoroutine = false) (hgen : scope.isGenerator = false) (hk : scope.kind = .function)
    (hcell : ∀ x ∈ scope.names, x.2 ≠ .cell) : codeAny (model pw w) A (.call (.ref f) args) R s := by
  have hlo : ∀ a ∈ news.map (·.1), 859 ≤ a := fun a ha => by obtain ⟨p, hp, rfl⟩ := List.mem_map.mp ha; exact (hn p hp).2
  refine codeAny_call_def (fd := fnOf name qual params body scope dV kV doc pm an cdv ct) (body := body) (binds := binds) hroom (X _ _ ho) rfl T.nolimit (codeRec_of X hcd) rfl hbind hcell hloc (fun h₁ hns hk₁ => ?_) hco hgen hk
  exact h (hideAll s.heap (news.map (·.1))) h₁ (fun b o e => of_hideAll _ e) (fun b o e hb => hideAll_get _ e hb) (hideAll_size _ _) ⟨hns, fun b o e => hk₁ b o (of_hideAll _ e), Nat.le_of_eq (hideAll_size _ _)⟩ (fun p hp => ⟨hk₁ _ _ (hn p hp).1, Nat.ne_of_lt (Heap.lt_size (hn p hp).1), hideAll_none _ (List.mem_map_of_mem hp)⟩) (kin_hide X hlo) (top_hide T hlo)
theorem gt_do {w : World} {A : Around} {p : LP} {sc : Scope} {m mg mb : PySem.Str → Option Value} {k : Nat} {pos : Nat} {qn : PySem.Str} {f : Addr} {cd : Value} {q1 q2 q3 : Pos} {tok' : List Nat} {qd' : Bool} {k' : Nat} {rest : List Nat} (R : Gt w A p sc mg mb) (hd : A.depth + 6 < recursionLimit) (ms : m (PySem.Str.ofString "self") = some (.ref p.lex)) (kr : sc.names.lookup (PySem.Str.ofString "token") = some .local) (hp : pos ≤ p.text.cps.size)
    (hgo : lexGo k [] false (p.text.cps.toList.drop pos) = some (tok', qd', k', rest)) :
    DO w A (envOf qn sc p.L f cd) (LX p m k [] pos) (.Assign [.Name (PySem.Str.ofString "token") q1] (.Call (.Attribute (.Name (PySem.Str.ofString "self") q2) (PySem.Str.ofString "get_token") ⟨759, 16, 759, 30⟩) [] [] ⟨759, 16, 759, 32⟩) q3)
      (fun s => ∃ t pos', pos' ≤ p.text.cps.size ∧ p.text.cps.toList.drop pos' = rest ∧ LX p (fun y => if y = PySem.Str.ofString "token" then some (tokV tok' qd' t) else m y) k' [] pos' s) := by
  intro s Q E hs hq
  refine wpAny_Assign_Name (MethodCall_ ?_) rfl
  have hl := lexin_of hs hp
  have hs0 := hs
  obtain ⟨st, tt, ln, tl, el, nl, es, ns, tp, h, tk, rfl, h1, F, N, hL, r⟩ := hs
  obtain ⟨a1, a2, a3, a4⟩ := lex_meth2 w.params
  refine ld F ms ?_ R.kf R.ks
  refine meth_es F R.X N (.head _) (.tail _ (.head _)) hL a1 a2 a3 rfl ?_
  refine callWith_K0 (R.X.keeps F.keep) a4 ?_
  refine gt_spec (R.X.keeps F.keep) (R.T.keeps F.keep) hd R.hN hl (R.pb.keeps fun o e => F.keep _ _ e) (R.fs.keeps fun o e => F.keep _ _ e) R.hz hgo fun h' tk' t' pos' hk hl' hrest => ?_
  have hs' := lx_after (tk' := tk') hs0 hk hl'
  have hp' : pos' ≤ p.text.cps.size := by obtain ⟨_, _, _, _, _, _, _, _, _, _, _, _, _, _, _, _, hp'⟩ := hl'; exact hp'
  obtain ⟨st, tt, ln, tl, el, nl, es, ns, tp, h2, tk2, e2, h1, F, N, hL, r⟩ := hs'
  cases e2
  refine wpAny_storeName_local kr F.ns (fun h3 hn hs' => ?_) (by show (sc.kind == .class || (sc.kind == .module && p.L != mainGlobals)) = false; rw [R.kf]; rfl)
  exact hq _ ⟨t', pos', hp', hrest, st, tt, ln, tl, el, nl, es, ns, tp, h3, _, rfl, h1, F.set hn hs', N.set hs', hL, r⟩
theorem glob_stop (P : Params) : nsIn (K P) mainGlobals (PySem.Str.ofString "StopIteration") = some none := by kernel_rfl
theorem leave_my {w : World} {A : Around} {outer : List Env} {s' : Shared} {h₀ h : Heap} {e L f : Addr} {qn : PySem.Str} {sc : Scope} {cd : Value} {m : PySem.Str → Option Value} {cls : String} {args : List Value} {Q : Unit → Shared → Prop} {E : Value → Shared → Prop} {l : List Addr}
    (hst : A.frames = some outer) (hx : Heap.MadeExc h s'.heap e cls args) (hns : h.Ns L m) (hL : h₀.get? L = none) (hLlo : 859 ≤ L) (kf : sc.kind = .function) (hk : KpH l h₀ h) (hfo : FrOk h outer)
    (hQ : ∀ h', KpH (l ++ frs outer) h₀ h' → FrS (frs outer) h h' → (∃ o, h'.get? e = some o ∧ o.cls = .type cls) → Q () { s' with heap := h' }) :
    wpAny (model pw w) (A.deeper (envOf qn sc L f cd)) (leaving (envOf qn sc L f cd) (.ref e)) Q E s' := by
  obtain ⟨t, he, ht, _⟩ := hx.there
  let base := hideAll h₀ (l ++ frs outer)
  have hb1 : ∀ b o, base.get? b = some o → b ∉ (l ++ frs outer) ∧ h₀.get? b = some o := fun b o eb => by
    refine ⟨fun hm => ?_, of_hideAll _ eb⟩
    have : base.get? b = none := hideAll_none _ hm
    rw [this] at eb; cases eb
  have hstay : base.StaysIn s'.heap := fun b o eb => hx.keeps b o (hk b o (fun hm => (hb1 b o eb).1 (List.mem_append_left _ hm)) (hb1 b o eb).2)
  have hfo' : FrOk s'.heap (envOf qn sc L f cd :: outer) := by
    intro env he
    rcases List.mem_cons.mp he with rfl | he
    · obtain ⟨o, es, ep, ho, hd, _⟩ := hns
      exact ⟨by show sc.kind ≠ .module; rw [kf]; decide, L, o, rfl, hx.keeps _ _ ho, (fun vs q => by rw [hd] at q; cases q), hLlo⟩
    · obtain ⟨hk, L', o, h1, h2, h3, h4⟩ := hfo env he
      exact ⟨hk, L', o, h1, hx.keeps _ _ h2, h3, h4⟩
  have hbn : ∀ b, (b ∈ l ++ frs outer ∨ h₀.get? b = none) → base.get? b = none := fun b hb => by
    cases eb : base.get? b with
    | none => rfl
    | some o =>
      have := hb1 b o eb
      rcases hb with hb | hb
      · exact absurd hb this.1
      · rw [hb] at this; cases this.2
  have hen : base.get? e = none := by
    cases eb : base.get? e with
    | none => rfl
    | some o =>
      have := hb1 e o eb
      have := hk e o (fun hm => this.1 (List.mem_append_left _ hm)) this.2
      rw [hx.new] at this; cases this
  refine wpAny_leaving_firstW (base := base) (L := L) (Around.frames_deeper hst) (funFrames hfo' fun f hf => ?_) rfl he hstay hen rfl rfl rfl fun h' hlw => ?_
  · rcases List.mem_cons.mp (show f ∈ L :: frs outer from hf) with rfl | hf
    · exact hbn _ (.inr hL)
    · exact hbn _ (.inl (List.mem_append_right _ hf))
  · obtain ⟨x1, _, x3, x4⟩ := hlw
    obtain ⟨oe, _, _, _, _, y1, y2, _⟩ := x3
    refine hQ h' (fun b o hb e => x1 b o (hideAll_get _ e hb)) (fun b hb o e => ?_) ⟨oe, y1, y2.1⟩
    obtain ⟨o', e', hn, _⟩ := hfo.mem hb
    rw [e] at e'; cases e'
    exact x4 b o (hx.keeps _ _ e) hn
/-! ## __next__ -/
theorem with_G0 {w : World} {A : Around} {p : LP} {qn : PySem.Str} {sc : Scope} {f : Addr} {cd : Value} {body : List Stmt} {Q : Flow → Shared → Prop} {E : Value → Shared → Prop} {s : Shared} {mg mb : PySem.Str → Option Value} (R : Gt w A p sc mg mb) (h : Gt w A p sc mg mb → sc.kind = .function → wpAny (model pw w) A (execs body (envOf qn sc p.L f cd)) Q E s) : wpAny (model pw w) A (execs body (envOf qn sc p.L f cd)) Q E s := h R R.kf
set_option maxHeartbeats 4000000 in
theorem nx_spec {w : World} {A : Around} {mg mb : PySem.Str → Option Value} {outer : List Env} {s : Shared} {lex dl ds : Addr} {C : LexC} {text : PySem.Str} {k pos : Nat} {nlv : Value} {tb : Tok} {Q E : Value → Shared → Prop} {tok' : List Nat} {qd' : Bool} {k' : Nat} {rest : List Nat}
    (X : (K w.params).In s.heap) (T : TopQ mg mb s.heap) (hh : A.handled = none) (hd : A.depth + 7 < recursionLimit) (hN : LexNe lex dl C.sio ds) (hI : LexIn s.heap lex dl ds C nlv text tb k pos) (hpb : DqE s.heap C.pb) (hfs : DqE s.heap C.fs) (hz : text.cps.size < 100000) (hF : Fs A outer s.heap) (hdl : dl ∉ frs outer) (hds : ds ∉ frs outer)
    (hgo : lexGo k [] false (text.cps.toList.drop pos) = some (tok', qd', k', rest))
    (h : ¬ (tok' = [] ∧ qd' = false) → ∀ h' tk' t' pos', KpBut2 dl ds s.heap h' → LexIn h' lex dl ds C nlv text tb k' pos' → text.cps.toList.drop pos' = rest → Q (.str (tokOf tok') t') { s with heap := h', toks := tk' })
    (hE : tok' = [] ∧ qd' = false → ∀ e h' tk', KpH (dl :: ds :: frs outer) s.heap h' → FrS (frs outer) s.heap h' → (∃ o, h'.get? e = some o ∧ o.cls = .type "StopIteration") → E (.ref e) { s with heap := h', toks := tk' }) :
    wpAny (model pw w) A (call (.ref 778) [.ref lex]) Q E s := by
  obtain ⟨st, tt, ln, tl, el, nl, es, ns, tp, h1, h2, h3, h4, hL, hS, hst, hp⟩ := hI
  refine wpAny_call ?_
  k_dflt (refine' enterR (binds := [(PySem.Str.ofString "self", .ref lex)]) [(lex, instObj 781 dl), (dl, dictOf el nl), (C.sio, instObj 646 ds), (ds, dictOf es ns)] ?hn X T ?k6 ?k7 ?k8 ?k9 ?kB ?_ ?c2 ?c3 ?c4 ?c5; (case hn => intro p hp; rcases List.mem_cons.mp hp with rfl | hp; exact ⟨h1, hN.l1⟩; rcases List.mem_cons.mp hp with rfl | hp; exact ⟨h2, hN.l2⟩; rcases List.mem_cons.mp hp with rfl | hp; exact ⟨h3, hN.l3⟩; rcases List.mem_cons.mp hp with rfl | hp; exact ⟨h4, hN.l4⟩; cases hp); (case k6 => k_is); (case k7 => k_is); (case k8 => omega); (case k9 => exact BindsTo.of_eq rfl); (case c5 => decide); (case kB => exact locs rfl); (case c2 => exact rfl); (case c3 => exact rfl); (case c4 => exact rfl); k_whole; intro g' h' kg kg2 gsz F' N' X' T'; (try dsimp only))
  have gdq : ∀ a, DqE s.heap a → DqE g' a := fun a ha => ha.keeps fun o e => kg2 a o e (by
    have a1 := ha.ne h1 (by simp)
    have a2 := ha.ne h2 (by simp)
    have a3 := ha.ne h3 (by simp)
    have a4 := ha.ne h4 (by simp)
    simp [a1, a2, a3, a4])
  have hpb' := gdq _ hpb
  have hfs' := gdq _ hfs
  have hLlo : 859 ≤ s.heap.objs.size := Nat.le_of_lt (Nat.lt_of_le_of_lt hN.l1 (Heap.lt_size h1))
  clear gdq
  revert F' N' X' T' gsz kg2 kg hpb' hfs'
  refine with_LP (P := fun p => Kp p.g p.s.heap → (∀ b o, p.s.heap.get? b = some o → b ∉ [(p.lex, instObj 781 p.dl), (p.dl, dictOf el nl), (p.C.sio, instObj 646 p.ds), (p.ds, dictOf es ns)].map (·.1) → p.g.get? b = some o) → p.g.objs.size = p.s.heap.objs.size → Fr p.g p.L h' _ → News p.g p.L h' [(p.lex, instObj 781 p.dl), (p.dl, dictOf el nl), (p.C.sio, instObj 646 p.ds), (p.ds, dictOf es ns)] → (K w.params).In p.g → TopQ mg mb p.g → DqE p.g p.C.pb → DqE p.g p.C.fs → wpAny (model pw w) (A.deeper (envOf _ _ p.L 778 _)) (execs _ (envOf _ _ p.L 778 _)) _ (fun e s' => wpAny (model pw w) (A.deeper (envOf _ _ p.L 778 _)) (leaving (envOf _ _ p.L 778 _) e) (fun _ s'' => E e s'') (fun e' s'' => E e' s'') s') _) (g := g') (L := s.heap.objs.size) (s := s) (lex := lex) (dl := dl) (ds := ds) (C := C) (nlv := nlv) (text := text) (tb := tb) ?_
  rintro p rfl hL0 rfl rfl rfl rfl rfl rfl rfl rfl kg kg2 gsz F' N' X' T' hpb' hfs'
  k_dflt (refine with_G0 ⟨X', T', (by simp only [depth_deeper]; omega), hN, hz, rfl, rfl, hpb', hfs'⟩ fun R kf => ?_)
  have hs : LX p _ k [] pos _ := ⟨st, tt, ln, tl, el, nl, es, ns, tp, h', p.s.toks + 1, rfl, hst, F', N', hL, hS⟩
  refine seq (gt_do R (by simp only [depth_deeper]; omega) rfl rfl hp hgo) hs ?_
  rintro s1 ⟨t, pos', hp', hrest, hs⟩
  by_cases htq : tok' = [] ∧ qd' = false
  · have hv : tokV tok' qd' t = .none := if_pos htq
    refine wpAny_execs_cons (if_t (g_eq (b := true) R rfl rfl (tokV_noS _ _ _) rfl (by decide) (by rw [hv]; rfl)) hs fun s1 hs => execs_one ?_)
    have hk := lx_kp hs kg2 h1 h3
    obtain ⟨st, tt, ln, tl, el, nl, es, ns, tp, h2, tk2, rfl, _, F, N, _, _⟩ := hs
    refine owsi_raiseC hh (name_B F R.X R.T (glob_stop _) (by boot_by_name) (by decide) ⟨rfl, rfl⟩) fun h3 e hx => ?_
    have hL9 : p.s.heap.get? p.L = none := by
      cases e9 : p.s.heap.get? p.L with
      | none => rfl
      | some o => have := Heap.lt_size e9; rw [hL0] at this; exact absurd this (Nat.lt_irrefl _)
    have hfk : ∀ b ∈ frs outer, ∀ o, p.s.heap.get? b = some o → h2.get? b = some o := fun b hb o e => hk b o (fun z => hdl (z ▸ hb)) (fun z => hds (z ▸ hb)) e
    refine leave_my (l := [p.dl, p.ds]) hF.stack hx F.ns hL9 (hL0 ▸ hLlo) kf (fun b o hb e => hk b o (fun z => hb (z ▸ .head _)) (fun z => hb (z ▸ .tail _ (.head _))) e) (hF.ok.step (.of_kp hfk)) fun h4 hk4 hf4 hc4 => ?_
    exact hE htq e h4 _ hk4 ((FrS.of_kp hfk).trans hf4) hc4
  · have hv : tokV tok' qd' t = .str (tokOf tok') t := if_neg htq
    refine seq (DO.skip (g_eq (b := false) R rfl rfl (tokV_noS _ _ _) rfl (by decide) (by rw [hv]; rfl))) hs fun s1 hs => ?_
    refine execs_one (wpAny_Return_some (lx_name rfl R.kf rfl (by decide) s1 _ _ hs fun v s2 hv2 hs => ?_))
    have hk := lx_kp hs kg2 h1 h3
    have hl := lexin_of hs hp'
    obtain ⟨st, tt, ln, tl, el, nl, es, ns, tp, h', tk, rfl, _⟩ := hs
    show Q v _
    rw [hv2, hv]
    exact h htq h' tk t pos' hk hl hrest
end Mine
end

section
open PySem PySem.W PyProof.Rows PySem.Calls PySem.Spec
namespace Mine
/-! ## What is drawn from an iterator, one item after another, while one object of the drawer's own changes -/
structure Feed (w : World) (A : Around) (I S : Addr) {α : Type} (St : List Value → List α → Shared → Prop) (Fin : List Value → Shared → Prop) : Prop where
  move : ∀ vs l (s : Shared) h' tk, St vs l s → (∀ b o, b ≠ S → s.heap.get? b = some o → h'.get? b = some o) → St vs l { s with heap := h', toks := tk }
  next : ∀ vs x l (s : Shared) (Q : Option Value → Shared → Prop) (E : Value → Shared → Prop), St vs (x :: l) s → (∃ o, s.heap.get? S = some o) → (∀ v s', St (vs ++ [v]) l s' → (∀ o, s.heap.get? S = some o → s'.heap.get? S = some o) → Q (some v) s') → wpAny (model pw w) A (pyNext (.ref I)) Q E s
  done : ∀ vs (s : Shared) (Q : Option Value → Shared → Prop) (E : Value → Shared → Prop), St vs [] s → (∀ s', Fin vs s' → (∀ o, s.heap.get? S = some o → s'.heap.get? S = some o) → Q none s') → wpAny (model pw w) A (pyNext (.ref I)) Q E s
noncomputable abbrev listO (vs : Array Value) (n : Nat) : Obj := { cls := .type "list", dict := none, data := .seq vs n, slots := #[] }
theorem plain_xl : plainId "list.extend.loop" = true := by decide +kernel
/-- one item more at a list's end -/
theorem grow {w : World} {A : Around} {E : Value → Shared → Prop} {s : Shared} {S : Addr} {vs : List Value} {v : Value} {n : Nat} {Q : Unit → Shared → Prop} (hS : s.heap.get? S = some (listO vs.toArray n)) (hz : vs.length + 1 ≤ sizeLine)
    (h : ∀ h' n', (∀ b o, b ≠ S → s.heap.get? b = some o → h'.get? b = some o) → h'.get? S = some (listO (vs ++ [v]).toArray n') → Q () { s with heap := h' }) : wpAny (model pw w) A (updateSeq S (·.push v)) Q E s := by
  refine wpAny_updateSeq hS rfl (h _ (n + 1) (fun b o hb e => (Heap.get?_update_other _ _ (Ne.symm hb)).trans e) ?_) (by rw [List.size_toArray]; omega) (by rw [Array.size_push, List.size_toArray]; omega)
  rw [Heap.get?_update_self _ hS rfl]
  simp [Obj.mapSeq]
theorem ext_feed {w : World} {A : Around} {I S : Addr} {α : Type} {St : List Value → List α → Shared → Prop} {Fin : List Value → Shared → Prop} {R : Result → Shared → Prop} {res : Value} (F : Feed w A.in1 I S St Fin)
    (l : List α) : ∀ (vs : List Value) (s : Shared) (n : Nat), St vs l s → s.heap.get? S = some (listO vs.toArray n) → vs.length + l.length ≤ sizeLine →
      (∀ s' vs' n', Fin vs' s' → s'.heap.get? S = some (listO vs'.toArray n') → R (.ok (.ret res)) s') → codeAny (model pw w) A (.builtin "list.extend.loop" ⟨[.ref S, .ref I, res], []⟩) R s := by
  induction l with
  | nil =>
    intro vs s n hst hS hz hR
    refine codeAny_builtin PySem.F.entry_extend_loop ?_
    rw [Around.under_plainId plain_xl _]
    refine wpAny_bind (m := pyNext (.ref I)) (F.done vs s _ _ hst fun s' hf hk => ?_)
    exact wpAny_pure (hR s' vs n hf (hk _ hS))
  | cons x l ih =>
    intro vs s n hst hS hz hR
    rw [List.length_cons] at hz
    refine codeAny_builtin PySem.F.entry_extend_loop ?_
    rw [Around.under_plainId plain_xl _]
    refine wpAny_bind (m := pyNext (.ref I)) (F.next vs x l s _ _ hst ⟨_, hS⟩ fun v s' hst' hk => ?_)
    refine wpAny_bind (m := updateSeq S (·.push v)) (grow (hk _ hS) (by omega) fun h' n' k' e' => wpAny_pure ⟨plainId_quiet plain_xl _, ?_⟩)
    exact ih _ _ n' (F.move _ _ _ h' s'.toks hst' k') e' (by rw [List.length_append]; show vs.length + 1 + _ ≤ _; omega) hR
/-- the type's word on the iterator: neither a list nor a tuple; it tells no length -/
structure Plain (w : World) (A : Around) (I : Addr) (s : Shared) : Prop where
  typ : ∀ (Q : Value → Shared → Prop) (E : Value → Shared → Prop), (∀ C, (C == .type "list") = false → (C == .type "tuple") = false → Q C s) → wpAny (model pw w) A (typeOf (.ref I)) Q E s
theorem list_feed {w : World} {A : Around} {E : Value → Shared → Prop} {s : Shared} {I : Addr} {α : Type} {St : List Value → List α → Shared → Prop} {Fin : List Value → Shared → Prop} {Q : Value → Shared → Prop} (l : List α)
    (F : Feed w A.in1.in1 I s.heap.objs.size St Fin) (hI : I ≠ s.heap.objs.size) (hl : l.length ≤ sizeLine)
    (h0 : ∀ h' tk, (∀ b o, s.heap.get? b = some o → h'.get? b = some o) → Plain w A.in1.in1 I { s with heap := h', toks := tk })
    (hit : ∀ (s₁ : Shared) (Q : Value → Shared → Prop) (E : Value → Shared → Prop), (∃ h' tk, s₁ = { s with heap := h', toks := tk } ∧ ∀ b o, s.heap.get? b = some o → h'.get? b = some o) →
      (∀ s', St [] l s' → (∀ o, s₁.heap.get? s.heap.objs.size = some o → s'.heap.get? s.heap.objs.size = some o) → (∀ (Q : Bool → Shared → Prop) (E : Value → Shared → Prop), Q true s' → wpAny (model pw w) A.in1.in1 (Builtin.List.listLengthHint (.ref I)) Q E s') → Q (.ref I) s') →
      wpAny (model pw w) A.in1.in1 (pyIter (.ref I)) Q E s₁)
    (h : ∀ s' vs' n', Fin vs' s' → s'.heap.get? s.heap.objs.size = some (listO vs'.toArray n') → Q (.ref s.heap.objs.size) s') : wpAny (model pw w) A (call (.type "list") [.ref I]) Q E s := by
  refine callType_codes (Q₁ := fun obj s₁ => obj = .ref s.heap.objs.size ∧ s₁ = { s with heap := s.heap.push (listO #[] 0) }) PySem.F.called_list (PySem.F.typeCall_list_1 _) PySem.F.entry_list_init (code_list_new _ ⟨rfl, rfl⟩) ?_
  rintro obj s₁ ⟨rfl, rfl⟩
  have hS : (s.heap.push (listO #[] 0)).get? s.heap.objs.size = some (listO #[] 0) := Heap.get?_push_size _ rfl
  refine ⟨⟨_, hS, rfl⟩, PySem.F.args_list_init_2 _ _, ?_⟩
  -- the old items go
  refine wpAny_bind (m := Builtin.List.listItems (.ref s.heap.objs.size)) (wpAny_bind (wpAny_seqItems hS rfl (wpAny_pure ?_)))
  refine wpAny_bind (m := updateSeq s.heap.objs.size (fun _ => #[])) (wpAny_updateSeq hS rfl ?_)
  refine wpAny_bind (m := letGo _) (wpAny_letGo ?_)
  obtain ⟨n₁, e1⟩ : ∃ n₁, ((s.heap.push (listO #[] 0)).update s.heap.objs.size (Obj.mapSeq fun _ => #[])).get? s.heap.objs.size = some (listO ([] : List Value).toArray n₁) := ⟨_, Heap.get?_update_self (Obj.mapSeq fun _ => #[]) hS rfl⟩
  generalize hH : (s.heap.push (listO #[] 0)).update s.heap.objs.size (Obj.mapSeq fun _ => #[]) = H at e1 ⊢
  have k1 : ∀ b o, s.heap.get? b = some o → H.get? b = some o := fun b o e => by
    rw [← hH]; exact (Heap.get?_update_other _ _ (Nat.ne_of_gt (Heap.lt_size e))).trans (Heap.get?_push_of_some _ e)
  unfold Builtin.List.listExtendWith
  refine wpAny_bind ((h0 H _ k1).typ _ _ fun C c1 c2 => ?_)
  have e2 : Builtin.List.listSameRef (.ref s.heap.objs.size) (.ref I) = false := beq_eq_false_iff_ne.mpr (Ne.symm hI)
  rw [if_neg (by rw [e2, c1, c2]; decide)]
  refine wpAny_bind (hit _ _ _ ⟨H, _, rfl, k1⟩ fun s₂ hst hk hh => ?_)
  refine wpAny_bind (wpAny_holding (hh _ _ ?_))
  rw [Bool.true_or, if_pos rfl]
  have e3 := hk _ e1
  refine wpAny_bind (wpAny_rule (wpAny_bind ?_))
  -- room is made, and given back
  refine wpAny_bind (m := updateSeq s.heap.objs.size (·.push Value.none)) (grow e3 (by rw [sizeLine_eq]; decide) fun h₃ n₃ k₃ e₄ => ?_)
  refine wpAny_updateSeq (xs := ([] ++ [Value.none] : List Value).toArray) (f := (·.pop)) e₄ rfl ?_ (by rw [sizeLine_eq]; show 1 ≤ _; decide) (by rw [sizeLine_eq]; show 0 ≤ _; decide)
  refine wpAny_pure ⟨plainId_quiet plain_xl _, ?_⟩
  obtain ⟨n₅, e5⟩ : ∃ n₅, (h₃.update s.heap.objs.size (Obj.mapSeq (·.pop))).get? s.heap.objs.size = some (listO ([] : List Value).toArray n₅) := ⟨_, Heap.get?_update_self (Obj.mapSeq (·.pop)) e₄ rfl⟩
  exact ext_feed (A := A.in1) F l [] _ n₅ (F.move [] l s₂ (h₃.update s.heap.objs.size (Obj.mapSeq (·.pop))) s₂.toks hst fun b o hb e => (Heap.get?_update_other _ _ (Ne.symm hb)).trans (k₃ b o hb e)) e5 (by simpa using hl) fun s' vs' n' hf e => ⟨rfl, h s' vs' n' hf e⟩
end Mine
end

section
open PySem PySem.W PyProof.Rows PySem.Calls PySem.Spec
namespace Mine
/-! ## The whole reading, plain -/
noncomputable def Rem : List (List Nat) → Nat → List Nat → Prop
  | [], k, rest => ∃ k' rest', lexGo k [] false rest = some ([], false, k', rest')
  | w :: ws, k, rest => ∃ qd k' rest', lexGo k [] false rest = some (w, qd, k', rest') ∧ ¬ (w = [] ∧ qd = false) ∧ Rem ws k' rest'
noncomputable def textOf : List (List Nat) → List Nat
  | [] => []
  | [w] => quotedL w
  | w :: v :: ws => quotedL w ++ 32 :: textOf (v :: ws)
theorem rem_text : ∀ ws : List (List Nat), Rem ws 32 (textOf ws)
  | [] => ⟨_, _, rfl⟩
  | [w] => by
    obtain ⟨qd, e, hq⟩ := go_word w (r := []) (.inl rfl)
    rw [List.append_nil] at e
    exact ⟨qd, 0, [], e, (fun h => by have := hq h.1; rw [h.2] at this; cases this), ⟨_, _, rfl⟩⟩
  | w :: v :: ws => by
    obtain ⟨qd, e, hq⟩ := go_word w (r := 32 :: textOf (v :: ws)) (.inr ⟨_, rfl⟩)
    exact ⟨qd, 32, textOf (v :: ws), e, (fun h => by have := hq h.1; rw [h.2] at this; cases this), rem_text (v :: ws)⟩
/-! ## list(lexer) -/
theorem next_is (P : Params) : findIn (K P) (.ref 781) "__next__" = some (some (.ref 778)) ∧ isFn (K P) (.ref 778) = true := ⟨by kernel_rfl, by kernel_rfl⟩
theorem iter_is (P : Params) : findIn (K P) (.ref 781) "__iter__" = some (some (.ref 771)) ∧ isFn (K P) (.ref 771) = true := ⟨by kernel_rfl, by kernel_rfl⟩
theorem nolen_is (P : Params) : findIn (K P) (.ref 781) "__len__" = some none ∧ findIn (K P) (.ref 781) "__length_hint__" = some none := ⟨by kernel_rfl, by kernel_rfl⟩
theorem kin_h {P : Params} {h h' : Heap} {l : List Addr} (X : (K P).In h) (k : KpH l h h') (hlo : ∀ a ∈ l, 859 ≤ a) : (K P).In h' := fun a o e => k a o (fun hm => absurd (K_lookup_lo e) (Nat.not_lt.mpr (hlo a hm))) (X a o e)
theorem ns_h {a : Addr} {h h' : Heap} {m : PySem.Str → Option Value} {l : List Addr} (n : h.Ns a m) (ha : a ∉ l) (k : KpH l h h') : h'.Ns a m := let ⟨o, es, ep, ho, r⟩ := n; ⟨o, es, ep, k _ _ ha ho, r⟩
theorem top_h {mg mb : PySem.Str → Option Value} {h h' : Heap} {l : List Addr} (T : TopQ mg mb h) (k : KpH l h h') (hlo : ∀ a ∈ l, 859 ≤ a) : TopQ mg mb h' :=
  ⟨ns_h T.g (fun hm => absurd (hlo _ hm) (by decide)) k, ns_h T.b (fun hm => absurd (hlo _ hm) (by decide)) k, (let ⟨mc, n, e⟩ := T.nolimit; ⟨mc, ns_h n (fun hm => absurd (hlo _ hm) (by decide)) k, e⟩), T.builtins, T.free⟩
/-- one step of the lexer as an iterator -/
theorem nx_py {w : World} {A : Around} {mg mb : PySem.Str → Option Value} {outer : List Env} {s : Shared} {lex dl ds : Addr} {C : LexC} {text : PySem.Str} {k pos : Nat} {nlv : Value} {tb : Tok} {Q : Option Value → Shared → Prop} {E : Value → Shared → Prop} {tok' : List Nat} {qd' : Bool} {k' : Nat} {rest : List Nat}
    (X : (K w.params).In s.heap) (T : TopQ mg mb s.heap) (hh : A.handled = none) (hd : A.depth + 7 < recursionLimit) (hN : LexNe lex dl C.sio ds) (hI : LexIn s.heap lex dl ds C nlv text tb k pos) (hpb : DqE s.heap C.pb) (hfs : DqE s.heap C.fs) (hz : text.cps.size < 100000) (hF : Fs A outer s.heap) (hdl : dl ∉ frs outer) (hds : ds ∉ frs outer)
    (hgo : lexGo k [] false (text.cps.toList.drop pos) = some (tok', qd', k', rest))
    (h : ¬ (tok' = [] ∧ qd' = false) → ∀ h' tk' t' pos', KpBut2 dl ds s.heap h' → LexIn h' lex dl ds C nlv text tb k' pos' → text.cps.toList.drop pos' = rest → Q (some (.str (tokOf tok') t')) { s with heap := h', toks := tk' })
    (hE : tok' = [] ∧ qd' = false → ∀ h' tk', KpH (dl :: ds :: frs outer) s.heap h' → FrS (frs outer) s.heap h' → Q none { s with heap := h', toks := tk' }) :
    wpAny (model pw w) A (pyNext (.ref lex)) Q E s := by
  have I : PySem.W.InstAt s.heap lex (instObj 781 dl) 781 (s.heap.get? dl) := by
    obtain ⟨st, tt, ln, tl, el, nl, es, ns, tp, h1, h2, _⟩ := hI
    exact ⟨h1, rfl, rfl, by rw [h2]; exact h2⟩
  unfold pyNext
  refine wpAny_bind (wpAny_attempt (special_fn (name := "__next__") (args := []) X I (next_is _).1 (beq_iff_eq.mp (next_is w.params).2) ?_))
  refine nx_spec X T hh hd hN hI hpb hfs hz hF hdl hds hgo (fun hne h' tk' t' pos' hk hl hr => ?_) (fun heq e h' tk' hk hf hc => ?_)
  · exact wpAny_pure (h hne h' tk' t' pos' hk hl hr)
  · obtain ⟨o, e1, e2⟩ := hc
    refine wpAny_bind (wpAny_isInstance (T := "StopIteration") (b := true) ⟨o, e1, e2⟩ PySem.isSubtype_stop ?_)
    exact wpAny_pure (hE heq h' tk' hk hf)
theorem kp2_kpH {dl ds : Addr} {h h' : Heap} (k : KpBut2 dl ds h h') : KpH [dl, ds] h h' := fun b o hb e => k b o (fun z => hb (z ▸ .head _)) (fun z => hb (z ▸ .tail _ (.head _))) e
theorem strsAre_snoc {vs : List Value} {ss : List PySem.Str} (h : StrsAre vs ss) (x : PySem.Str) (t : Tok) : StrsAre (vs ++ [.str x t]) (ss ++ [x]) := by
  induction h with
  | nil => exact .cons _ _ .nil
  | cons x t _ ih => exact .cons _ _ ih
end Mine
end

section
open PySem PySem.W PyProof.Rows PySem.Calls PySem.Spec
namespace Mine
set_option maxHeartbeats 4000000 in
theorem it_spec {w : World} {A : Around} {mg mb : PySem.Str → Option Value} {s : Shared} {x : Addr} {Q E : Value → Shared → Prop}
    (X : (K w.params).In s.heap) (T : TopQ mg mb s.heap) (hd : A.depth + 1 < recursionLimit)
    (h : ∀ h' tk', Kp s.heap h' → Q (.ref x) { s with heap := h', toks := tk' }) :
    wpAny (model pw w) A (call (.ref 771) [.ref x]) Q E s := by
  refine wpAny_call ?_
  k_dflt (refine' enterK X T.nolimit ?k6 ?k7 ?k8 ?k9 ?kB ?_ ?c2 ?c3 ?c4 ?c5; (case k6 => k_is); (case k7 => k_is); (case k8 => omega); (case k9 => exact BindsTo.of_eq rfl); (case c5 => decide); (case kB => exact locs rfl); (case c2 => exact rfl); (case c3 => exact rfl); (case c4 => exact rfl); k_whole; intro h' F' N'; (try dsimp only))
  exact execs_one (wpAny_Return_some (ld F' rfl (h _ _ F'.keep)))
theorem special_at {M : Model} {A : Around} {E : Value → Shared → Prop} {s : Shared} {P : Params} {x C : Addr} {ox : Obj} {od : Option Obj} {name : PySem.Str} {r : Option Value} {Q : Option Value → Shared → Prop} (X : (K P).In s.heap) (I : PySem.W.InstAt s.heap x ox C od) (hs : findIn (K P) (.ref C) name = some r) (h : Q r s) : wpAny M A (specialOf (.ref x) name) Q E s :=
  wpAny_bind (I.type.here ((looks_findIn X hs).here h))
theorem hint_no {w : World} {A : Around} {E : Value → Shared → Prop} {s : Shared} {x : Addr} {ox : Obj} {od : Option Obj} {Q : Bool → Shared → Prop} (X : (K w.params).In s.heap) (I : PySem.W.InstAt s.heap x ox 781 od) (h : Q true s) : wpAny (model pw w) A (Builtin.List.listLengthHint (.ref x)) Q E s := by
  unfold Builtin.List.listLengthHint
  refine wpAny_bind (special_at X I (nolen_is _).1 ?_)
  show wpAny _ A (specialOf (.ref x) (PySem.Str.ofString "__length_hint__") >>= _) _ _ _
  refine wpAny_bind (special_at X I (nolen_is _).2 ?_)
  exact wpAny_pure h
theorem inst_kp {h h' : Heap} {lex dl S : Addr} (h1 : h.get? lex = some (instObj 781 dl)) (h2 : (h.get? dl).isSome = true) (k : KpH [S] h h') (n1 : lex ≠ S) (n2 : dl ≠ S) : PySem.W.InstAt h' lex (instObj 781 dl) 781 (h.get? dl) := by
  obtain ⟨o, e⟩ := Option.isSome_iff_exists.mp h2
  refine ⟨k _ _ (by simpa using n1) h1, rfl, rfl, ?_⟩
  rw [e]
  exact k _ _ (by simpa using n2) e
/-- the lexer as a feed of words -/
structure LexAt (w : World) (A : Around) (mg mb : PySem.Str → Option Value) (outer : List Env) (s₀ : Shared) (lex dl ds S : Addr) (C : LexC) (nlv : Value) (text : PySem.Str) (tb : Tok) (all : List PySem.Str) (ys : List Value) (ws : List (List Nat)) (s : Shared) : Prop where
  X : (K w.params).In s.heap
  T : TopQ mg mb s.heap
  I : ∃ k pos, LexIn s.heap lex dl ds C nlv text tb k pos ∧ Rem ws k (text.cps.toList.drop pos)
  pb : DqE s.heap C.pb
  fs : DqE s.heap C.fs
  F : Fs A outer s.heap
  ys : ∃ ss, StrsAre ys ss ∧ ss ++ ws.map tokOf = all
  eq : ∃ h tk, s = { s₀ with heap := h, toks := tk } ∧ KpH (S :: dl :: ds :: frs outer) s₀.heap h ∧ FrS (frs outer) s₀.heap h
theorem LexAt.move {w : World} {A : Around} {mg mb : PySem.Str → Option Value} {outer : List Env} {s₀ s : Shared} {lex dl ds S : Addr} {C : LexC} {nlv : Value} {text : PySem.Str} {tb : Tok} {all : List PySem.Str} {ys : List Value} {ws : List (List Nat)} {l : List Addr} {ys' : List Value} {ws' : List (List Nat)} {h' : Heap} {tk : Nat}
    (x : LexAt w A mg mb outer s₀ lex dl ds S C nlv text tb all ys ws s) (k : KpH l s.heap h') (f : FrS (frs outer) s.heap h') (hl : ∀ a ∈ l, a ∈ S :: dl :: ds :: frs outer) (hlo : ∀ a ∈ l, 859 ≤ a) (hpb : C.pb ∉ l) (hfs : C.fs ∉ l)
    (hI : ∃ k pos, LexIn h' lex dl ds C nlv text tb k pos ∧ Rem ws' k (text.cps.toList.drop pos)) (hy : ∃ ss, StrsAre ys' ss ∧ ss ++ ws'.map tokOf = all) : LexAt w A mg mb outer s₀ lex dl ds S C nlv text tb all ys' ws' { s with heap := h', toks := tk } := by
  obtain ⟨h, _, e, k0, f0⟩ := x.eq
  have eh : s.heap = h := by rw [e]
  exact ⟨kin_h x.X k hlo, top_h x.T k hlo, hI, x.pb.keeps fun o e => k _ o hpb e, x.fs.keeps fun o e => k _ o hfs e, ⟨x.F.stack, x.F.ok.step f⟩, hy,
    h', tk, by rw [e], fun b o hb eb => k b o (fun hm => hb (hl b hm)) (eh ▸ k0 b o hb eb), f0.trans (eh ▸ f)⟩
theorem list_lex {w : World} {A : Around} {mg mb m : PySem.Str → Option Value} {outer : List Env} {s : Shared} {g : Heap} {L lex dl ds : Addr} {C : LexC} {text : PySem.Str} {k pos : Nat} {nlv : Value} {tb : Tok} {ws : List (List Nat)} {Q E : Value → Shared → Prop}
    (X : (K w.params).In g) (T : TopQ mg mb g) (Fh : Fr g L s.heap m) (hh : A.handled = none) (hd : A.depth + 7 < recursionLimit) (hN : LexNe lex dl C.sio ds) (hI : LexIn s.heap lex dl ds C nlv text tb k pos) (hpb : DqE s.heap C.pb) (hfs : DqE s.heap C.fs) (hz : text.cps.size < 100000) (hF : Fs A outer s.heap) (hdl : dl ∉ frs outer) (hds : ds ∉ frs outer)
    (hrem : Rem ws k (text.cps.toList.drop pos)) (hlen : ws.length ≤ 1000)
    (h : ∀ S h' tk' vs' n', s.heap.get? S = none → 859 ≤ S → KpH (dl :: ds :: frs outer) s.heap h' → FrS (frs outer) s.heap h' → h'.get? S = some (listO vs'.toArray n') → StrsAre vs' (ws.map tokOf) → Q (.ref S) { s with heap := h', toks := tk' }) :
    wpAny (model pw w) A (call (.type "list") [.ref lex]) Q E s := by
  have hnew : s.heap.get? s.heap.objs.size = none := by
    cases e : s.heap.get? s.heap.objs.size with
    | none => rfl
    | some o => exact absurd (Heap.lt_size e) (Nat.lt_irrefl _)
  have old : ∀ {b o}, s.heap.get? b = some o → s.heap.objs.size ≠ b := fun e => Nat.ne_of_gt (Heap.lt_size e)
  obtain ⟨st, tt, ln, tl, el, nl, es, ns, tp, h1, h2, h3, h4, hr⟩ := id hI
  have hSl : 859 ≤ s.heap.objs.size := Nat.le_of_lt (Nat.lt_of_le_of_lt hN.l1 (Heap.lt_size h1))
  have hSf : s.heap.objs.size ∉ frs outer := fun hm => by obtain ⟨o, e, _⟩ := hF.ok.mem hm; rw [hnew] at e; cases e
  obtain ⟨op, _, hp1, hp2, _⟩ := id hpb
  obtain ⟨oq, _, hq1, hq2, _⟩ := id hfs
  have dq_no : ∀ {a b : Addr} {o o' : Obj}, s.heap.get? a = some o → s.heap.get? b = some o' → o.cls ≠ o'.cls → a ≠ b := fun e1 e2 hc z => by rw [z, e2] at e1; cases e1; exact hc rfl
  refine list_feed (l := ws) (St := LexAt w A mg mb outer s lex dl ds s.heap.objs.size C nlv text tb (ws.map tokOf)) (Fin := fun ys s' => StrsAre ys (ws.map tokOf) ∧ ∃ h tk, s' = { s with heap := h, toks := tk } ∧ KpH (s.heap.objs.size :: dl :: ds :: frs outer) s.heap h ∧ FrS (frs outer) s.heap h) ⟨?_, ?_, ?_⟩ (Ne.symm (old h1)) (by rw [sizeLine_eq]; exact Nat.le_trans hlen (by decide)) ?_ ?_ ?_
  · intro ys l s' h' tk x k'
    obtain ⟨k, pos, ⟨st, tt, ln, tl, el, nl, es, ns, tp, g1, g2, g3, g4, gr⟩, hrem⟩ := x.I
    have hk : KpH [s.heap.objs.size] s'.heap h' := fun b o hb e => k' b o (fun z => hb (z ▸ .head _)) e
    refine x.move hk (.of_kp fun b hb o e => k' b o (fun z => hSf (z ▸ hb)) e) (fun a ha => by rcases List.mem_cons.mp ha with rfl | ha; exact .head _; cases ha) (fun a ha => by rcases List.mem_cons.mp ha with rfl | ha; exact hSl; cases ha) (fun ha => by rcases List.mem_cons.mp ha with z | ha; exact old hp1 z.symm; cases ha) (fun ha => by rcases List.mem_cons.mp ha with z | ha; exact old hq1 z.symm; cases ha) ⟨k, pos, ⟨st, tt, ln, tl, el, nl, es, ns, tp, ?_, ?_, ?_, ?_, gr⟩, hrem⟩ x.ys
    · exact k' _ _ (Ne.symm (old h1)) g1
    · exact k' _ _ (Ne.symm (old h2)) g2
    · exact k' _ _ (Ne.symm (old h3)) g3
    · exact k' _ _ (Ne.symm (old h4)) g4
  · intro ys x1 l s' Q E x _ hQ
    obtain ⟨k, pos, hI', hrem⟩ := x.I
    obtain ⟨qd, k2, rest, hgo, hne, hrem2⟩ := hrem
    refine nx_py (A := A.in1.in1) x.X x.T hh hd hN hI' x.pb x.fs hz ⟨x.F.stack, x.F.ok⟩ hdl hds hgo (fun _ h' tk' t' pos' hk hl hrest => ?_) (fun heq => absurd heq hne)
    obtain ⟨ss, y1, y2⟩ := x.ys
    refine hQ _ _ (x.move (kp2_kpH hk) (.of_kp fun b hb o e => hk b o (fun z => hdl (z ▸ hb)) (fun z => hds (z ▸ hb)) e) (fun a ha => .tail _ (by rcases List.mem_cons.mp ha with rfl | ha; exact .head _; rcases List.mem_cons.mp ha with rfl | ha; exact .tail _ (.head _); cases ha)) (fun a ha => by rcases List.mem_cons.mp ha with rfl | ha; exact hN.l2; rcases List.mem_cons.mp ha with rfl | ha; exact hN.l4; cases ha) ?_ ?_ ⟨k2, pos', hl, hrest.symm ▸ hrem2⟩ ⟨ss ++ [tokOf x1], strsAre_snoc y1 _ _, by rw [← y2]; simp⟩) fun o e => hk _ o (old h2) (old h4) e
    · exact fun ha => by rcases List.mem_cons.mp ha with z | ha; exact dq_no hp1 h2 (by rw [hp2]; simp) z; rcases List.mem_cons.mp ha with z | ha; exact dq_no hp1 h4 (by rw [hp2]; simp) z; cases ha
    · exact fun ha => by rcases List.mem_cons.mp ha with z | ha; exact dq_no hq1 h2 (by rw [hq2]; simp) z; rcases List.mem_cons.mp ha with z | ha; exact dq_no hq1 h4 (by rw [hq2]; simp) z; cases ha
  · intro ys s' Q E x hQ
    obtain ⟨k, pos, hI', k2, rest, hgo⟩ := x.I
    obtain ⟨ss, y1, y2⟩ := x.ys
    refine nx_py (A := A.in1.in1) x.X x.T hh hd hN hI' x.pb x.fs hz ⟨x.F.stack, x.F.ok⟩ hdl hds hgo (fun hne => absurd ⟨rfl, rfl⟩ hne) (fun _ h' tk' hk hf => ?_)
    obtain ⟨h0, tk0, e0, k0, f0⟩ := x.eq
    have eh : s'.heap = h0 := by rw [e0]
    have hSm : s.heap.objs.size ∉ dl :: ds :: frs outer := fun hm => by
      rcases List.mem_cons.mp hm with z | hm
      · exact old h2 z
      rcases List.mem_cons.mp hm with z | hm
      · exact old h4 z
      exact hSf hm
    exact hQ _ ⟨by rw [← y2]; simpa using y1, h', tk', by rw [e0], fun b o hb e => hk b o (fun hm => hb (.tail _ hm)) (eh ▸ k0 b o hb e), f0.trans (eh ▸ hf)⟩ fun o e => hk _ o hSm e
  · intro h' tk k'
    have I : PySem.W.InstAt h' lex (instObj 781 dl) 781 (s.heap.get? dl) := inst_kp (S := s.heap.objs.size) h1 (by rw [h2]; rfl) (fun b o _ e => k' b o e) (Ne.symm (old h1)) (Ne.symm (old h2))
    exact ⟨fun Q E hq => I.type.here (hq _ rfl rfl)⟩
  · rintro s₁ Q E ⟨h', tk, rfl, k'⟩ hq
    have I0 : PySem.W.InstAt h' lex (instObj 781 dl) 781 (s.heap.get? dl) := inst_kp (S := s.heap.objs.size) h1 (by rw [h2]; rfl) (fun b o _ e => k' b o e) (Ne.symm (old h1)) (Ne.symm (old h2))
    refine owit_iter (A := A.in1.in1) (s := { s with heap := h', toks := tk }) (Fh.keeps k') X I0 (iter_is _).1 (iter_is _).2 ?_
    refine it_spec (X.keeps (Fh.keeps k').keep) (T.keeps (Fh.keeps k').keep) (by show A.depth + 1 < _; omega) fun h2' tk' hk => ?_
    have kk : Kp s.heap h2' := fun b o e => hk b o (k' b o e)
    have I1 : PySem.W.InstAt h2' lex (instObj 781 dl) 781 (s.heap.get? dl) := inst_kp (S := s.heap.objs.size) h1 (by rw [h2]; rfl) (fun b o _ e => kk b o e) (Ne.symm (old h1)) (Ne.symm (old h2))
    refine owit_it ((Fh.keeps k').keeps hk) X I1 (next_is _).1 ?_
    refine hq _ ⟨X.keeps (Fh.keeps kk).keep, T.keeps (Fh.keeps kk).keep, ⟨k, pos, ⟨st, tt, ln, tl, el, nl, es, ns, tp, kk _ _ h1, kk _ _ h2, kk _ _ h3, kk _ _ h4, hr⟩, hrem⟩, hpb.keeps fun o e => kk _ o e, hfs.keeps fun o e => kk _ o e, ⟨hF.stack, hF.ok.step (.of_kp fun b _ o e => kk b o e)⟩, ⟨[], .nil, rfl⟩, h2', tk', rfl, fun b o _ e => kk b o e, .of_kp fun b _ o e => kk b o e⟩ (fun o e => hk _ o e) fun Q E hq => ?_
    exact hint_no (X.keeps (Fh.keeps kk).keep) I1 hq
  · rintro s' vs' n' ⟨hst, h', tk, rfl, hk, hf⟩ e
    refine h _ h' tk vs' n' hnew hSl (fun b o hb eb => hk b o (fun hm => ?_) eb) hf e hst
    rcases List.mem_cons.mp hm with z | hm
    · rw [z, hnew] at eb; cases eb
    · exact hb hm
end Mine
end

section
open PySem PySem.W PyProof.Rows PySem.Calls PySem.Spec
namespace Mine
/-! ## One object of a class that is being filled -/
noncomputable def ESk (es : List DictEntry) (mm : PySem.Str → Option Value) (k : Nat) : Prop := (∀ name, getL name es = some (mm name)) ∧ es.length ≤ k
theorem ESk.es {es : List DictEntry} {mm : PySem.Str → Option Value} {k : Nat} (h : ESk es mm k) (hk : k ≤ 100) : ES es mm := ⟨h.1, Nat.le_trans h.2 hk⟩
theorem putL_len' (name : PySem.Str) (hsh : Int) (k v : Value) : ∀ (es : List DictEntry), (putL name hsh k v es).length ≤ es.length + 1
  | [] => Nat.le_refl _
  | e :: r => by
    unfold putL
    split
    · simp
    · have := putL_len' name hsh k v r
      simp only [List.length_cons]; omega
theorem putL_find' (name : PySem.Str) (hsh : Int) (t : Tok) (v : Value) : ∀ (es : List DictEntry) (y : PySem.Str), (putL name hsh (.str name t) v es).find? (·.key.isStr y) = if y = name then some (match es.find? (·.key.isStr name) with | some e => ⟨e.hash, e.key, v⟩ | none => ⟨hsh, .str name t, v⟩) else es.find? (·.key.isStr y)
  | [], y => by
    have : (Value.str name t).isStr y = decide (y = name) := by
      by_cases h : y = name
      · subst h; simp [Value.isStr]
      · simp [Value.isStr, h]; exact fun e => h e.symm
    simp only [putL, List.find?_cons, this, List.find?_nil]
    by_cases h : y = name <;> simp [h]
  | e :: r, y => by
    unfold putL
    cases he : e.key.isStr name with
    | true =>
      obtain ⟨u, hu⟩ := isStr_iff.mp he
      rw [if_pos rfl]
      by_cases hy : y = name
      · subst hy
        rw [if_pos rfl]
        simp only [List.find?_cons, he]
      · rw [if_neg hy]
        have h1 : e.key.isStr y = false := by rw [hu]; simp [Value.isStr]; exact fun z => hy z.symm
        simp only [List.find?_cons, h1]
    | false =>
      rw [if_neg Bool.false_ne_true]
      have ih := putL_find' name hsh t v r y
      simp only [List.find?_cons, he]
      cases hk : e.key.isStr y with
      | true =>
        have hy : y ≠ name := fun z => by rw [z, he] at hk; cases hk
        rw [if_neg hy]
      | false => exact ih
theorem ESk.put {es : List DictEntry} {mm : PySem.Str → Option Value} {k : Nat} (h : ESk es mm k) {name : PySem.Str} (hsh : Int) (t : Tok) (v : Value) : ESk (putL name hsh (.str name t) v es) (upd mm name v) (k + 1) := by
  obtain ⟨h1, h2⟩ := h
  refine ⟨fun y => ?_, by have := putL_len' name hsh (.str name t) v es; omega⟩
  have hg := putL_find' name hsh t v es y
  have hr : es.any (·.refKey) = false ∨ ∃ e, es.find? (·.key.isStr y) = some e := by
    cases hf : es.find? (·.key.isStr y) with
    | some e => exact .inr ⟨e, rfl⟩
    | none =>
      left
      have hy0 := h1 y
      unfold getL at hy0
      rw [hf] at hy0
      cases hr : es.any (·.refKey) with
      | false => rfl
      | true => dsimp only at hy0; rw [hr] at hy0; cases hy0
  unfold upd
  by_cases hy : y = name
  · subst hy
    rw [if_pos rfl] at hg ⊢
    unfold getL
    rw [hg]
    cases es.find? (·.key.isStr y) <;> rfl
  · rw [if_neg hy] at hg ⊢
    rw [← h1 y]
    unfold getL
    rw [hg]
    rcases hr with hr | ⟨e, he⟩
    · cases es.find? (·.key.isStr y) with
      | some e => rfl
      | none => dsimp only; rw [putL_refs _ _ _ _ _ hr, hr]
    · rw [he]
structure OP where
  g : Heap
  L : Addr
  s : Shared
  x : Addr
  d : Addr
  C : Addr
noncomputable def OX (p : OP) (m mm : PySem.Str → Option Value) (k : Nat) (news : List (Addr × Obj)) (s : Shared) : Prop :=
  ∃ el nl h tk, s = { p.s with heap := h, toks := tk } ∧ Fr p.g p.L h m ∧ News p.g p.L h ((p.x, instObj p.C p.d) :: (p.d, dictOf el nl) :: news) ∧ ESk el mm k ∧ ∀ q ∈ news, q.1 ≠ p.d
theorem ox_tk {p : OP} {m mm : PySem.Str → Option Value} {k : Nat} {news : List (Addr × Obj)} : Tk (OX p m mm k news) := by
  rintro s tk ⟨el, nl, h, tk0, rfl, r⟩
  exact ⟨el, nl, h, tk, rfl, r⟩
/-- what is known of a class -/
structure Cls (P : Params) (C : Addr) (names : List PySem.Str) : Prop where
  get : ∀ n ∈ names, plainGet (K P) C n = true ∧ findIn (K P) (.ref C) n = some none ∧ takerIn (K P) C n = some none
  dict : hasDictIn (K P) C = true
  over : plainOver (K P) C = true
  setter : findIn (K P) (.ref C) (PySem.Str.ofString "__setattr__") = some (some (.builtin "object.__setattr__"))
theorem cls_of {P : Params} {C : Addr} {names : List PySem.Str} (h : names.all (fun n => plainGet (K P) C n && (match findIn (K P) (.ref C) n with | some none => true | _ => false) && (match takerIn (K P) C n with | some none => true | _ => false)) = true) (h2 : hasDictIn (K P) C = true) (h3 : plainOver (K P) C = true) (h4 : findIn (K P) (.ref C) (PySem.Str.ofString "__setattr__") = some (some (.builtin "object.__setattr__"))) : Cls P C names := by
  refine ⟨fun n hn => ?_, h2, h3, h4⟩
  have := List.all_eq_true.mp h n hn
  obtain ⟨a, c⟩ := Bool.and_eq_true_iff.mp this
  obtain ⟨a, b⟩ := Bool.and_eq_true_iff.mp a
  refine ⟨a, ?_, ?_⟩
  · split at b
    · assumption
    · cases b
  · split at c
    · assumption
    · cases c
structure Ok (w : World) (p : OP) (sc : Scope) (names : List PySem.Str) (mg mb : PySem.Str → Option Value) : Prop where
  X : (K w.params).In p.g
  T : TopQ mg mb p.g
  cls : Cls w.params p.C names
  kf : sc.kind = .function
  ks : sc.names.lookup (PySem.Str.ofString "self") = some .local
  xd : @Ne Nat p.x p.d
section
variable {w : World} {A : Around} {p : OP} {sc : Scope} {names : List PySem.Str} {mg mb m mm : PySem.Str → Option Value} {k : Nat} {news : List (Addr × Obj)} {qn : PySem.Str} {f : Addr} {cd : Value} {P : Value → Prop} {q q1 q2 q3 : Pos} {e : PySem.Expr} {name x : PySem.Str} {v : Value}
theorem ox_name (hm : m x = some v) (kf : sc.kind = .function) (kx : sc.names.lookup x = some .local) (hd : (x == PySem.Str.ofString "__debug__") = false) : EV w A (envOf qn sc p.L f cd) (OX p m mm k news) (.Name x q) (· = v) := by
  intro s Q E hs h
  obtain ⟨el, nl, hp, tk, rfl, F, r⟩ := id hs
  exact ld F hm (h _ _ rfl hs) kf kx hd
theorem ox_attr (R : Ok w p sc names mg mb) (ms : m (PySem.Str.ofString "self") = some (.ref p.x)) (hn : name ∈ names) (hk : k ≤ 100) (hv : mm name = some v) (hh : handedIn v = true) : EV w A (envOf qn sc p.L f cd) (OX p m mm k news) (.Attribute (.Name (PySem.Str.ofString "self") q1) name q2) (· = v) := by
  intro s Q E hs h
  obtain ⟨el, nl, hp, tk, rfl, F, N, hE, r⟩ := id hs
  refine Attribute_name (ld F ms ?_ R.kf R.ks)
  exact get_es F R.X N (.head _) (.tail _ (.head _)) (hE.es hk) (R.cls.get _ hn).1 R.cls.dict (R.cls.get _ hn).2.1 hv hh (h _ _ rfl (ox_tk _ _ hs))
theorem ox_setA (R : Ok w p sc names mg mb) (hn : name ∈ names) (hk : k + 1 ≤ 100) {s : Shared} (hs : OX p m mm k news s) {Q : Unit → Shared → Prop} {E : Value → Shared → Prop} (h : ∀ s', OX p m (upd mm name v) (k + 1) news s' → Q () s') : wpAny (model pw w) A (setAttr (.ref p.x) name v) Q E s := by
  obtain ⟨el, nl, hp, tk, rfl, F, N, hE, hd⟩ := hs
  have hE' := hE.put (PyData.keyHash w.params name) (tk + 1) v (name := name)
  exact set_dict F R.X N (InstAt.of_news N (.head _) (.tail _ (.head _))) rfl R.cls.setter R.cls.over (R.cls.get _ hn).2.2 R.cls.dict (by rw [hE.1]; rfl) rfl (.tail R.xd (.head hd)) (Nat.le_trans hE'.2 (by omega)) fun h' F' N' => h _ ⟨_, _, h', _, rfl, F', N', hE', hd⟩
theorem ox_set (R : Ok w p sc names mg mb) (ms : m (PySem.Str.ofString "self") = some (.ref p.x)) (hn : name ∈ names) (hk : k + 1 ≤ 100)
    (he : EV w A (envOf qn sc p.L f cd) (OX p m mm k news) e P) (hsw : swapsWith e (some (.Attribute (.Name (PySem.Str.ofString "self") q1) name q2)) q3.line (envOf qn sc p.L f cd) = pure false) :
    DO w A (envOf qn sc p.L f cd) (OX p m mm k news) (.Assign [.Attribute (.Name (PySem.Str.ofString "self") q1) name q2] e q3) (fun s => ∃ v, P v ∧ OX p m (upd mm name v) (k + 1) news s) := by
  intro s Q E hs h
  refine plainObj_wpAny_Assign_Attribute (he s _ _ hs fun v s1 hv hs1 => ?_) hsw
  obtain ⟨el, nl, hp, tk, rfl, F, N, hE, r⟩ := id hs1
  refine ld F ms ?_ R.kf R.ks
  exact ox_setA R hn hk hs1 fun s' hs' => h s' ⟨v, hv, hs'⟩
theorem ox_local (kf : sc.kind = .function) (kx : sc.names.lookup x = some .local)
    (he : EV w A (envOf qn sc p.L f cd) (OX p m mm k news) e P) (hsw : swapsWith e (some (.Name x q1)) q3.line (envOf qn sc p.L f cd) = pure false) :
    DO w A (envOf qn sc p.L f cd) (OX p m mm k news) (.Assign [.Name x q1] e q3) (fun s => ∃ v, P v ∧ OX p (fun y => if y = x then some v else m y) mm k news s) := by
  intro s Q E hs h
  refine wpAny_Assign_Name (he s _ _ hs fun v s1 hv hs1 => ?_) hsw
  obtain ⟨el, nl, hp, tk, rfl, F, N, hE, hd⟩ := id hs1
  refine wpAny_storeName_local kx F.ns (fun h' hn hs' => ?_) (by show (sc.kind == .class || (sc.kind == .module && p.L != mainGlobals)) = false; rw [kf]; rfl)
  exact h _ ⟨v, hv, el, nl, h', _, rfl, F.set hn hs', N.set hs', hE, hd⟩
end
end Mine
end

section
open PySem PySem.W PyProof.Rows PySem.Calls PySem.Spec
namespace Mine
theorem es_of {es : List DictEntry} (h : es.any (·.refKey) = false) (hl : es.length ≤ 100) : ES es (fun y => (es.find? (·.key.isStr y)).map (·.val)) := by
  refine ⟨fun y => ?_, hl⟩
  unfold getL
  dsimp only
  cases hf : es.find? (·.key.isStr y) with
  | some e => rfl
  | none => rw [h]; rfl
local macro_rules | `(tactic| walk_at "getAttr ref") => `(tactic| (k_dflt (refine' get_es ?k1 ?k2 ?k3 ?k4 ?k5 ?k6 ?k7 ?k8 ?k9 ?k10 ?k11 ?_; (case k1 => k_asm); (case k2 => k_asm); (case k3 => k_asm); (case k4 => k_mem); (case k5 => k_mem); (case k6 => assumption); (case k7 => k_is); (case k8 => k_is); (case k9 => k_is); (case k10 => assumption); (case k11 => k_handed); k_whole)))
set_option maxHeartbeats 4000000 in
theorem tr_spec {w : World} {A : Around} {mg mb mm : PySem.Str → Option Value} {s : Shared} {sio ds : Addr} {es : List DictEntry} {n : Nat} {x : PySem.Str} {t tn : Tok} {Q E : Value → Shared → Prop}
    (X : (K w.params).In s.heap) (T : TopQ mg mb s.heap) (hd : A.depth + 2 < recursionLimit)
    (h1 : s.heap.get? sio = some (instObj 646 ds)) (h2 : s.heap.get? ds = some (dictOf es n)) (l1 : 859 ≤ sio) (l2 : 859 ≤ ds) (hE : ES es mm) (hm : mm (PySem.Str.ofString "_StringIO__newline") = some (.str (PySem.Str.ofString "\n") tn))
    (h : ∀ h' tk', Kp s.heap h' → Q (.str x t) { s with heap := h', toks := tk' }) :
    wpAny (model pw w) A (call (.ref 423) [.ref sio, .str x t]) Q E s := by
  refine wpAny_call ?_
  k_dflt (refine' enterN [(sio, instObj 646 ds), (ds, dictOf es n)] ?hn X T ?k6 ?k7 ?k8 ?k9 ?kB ?_ ?c2 ?c3 ?c4 ?c5; (case hn => intro p hp; rcases List.mem_cons.mp hp with rfl | hp; exact ⟨h1, l1⟩; rcases List.mem_cons.mp hp with rfl | hp; exact ⟨h2, l2⟩; cases hp); (case k6 => k_is); (case k7 => k_is); (case k8 => omega); (case k9 => exact BindsTo.of_eq rfl); (case c5 => decide); (case kB => exact locs rfl); (case c2 => exact rfl); (case c3 => exact rfl); (case c4 => exact rfl); k_whole; intro g' h' kg kg2 gsz F' N' X' T'; (try dsimp only); (try k_fold))
  k_steps
  exact h _ _ (kp_news kg2 (Fr.keep (by assumption)) (by assumption) fun p hp => by rcases List.mem_cons.mp hp with rfl | hp; exact h1; rcases List.mem_cons.mp hp with rfl | hp; exact h2; cases hp)
theorem tr_F {w : World} {A : Around} {mg mb : PySem.Str → Option Value} {s : Shared} {sio ds : Addr} {es : List DictEntry} {n : Nat} {x : PySem.Str} {t tn : Tok} {Q E : Value → Shared → Prop} {h₀ : Heap} {L : Addr} {m : PySem.Str → Option Value} {news : List (Addr × Obj)} (F : Fr h₀ L s.heap m) (N : News h₀ L s.heap news)
    (X : (K w.params).In h₀) (T : TopQ mg mb h₀) (hd : A.depth + 2 < recursionLimit) (h1 : (sio, instObj 646 ds) ∈ news) (h2 : (ds, dictOf es n) ∈ news) (l1 : 859 ≤ sio) (l2 : 859 ≤ ds) (hr : es.any (·.refKey) = false) (hl : es.length ≤ 100) (hm : (es.find? (·.key.isStr (PySem.Str.ofString "_StringIO__newline"))).map (·.val) = some (.str (PySem.Str.ofString "\n") tn))
    (h : ∀ h' tk', Fr h₀ L h' m → News h₀ L h' news → Q (.str x t) { s with heap := h', toks := tk' }) :
    wpAny (model pw w) A (call (.ref 423) [.ref sio, .str x t]) Q E s :=
  tr_spec (X.keeps F.keep) (T.keeps F.keep) hd (N _ h1).1 (N _ h2).1 l1 l2 (es_of hr hl) hm fun h' tk' k => h h' tk' (F.keeps k) fun p hp => ⟨k _ _ (N p hp).1, (N p hp).2⟩
theorem es_sio {h1 h2 h3 : Int} {t1 t2 t3 tb tp : Tok} {nl : Value} {x : PySem.Str} {pos : Int} : ES [⟨h1, .str (PySem.Str.ofString "_StringIO__newline") t1, nl⟩, ⟨h2, .str (PySem.Str.ofString "_StringIO__buf") t2, .str x tb⟩, ⟨h3, .str (PySem.Str.ofString "_StringIO__pos") t3, .int pos tp⟩] (sioMap nl x tb pos tp) := by
  refine ⟨fun y => ?_, by show 3 ≤ 100; decide⟩
  by_cases e1 : y = PySem.Str.ofString "_StringIO__newline"
  · subst e1; rfl
  by_cases e2 : y = PySem.Str.ofString "_StringIO__buf"
  · subst e2; rfl
  by_cases e3 : y = PySem.Str.ofString "_StringIO__pos"
  · subst e3; rfl
  unfold getL sioMap
  rw [if_neg e1, if_neg e2, if_neg e3]
  have f1 : (PySem.Str.ofString "_StringIO__newline" == y) = false := beq_eq_false_iff_ne.mpr (Ne.symm e1)
  have f2 : (PySem.Str.ofString "_StringIO__buf" == y) = false := beq_eq_false_iff_ne.mpr (Ne.symm e2)
  have f3 : (PySem.Str.ofString "_StringIO__pos" == y) = false := beq_eq_false_iff_ne.mpr (Ne.symm e3)
  simp only [List.find?_cons, List.find?_nil, Value.isStr, f1, f2, f3]
  rfl
set_option maxHeartbeats 4000000 in
theorem si_spec {w : World} {A : Around} {mg mb : PySem.Str → Option Value} {s : Shared} {sio ds : Addr} {x : PySem.Str} {t : Tok} {R : Result → Shared → Prop}
    (X : (K w.params).In s.heap) (T : TopQ mg mb s.heap) (hd : A.depth + 3 < recursionLimit)
    (h1 : s.heap.get? sio = some (instObj 646 ds)) (h2 : s.heap.get? ds = some (dictOf [] 0)) (l1 : 859 ≤ sio) (l2 : 859 ≤ ds) (ne : @Ne Nat sio ds)
    (h : ∀ h' tk' es n tb tp, KpBut ds s.heap h' → h'.get? ds = some (dictOf es n) → ES es (sioMap (.str (PySem.Str.ofString "\n") 824) x tb 0 tp) → R (.ok (.ret .none)) { s with heap := h', toks := tk' }) :
    codeAny (model pw w) A (.call (.ref 416) ⟨[.ref sio, .str x t], []⟩) R s := by
  k_dflt (refine' enterN (binds := [(PySem.Str.ofString "self", .ref sio), (PySem.Str.ofString "initial_value", .str x t), (PySem.Str.ofString "newline", .str (PySem.Str.ofString "\n") 824)]) [(sio, instObj 646 ds), (ds, dictOf [] 0)] ?hn X T ?k6 ?k7 ?k8 ?k9 ?kB ?_ ?c2 ?c3 ?c4 ?c5; (case hn => intro p hp; rcases List.mem_cons.mp hp with rfl | hp; exact ⟨h1, l1⟩; rcases List.mem_cons.mp hp with rfl | hp; exact ⟨h2, l2⟩; cases hp); (case k6 => k_is); (case k7 => k_is); (case k8 => omega); (case k9 => exact binds_K X rfl (by k_is) rfl rfl rfl); (case c5 => decide); (case kB => exact locs rfl); (case c2 => exact rfl); (case c3 => exact rfl); (case c4 => exact rfl); k_whole; intro g' h' kg kg2 gsz F' N' X' T'; (try dsimp only); (try k_fold))
  k_steps
  k_dflt (refine tr_F (by assumption) (by assumption) X' T' (by simp only [depth_deeper]; omega) (.head _) (.tail _ (.head _)) l1 l2 rfl (by show 3 ≤ 100; decide) rfl ?_; intro h2 tk2 F2 N2)
  k_steps
  have en := end2 kg2 h1 (by assumption) (by assumption)
  exact h _ _ _ _ _ _ en.1 en.2 es_sio
end Mine
end

section
open PySem PySem.W PyProof.Rows PySem.Calls PySem.Spec
namespace Mine
/-! ## StringIO(text): a class with a maker of its own -/
theorem pk_check (P : Params) : peek (K P) ⟨pw, P⟩ (checkBuiltinCall "object.__new__" ⟨[.ref 646], []⟩) = some () := by kernel_rfl
theorem pk_isType (P : Params) : peek (K P) ⟨pw, P⟩ (isType (.ref 646)) = some true := by kernel_rfl
theorem pk_here (P : Params) : peek (K P) ⟨pw, P⟩ (Bind.madeHere "object.__new__" (.ref 646)) = some () := by kernel_rfl
theorem pk_made (P : Params) : peek (K P) ⟨pw, P⟩ (Bind.madeBy (.ref 646)) = some none := by kernel_rfl
theorem pk_mro (P : Params) : peek (K P) ⟨pw, P⟩ (mroOf (.ref 646)) = some [.ref 646, .ref 169, .ref 142, .type "object"] := by kernel_rfl
theorem pk_call (P : Params) : peek (K P) ⟨pw, P⟩ (specialOf (.ref 646) "__call__") = some (some (.builtin "type.__call__")) := by kernel_rfl
theorem pk_typ (P : Params) : peek (K P) ⟨pw, P⟩ (isInstance (.ref 646) (.type "type")) = some true := by kernel_rfl
theorem pk_sub (P : Params) : peek (K P) ⟨pw, P⟩ (isSubtype (.ref 646) (.ref 646)) = some true := by kernel_rfl
theorem cls646 (P : Params) : ∃ oc od cd sl, (K P).lookup 646 = some ⟨oc, od, .cls cd, sl⟩ ∧ cd.abstract = false ∧ cd.hasDel = false := ⟨_, _, _, _, by k_is, rfl, rfl⟩
theorem objnew {w : World} {A : Around} {s : Shared} {Q E : Value → Shared → Prop} (X : (K w.params).In s.heap)
    (h : ∀ h', h' = (s.heap.push (dictOf [] 0)).push (instObj 646 s.heap.objs.size) → Q (.ref (s.heap.objs.size + 1)) { s with heap := h' }) : wpAny (model pw w) A (call (.builtin "object.__new__") [.ref 646]) Q E s := by
  obtain ⟨oc, od, cd, sl, hC, e1, e2⟩ := cls646 w.params
  refine wpAny_call (codeAny_call_builtin_code (Code.quiet_builtin _ (by decide +kernel)) ((Looks.of_peek X (pk_check w.params)).here (codeAny_builtin PySem.F.entry_object_new ?_)))
  show wpAny _ _ (isType (.ref 646) >>= fun b => _) _ _ _
  refine wpAny_bind ((Looks.of_peek X (pk_isType w.params)).here ?_)
  show wpAny _ _ (Bind.madeHere "object.__new__" (.ref 646) >>= fun _ => _) _ _ _
  refine wpAny_bind ((Looks.of_peek X (pk_here w.params)).here ?_)
  show wpAny _ _ (classData 646 >>= fun c => _) _ _ _
  refine wpAny_bind (wpAny_bind (wpAny_load (X _ _ hC) (wpAny_pure ?_)))
  simp only [e1, Bool.false_eq_true, if_false]
  show wpAny _ _ ((alloc emptyDict >>= fun x => pure (some x)) >>= _) _ _ _
  refine wpAny_bind (wpAny_bind (wpAny_alloc (wpAny_pure (wpAny_bind ?_))))
  show wpAny _ _ (newObjAsIs _ _ _) _ _ _
  unfold newObjAsIs classHasDel
  refine wpAny_bind (wpAny_alloc (wpAny_bind (wpAny_bind (wpAny_load (Heap.get?_push_of_some _ (Heap.get?_push_of_some _ (X _ _ hC))) (wpAny_pure ?_)))))
  rw [e2]
  refine wpAny_pure (wpAny_pure ?_)
  have := h _ rfl
  rw [← Heap.size_push (h := s.heap) (dictOf [] 0)] at this
  exact this
theorem enterB {w : World} {A : Around} {s s' : Shared} {R : Result → Shared → Prop} {name qual : PySem.Str} {params : Arguments} {body : List Stmt} {scope : Scope} {dV kV doc pm cdv ct oc : Value} {an od : Option Addr} {osl : Array (Option Value)} {f : Addr} {args : Args} {binds : List (PySem.Str × Value)}
    (X : (K w.params).In s.heap) (hlim : s.heap.NoLimit) (ho : (K w.params).lookup f = some ⟨oc, od, .func (fnOf name qual params body scope dV kV doc pm an cdv ct), osl⟩) (hcd : codeIn (K w.params) cdv qual = true) (hroom : A.depth < recursionLimit) (kp : Kp s.heap s'.heap)
    (hbind : ∀ (M : Model) (A : Around) (E : Value → Shared → Prop) (Q : List (PySem.Str × Value) → Shared → Prop), Q binds s' → wpAny M A (bindArgs (fnOf name qual params body scope dV kV doc pm an cdv ct) args) Q E s) (hloc : ∀ y ∈ binds, scope.names.lookup y.1 = some .local)
    (h : ∀ h₁, Fr s'.heap s'.heap.objs.size h₁ (fun y => binds.reverse.lookup y) →
      wpAny (model pw w) (A.deeper (envOf qual scope s'.heap.objs.size f cdv)) (execs body (envOf qual scope s'.heap.objs.size f cdv))
        (fun fl s' => R (.ok (.ret (match fl with | .ret v => v | _ => .none))) s') (fun _ _ => False) { s' with heap := h₁, toks := s'.toks + binds.length })
    (hco : scope.isCoroutine = false) (hgen : scope.isGenerator = false) (hk : scope.kind = .function)
    (hcell : ∀ x ∈ scope.names, x.2 ≠ .cell) : codeAny (model pw w) A (.call (.ref f) args) R s := by
  refine codeAny_call_function (fd := fnOf name qual params body scope dV kV doc pm an cdv ct) (body := body) hroom (X _ _ ho) rfl hco hgen rfl (codeRec_of X hcd) (hbind _ _ _ _ ?_)
  refine wpAny_newFunctionEnv hcell hloc (fun h₀ hns₀ hsb₀ => ⟨(hlim.keeps kp).fresh _ hsb₀, codeAny_func ?_⟩) hk
  exact wpAny_mono (h h₀ ⟨hns₀, fun b o e => hsb₀.extBut b o (Nat.ne_of_lt (Heap.lt_size e)) (Heap.get?_push_of_some _ e), Nat.le_refl _⟩) (fun _ _ x => x) fun _ _ x => x.elim
/-! a frame and its ledger -/
structure FP where
  g : Heap
  L : Addr
  s : Shared
noncomputable def FX (p : FP) (m : PySem.Str → Option Value) (news : List (Addr × Obj)) (s : Shared) : Prop := ∃ h tk, s = { p.s with heap := h, toks := tk } ∧ Fr p.g p.L h m ∧ News p.g p.L h news
structure Fk (w : World) (p : FP) (sc : Scope) (mg mb : PySem.Str → Option Value) : Prop where
  X : (K w.params).In p.g
  T : TopQ mg mb p.g
  kf : sc.kind = .function
section
variable {w : World} {A : Around} {p : FP} {sc : Scope} {mg mb m : PySem.Str → Option Value} {news : List (Addr × Obj)} {qn : PySem.Str} {f : Addr} {cd : Value} {P : Value → Prop} {q q1 q3 : Pos} {e : PySem.Expr} {x : PySem.Str} {v : Value}
theorem fx_name (R : Fk w p sc mg mb) (hm : m x = some v) (kx : sc.names.lookup x = some .local) (hd : (x == PySem.Str.ofString "__debug__") = false) : EV w A (envOf qn sc p.L f cd) (FX p m news) (.Name x q) (· = v) := by
  intro s Q E hs h
  obtain ⟨hp, tk, rfl, F, r⟩ := id hs
  exact ld F hm (h _ _ rfl hs) R.kf kx hd
end
theorem with_Fk {w : World} {A : Around} {p : FP} {qn : PySem.Str} {sc : Scope} {f : Addr} {cd : Value} {body : List Stmt} {Q : Flow → Shared → Prop} {E : Value → Shared → Prop} {s : Shared} {mg mb : PySem.Str → Option Value} (R : Fk w p sc mg mb) (h : Fk w p sc mg mb → wpAny (model pw w) A (execs body (envOf qn sc p.L f cd)) Q E s) : wpAny (model pw w) A (execs body (envOf qn sc p.L f cd)) Q E s := h R
theorem with_FP {P : FP → Prop} {g : Heap} {L : Addr} {s : Shared} (h : ∀ p : FP, p.g = g → p.L = L → p.s = s → P p) : P (FP.mk g L s) := h _ rfl rfl rfl
theorem glob_bio (P : Params) : nsIn (K P) mainGlobals (PySem.Str.ofString "BytesIO") = some (some (.ref 399)) := by kernel_rfl
theorem glob_sio (P : Params) : nsIn (K P) mainGlobals (PySem.Str.ofString "StringIO") = some (some (.ref 646)) := by kernel_rfl
theorem glob_obj (P : Params) : nsIn (K P) mainGlobals (PySem.Str.ofString "object") = some none := by kernel_rfl
theorem obj399 (P : Params) : ∃ o, (K P).lookup 399 = some o := ⟨_, by k_is⟩
theorem obj646 (P : Params) : ∃ o, (K P).lookup 646 = some o ∧ o.cls = .type "type" := ⟨_, by k_is, rfl⟩
theorem on_cls (P : Params) : findCls (K P) (.type "object") (.type "type") (PySem.Str.ofString "__new__") = some (.val (.builtin "object.__new__")) := by kernel_rfl
theorem on_handed : handedIn (.builtin "object.__new__") = true := by decide +kernel
theorem on_stub : Manifest.isStub "object" = false := by decide +kernel
theorem meth_on {w : World} {A : Around} {s : Shared} {Q : Value × List Value → Shared → Prop} {E : Value → Shared → Prop} {h₀ : Heap} {L : Addr} {m : PySem.Str → Option Value} {pl : Sem Bool} (F : Fr h₀ L s.heap m) (X : (K w.params).In h₀)
    (h : Q (.builtin "object.__new__", []) { s with toks := s.toks + 1 }) : wpAny (model pw w) A (getMethod (.type "object") (PySem.Str.ofString "__new__") pl) Q E s :=
  method_type (T := "object") (name := PySem.Str.ofString "__new__") (v := .builtin "object.__new__") (K := K w.params) F X PySem.F.isi_meta_object on_stub (on_cls w.params) on_handed h
theorem keeper_on (P : Params) (S : Setting) : peek (K P) S (keeperOf (.builtin "object.__new__")) = some .machine := by kernel_rfl
theorem callWith_on {w : World} {A : Around} {E : Value → Shared → Prop} {s : Shared} {pos : Pos} {env : Env} {e : PySem.Expr} {Q : Value → Shared → Prop}
    (h : wpAny (model pw w) A (spliced (backTo pos (starEach [e] env))) (fun vs s₁ => (K w.params).In s₁.heap ∧ wpAny (model pw w) A (call (.builtin "object.__new__") ([] ++ vs)) Q E s₁) E s)
    (he : starEach [e] env = (false, eval e env) :: starEach [] env := by rfl) : wpAny (model pw w) A (callWith pos (.builtin "object.__new__") [] (backTo pos (starEach [e] env)) []) Q E s := by
  rw [he] at h ⊢
  exact callWith_of rfl (fun h X => ⟨.machine, .inr (.inl rfl), Looks.of_peek X (keeper_on _ _)⟩) (evalArgs_plain h)
set_option maxHeartbeats 4000000 in
theorem nw_spec {w : World} {A : Around} {mg mb : PySem.Str → Option Value} {s : Shared} {x : PySem.Str} {t : Tok} {Q E : Value → Shared → Prop} (X : (K w.params).In s.heap) (T : TopQ mg mb s.heap) (hd : A.depth + 2 < recursionLimit) (hsz : 859 ≤ s.heap.objs.size)
    (h : ∀ a d h' tk', Kp s.heap h' → h'.get? a = some (instObj 646 d) → h'.get? d = some (dictOf [] 0) → s.heap.get? a = none → s.heap.get? d = none → @Ne Nat a d → 859 ≤ a → 859 ≤ d → Q (.ref a) { s with heap := h', toks := tk' }) :
    wpAny (model pw w) A (call (.ref 139) [.ref 646, .str x t]) Q E s := by
  refine wpAny_call ?_
  k_dflt (refine' enterB (s' := { s with heap := (s.heap.push { cls := .type "tuple", data := .seq #[.str x t] }).push { cls := .type "dict", data := .dict #[] } }) (binds := [(PySem.Str.ofString "cls", .ref 646), (PySem.Str.ofString "args", .ref s.heap.objs.size), (PySem.Str.ofString "kwargs", .ref (s.heap.objs.size + 1))]) X T.nolimit ?k6 ?k7 ?k8 ?kp ?k9 ?kB ?_ ?c2 ?c3 ?c4 ?c5; (case k6 => k_is); (case k7 => k_is); (case k8 => omega); (case kp => exact fun b o e => Heap.get?_push_of_some _ (Heap.get?_push_of_some _ e)); (case c5 => decide); (case kB => exact locs rfl); (case c2 => exact rfl); (case c3 => exact rfl); (case c4 => exact rfl))
  case k9 =>
    intro M A E Q hq
    show wpAny M A (newTuple [.str x t] >>= fun v => alloc { cls := .type "dict", data := .dict #[] } >>= fun d => pure [(PySem.Str.ofString "cls", .ref 646), (PySem.Str.ofString "args", v), (PySem.Str.ofString "kwargs", .ref d)]) Q E s
    refine wpAny_bind (wpAny_newTuple (wpAny_bind (wpAny_alloc (wpAny_pure ?_))))
    rw [Heap.size_push]
    exact hq
  have k0 : Kp s.heap ((s.heap.push { cls := .type "tuple", data := .seq #[.str x t] }).push { cls := .type "dict", data := .dict #[] }) := fun b o e => Heap.get?_push_of_some _ (Heap.get?_push_of_some _ e)
  generalize hs' : ({ s with heap := (s.heap.push { cls := .type "tuple", data := .seq #[.str x t] }).push { cls := .type "dict", data := .dict #[] } } : Shared) = s'
  have k1 : Kp s.heap s'.heap := hs' ▸ k0
  have X1 : (K w.params).In s'.heap := X.keeps k1
  have T1 : TopQ mg mb s'.heap := T.keeps k1
  intro h₁ F
  have X2 := X1.keeps F.keep
  obtain ⟨o9, ho9⟩ := obj399 w.params
  obtain ⟨o6, ho6, hc6⟩ := obj646 w.params
  refine wpAny_execs_cons (wpAny_If (isTrue_and (wpAny_isTrue_Compare1 (ld F rfl (name_glob (T1.keeps F.keep).g (mg_of X1 T1.g (glob_bio _)) rfl rfl (by decide) (wpAny_isNot_ref_other (by decide) (X2 _ _ ho6) (X2 _ _ ho9) (by rw [hc6]; decide) (wpAny_truthy_bool ?_)))) rfl)))
  refine isTrue_and (wpAny_isTrue_Compare1 (ld F rfl (name_glob (T1.keeps F.keep).g (mg_of X1 T1.g (glob_sio _)) rfl rfl (by decide) (wpAny_isNot_ref_self (wpAny_truthy_bool ?_)))) rfl)
  refine wpAny_execs_nil ?_
  refine execs_one (wpAny_Return_some (MethodCall_ (name_B F X1 T1 (glob_obj _) (by boot_by_name) (by decide) ?_)))
  refine meth_on F X1 ?_
  refine callWith_on (args_cons (ld F rfl (args_nil ⟨X2, ?_⟩)))
  refine objnew X2 fun h2 e2 => ?_
  have k2 : Kp s.heap h2 := fun b o e => e2 ▸ Heap.get?_push_of_some _ (Heap.get?_push_of_some _ (F.keep _ _ (k1 b o e)))
  have hn1 : h2.get? (h₁.objs.size + 1) = some (instObj 646 h₁.objs.size) := by
    rw [e2]
    have := Heap.get?_push_size (h₁.push (dictOf [] 0)) (o := instObj 646 h₁.objs.size) rfl
    rwa [Heap.size_push] at this
  have hn2 : h2.get? h₁.objs.size = some (dictOf [] 0) := by
    rw [e2]
    exact Heap.get?_push_of_some _ (Heap.get?_push_size _ rfl)
  have hsz1 : s.heap.objs.size ≤ h₁.objs.size := by
    have h9 : s'.heap.objs.size = s.heap.objs.size + 1 + 1 := by rw [← hs']; show ((s.heap.push _).push _).objs.size = _; rw [Heap.size_push, Heap.size_push]
    have : s'.heap.objs.size < h₁.objs.size := F.ns.lt
    omega
  have hno : ∀ b, s.heap.objs.size ≤ b → s.heap.get? b = none := fun b hb => by
    cases e : s.heap.get? b with
    | none => rfl
    | some o => exact absurd (Heap.lt_size e) (Nat.not_lt.mpr hb)
  have fin := h (h₁.objs.size + 1) h₁.objs.size h2 (s'.toks + 3 + 1) k2 hn1 hn2 (hno _ (Nat.le_succ_of_le hsz1)) (hno _ hsz1) (Nat.succ_ne_self _) (Nat.le_trans hsz (Nat.le_succ_of_le hsz1)) (Nat.le_trans hsz hsz1)
  rw [← hs'] at fin ⊢
  exact fin
end Mine
end

section
open PySem PySem.W PyProof.Rows PySem.Calls PySem.Spec
namespace Mine
/-! ## deque() -/
theorem mro_dq : mroOf (.type "collections.deque") = pure [.type "collections.deque", .type "object"] := by rw [mroOf_type]; kernel_rfl
theorem lookup_dq_new : typeLookup (.type "collections.deque") "__new__" = pure (some (.builtin "collections.deque.__new__")) := by rw [typeLookup_type, builtinLookup_eq_fast]; kernel_rfl
theorem slot_dq_init : Slot "collections.deque" "__init__" "collections.deque.__init__" :=
  .of (owner := "collections.deque") (n := "__init__") (by rw [typeLookup_type, builtinLookup_eq_fast]; kernel_rfl) (by decide +kernel) (by decide +kernel) (by decide +kernel)
    (by first | exact .inl (by decide +kernel) | exact .inr (by decide +kernel)) (by rw [isSubtype_type]; kernel_rfl)
theorem sub_dq : isSubtype (.type "collections.deque") (.type "collections.deque") = pure true := by rw [isSubtype_type]; kernel_rfl
theorem called_dq : TypeCalled "collections.deque" "collections.deque.__new__" "collections.deque.__init__" :=
  ⟨by decide +kernel, by decide +kernel, ⟨_, _, mro_dq⟩, madeBy_type mro_dq lookup_dq_new (by decide +kernel), by decide +kernel, sub_dq, slot_dq_init⟩
theorem typeCall_dq : checkTypeCall "collections.deque" ⟨[], []⟩ = pure () := by kernel_rfl
theorem newCall_dq : checkBuiltinCall "collections.deque.__new__" ⟨[.type "collections.deque"], []⟩ = pure () := by kernel_rfl
theorem entry_dq_new : entryFor table "collections.deque.__new__" = some Builtin.«collections.deque.__new__» := entryFor_of_fast (by kernel_rfl)
theorem entry_dq_init : entryFor table "collections.deque.__init__" = some Builtin.«collections.deque.__init__» := entryFor_of_fast (by kernel_rfl)
theorem plain_dq_new : plainId "collections.deque.__new__" = true := by decide +kernel
theorem args_dq_init (a : Value) : argsOk "collections.deque.__init__" ⟨[a], []⟩ := by unfold argsOk; kernel_rfl
noncomputable abbrev dqO : Obj := { cls := .type "collections.deque", data := .fields #[.none, rawInt 0] }
set_option maxHeartbeats 1000000 in
theorem dq_new {w : World} {A : Around} {E Q : Value → Shared → Prop} {s : Shared}
    (h : ∀ h', (∀ b o, s.heap.get? b = some o → h'.get? b = some o) → h'.get? s.heap.objs.size = some dqO → Q (.ref s.heap.objs.size) { s with heap := h' }) : wpAny (model pw w) A (call (.type "collections.deque") []) Q E s := by
  refine callType_codes (Q₁ := fun obj s₁ => obj = .ref s.heap.objs.size ∧ s₁ = { s with heap := s.heap.push dqO }) called_dq typeCall_dq entry_dq_init ?_ fun obj s₁ h₁ => ?_
  · refine codeAny_of_tree ?_
    show wpAny _ A.in1.in1 (do checkBuiltinCall "collections.deque.__new__" ⟨[.type "collections.deque"], []⟩; again (.builtin "collections.deque.__new__" ⟨[.type "collections.deque"], []⟩)) _ _ s
    refine wpAny_bind (wpAny_of_eq newCall_dq (wpAny_pure ⟨plainId_quiet plain_dq_new _, codeAny_builtin entry_dq_new ?_⟩))
    unfold Builtin.«collections.deque.__new__» Builtin.Deque.newArgs Builtin.Deque.new
    show wpAny _ _ ((isType (.type "collections.deque") >>= fun b => _) >>= fun _ => _) _ _ _
    refine wpAny_bind (wpAny_bind (wpAny_pure ?_))
    show wpAny _ _ (isSubtype (.type "collections.deque") (.type Builtin.Deque.ty) >>= fun b => _) _ _ _
    refine wpAny_bind (wpAny_of_eq sub_dq (wpAny_pure ?_))
    show wpAny _ _ (newObj (.type "collections.deque") (.fields #[.none, rawInt 0]) none >>= fun v => ret v) _ _ _
    refine wpAny_bind (wpAny_newObj_type ?_)
    exact wpAny_pure ⟨rfl, rfl⟩
  · obtain ⟨rfl, rfl⟩ := h₁
    have hS : (s.heap.push dqO).get? s.heap.objs.size = some dqO := Heap.get?_push_size _ rfl
    refine ⟨⟨_, hS, rfl⟩, args_dq_init _, ?_⟩
    show wpAny _ _ (setField (.ref s.heap.objs.size) 0 .none >>= fun _ => Builtin.Deque.clear (.ref s.heap.objs.size) >>= fun _ => ret .none) _ _ _
    refine wpAny_bind (wpAny_setField hS rfl (by decide) ?_)
    have hS2 := Heap.get?_update_self (Obj.mapFields (·.setIfInBounds 0 Value.none)) hS rfl
    unfold Builtin.Deque.clear Builtin.Deque.items
    refine wpAny_bind (wpAny_bind (wpAny_bind (wpAny_bind (wpAny_load hS2 (wpAny_pure (wpAny_pure ?_))))))
    show wpAny _ _ (pure ()) _ _ _
    refine wpAny_pure (wpAny_pure ⟨rfl, ?_⟩)
    refine h _ ?_ ?_
    · exact fun b o e => (Heap.get?_update_other _ _ (Nat.ne_of_gt (Heap.lt_size e))).trans (Heap.get?_push_of_some _ e)
    · exact hS2
end Mine
end

section
open PySem PySem.W PyProof.Rows PySem.Calls PySem.Spec
namespace Mine
theorem new_cls (P : Params) : ∃ mc, typeIn (K P) (.ref 646) = some mc ∧ readsIn (K P) 646 mc = true ∧ findCls (K P) (.ref 646) mc (PySem.Str.ofString "__new__") = some (.get (.builtin "staticmethod.__get__") (.ref 143) .none (.ref 646)) := ⟨.type "type", by kernel_rfl, by kernel_rfl, by kernel_rfl⟩
theorem rec143 (P : Params) : recIn (K P) 143 "staticmethod" = some [.ref 139] := by kernel_rfl
theorem init646 (P : Params) : findIn (K P) (.ref 646) "__init__" = some (some (.ref 416)) ∧ typeIn (K P) (.ref 416) = some (.type "function") := ⟨by kernel_rfl, by kernel_rfl⟩
theorem get_new {w : World} {A : Around} {s : Shared} {Q E : Value → Shared → Prop} {expr : Bool} (X : (K w.params).In s.heap) (h : Q (.ref 139) { s with toks := s.toks + 1 }) : wpAny (model pw w) A (getAttr (.ref 646) (PySem.Str.ofString "__new__") expr) Q E s := by
  obtain ⟨mc, _, hr, e⟩ := new_cls w.params
  exact cls_bind (K := K w.params) (C := 646) (mc := mc) X hr e (wpAny_call (sm_get (K := K w.params) (p := 143) (C := 646) (f := .ref 139) (rest := []) (s := { s with toks := s.toks + 1 }) X (rec143 _) (handed_on rfl h)))
set_option maxHeartbeats 1000000 in
theorem make_sio {w : World} {A : Around} {mg mb : PySem.Str → Option Value} {s : Shared} {x : PySem.Str} {t : Tok} {Q E : Value → Shared → Prop} (X : (K w.params).In s.heap) (T : TopQ mg mb s.heap) (hd : A.depth + 6 < recursionLimit) (hsz : 859 ≤ s.heap.objs.size)
    (h : ∀ a d h' tk' es n tb tp, Kp s.heap h' → h'.get? a = some (instObj 646 d) → h'.get? d = some (dictOf es n) → s.heap.get? a = none → s.heap.get? d = none → @Ne Nat a d → 859 ≤ a → 859 ≤ d → ES es (sioMap (.str (PySem.Str.ofString "\n") 824) x tb 0 tp) → Q (.ref a) { s with heap := h', toks := tk' }) :
    wpAny (model pw w) A (call (.ref 646) [.str x t]) Q E s := by
  obtain ⟨oc, od, cd, sl, hC, e1, e2⟩ := cls646 w.params
  refine wpAny_call (codeAny_of_tree ?_)
  show wpAny _ _ (callAny (.ref 646) _) _ _ _
  refine nd_load (X _ _ hC) ?_
  show wpAny _ _ (callAny.viaDunder (.ref 646) _) _ _ _
  unfold callAny.viaDunder
  refine wpAny_bind ((Looks.of_peek X (pk_call w.params)).at ?_)
  dsimp only
  rw [tc_bind]
  refine wpAny_bind (wpAny_pure (wpAny_bind (wpAny_pure ?_)))
  refine wpAny_pure (a := Fin.again (.call (.builtin "type.__call__") ⟨[.ref 646, .str x t], []⟩)) (And.intro rfl ?_)
  refine codeAny_call_builtin_at (Code.quiet_builtin _ (by decide +kernel)) entry_typeCall (check_slot tc_kind tc_split (Looks.of_peek X (pk_typ w.params)) (tc_args _ _ _) ?_)
  unfold Builtin.«type.__call__»
  show wpAny _ _ (mroOf (.ref 646) >>= fun _ => _) _ _ _
  refine wpAny_bind ((Looks.of_peek X (pk_mro w.params)).here ?_)
  show wpAny _ _ (Bind.madeBy (.ref 646) >>= fun _ => _) _ _ _
  refine wpAny_bind ((Looks.of_peek X (pk_made w.params)).here ?_)
  show wpAny _ _ (getAttr (.ref 646) (PySem.Str.ofString "__new__") >>= fun new => _) _ _ _
  refine wpAny_bind (get_new X ?_)
  refine wpAny_bind (wpAny_holding ?_)
  refine nw_spec (A := A.under (.builtin "type.__call__" ⟨[.ref 646, .str x t], []⟩)) (s := { s with toks := s.toks + 1 }) X T (by rw [depth_under_make]; omega) hsz fun a d h1 tk1 k1 ha hda ha0 hd0 had hal hdl => ?_
  have X1 := X.keeps k1
  have t1 : Looks (model pw w) h1 (typeOf (.ref a)) (.ref 646) := (Looks.ld ha).andThen .now
  have s1 : Looks (model pw w) h1 (isSubtype (.ref 646) (.ref 646)) true := Looks.of_peek X1 (pk_sub w.params)
  have i1 : Looks (model pw w) h1 (typeLookup (.ref 646) "__init__") (some (.ref 416)) := looks_findIn X1 (init646 w.params).1
  have b1 : Looks (model pw w) h1 (bindSpecial (.ref 416) (.ref a)) (.ref 416, [.ref a]) := bind_fn X1 (.ref a) (init646 w.params).2
  unfold isInstance callSpecial? specialOf
  repeat (first | with_reducible refine wpAny_call ?_ | lk)
  refine si_spec (sio := a) (ds := d) X1 (T.keeps k1) (by rw [depth_under_make]; omega) ha hda hal hdl had fun h2 tk2 es n tb tp k2 hds hE => ?_
  refine wpAny_pure (wpAny_pure ?_)
  refine h a d h2 tk2 es n tb tp (fun b o e => k2 b o (fun z => ?_) (k1 b o e)) (k2 _ _ had ha) hds ha0 hd0 had hal hdl hE
  have : s.heap.get? d = some o := z ▸ e
  rw [show s.heap.get? d = none from hd0] at this
  cases this
end Mine
end

section
open PySem PySem.W PyProof.Rows PySem.Calls PySem.Spec
namespace Mine
/-! ## shlex.__init__ -/
theorem callWith_mach {w : World} {A : Around} {E : Value → Shared → Prop} {s : Shared} {pos : Pos} {env : Env} {f : Value} {first : List Value} {e : PySem.Expr} {rest : List PySem.Expr} {Q : Value → Shared → Prop} (hk : ∀ S, peek (K w.params) S (keeperOf f) = some .machine)
    (h : wpAny (model pw w) A (spliced (backTo pos (starEach (e :: rest) env))) (fun vs s₁ => (K w.params).In s₁.heap ∧ wpAny (model pw w) A (call f (first ++ vs)) Q E s₁) E s)
    (he : starEach (e :: rest) env = (false, eval e env) :: starEach rest env := by rfl) (hplain : (backTo pos (starEach rest env)).any (·.1) = false := by rfl) : wpAny (model pw w) A (callWith pos f first (backTo pos (starEach (e :: rest) env)) []) Q E s := by
  rw [he] at h ⊢
  exact callWith_of (by show ((false || (backTo pos (starEach rest env)).any (·.1)) || false) = false; rw [hplain]; rfl) (fun h X => ⟨.machine, .inr (.inl rfl), Looks.of_peek X (hk _)⟩) (evalArgs_plain h)
theorem callWith_mach0 {w : World} {A : Around} {E : Value → Shared → Prop} {s : Shared} {pos : Pos} {env : Env} {f : Value} {first : List Value} {Q : Value → Shared → Prop} (X : (K w.params).In s.heap) (hk : ∀ S, peek (K w.params) S (keeperOf f) = some .machine)
    (h : wpAny (model pw w) A (call f (first ++ [])) Q E s) : wpAny (model pw w) A (callWith pos f first (backTo pos (starEach [] env)) []) Q E s :=
  callWith_of rfl (fun h X => ⟨.machine, .inr (.inl rfl), Looks.of_peek X (hk _)⟩) (evalArgs_nil3 ⟨X, h⟩)
theorem keeper_isi (P : Params) (S : Setting) : peek (K P) S (keeperOf (.builtin "isinstance")) = some .machine := by kernel_rfl
theorem keeper_dq (P : Params) (S : Setting) : peek (K P) S (keeperOf (.type "collections.deque")) = some .machine := by kernel_rfl
theorem keeper_646 (P : Params) (S : Setting) : peek (K P) S (keeperOf (.ref 646)) = some .machine := by kernel_rfl
theorem glob_isi (P : Params) : nsIn (K P) mainGlobals (PySem.Str.ofString "isinstance") = some none := by kernel_rfl
theorem glob_str (P : Params) : nsIn (K P) mainGlobals (PySem.Str.ofString "str") = some none := by kernel_rfl
theorem glob_dq (P : Params) : nsIn (K P) mainGlobals (PySem.Str.ofString "deque") = some (some (.type "collections.deque")) := by kernel_rfl
noncomputable def shNames : List PySem.Str := PySem.Str.ofString "_punctuation_chars" :: PySem.Str.ofString "infile" :: lexNames
theorem sh_cls (P : Params) : Cls P 781 shNames := cls_of (by kernel_rfl) (lex_dict P) (lex_over P) (lex_setter P)
section
variable {w : World} {A : Around} {p : OP} {sc : Scope} {names : List PySem.Str} {mg mb m mm : PySem.Str → Option Value} {k : Nat} {news : List (Addr × Obj)} {qn : PySem.Str} {f : Addr} {cd : Value} {q q1 q2 q3 q4 : Pos} {name x : PySem.Str}
theorem ox_isi (R : Ok w p sc names mg mb) {u : PySem.Str} {t : Tok} (hm : m x = some (.str u t)) (kx : sc.names.lookup x = some .local) (hd : (x == PySem.Str.ofString "__debug__") = false) (k1 : sc.names.lookup (PySem.Str.ofString "isinstance") = some .globalImplicit) (k2 : sc.names.lookup (PySem.Str.ofString "str") = some .globalImplicit) :
    TV w A (envOf qn sc p.L f cd) (OX p m mm k news) (.Call (.Name (PySem.Str.ofString "isinstance") q1) [.Name x q2, .Name (PySem.Str.ofString "str") q3] [] q4) true := by
  refine TV.bool_ (fun s Q E hs hq => ?_) rfl
  obtain ⟨el, nl, hp, tk, rfl, F, r⟩ := id hs
  refine Call_ (name_B F R.X R.T (glob_isi _) (by boot_by_name) (by decide) ?_ R.kf k1)
  refine callWith_mach (keeper_isi _) (args_cons (ld F hm (args_cons (name_B F R.X R.T (glob_str _) (by boot_by_name) (by decide) (args_nil ⟨R.X.keeps F.keep, ?_⟩) R.kf k2)) R.kf kx hd))
  exact PySem.IsiPair.str_str (hq _ _ rfl hs)
theorem news_new {g h h' : Heap} {L a : Addr} {m : PySem.Str → Option Value} {o : Obj} (F : Fr g L h m) (ha : h.get? a = none) (e : h'.get? a = some o) : h'.get? a = some o ∧ a ≠ L ∧ g.get? a = none := by
  refine ⟨e, fun z => ?_, ?_⟩
  · obtain ⟨o, _, _, e, _⟩ := F.ns; rw [← z, ha] at e; cases e
  · cases e : g.get? a with
    | none => rfl
    | some o => have := F.keep _ _ e; rw [ha] at this; cases this
theorem ox_sio (R : Ok w p sc names mg mb) (hdp : A.depth + 6 < recursionLimit) {u : PySem.Str} {t : Tok} (hm : m x = some (.str u t)) (kx : sc.names.lookup x = some .local) (hd : (x == PySem.Str.ofString "__debug__") = false) (k1 : sc.names.lookup (PySem.Str.ofString "StringIO") = some .globalImplicit) (hlo : 859 ≤ p.g.objs.size) :
    DO w A (envOf qn sc p.L f cd) (OX p m mm k []) (.Assign [.Name x q] (.Call (.Name (PySem.Str.ofString "StringIO") q1) [.Name x q2] [] q3) q4)
      (fun s => ∃ a ds es n tb tp, ES es (sioMap (.str (PySem.Str.ofString "\n") 824) u tb 0 tp) ∧ @Ne Nat a ds ∧ 859 ≤ a ∧ 859 ≤ ds ∧ OX p (fun y => if y = x then some (.ref a) else m y) mm k [(a, instObj 646 ds), (ds, dictOf es n)] s) := by
  intro s Q E hs hq
  obtain ⟨el, nl, hp, tk, rfl, F, N, hE, hdd⟩ := id hs
  refine wpAny_Assign_Name (Call_ (name_glob (R.T.keeps F.keep).g (mg_of R.X R.T.g (glob_sio _)) R.kf k1 (by decide) ?_)) rfl
  refine callWith_mach (keeper_646 _) (args_cons (ld F hm (args_nil ⟨R.X.keeps F.keep, ?_⟩) R.kf kx hd))
  have hsz : 859 ≤ hp.objs.size := Nat.le_trans hlo (Nat.le_of_lt (Nat.lt_of_le_of_lt F.above F.ns.lt))
  refine make_sio (R.X.keeps F.keep) (R.T.keeps F.keep) hdp hsz fun a ds h' tk' es n tb tp k' ha hds ha0 hds0 hne hal hdl hE2 => ?_
  have F' := F.keeps k'
  have N' := N.grown k'
  have na := news_new F ha0 ha
  have nd := news_new F hds0 hds
  have had : a ≠ p.d := fun z => by have := (N _ (.tail _ (.head _))).1; rw [← z] at this; rw [show hp.get? a = none from ha0] at this; cases this
  have hdsd : ds ≠ p.d := fun z => by have := (N _ (.tail _ (.head _))).1; rw [← z] at this; rw [show hp.get? ds = none from hds0] at this; cases this
  refine wpAny_storeName_local kx F'.ns (fun h2 hn hs' => ?_) (by show (sc.kind == .class || (sc.kind == .module && p.L != mainGlobals)) = false; rw [R.kf]; rfl)
  refine hq _ ⟨a, ds, es, n, tb, tp, hE2, hne, hal, hdl, el, nl, h2, _, rfl, F'.set hn hs', News.set (fun b hb => ?_) hs', hE, fun b hb => ?_⟩
  · rcases List.mem_cons.mp hb with rfl | hb
    · exact N' _ (.head _)
    rcases List.mem_cons.mp hb with rfl | hb
    · exact N' _ (.tail _ (.head _))
    rcases List.mem_cons.mp hb with rfl | hb
    · exact na
    rcases List.mem_cons.mp hb with rfl | hb
    · exact nd
    cases hb
  · rcases List.mem_cons.mp hb with rfl | hb
    · exact had
    rcases List.mem_cons.mp hb with rfl | hb
    · exact hdsd
    cases hb
theorem ox_dq (R : Ok w p sc names mg mb) (ms : m (PySem.Str.ofString "self") = some (.ref p.x)) (hn : name ∈ names) (hk : k + 1 ≤ 100) (k1 : sc.names.lookup (PySem.Str.ofString "deque") = some .globalImplicit) :
    DO w A (envOf qn sc p.L f cd) (OX p m mm k news) (.Assign [.Attribute (.Name (PySem.Str.ofString "self") q1) name q2] (.Call (.Name (PySem.Str.ofString "deque") q) [] [] q3) q4)
      (fun s => ∃ a, OX p m (upd mm name (.ref a)) (k + 1) ((a, dqO) :: news) s) := by
  intro s Q E hs hq
  obtain ⟨el, nl, hp, tk, rfl, F, N, hE, hdd⟩ := id hs
  refine plainObj_wpAny_Assign_Attribute (Call_ (name_glob (R.T.keeps F.keep).g (mg_of R.X R.T.g (glob_dq _)) R.kf k1 (by decide) ?_)) rfl
  refine callWith_mach0 (R.X.keeps F.keep) (keeper_dq _) (dq_new fun h' k' e' => ?_)
  have h0 : hp.get? hp.objs.size = none := by
    cases e : hp.get? hp.objs.size with
    | none => rfl
    | some o => exact absurd (Heap.lt_size e) (Nat.lt_irrefl _)
  have F' := F.keeps k'
  have N' : News p.g p.L h' ((p.x, instObj p.C p.d) :: (p.d, dictOf el nl) :: (hp.objs.size, dqO) :: news) := fun b hb => by
    rcases List.mem_cons.mp hb with rfl | hb
    · exact N.grown k' _ (.head _)
    rcases List.mem_cons.mp hb with rfl | hb
    · exact N.grown k' _ (.tail _ (.head _))
    rcases List.mem_cons.mp hb with rfl | hb
    · exact news_new F h0 e'
    exact N.grown k' _ (.tail _ (.tail _ hb))
  refine ld F' ms ?_ R.kf R.ks
  refine ox_setA R hn hk (m := m) (mm := mm) (news := (hp.objs.size, dqO) :: news) ⟨el, nl, h', tk, rfl, F', N', hE, fun b hb => ?_⟩ fun s' hs' => hq s' ⟨_, hs'⟩
  rcases List.mem_cons.mp hb with rfl | hb
  · exact fun z => by have := (N _ (.tail _ (.head _))).1; rw [← show hp.objs.size = p.d from z] at this; rw [h0] at this; cases this
  · exact hdd b hb
theorem ox_aug (R : Ok w p sc names mg mb) (ms : m (PySem.Str.ofString "self") = some (.ref p.x)) (hn : name ∈ names) (hk : k + 1 ≤ 100) {u v : PySem.Str} {t : Tok} {i : Nat} (hv : mm name = some (.str u t)) (hz : u.length + v.length ≤ 100000) :
    DO w A (envOf qn sc p.L f cd) (OX p m mm k news) (.AugAssign (.Attribute (.Name (PySem.Str.ofString "self") q1) name q2) .Add (.Constant (.str v) i q3) q4) (fun s => ∃ t, OX p m (upd mm name (.str (u ++ v) t)) (k + 1) news s) := by
  intro s Q E hs hq
  refine wpAny_AugAssign_AttributeAny ?_
  obtain ⟨el, nl, hp, tk, rfl, F, N, hE, r⟩ := id hs
  refine ld F ms ?_ R.kf R.ks
  refine get_es F R.X N (.head _) (.tail _ (.head _)) (hE.es (Nat.le_of_lt hk)) (R.cls.get _ hn).1 R.cls.dict (R.cls.get _ hn).2.1 hv rfl ?_
  refine wpAny_Constant_str ?_
  refine PyProof.Rows.iadd_str (fun t' tk' => ?_) (by rw [sizeLine_eq]; omega)
  exact ox_setA R hn hk (m := m) (mm := mm) (news := news) ⟨el, nl, hp, tk', rfl, F, N, hE, r⟩ fun s' hs' => hq s' ⟨_, hs'⟩
end
end Mine
end

section
open PySem PySem.W PyProof.Rows PySem.Calls PySem.Spec
namespace Mine
noncomputable def shMap (sio pb fs : Addr) (T : Nat → Tok) : PySem.Str → Option Value :=
  upd (upd (upd (upd (upd (upd (upd (upd (upd (upd (upd (upd (upd (upd (upd (upd (upd (upd (upd (upd (fun _ => none)
    (PySem.Str.ofString "instream") (.ref sio)) (PySem.Str.ofString "infile") .none) (PySem.Str.ofString "posix") (.bool true)) (PySem.Str.ofString "eof") .none)
    (PySem.Str.ofString "commenters") (.str (PySem.Str.ofString "#") (T 4))) (PySem.Str.ofString "wordchars") (.str (PySem.Str.ofString "abcdfeghijklmnopqrstuvwxyzABCDEFGHIJKLMNOPQRSTUVWXYZ0123456789_") (T 9))) (PySem.Str.ofString "wordchars") (.str wordCs (T 7)))
    (PySem.Str.ofString "whitespace") (.str (PySem.Str.ofString " \t\r\n") (T 3))) (PySem.Str.ofString "whitespace_split") (.bool false)) (PySem.Str.ofString "quotes") (.str (PySem.Str.ofString "'\"") (T 2))) (PySem.Str.ofString "escape") (.str (PySem.Str.ofString "\\") (T 5))) (PySem.Str.ofString "escapedquotes") (.str (PySem.Str.ofString "\"") (T 6)))
    (PySem.Str.ofString "state") (.str (PySem.Str.ofString " ") (T 10))) (PySem.Str.ofString "pushback") (.ref pb)) (PySem.Str.ofString "lineno") (.int 1 (T 11))) (PySem.Str.ofString "debug") (.int 0 (T 0))) (PySem.Str.ofString "token") (.str (PySem.Str.ofString "") (T 12))) (PySem.Str.ofString "filestack") (.ref fs)) (PySem.Str.ofString "source") .none)
    (PySem.Str.ofString "_punctuation_chars") (.str (PySem.Str.ofString "") (T 1))
theorem with_OP {P : OP → Prop} {g : Heap} {L : Addr} {s : Shared} {x d C : Addr} (h : ∀ p : OP, p.g = g → p.L = L → p.s = s → p.x = x → p.d = d → p.C = C → P p) : P (OP.mk g L s x d C) := h _ rfl rfl rfl rfl rfl rfl
theorem with_Ok {w : World} {A : Around} {p : OP} {qn : PySem.Str} {sc : Scope} {f : Addr} {cd : Value} {body : List Stmt} {Q : Flow → Shared → Prop} {E : Value → Shared → Prop} {s : Shared} {names : List PySem.Str} {mg mb : PySem.Str → Option Value} (R : Ok w p sc names mg mb) (h : Ok w p sc names mg mb → wpAny (model pw w) A (execs body (envOf qn sc p.L f cd)) Q E s) : wpAny (model pw w) A (execs body (envOf qn sc p.L f cd)) Q E s := h R
set_option maxHeartbeats 4000000 in
theorem sh_init {w : World} {A : Around} {mg mb : PySem.Str → Option Value} {s : Shared} {x d : Addr} {text : PySem.Str} {t : Tok} {R : Result → Shared → Prop}
    (X : (K w.params).In s.heap) (T : TopQ mg mb s.heap) (hd : A.depth + 8 < recursionLimit)
    (h1 : s.heap.get? x = some (instObj 781 d)) (h2 : s.heap.get? d = some (dictOf [] 0)) (l1 : 859 ≤ x) (l2 : 859 ≤ d) (ne : @Ne Nat x d)
    (h : ∀ h' tk' a ds pb fs el nl es n tb tp T, KpBut d s.heap h' → h'.get? d = some (dictOf el nl) → ESk el (shMap a pb fs T) 20 → h'.get? a = some (instObj 646 ds) → h'.get? ds = some (dictOf es n) → ES es (sioMap (.str (PySem.Str.ofString "\n") 824) text tb 0 tp) → h'.get? pb = some dqO → h'.get? fs = some dqO → LexNe x d a ds → s.heap.get? a = none → s.heap.get? ds = none → s.heap.get? pb = none → s.heap.get? fs = none →
      R (.ok (.ret .none)) { s with heap := h', toks := tk' }) :
    codeAny (model pw w) A (.call (.ref 705) ⟨[.ref x, .str text t], [(PySem.Str.ofString "posix", .bool true)]⟩) R s := by
  have hlo : 859 ≤ s.heap.objs.size := Nat.le_of_lt (Nat.lt_of_le_of_lt l1 (Heap.lt_size h1))
  k_dflt (refine' enterN (binds := [(PySem.Str.ofString "self", .ref x), (PySem.Str.ofString "instream", .str text t), (PySem.Str.ofString "infile", .none), (PySem.Str.ofString "posix", .bool true), (PySem.Str.ofString "punctuation_chars", .bool false)]) [(x, instObj 781 d), (d, dictOf [] 0)] ?hn X T ?k6 ?k7 ?k8 ?k9 ?kB ?_ ?c2 ?c3 ?c4 ?c5; (case hn => intro p hp; rcases List.mem_cons.mp hp with rfl | hp; exact ⟨h1, l1⟩; rcases List.mem_cons.mp hp with rfl | hp; exact ⟨h2, l2⟩; cases hp); (case k6 => k_is); (case k7 => k_is); (case k8 => omega); (case k9 => exact binds_K X rfl (by k_is) rfl rfl rfl); (case c5 => decide); (case kB => exact locs rfl); (case c2 => exact rfl); (case c3 => exact rfl); (case c4 => exact rfl); k_whole; intro g' h' kg kg2 gsz F' N' X' T'; (try dsimp only))
  rw [← gsz] at hlo
  revert F' N' X' T' gsz kg2 kg hlo
  refine with_OP (P := fun p => 859 ≤ p.g.objs.size → Kp p.g p.s.heap → (∀ b o, p.s.heap.get? b = some o → b ∉ [(p.x, instObj 781 p.d), (p.d, dictOf [] 0)].map (·.1) → p.g.get? b = some o) → p.g.objs.size = p.s.heap.objs.size → Fr p.g p.L h' _ → News p.g p.L h' [(p.x, instObj p.C p.d), (p.d, dictOf [] 0)] → (K w.params).In p.g → TopQ mg mb p.g → wpAny (model pw w) (A.deeper (envOf _ _ p.L 705 _)) (execs _ (envOf _ _ p.L 705 _)) _ _ _) (g := g') (L := s.heap.objs.size) (s := s) (x := x) (d := d) (C := 781) ?_
  rintro p rfl hL0 rfl rfl rfl hC hlo kg kg2 gsz F' N' X' T'
  k_dflt (refine with_Ok (names := shNames) ⟨X', T', hC ▸ sh_cls _, rfl, rfl, ne⟩ fun R => ?_)
  have hs : OX p _ (fun _ => none) 0 [] _ := ⟨[], 0, h', p.s.toks + 5, rfl, F', N', ⟨fun _ => rfl, Nat.le_refl _⟩, fun _ hq => by cases hq⟩
  refine seq (DO.ifT (ox_isi R rfl rfl (by decide) rfl rfl) (ox_sio R (by simp only [depth_deeper]; omega) rfl rfl (by decide) rfl hlo)) hs ?_
  rintro s1 ⟨a, ds, es, n, tb, tp, hE, hne, hal, hdl, hs⟩
  refine wpAny_execs_cons (if_t (TV.isNotNone (b := false) (ox_name rfl R.kf rfl (by decide)) rfl) hs fun s1 hs => ?_)
  refine seq (ox_set R rfl (by decide) (by decide) (ox_name rfl R.kf rfl (by decide)) rfl) hs ?_
  rintro s1 ⟨_, rfl, hs⟩
  refine last (ox_set R rfl (by decide) (by decide) (ox_name rfl R.kf rfl (by decide)) rfl) hs ?_
  rintro s1 ⟨_, rfl, hs⟩
  refine seq (ox_set R rfl (by decide) (by decide) (ox_name rfl R.kf rfl (by decide)) rfl) hs ?_
  rintro s1 ⟨_, rfl, hs⟩
  refine seq (DO.ifT (TV.bool_ (ox_name rfl R.kf rfl (by decide)) rfl) (ox_set R rfl (by decide) (by decide) EV.none rfl)) hs ?_
  rintro s1 ⟨_, rfl, hs⟩
  refine seq (ox_set R rfl (by decide) (by decide) (EV.str ox_tk) rfl) hs ?_
  rintro s1 ⟨_, ⟨t4, rfl⟩, hs⟩
  refine seq (ox_set R rfl (by decide) (by decide) (EV.str ox_tk) rfl) hs ?_
  rintro s1 ⟨_, ⟨t9, rfl⟩, hs⟩
  refine seq (DO.ifT (TV.bool_ (ox_attr R rfl (by decide) (by decide) rfl rfl) rfl) (ox_aug R rfl (by decide) (by decide) rfl (by decide +kernel))) hs ?_
  rintro s1 ⟨t7, hs⟩
  refine seq (ox_set R rfl (by decide) (by decide) (EV.str ox_tk) rfl) hs ?_
  rintro s1 ⟨_, ⟨t3, rfl⟩, hs⟩
  refine seq (ox_set R rfl (by decide) (by decide) EV.bool rfl) hs ?_
  rintro s1 ⟨_, rfl, hs⟩
  refine seq (ox_set R rfl (by decide) (by decide) (EV.str ox_tk) rfl) hs ?_
  rintro s1 ⟨_, ⟨t2, rfl⟩, hs⟩
  refine seq (ox_set R rfl (by decide) (by decide) (EV.str ox_tk) rfl) hs ?_
  rintro s1 ⟨_, ⟨t5, rfl⟩, hs⟩
  refine seq (ox_set R rfl (by decide) (by decide) (EV.str ox_tk) rfl) hs ?_
  rintro s1 ⟨_, ⟨t6, rfl⟩, hs⟩
  refine seq (ox_set R rfl (by decide) (by decide) (EV.str ox_tk) rfl) hs ?_
  rintro s1 ⟨_, ⟨t10, rfl⟩, hs⟩
  refine seq (ox_dq R rfl (by decide) (by decide) rfl) hs ?_
  rintro s1 ⟨pb, hs⟩
  refine seq (ox_set R rfl (by decide) (by decide) (EV.int ox_tk) rfl) hs ?_
  rintro s1 ⟨_, ⟨t11, rfl⟩, hs⟩
  refine seq (ox_set R rfl (by decide) (by decide) (EV.int ox_tk) rfl) hs ?_
  rintro s1 ⟨_, ⟨t0, rfl⟩, hs⟩
  refine seq (ox_set R rfl (by decide) (by decide) (EV.str ox_tk) rfl) hs ?_
  rintro s1 ⟨_, ⟨t12, rfl⟩, hs⟩
  refine seq (ox_dq R rfl (by decide) (by decide) rfl) hs ?_
  rintro s1 ⟨fs, hs⟩
  refine seq (ox_set R rfl (by decide) (by decide) EV.none rfl) hs ?_
  rintro s1 ⟨_, rfl, hs⟩
  refine seq (DO.ifT (TV.not (b := false) (TV.bool_ (ox_name rfl R.kf rfl (by decide)) rfl)) (ox_local R.kf rfl (EV.str ox_tk) rfl)) hs ?_
  rintro s1 ⟨_, ⟨t1, rfl⟩, hs⟩
  refine seq (ox_set R rfl (by decide) (by decide) (ox_name rfl R.kf rfl (by decide)) rfl) hs ?_
  rintro s1 ⟨_, rfl, hs⟩
  refine last (DO.skip (TV.str_ (b := false) ox_tk ((ox_name rfl R.kf rfl (by decide)).imp fun _ e => ⟨t1, e⟩) (by decide) (by decide) rfl)) hs fun s1 hs => ?_
  obtain ⟨el, nl, h2, tk2, rfl, F, N, hEk, hdd⟩ := hs
  have nx := N _ (.head _)
  have nd := N _ (.tail _ (.head _))
  have nf := N _ (.tail _ (.tail _ (.head _)))
  have nb := N _ (.tail _ (.tail _ (.tail _ (.head _))))
  have na := N _ (.tail _ (.tail _ (.tail _ (.tail _ (.head _)))))
  have ns := N _ (.tail _ (.tail _ (.tail _ (.tail _ (.tail _ (.head _))))))
  rw [hC] at nx
  have differ : ∀ {b c : Addr} {o o' : Obj}, h2.get? b = some o → h2.get? c = some o' → o.cls ≠ o'.cls → b ≠ c := fun e1 e2 hc z => by rw [z, e2] at e1; cases e1; exact hc rfl
  have c1 : p.x ≠ a := differ nx.1 na.1 (by simp)
  have c2 : p.x ≠ ds := differ nx.1 ns.1 (by simp)
  have c3 : p.d ≠ a := differ nd.1 na.1 (by simp)
  have c4 : p.d ≠ ds := fun z => hdd _ (.tail _ (.tail _ (.tail _ (.head _)))) z.symm
  have hfr : ∀ {b : Addr} {o : Obj}, h2.get? b = some o ∧ b ≠ p.L ∧ p.g.get? b = none → p.x ≠ b → p.d ≠ b → p.s.heap.get? b = none := fun {b _} hb n1 n2 => by
    cases e : p.s.heap.get? b with
    | none => rfl
    | some o =>
      have := kg2 b o e (by simp [Ne.symm n1, Ne.symm n2])
      rw [hb.2.2] at this; cases this
  refine h h2 tk2 a ds pb fs el nl es n tb tp (fun i => match i with | 0 => t0 | 1 => t1 | 2 => t2 | 3 => t3 | 4 => t4 | 5 => t5 | 6 => t6 | 7 => t7 | 9 => t9 | 10 => t10 | 11 => t11 | 12 => t12 | _ => 0) (fun b o hb e => ?_) nd.1 hEk na.1 ns.1 hE nb.1 nf.1 ⟨l1, l2, hal, hdl, ne, c1, c2, c3, c4, hne⟩ (hfr na c1 c3) (hfr ns c2 c4) (hfr nb (differ nx.1 nb.1 (by simp)) (differ nd.1 nb.1 (by simp))) (hfr nf (differ nx.1 nf.1 (by simp)) (differ nd.1 nf.1 (by simp)))
  by_cases hx : b = p.x
  · subst hx; rw [h1] at e; cases e; exact nx.1
  · exact F.keep _ _ (kg2 b o e (by simp [hx, hb]))
end Mine
end

section
open PySem PySem.W PyProof.Rows PySem.Calls PySem.Spec
namespace Mine
/-! ## split -/
noncomputable def lexCof (sio pb fs : Addr) (T : Nat → Tok) (t : Tok) : LexC := ⟨sio, pb, fs, fun i => if i = 4 then t else T i⟩
theorem map_eq (sio pb fs : Addr) (T : Nat → Tok) (t : Tok) : upd (upd (shMap sio pb fs T) (PySem.Str.ofString "whitespace_split") (.bool true)) (PySem.Str.ofString "commenters") (.str (PySem.Str.ofString "") t) = lexMap (lexCof sio pb fs T t) (.str (PySem.Str.ofString " ") (T 10)) (.str (PySem.Str.ofString "") (T 12)) (.int 1 (T 11)) := by
  funext y
  by_cases e1 : y = PySem.Str.ofString "state"
  · subst e1; rfl
  by_cases e2 : y = PySem.Str.ofString "token"
  · subst e2; rfl
  by_cases e3 : y = PySem.Str.ofString "lineno"
  · subst e3; rfl
  by_cases e4 : y = PySem.Str.ofString "posix"
  · subst e4; rfl
  by_cases e5 : y = PySem.Str.ofString "debug"
  · subst e5; rfl
  by_cases e6 : y = PySem.Str.ofString "_punctuation_chars"
  · subst e6; rfl
  by_cases e7 : y = PySem.Str.ofString "instream"
  · subst e7; rfl
  by_cases e8 : y = PySem.Str.ofString "quotes"
  · subst e8; rfl
  by_cases e9 : y = PySem.Str.ofString "whitespace"
  · subst e9; rfl
  by_cases e10 : y = PySem.Str.ofString "commenters"
  · subst e10; rfl
  by_cases e11 : y = PySem.Str.ofString "escape"
  · subst e11; rfl
  by_cases e12 : y = PySem.Str.ofString "escapedquotes"
  · subst e12; rfl
  by_cases e13 : y = PySem.Str.ofString "wordchars"
  · subst e13; rfl
  by_cases e14 : y = PySem.Str.ofString "whitespace_split"
  · subst e14; rfl
  by_cases e15 : y = PySem.Str.ofString "infile"
  · subst e15; rfl
  by_cases e16 : y = PySem.Str.ofString "eof"
  · subst e16; rfl
  by_cases e17 : y = PySem.Str.ofString "pushback"
  · subst e17; rfl
  by_cases e18 : y = PySem.Str.ofString "filestack"
  · subst e18; rfl
  by_cases e19 : y = PySem.Str.ofString "source"
  · subst e19; rfl
  unfold lexMap shMap upd
  rw [if_neg e10, if_neg e14, if_neg e6, if_neg e19, if_neg e18, if_neg e2, if_neg e5, if_neg e3, if_neg e17, if_neg e1, if_neg e12, if_neg e11, if_neg e8, if_neg e14, if_neg e9, if_neg e13, if_neg e13, if_neg e10, if_neg e16, if_neg e4, if_neg e15, if_neg e7]
  rw [if_neg e1, if_neg e2, if_neg e3, if_neg e4, if_neg e5, if_neg e6, if_neg e7, if_neg e8, if_neg e9, if_neg e10, if_neg e11, if_neg e12, if_neg e13, if_neg e14, if_neg e15, if_neg e16, if_neg e17, if_neg e18, if_neg e19]
theorem keep781 (P : Params) : keepIn (K P) (.ref 781) = true := by kernel_rfl
theorem makes781 (P : Params) : makesIn (K P) 781 = true := by kernel_rfl
theorem init781 (P : Params) : findIn (K P) (.ref 781) "__init__" = some (some (.ref 705)) ∧ isFn (K P) (.ref 705) = true := ⟨by kernel_rfl, by kernel_rfl⟩
theorem glob_shlex (P : Params) : nsIn (K P) mainGlobals (PySem.Str.ofString "shlex") = some (some (.ref 781)) := by kernel_rfl
theorem glob_list (P : Params) : nsIn (K P) mainGlobals (PySem.Str.ofString "list") = some none := by kernel_rfl
theorem keeper_list (P : Params) (S : Setting) : peek (K P) S (keeperOf (.type "list")) = some .machine := by kernel_rfl
section
variable {w : World} {A : Around} {p : OP} {sc : Scope} {names : List PySem.Str} {mg mb m mm : PySem.Str → Option Value} {k : Nat} {news : List (Addr × Obj)} {qn : PySem.Str} {f : Addr} {cd : Value} {P : Value → Prop} {q q1 q2 q3 : Pos} {e : PySem.Expr} {name x : PySem.Str} {v : Value}
theorem ox_setN (X : (K w.params).In p.g) (hcls : Cls w.params p.C names) (hxd : @Ne Nat p.x p.d) (kf : sc.kind = .function) (ms : m x = some (.ref p.x)) (kx : sc.names.lookup x = some .local) (hd : (x == PySem.Str.ofString "__debug__") = false) (hn : name ∈ names) (hk : k + 1 ≤ 100)
    (he : EV w A (envOf qn sc p.L f cd) (OX p m mm k news) e P) (hsw : swapsWith e (some (.Attribute (.Name x q1) name q2)) q3.line (envOf qn sc p.L f cd) = pure false) :
    DO w A (envOf qn sc p.L f cd) (OX p m mm k news) (.Assign [.Attribute (.Name x q1) name q2] e q3) (fun s => ∃ v, P v ∧ OX p m (upd mm name v) (k + 1) news s) := by
  intro s Q E hs h
  refine plainObj_wpAny_Assign_Attribute (he s _ _ hs fun v s1 hv hs1 => ?_) hsw
  obtain ⟨el, nl, hp, tk, rfl, F, N, hE, hdd⟩ := id hs1
  refine ld F ms ?_ kf kx hd
  have hE' := hE.put (PyData.keyHash w.params name) (tk + 1) v (name := name)
  exact set_dict F X N (InstAt.of_news N (.head _) (.tail _ (.head _))) rfl hcls.setter hcls.over (hcls.get _ hn).2.2 hcls.dict (by rw [hE.1]; rfl) rfl (.tail hxd (.head hdd)) (Nat.le_trans hE'.2 (by omega)) fun h' F' N' => h _ ⟨v, hv, _, _, h', _, rfl, F', N', hE', hdd⟩
end
theorem fs_deeper {A : Around} {outer : List Env} {h₀ h g : Heap} {L a : Addr} {qn : PySem.Str} {sc : Scope} {cd : Value} {m : PySem.Str → Option Value} (hF : Fs A outer h₀) (kf : sc.kind = .function) (F : Fr g L h m) (k : ∀ f ∈ frs outer, ∀ o, h₀.get? f = some o → h.get? f = some o) (hL : 859 ≤ L) : Fs (A.deeper (envOf qn sc L a cd)) (envOf qn sc L a cd :: outer) h :=
  ⟨Around.frames_deeper hF.stack, fun env he => by
    rcases List.mem_cons.mp he with rfl | he
    · obtain ⟨o, eo1, eo2, eo3, eo4, _⟩ := F.ns
      exact ⟨by show sc.kind ≠ .module; rw [kf]; decide, L, o, rfl, eo3, (fun vs q => by rw [eo4] at q; cases q), hL⟩
    · obtain ⟨q1, L', o, q2, q3, q4, q5⟩ := hF.ok env he
      exact ⟨q1, L', o, q2, k _ (List.mem_filterMap.mpr ⟨env, he, q2⟩) _ q3, q4, q5⟩⟩
theorem ox_mk {p : FP} {o : OP} {x dx : Addr} (ho : o = ⟨p.g, p.L, p.s, x, dx, 781⟩) {m mm : PySem.Str → Option Value} {k nl tk : Nat} {news : List (Addr × Obj)} {el : List DictEntry} {h : Heap} (F : Fr p.g p.L h m) (N : News p.g p.L h ((x, instObj 781 dx) :: (dx, dictOf el nl) :: news)) (hE : ESk el mm k) (hd : ∀ q ∈ news, q.1 ≠ dx) : OX o m mm k news { p.s with heap := h, toks := tk } := by
  subst ho; exact ⟨el, nl, h, tk, rfl, F, N, hE, hd⟩
theorem call_cls2 {w : World} {A : Around} {s : Shared} {h₀ : Heap} {L C fI : Addr} {m : PySem.Str → Option Value} {news : List (Addr × Obj)} {pos : List Value} {kw : List (PySem.Str × Value)} {Q E : Value → Shared → Prop} (F : Fr h₀ L s.heap m) (X₀ : (K w.params).In h₀) (N : News h₀ L s.heap news) (hm : makesIn (K w.params) C = true) (hi : findIn (K w.params) (.ref C) "__init__" = some (some (.ref fI))) (hf : isFn (K w.params) (.ref fI) = true) (hlo : 859 ≤ h₀.objs.size)
    (h : ∀ x dx h', Fr h₀ L h' m → News h₀ L h' ((x, instObj C dx) :: (dx, dictOf [] 0) :: news) → (∀ p ∈ news, p.1 < dx) → dx < x → 859 ≤ dx → 859 ≤ x →
      codeAny (model pw w) (A.under (.builtin "type.__call__" ⟨.ref C :: pos, kw⟩)) (.call (.ref fI) ⟨.ref x :: pos, kw⟩) (InitBack x fun r s' => match r with | .ok (.ret v) => Q v s' | .ok _ => False | .error e => E e s') { s with heap := h' }) :
    wpAny (model pw w) A (call (.ref C) pos kw) Q E s := by
  have X := X₀.keeps F.keep
  have hsz : 859 ≤ s.heap.objs.size := Nat.le_trans hlo (Nat.le_of_lt (Nat.lt_of_le_of_lt F.above F.ns.lt))
  obtain ⟨hh, g, d, t, os⟩ := s
  refine wpAny_call (make_core (makes_of X hm) (looks_findIn X hi) (fun self => bind_fn X self (beq_iff_eq.mp hf)) (.inl rfl) (h _ hh.objs.size _ ((F.push _).push _) ?_ (fun p hp => Heap.lt_size (N p hp).1) (Nat.lt_succ_self _) hsz (Nat.le_succ_of_le hsz)))
  have := (N.push F emptyDict).push (F.push _) (instObj C hh.objs.size)
  rwa [Heap.size_push] at this
set_option maxHeartbeats 4000000 in
theorem sp_spec {w : World} {A : Around} {mg mb : PySem.Str → Option Value} {outer : List Env} {s : Shared} {text : PySem.Str} {t : Tok} {ws : List (List Nat)} {Q E : Value → Shared → Prop}
    (X : (K w.params).In s.heap) (T : TopQ mg mb s.heap) (hh : A.handled = none) (hd : A.depth + 12 < recursionLimit) (hF : Fs A outer s.heap) (hz : text.cps.size < 100000) (hsz : 859 ≤ s.heap.objs.size) (htx : text.cps.toList = textOf ws) (hlen : ws.length ≤ 1000)
    (h : ∀ S h' tk' vs n, s.heap.get? S = none → 859 ≤ S → KpH (frs outer) s.heap h' → FrS (frs outer) s.heap h' → h'.get? S = some (listO vs.toArray n) → StrsAre vs (ws.map tokOf) → Q (.ref S) { s with heap := h', toks := tk' }) :
    wpAny (model pw w) A (call (.ref 793) [.str text t]) Q E s := by
  refine wpAny_call ?_
  k_dflt (refine' enterN (binds := [(PySem.Str.ofString "s", .str text t), (PySem.Str.ofString "comments", .bool false), (PySem.Str.ofString "posix", .bool true)]) [] ?hn X T ?k6 ?k7 ?k8 ?k9 ?kB ?_ ?c2 ?c3 ?c4 ?c5; (case hn => intro p hp; cases hp); (case k6 => k_is); (case k7 => k_is); (case k8 => omega); (case k9 => exact binds_K X rfl (by k_is) rfl rfl rfl); (case c5 => decide); (case kB => exact locs rfl); (case c2 => exact rfl); (case c3 => exact rfl); (case c4 => exact rfl); k_whole; intro g h₁ kg kg2 gsz F N X' T'; (try dsimp only))
  revert F N X' T' gsz kg2 kg
  refine with_FP (P := fun p => Kp p.g p.s.heap → (∀ b o, p.s.heap.get? b = some o → b ∉ ([] : List (Addr × Obj)).map (·.1) → p.g.get? b = some o) → p.g.objs.size = p.s.heap.objs.size → Fr p.g p.L h₁ _ → News p.g p.L h₁ [] → (K w.params).In p.g → TopQ mg mb p.g → wpAny (model pw w) (A.deeper (envOf _ _ p.L 793 _)) (execs _ (envOf _ _ p.L 793 _)) _ _ _) (g := g) (L := s.heap.objs.size) (s := s) ?_
  rintro p rfl hL0 rfl kg kg2 gsz F N X' T'
  k_dflt (refine with_Fk ⟨X', T', rfl⟩ fun R => ?_)
  have hs : FX p _ [] _ := ⟨h₁, p.s.toks + 3, rfl, F, N⟩
  refine seq (DO.skip (TV.isNone' (b := false) (fx_name R rfl rfl (by decide)) rfl)) hs fun s1 hs => ?_
  obtain ⟨h2, tk2, rfl, F2, N2⟩ := hs
  refine wpAny_execs_cons (wpAny_Assign_Name (wpAny_Call_Name_kw (name_glob (R.T.keeps F2.keep).g (mg_of R.X R.T.g (glob_shlex _)) rfl rfl (by decide) ?_)) rfl)
  refine callWith_KW R.X (keep781 _) rfl (args_cons (ld F2 rfl (args_nil ?_)))
  refine wpAny_evalAll_cons ?_
  refine wpAny_bind (ld F2 rfl (wpAny_bind (wpAny_standAt (wpAny_pure ?_))))
  refine wpAny_evalAll_nil ⟨R.X.keeps F2.keep, ?_⟩
  refine call_cls2 (pos := [.str text t]) (kw := [(PySem.Str.ofString "posix", .bool true)]) F2 R.X N2 (makes781 _) (init781 _).1 (init781 _).2 (gsz ▸ hsz) fun x dx h3 F3 N3 _ hxd hdlo hxlo => ?_
  have gnone : ∀ {b}, p.g.get? b = none → p.s.heap.get? b = none := fun {b} hb => by
    cases e : p.s.heap.get? b with
    | none => rfl
    | some o => have := kg2 b o e (by simp); rw [hb] at this; cases this
  have nx := N3 _ (.head _)
  have nd := N3 _ (.tail _ (.head _))
  refine codeAny_mono (sh_init (A := (A.deeper _).under _) (R.X.keeps F3.keep) (R.T.keeps F3.keep) (by rw [depth_under_kw]; simp only [depth_deeper]; omega) nx.1 nd.1 hxlo hdlo (Ne.symm (Nat.ne_of_lt hxd)) (R := fun r s' => ∃ a ds pb fs el nl es n tb tp T h4 tk4, r = .ok (.ret .none) ∧ s' = { p.s with heap := h4, toks := tk4 } ∧ KpBut dx h3 h4 ∧ h4.get? dx = some (dictOf el nl) ∧ ESk el (shMap a pb fs T) 20 ∧ h4.get? a = some (instObj 646 ds) ∧ h4.get? ds = some (dictOf es n) ∧ ES es (sioMap (.str (PySem.Str.ofString "\n") 824) text tb 0 tp) ∧ h4.get? pb = some dqO ∧ h4.get? fs = some dqO ∧ LexNe x dx a ds ∧ h3.get? a = none ∧ h3.get? ds = none ∧ h3.get? pb = none ∧ h3.get? fs = none) fun h4 tk4 a ds pb fs el nl es n tb tp T q1 q2 q3 q4 q5 q6 q7 q8 q9 q10 q11 q12 q13 => ⟨a, ds, pb, fs, el, nl, es, n, tb, tp, T, h4, tk4, rfl, rfl, q1, q2, q3, q4, q5, q6, q7, q8, q9, q10, q11, q12, q13⟩) ?_
  rintro r s4 ⟨a, ds, pb, fs, el, nl, es, n, tb, tp, T, h4, tk4, rfl, rfl, k4, e1, e2, e3, e4, e5, e6, e7, e8, e9, e10, e11, e12⟩
  refine ⟨rfl, ?_⟩
  obtain ⟨F4, N4⟩ := after_but (s := { p.s with heap := h3, toks := tk2 }) F3 N3 (.tail _ (.head _)) k4 e1 (.tail (Nat.ne_of_gt hxd) (.head fun _ hq => by cases hq))
  have na := news_new F3 e9 e3
  have ns := news_new F3 e10 e4
  have nb := news_new F3 e11 e6
  have nf := news_new F3 e12 e7
  show wpAny _ _ (storeName _ _ _) _ _ _
  refine wpAny_storeName_local rfl F4.ns (fun h5 hn5 hs5 => ?_) rfl
  have F5 := F4.set hn5 hs5
  have hbd : pb ≠ dx := fun z => by rw [z, e1] at e6; injection e6 with e6; exact absurd (congrArg Obj.cls e6) (by simp)
  have hfd : fs ≠ dx := fun z => by rw [z, e1] at e7; injection e7 with e7; exact absurd (congrArg Obj.cls e7) (by simp)
  have N5 : News p.g p.L h5 ((x, instObj 781 dx) :: (dx, dictOf el nl) :: [(a, instObj 646 ds), (ds, dictOf es n), (pb, dqO), (fs, dqO)]) := News.set (fun b hb => by
    rcases List.mem_cons.mp hb with rfl | hb
    · exact N4 _ (.head _)
    rcases List.mem_cons.mp hb with rfl | hb
    · exact N4 _ (.tail _ (.head _))
    rcases List.mem_cons.mp hb with rfl | hb
    · exact na
    rcases List.mem_cons.mp hb with rfl | hb
    · exact ns
    rcases List.mem_cons.mp hb with rfl | hb
    · exact nb
    rcases List.mem_cons.mp hb with rfl | hb
    · exact nf
    cases hb) hs5
  have hdd : ∀ q ∈ [(a, instObj 646 ds), (ds, dictOf es n), (pb, dqO), (fs, dqO)], q.1 ≠ dx := fun b hb => by
    rcases List.mem_cons.mp hb with rfl | hb
    · exact fun z => e8.n4 z.symm
    rcases List.mem_cons.mp hb with rfl | hb
    · exact fun z => e8.n5 z.symm
    rcases List.mem_cons.mp hb with rfl | hb
    · exact hbd
    rcases List.mem_cons.mp hb with rfl | hb
    · exact hfd
    cases hb
  obtain ⟨o, ho⟩ : ∃ o : OP, o = ⟨p.g, p.L, p.s, x, dx, 781⟩ := ⟨_, rfl⟩
  have hoL : o.L = p.L := by rw [ho]
  have hox : o.x = x := by rw [ho]
  have hoC : o.C = 781 := by rw [ho]
  have hXo : (K w.params).In o.g := by rw [ho]; exact R.X
  have hxdo : @Ne Nat o.x o.d := by rw [ho]; exact Nat.ne_of_gt hxd
  have hs := ox_mk (tk := tk4 + 1) ho F5 N5 e2 hdd
  show wpAny _ (A.deeper (envOf _ _ p.L 793 _)) (execs _ (envOf _ _ p.L 793 _)) _ _ _
  rw [← hoL]
  refine seq (ox_setN hXo (hoC ▸ sh_cls _) hxdo rfl (by rw [hox]; rfl) rfl (by decide) (by decide) (by decide) EV.bool rfl) hs ?_
  rintro s6 ⟨_, rfl, hs⟩
  refine seq (DO.ifT (TV.not (b := false) (TV.bool_ (ox_name rfl rfl rfl (by decide)) rfl)) (ox_setN hXo (hoC ▸ sh_cls _) hxdo rfl (by rw [hox]; rfl) rfl (by decide) (by decide) (by decide) (EV.str ox_tk) rfl)) hs ?_
  rintro s6 ⟨_, ⟨t6, rfl⟩, hs⟩
  rw [map_eq] at hs
  rw [ho] at hs
  rw [hoL]
  obtain ⟨el6, nl6, h6, tk6, rfl, F6, N6, hE6, _⟩ := hs
  refine execs_one (wpAny_Return_some (Call_ (name_B F6 R.X R.T (glob_list _) (by boot_by_name) (by decide) ?_)))
  refine callWith_mach (keeper_list _) (args_cons (ld F6 rfl (args_nil ⟨R.X.keeps F6.keep, ?_⟩)))
  have m1 := N6 _ (.head _)
  have m2 := N6 _ (.tail _ (.head _))
  have m3 := N6 _ (.tail _ (.tail _ (.head _)))
  have m4 := N6 _ (.tail _ (.tail _ (.tail _ (.head _))))
  have m5 := N6 _ (.tail _ (.tail _ (.tail _ (.tail _ (.head _)))))
  have m6 := N6 _ (.tail _ (.tail _ (.tail _ (.tail _ (.tail _ (.head _))))))
  have k6 : Kp p.s.heap h6 := fun b o e => F6.keep _ _ (kg2 b o e (by simp))
  have nofr : ∀ {b}, p.g.get? b = none → b ∉ frs outer := fun {b} hb hm => by
    obtain ⟨o, e, _⟩ := hF.ok.mem hm
    have := kg2 b o e (by simp); rw [hb] at this; cases this
  refine list_lex (C := lexCof a pb fs T t6) (dl := dx) (ds := ds) (k := 32) (pos := 0) (ws := ws) R.X R.T F6 hh (by simp only [depth_deeper]; omega) e8 ⟨_, _, _, _, el6, nl6, es, n, tp, m1.1, m2.1, m3.1, m4.1, hE6.es (by decide), e5, .inr ⟨by decide, _, by rw [ofs_sp]⟩, Nat.zero_le _⟩ ⟨_, _, m5.1, rfl, rfl, rfl⟩ ⟨_, _, m6.1, rfl, rfl, rfl⟩ hz (fs_deeper hF rfl F6 (fun f _ o e => k6 f o e) (hL0 ▸ hsz)) ?_ ?_ (by rw [List.drop_zero, htx]; exact rem_text ws) hlen fun S h7 tk7 vs7 n7 q1 q2 q3 q4 q5 q6 => ?_
  · exact fun hm => by rcases List.mem_cons.mp hm with z | hm; exact m2.2.1 z; exact nofr m2.2.2 hm
  · exact fun hm => by rcases List.mem_cons.mp hm with z | hm; exact m4.2.1 z; exact nofr m4.2.2 hm
  · have hnone : p.s.heap.get? S = none := by
      cases e : p.s.heap.get? S with
      | none => rfl
      | some o => have := k6 _ _ e; rw [show h6.get? S = none from q1] at this; cases this
    refine h S h7 tk7 vs7 n7 hnone q2 (fun b o hb e => q3 b o (fun hm => ?_) (k6 b o e)) (fun b hb o e => q4 b (.tail _ hb) o (k6 b o e)) q5 q6
    have hg := kg2 b o e (by simp)
    rcases List.mem_cons.mp hm with z | hm
    · rw [z, m2.2.2] at hg; cases hg
    rcases List.mem_cons.mp hm with z | hm
    · rw [z, m4.2.2] at hg; cases hg
    rcases List.mem_cons.mp (show b ∈ p.L :: frs outer from hm) with z | hm
    · have := Heap.lt_size e; rw [z, hL0] at this; exact absurd this (Nat.lt_irrefl _)
    · exact hb hm
end Mine
end

section
open PySem PySem.W PyProof.Rows PySem.Calls PySem.Spec
namespace Mine
/-! ## Entry() -/
noncomputable def enNames : List PySem.Str := [PySem.Str.ofString "useragents", PySem.Str.ofString "rulelines", PySem.Str.ofString "delay", PySem.Str.ofString "req_rate"]
theorem en_cls (P : Params) : Cls P 82 enNames := cls_of (by kernel_rfl) (by kernel_rfl) (by kernel_rfl) (by kernel_rfl)
theorem ox_nil {w : World} {A : Around} {p : OP} {sc : Scope} {names : List PySem.Str} {mg mb m mm : PySem.Str → Option Value} {k : Nat} {news : List (Addr × Obj)} {qn : PySem.Str} {f : Addr} {cd : Value} {q1 q2 q3 q4 : Pos} {name : PySem.Str} (R : Ok w p sc names mg mb) (ms : m (PySem.Str.ofString "self") = some (.ref p.x)) (hn : name ∈ names) (hk : k + 1 ≤ 100) (hlo : 859 ≤ p.g.objs.size) :
    DO w A (envOf qn sc p.L f cd) (OX p m mm k news) (.Assign [.Attribute (.Name (PySem.Str.ofString "self") q1) name q2] (.List [] q3) q4)
      (fun s => ∃ a, 859 ≤ a ∧ (∀ q ∈ news, q.1 < a) ∧ OX p m (upd mm name (.ref a)) (k + 1) ((a, listO #[] 0) :: news) s) := by
  intro s Q E hs hq
  obtain ⟨el, nl, hp, tk, rfl, F, N, hE, hdd⟩ := id hs
  refine plainObj_wpAny_Assign_Attribute (wpAny_List (args_nil ⟨by rw [sizeLine_eq]; show 0 ≤ _; exact Nat.zero_le _, ?_⟩)) rfl
  have h0 : hp.get? hp.objs.size = none := by
    cases e : hp.get? hp.objs.size with
    | none => rfl
    | some o => exact absurd (Heap.lt_size e) (Nat.lt_irrefl _)
  have k' : Kp hp (hp.push (listO #[] 0)) := fun b o e => Heap.get?_push_of_some _ e
  have F' := F.keeps k'
  have N' : News p.g p.L (hp.push (listO #[] 0)) ((p.x, instObj p.C p.d) :: (p.d, dictOf el nl) :: (hp.objs.size, listO #[] 0) :: news) := fun b hb => by
    rcases List.mem_cons.mp hb with rfl | hb
    · exact N.grown k' _ (.head _)
    rcases List.mem_cons.mp hb with rfl | hb
    · exact N.grown k' _ (.tail _ (.head _))
    rcases List.mem_cons.mp hb with rfl | hb
    · exact news_new F h0 (Heap.get?_push_size _ rfl)
    exact N.grown k' _ (.tail _ (.tail _ hb))
  refine ld F' ms ?_ R.kf R.ks
  refine ox_setA R hn hk (m := m) (mm := mm) (news := (hp.objs.size, listO #[] 0) :: news) ⟨el, nl, _, tk, rfl, F', N', hE, fun b hb => ?_⟩ fun s' hs' => hq s' ⟨_, Nat.le_trans hlo (Nat.le_of_lt (Nat.lt_of_le_of_lt F.above F.ns.lt)), fun q hq => Heap.lt_size (N q (.tail _ (.tail _ hq))).1, hs'⟩
  rcases List.mem_cons.mp hb with rfl | hb
  · exact fun z => by have := (N _ (.tail _ (.head _))).1; rw [← show hp.objs.size = p.d from z] at this; rw [h0] at this; cases this
  · exact hdd b hb
noncomputable def enMap (ua rl : Addr) : PySem.Str → Option Value := upd (upd (upd (upd (fun _ => none) (PySem.Str.ofString "useragents") (.ref ua)) (PySem.Str.ofString "rulelines") (.ref rl)) (PySem.Str.ofString "delay") .none) (PySem.Str.ofString "req_rate") .none
theorem makes82 (P : Params) : makesIn (K P) 82 = true := by kernel_rfl
theorem init82 (P : Params) : findIn (K P) (.ref 82) "__init__" = some (some (.ref 58)) ∧ isFn (K P) (.ref 58) = true := ⟨by kernel_rfl, by kernel_rfl⟩
set_option maxHeartbeats 4000000 in
theorem en_init {w : World} {A : Around} {mg mb : PySem.Str → Option Value} {s : Shared} {x d : Addr} {R : Result → Shared → Prop}
    (X : (K w.params).In s.heap) (T : TopQ mg mb s.heap) (hd : A.depth + 2 < recursionLimit)
    (h1 : s.heap.get? x = some (instObj 82 d)) (h2 : s.heap.get? d = some (dictOf [] 0)) (l1 : 859 ≤ x) (l2 : 859 ≤ d) (ne : @Ne Nat x d)
    (h : ∀ h' tk' ua rl el nl, KpBut d s.heap h' → h'.get? d = some (dictOf el nl) → ESk el (enMap ua rl) 4 → h'.get? ua = some (listO #[] 0) → h'.get? rl = some (listO #[] 0) → s.heap.get? ua = none → s.heap.get? rl = none → @LT.lt Nat _ ua rl → 859 ≤ ua → ua ≠ d → rl ≠ d → R (.ok (.ret .none)) { s with heap := h', toks := tk' }) :
    codeAny (model pw w) A (.call (.ref 58) ⟨[.ref x], []⟩) R s := by
  have hlo : 859 ≤ s.heap.objs.size := Nat.le_of_lt (Nat.lt_of_le_of_lt l1 (Heap.lt_size h1))
  k_dflt (refine' enterN (binds := [(PySem.Str.ofString "self", .ref x)]) [(x, instObj 82 d), (d, dictOf [] 0)] ?hn X T ?k6 ?k7 ?k8 ?k9 ?kB ?_ ?c2 ?c3 ?c4 ?c5; (case hn => intro p hp; rcases List.mem_cons.mp hp with rfl | hp; exact ⟨h1, l1⟩; rcases List.mem_cons.mp hp with rfl | hp; exact ⟨h2, l2⟩; cases hp); (case k6 => k_is); (case k7 => k_is); (case k8 => omega); (case k9 => exact BindsTo.of_eq rfl); (case c5 => decide); (case kB => exact locs rfl); (case c2 => exact rfl); (case c3 => exact rfl); (case c4 => exact rfl); k_whole; intro g' h' kg kg2 gsz F' N' X' T'; (try dsimp only))
  rw [← gsz] at hlo
  revert F' N' X' T' gsz kg2 kg hlo
  refine with_OP (P := fun p => 859 ≤ p.g.objs.size → Kp p.g p.s.heap → (∀ b o, p.s.heap.get? b = some o → b ∉ [(p.x, instObj 82 p.d), (p.d, dictOf [] 0)].map (·.1) → p.g.get? b = some o) → p.g.objs.size = p.s.heap.objs.size → Fr p.g p.L h' _ → News p.g p.L h' [(p.x, instObj p.C p.d), (p.d, dictOf [] 0)] → (K w.params).In p.g → TopQ mg mb p.g → wpAny (model pw w) (A.deeper (envOf _ _ p.L 58 _)) (execs _ (envOf _ _ p.L 58 _)) _ _ _) (g := g') (L := s.heap.objs.size) (s := s) (x := x) (d := d) (C := 82) ?_
  rintro p rfl hL0 rfl rfl rfl hC hlo kg kg2 gsz F' N' X' T'
  k_dflt (refine with_Ok (names := enNames) ⟨X', T', hC ▸ en_cls _, rfl, rfl, ne⟩ fun R => ?_)
  have hs : OX p _ (fun _ => none) 0 [] _ := ⟨[], 0, h', p.s.toks + 1, rfl, F', N', ⟨fun _ => rfl, Nat.le_refl _⟩, fun _ hq => by cases hq⟩
  refine seq (ox_nil R rfl (by decide) (by decide) hlo) hs ?_
  rintro s1 ⟨ua, hua, -, hs⟩
  refine seq (ox_nil R rfl (by decide) (by decide) hlo) hs ?_
  rintro s1 ⟨rl, hrl, hlt, hs⟩
  refine seq (ox_set R rfl (by decide) (by decide) EV.none rfl) hs ?_
  rintro s1 ⟨_, rfl, hs⟩
  refine last (ox_set R rfl (by decide) (by decide) EV.none rfl) hs ?_
  rintro s1 ⟨_, rfl, hs⟩
  obtain ⟨el, nl, h2, tk2, rfl, F, N, hEk, hdd⟩ := hs
  have nx := N _ (.head _)
  have nd := N _ (.tail _ (.head _))
  have nr := N _ (.tail _ (.tail _ (.head _)))
  have nu := N _ (.tail _ (.tail _ (.tail _ (.head _))))
  rw [hC] at nx
  have differ : ∀ {b c : Addr} {o o' : Obj}, h2.get? b = some o → h2.get? c = some o' → o.cls ≠ o'.cls → b ≠ c := fun e1 e2 hc z => by rw [z, e2] at e1; cases e1; exact hc rfl
  have hfr : ∀ {b : Addr} {o : Obj}, h2.get? b = some o ∧ b ≠ p.L ∧ p.g.get? b = none → p.x ≠ b → p.d ≠ b → p.s.heap.get? b = none := fun {b _} hb n1 n2 => by
    cases e : p.s.heap.get? b with
    | none => rfl
    | some o =>
      have := kg2 b o e (by simp [Ne.symm n1, Ne.symm n2])
      rw [hb.2.2] at this; cases this
  refine h h2 tk2 ua rl el nl (fun b o hb e => ?_) nd.1 hEk nu.1 nr.1 (hfr nu (differ nx.1 nu.1 (by simp)) (differ nd.1 nu.1 (by simp))) (hfr nr (differ nx.1 nr.1 (by simp)) (differ nd.1 nr.1 (by simp))) (hlt _ (.head _)) hua (Ne.symm (differ nd.1 nu.1 (by simp))) (Ne.symm (differ nd.1 nr.1 (by simp)))
  by_cases hx : b = p.x
  · subst hx; rw [h1] at e; cases e; exact nx.1
  · exact F.keep _ _ (kg2 b o e (by simp [hx, hb]))
end Mine
end

section
open PySem PySem.W PyProof.Rows PySem.Calls PySem.Spec
namespace Mine
theorem en_F {w : World} {A : Around} {mg mb : PySem.Str → Option Value} {s : Shared} {h₀ : Heap} {L : Addr} {m : PySem.Str → Option Value} {news : List (Addr × Obj)} {Q E : Value → Shared → Prop} (F : Fr h₀ L s.heap m) (N : News h₀ L s.heap news) (X : (K w.params).In h₀) (T : TopQ mg mb h₀) (hd : A.depth + 4 < recursionLimit) (hlo : 859 ≤ h₀.objs.size)
    (h : ∀ x dx ua rl el nl h' tk', Fr h₀ L h' m → News h₀ L h' ((x, instObj 82 dx) :: (dx, dictOf el nl) :: (ua, listO #[] 0) :: (rl, listO #[] 0) :: news) → ESk el (enMap ua rl) 4 → 859 ≤ dx → @LT.lt Nat _ dx x → @Ne Nat ua dx → @Ne Nat rl dx → @LT.lt Nat _ ua rl → 859 ≤ ua → (∀ q ∈ news, q.1 ≠ dx ∧ q.1 ≠ x ∧ q.1 ≠ ua ∧ q.1 ≠ rl) → Q (.ref x) { s with heap := h', toks := tk' }) :
    wpAny (model pw w) A (call (.ref 82) []) Q E s := by
  refine call_cls2 (pos := []) (kw := []) F X N (makes82 _) (init82 _).1 (init82 _).2 hlo fun x dx h3 F3 N3 hlt hxd hdlo hxlo => ?_
  have nx := N3 _ (.head _)
  have nd := N3 _ (.tail _ (.head _))
  refine codeAny_mono (en_init (A := A.under _) (X.keeps F3.keep) (T.keeps F3.keep) (by rw [depth_under_kw]; omega) nx.1 nd.1 hxlo hdlo (Ne.symm (Nat.ne_of_lt hxd)) (R := fun r s' => ∃ ua rl el nl h4 tk4, r = .ok (.ret .none) ∧ s' = { s with heap := h4, toks := tk4 } ∧ KpBut dx h3 h4 ∧ h4.get? dx = some (dictOf el nl) ∧ ESk el (enMap ua rl) 4 ∧ h4.get? ua = some (listO #[] 0) ∧ h4.get? rl = some (listO #[] 0) ∧ h3.get? ua = none ∧ h3.get? rl = none ∧ @LT.lt Nat _ ua rl ∧ 859 ≤ ua ∧ ua ≠ dx ∧ rl ≠ dx) fun h4 tk4 ua rl el nl q1 q2 q3 q4 q5 q6 q7 q8 q9 q10 q11 => ⟨ua, rl, el, nl, h4, tk4, rfl, rfl, q1, q2, q3, q4, q5, q6, q7, q8, q9, q10, q11⟩) ?_
  rintro r s4 ⟨ua, rl, el, nl, h4, tk4, rfl, rfl, k4, e1, e2, e3, e4, e5, e6, e7, e8, e9, e10⟩
  refine ⟨rfl, ?_⟩
  obtain ⟨F4, N4⟩ := after_but (s := { s with heap := h3 }) F3 N3 (.tail _ (.head _)) k4 e1 (.tail (Nat.ne_of_gt hxd) (.head fun q hq => Nat.ne_of_lt (hlt q hq)))
  have nu := news_new F3 e5 e3
  have nr := news_new F3 e6 e4
  refine h x dx ua rl el nl h4 tk4 F4 (fun b hb => ?_) e2 hdlo hxd e9 e10 e7 e8 fun q hq => ⟨Nat.ne_of_lt (hlt q hq), Nat.ne_of_lt (Nat.lt_trans (hlt q hq) hxd), fun z => ?_, fun z => ?_⟩
  · rcases List.mem_cons.mp hb with rfl | hb
    · exact N4 _ (.head _)
    rcases List.mem_cons.mp hb with rfl | hb
    · exact N4 _ (.tail _ (.head _))
    rcases List.mem_cons.mp hb with rfl | hb
    · exact nu
    rcases List.mem_cons.mp hb with rfl | hb
    · exact nr
    exact N4 _ (.tail _ (.tail _ hb))
  · have := (N3 _ (.tail _ (.tail _ hq))).1; rw [z, e5] at this; cases this
  · have := (N3 _ (.tail _ (.tail _ hq))).1; rw [z, e6] at this; cases this
end Mine
end

section
open PySem PySem.W PyProof.Rows PySem.Calls PySem.Spec
namespace Mine
theorem glob_entry (P : Params) : nsIn (K P) mainGlobals (PySem.Str.ofString "Entry") = some (some (.ref 82)) := by kernel_rfl
theorem glob_split (P : Params) : nsIn (K P) mainGlobals (PySem.Str.ofString "split") = some (some (.ref 793)) := by kernel_rfl
theorem keep82 (P : Params) : keepIn (K P) (.ref 82) = true := by kernel_rfl
theorem keep793 (P : Params) : keepIn (K P) (.ref 793) = true := by kernel_rfl
theorem frs_lo {A : Around} {outer : List Env} {h : Heap} (hF : Fs A outer h) : ∀ f ∈ frs outer, 859 ≤ f := fun f hf => by obtain ⟨_, _, _, h⟩ := hF.ok.mem hf; exact h
/-- list.extend by a list -/
theorem ext_call {w : World} {A : Around} {s : Shared} {Q E : Value → Shared → Prop} {D b : Addr} {vs : List Value} {n n2 : Nat} (hD : s.heap.get? D = some (listO #[] n)) (hb : s.heap.get? b = some (listO vs.toArray n2)) (hl : vs.length ≤ 1000)
    (h : ∀ h' n', KpH [D] s.heap h' → h'.get? D = some (listO vs.toArray n') → Q .none { s with heap := h' }) : wpAny (model pw w) A (call (.builtin "list.extend") [.ref D, .ref b]) Q E s := by
  have hsz : (#[] : Array Value).size + vs.toArray.size ≤ sizeLine := by rw [List.size_toArray, sizeLine_eq]; show 0 + vs.length ≤ _; omega
  refine call_meets PySem.F.slot_list_extend ⟨_, hD, rfl⟩ PySem.F.entry_list_extend (PySem.F.args_list_extend_2 _ _) (AutoSeq1.list_extend_list_list_0 D #[] n b vs.toArray n2 (extend_door hsz) (Nat.zero_le _) (Nat.le_succ_of_le hsz)) ⟨hD, hb, ?_⟩
  have e := Heap.get?_update_self (Obj.mapSeq fun x => x ++ vs.toArray) hD (by rw [mapSeq_app]; rfl)
  rw [mapSeq_app] at e
  have e2 : (#[] : Array Value) ++ vs.toArray = vs.toArray := by simp
  rw [e2] at e
  exact h _ _ (fun b o hb e => (Heap.get?_update_other _ _ (fun z => hb (by rw [← z]; exact .head _))).trans e) e
theorem FrS.ns {l : List Addr} {h h' : Heap} {L : Addr} {m : PySem.Str → Option Value} (k : FrS l h h') (hL : L ∈ l) (n : h.Ns L m) : h'.Ns L m := by
  obtain ⟨o, es, ep, ho, hd, r⟩ := n
  obtain ⟨sl, e⟩ := k L hL o ho
  exact ⟨_, es, ep, e, hd, r⟩
set_option maxHeartbeats 4000000 in
theorem rec_spec {w : World} {A : Around} {mg mb : PySem.Str → Option Value} {outer : List Env} {s : Shared} {text : PySem.Str} {t : Tok} {ws : List (List Nat)} {Q E : Value → Shared → Prop}
    (X : (K w.params).In s.heap) (T : TopQ mg mb s.heap) (hh : A.handled = none) (hd : A.depth + 14 < recursionLimit) (hF : Fs A outer s.heap) (hz : text.cps.size < 100000) (hsz : 859 ≤ s.heap.objs.size) (htx : text.cps.toList = textOf ws) (hlen : ws.length ≤ 1000)
    (h : ∀ x dx ua rl el nl h' tk' vs n, KpH (frs outer) s.heap h' → FrS (frs outer) s.heap h' → h'.get? x = some (instObj 82 dx) → h'.get? dx = some (dictOf el nl) → ESk el (enMap ua rl) 4 → h'.get? ua = some (listO vs.toArray n) → StrsAre vs (ws.map tokOf) → h'.get? rl = some (listO #[] 0) →
      s.heap.get? x = none → s.heap.get? dx = none → s.heap.get? ua = none → s.heap.get? rl = none → 859 ≤ dx → @LT.lt Nat _ dx x → @Ne Nat ua dx → @Ne Nat rl dx → @LT.lt Nat _ ua rl → 859 ≤ ua → Q (.ref x) { s with heap := h', toks := tk' }) :
    wpAny (model pw w) A (call (.ref 839) [.str text t]) Q E s := by
  refine wpAny_call ?_
  k_dflt (refine' enterN (binds := [(PySem.Str.ofString "line", .str text t)]) [] ?hn X T ?k6 ?k7 ?k8 ?k9 ?kB ?_ ?c2 ?c3 ?c4 ?c5; (case hn => intro p hp; cases hp); (case k6 => k_is); (case k7 => k_is); (case k8 => omega); (case k9 => exact BindsTo.of_eq rfl); (case c5 => decide); (case kB => exact locs rfl); (case c2 => exact rfl); (case c3 => exact rfl); (case c4 => exact rfl); k_whole; intro g h₁ kg kg2 gsz F N X' T'; (try dsimp only))
  revert F N X' T' gsz kg2 kg
  refine with_FP (P := fun p => Kp p.g p.s.heap → (∀ b o, p.s.heap.get? b = some o → b ∉ ([] : List (Addr × Obj)).map (·.1) → p.g.get? b = some o) → p.g.objs.size = p.s.heap.objs.size → Fr p.g p.L h₁ _ → News p.g p.L h₁ [] → (K w.params).In p.g → TopQ mg mb p.g → wpAny (model pw w) (A.deeper (envOf _ _ p.L 839 _)) (execs _ (envOf _ _ p.L 839 _)) _ _ _) (g := g) (L := s.heap.objs.size) (s := s) ?_
  rintro p rfl hL0 rfl kg kg2 gsz F N X' T'
  k_dflt (refine with_Fk ⟨X', T', rfl⟩ fun R => ?_)
  refine wpAny_execs_cons (wpAny_Assign_Name (Call_ (name_glob (R.T.keeps F.keep).g (mg_of R.X R.T.g (glob_entry _)) rfl rfl (by decide) ?_)) rfl)
  refine callWith_K0 (R.X.keeps F.keep) (keep82 _) ?_
  refine en_F F N R.X R.T (by simp only [depth_deeper]; omega) (gsz ▸ hsz) fun x dx ua rl el nl h2 tk2 F2 N2 hE hdlo hxd n1 n2 hur hual _ => ?_
  refine wpAny_storeName_local rfl F2.ns (fun h3 hn3 hs3 => ?_) rfl
  have F3 := F2.set hn3 hs3
  have N3 := N2.set hs3
  have nx := N3 _ (.head _)
  have nd := N3 _ (.tail _ (.head _))
  have nu := N3 _ (.tail _ (.tail _ (.head _)))
  have nr := N3 _ (.tail _ (.tail _ (.tail _ (.head _))))
  show wpAny _ (A.deeper (envOf _ _ p.L 839 _)) (execs _ (envOf _ _ p.L 839 _)) _ _ _
  refine wpAny_execs_cons (wpAny_Expr (MethodCall_ ?_) rfl rfl)
  have ec := (en_cls w.params).get (PySem.Str.ofString "useragents") (by decide)
  refine Attribute_name (ld F3 rfl (get_es F3 R.X N3 (.head _) (.tail _ (.head _)) (hE.es (by decide)) ec.1 (en_cls _).dict ec.2.1 rfl rfl ?_))
  refine getMethod_list_of PySem.F.slot_list_extend PySem.F.type_list_extend (items := #[]) ⟨_, nu.1, rfl, _, rfl⟩ ⟨_, nu.1, rfl⟩ ?_
  refine callWith_method1 (args_cons (Call_ (name_glob (R.T.keeps F3.keep).g (mg_of R.X R.T.g (glob_split _)) rfl rfl (by decide) ?_)))
  refine callWith_K R.X (keep793 _) (args_cons (ld F3 rfl (args_nil ⟨R.X.keeps F3.keep, ?_⟩)))
  have k3 : Kp p.s.heap h3 := fun b o e => F3.keep _ _ (kg2 b o e (by simp))
  have hsz3 : 859 ≤ h3.objs.size := Nat.le_of_lt (Nat.lt_of_le_of_lt hual (Heap.lt_size nu.1))
  have hF3 := fs_deeper (qn := PySem.Str.ofString "_law_record") (a := 839) hF (kf := R.kf) F3 (fun f _ o e => k3 f o e) (hL0 ▸ hsz) (cd := .ref 838)
  refine sp_spec (outer := _ :: outer) (R.X.keeps F3.keep) (R.T.keeps F3.keep) hh (by simp only [depth_deeper]; omega) hF3 hz hsz3 htx hlen fun S h4 tk4 vs n q1 q2 q3 q4 q5 q6 => ?_
  refine args_nil ?_
  have nofr : ∀ {b : Addr} {o : Obj}, h3.get? b = some o ∧ b ≠ p.L ∧ p.g.get? b = none → b ∉ p.L :: frs outer := fun {b _} hb hm => by
    rcases List.mem_cons.mp hm with z | hm
    · exact hb.2.1 z
    · obtain ⟨o, e, _⟩ := hF.ok.mem hm
      have := kg2 b o e (by simp); rw [hb.2.2] at this; cases this
  have differ : ∀ {b c : Addr} {o o' : Obj}, h3.get? b = some o → h3.get? c = some o' → o.cls ≠ o'.cls → b ≠ c := fun e1 e2 hc z => by rw [z, e2] at e1; cases e1; exact hc rfl
  have hvl : vs.length ≤ 1000 := by rw [StrsAre.length q6, List.length_map]; exact hlen
  refine ext_call (D := ua) (b := S) (q3 _ _ (nofr nu) nu.1) q5 hvl fun h5 n5 k5 e5 => ?_
  have hne1 : ∀ {b : Addr}, b ≠ ua → b ∉ [ua] := fun hb hm => by rcases List.mem_cons.mp hm with z | hm; exact hb z; cases hm
  have up : ∀ {b : Addr} {o : Obj}, h3.get? b = some o ∧ b ≠ p.L ∧ p.g.get? b = none → b ≠ ua → h5.get? b = some o := fun {b _} hb hu => k5 _ _ (hne1 hu) (q3 _ _ (nofr hb) hb.1)
  have hns := ns_h (FrS.ns q4 (.head _) F3.ns) (hne1 (Ne.symm nu.2.1)) k5
  show wpAny _ (A.deeper (envOf _ _ p.L 839 _)) (execs _ (envOf _ _ p.L 839 _)) _ _ _
  refine execs_one (wpAny_Return_some (wpAny_Name (wpAny_loadName_local rfl rfl hns rfl ?_)))
  have gn : ∀ {b : Addr}, p.g.get? b = none → p.s.heap.get? b = none := fun {b} hb => by
    cases e : p.s.heap.get? b with
    | none => rfl
    | some o => have := kg2 b o e (by simp); rw [hb] at this; cases this
  refine h x dx ua rl el nl h5 tk4 vs n5 (fun b o hb e => ?_) (fun b hb o e => ?_) (up nx (differ nx.1 nu.1 (by simp))) (up nd (differ nd.1 nu.1 (by simp))) hE e5 q6 (up nr (Nat.ne_of_gt hur)) (gn nx.2.2) (gn nd.2.2) (gn nu.2.2) (gn nr.2.2) hdlo hxd n1 n2 hur hual
  · have hg := kg2 b o e (by simp)
    refine k5 b o (hne1 fun z => ?_) (q3 b o (fun hm => ?_) (k3 b o e))
    · rw [z, nu.2.2] at hg; cases hg
    · rcases List.mem_cons.mp hm with z | hm
      · have := Heap.lt_size e; rw [show b = p.L from z, hL0] at this; exact absurd this (Nat.lt_irrefl _)
      · exact hb hm
  · obtain ⟨sl, e'⟩ := q4 b (.tail _ hb) o (k3 b o e)
    refine ⟨sl, k5 _ _ (hne1 fun z => ?_) e'⟩
    have hg := kg2 b o e (by simp)
    rw [z, nu.2.2] at hg; cases hg
end Mine
end

section
open PySem PySem.W PyProof.Rows PySem.Calls PySem.Spec
namespace Mine
theorem set_ga_none : typeLookup (.type "set") "__getattr__" = pure none := by rw [typeLookup_type, builtinLookup_eq_fast]; kernel_rfl
theorem set_con : typeLookup (.type "set") (PySem.Str.ofString "__contains__") = pure (some (.builtin "set.__contains__")) := by rw [typeLookup_type, builtinLookup_eq_fast]; kernel_rfl
theorem md_get : typeLookup (.type "method_descriptor") (PySem.Str.ofString "__get__") = pure (some (.builtin "method_descriptor.__get__")) := by rw [typeLookup_type, builtinLookup_eq_fast]; kernel_rfl
theorem md_set : typeLookup (.type "method_descriptor") (PySem.Str.ofString "__set__") = pure none := by rw [typeLookup_type, builtinLookup_eq_fast]; kernel_rfl
theorem md_del : typeLookup (.type "method_descriptor") (PySem.Str.ofString "__delete__") = pure none := by rw [typeLookup_type, builtinLookup_eq_fast]; kernel_rfl
theorem con_name : (["__module__", "__name__", "__qualname__", "__doc__", "__annotations__"] : List PySem.Str).contains (PySem.Str.ofString "__contains__") = false := by decide +kernel
theorem slot_md : Slot "method_descriptor" "__get__" "method_descriptor.__get__" :=
  .of (owner := "method_descriptor") (n := "__get__") (by rw [typeLookup_type, builtinLookup_eq_fast]; kernel_rfl) (by decide +kernel) (by decide +kernel) (by decide +kernel)
    (by first | exact .inl (by decide +kernel) | exact .inr (by decide +kernel)) (by rw [isSubtype_type]; kernel_rfl)
theorem entry_md : entryFor table "method_descriptor.__get__" = some Builtin.«method_descriptor.__get__» := entryFor_of_fast (by kernel_rfl)
theorem args_md (a b c : Value) : argsOk "method_descriptor.__get__" ⟨[a, b, c], []⟩ := by unfold argsOk; kernel_rfl
theorem own_set : ".".intercalate ("set.__contains__".cutAt '.').dropLast = "set" := by decide +kernel
theorem told_no : Manifest.toldItsClass.contains "set.__contains__" = false := by decide +kernel
set_option maxHeartbeats 2000000 in
theorem ga_set (a : Addr) (es : Array (Int × Value)) (ep : Nat) (t : SetTable) (u : Tok) :
    Meets (Builtin.«object.__getattribute__» ⟨[.ref a, .str (PySem.Str.ofString "__contains__") u], []⟩) (fun _ R s => s.heap.get? a = some { cls := .type "set", dict := none, data := .set es ep t, slots := #[] } ∧ R (.ok (.ret (.ref s.heap.objs.size))) { s with heap := s.heap.push { cls := .type "builtin_function_or_method", data := .fields #[.builtin "set.__contains__", .ref a] } }) :=
  Meets.of_wp fun prog w A R s hs => by
    obtain ⟨hp, g, d, tk, os⟩ := s
    obtain ⟨hx, hs⟩ := hs
    have hT : (⟨hp, g, d, tk, os⟩ : Shared).TypeIs (.ref a) "set" := ⟨_, hx, rfl⟩
    have f1 := set_con
    have f2 := PySem.F.type_set_contains
    have f3 := md_get
    have f4 := md_set
    have f5 := md_del
    have hname := con_name
    unfold Builtin.«object.__getattribute__»
    repeat (any_goals (first | assumption | wp_step))
    refine codeAny_call_builtin slot_md.plain entry_md (slot_md.check _ _ _ _ _ _ _ _ f2 (args_md _ _ _) ?_)
    have f6 := sub_set_self
    have f7 := told_no
    unfold Builtin.«method_descriptor.__get__»
    repeat (any_goals (first | assumption | wp_step))
    rw [own_set]
    refine wpAny_of_eq f6 (wpAny_pure ?_)
    show wpAny _ _ (newFields "builtin_function_or_method" [.builtin "set.__contains__", .ref a] >>= fun v => ret v) _ _ _
    refine wpAny_bind (wpAny_newObj_type ?_)
    exact wpAny_pure (wpAny_pure ⟨_, rfl, hs⟩)
end Mine
end

section
open PySem PySem.W PyProof.Rows PySem.Calls PySem.Spec
namespace Mine
noncomputable abbrev bmO (a : Addr) : Obj := { cls := .type "builtin_function_or_method", data := .fields #[.builtin "set.__contains__", .ref a] }
theorem get_con {prog : Program} {w : World} {A : Around} {E : Value → Shared → Prop} {s : Shared} {a : Addr} {es : Array (Int × Value)} {ep : Nat} {t : SetTable} {Q : Value → Shared → Prop} {expr : Bool}
    (hx : s.heap.get? a = some { cls := .type "set", dict := none, data := .set es ep t, slots := #[] })
    (h : Q (.ref s.heap.objs.size) { s with heap := s.heap.push (bmO a), toks := s.toks + 1 }) :
    wpAny (model prog w) A (getAttr (.ref a) (PySem.Str.ofString "__contains__") expr) Q E s := by
  obtain ⟨hp, g, d, tk, os⟩ := s
  have hT : ∀ tk', (⟨hp, g, d, tk', os⟩ : Shared).TypeIs (.ref a) "set" := fun _ => ⟨_, hx, rfl⟩
  have f3 := PySem.F.slot_set_getattribute.lookup
  have f4 := PySem.F.slot_set_getattribute.bind (.ref a)
  have f5 := set_ga_none
  unfold getAttr getAttrBy
  repeat (any_goals (first | assumption | exact hT _ | ((with_reducible show wpAny _ _ (call (Value.builtin "set.__getattribute__") _ _) _ _ _); refine call_meets PySem.F.slot_set_getattribute (hT _) PySem.F.entry_set_ga (PySem.F.args_set_getattribute_2 _ _) (ga_set a es ep t _) ⟨hx, ?_⟩) | wp_step))
  have fe : (expr && onTheHeap (Value.builtin "set.__getattribute__")) = false := by cases expr <;> rfl
  rw [if_neg (by rw [fe]; exact Bool.false_ne_true)]
  unfold boundAndCalled
  repeat (any_goals (first | assumption | exact hT _ | ((with_reducible show wpAny _ _ (call (Value.builtin "set.__getattribute__") _ _) _ _ _); refine call_meets PySem.F.slot_set_getattribute (hT _) PySem.F.entry_set_ga (PySem.F.args_set_getattribute_2 _ _) (ga_set a es ep t _) ⟨hx, ?_⟩) | wp_step))
  exact handed_on rfl h
end Mine
end

section
open PySem PySem.W PyProof.Rows PySem.Calls PySem.Spec
namespace Mine
/-! ## A set filled from what an iterator gives, all of it texts -/
/-- the set S of the heap holds just the texts of ss -/
noncomputable def SetIs (w : World) (h : Heap) (S : Addr) (ss : List PySem.Str) : Prop := ∃ f m, h.SetOf (strKind pw w) S f m ∧ m ≤ ss.length ∧ ∀ x, f x = decide (x ∈ ss)
theorem SetIs.keep {w : World} {h h' : Heap} {S : Addr} {ss : List PySem.Str} (x : SetIs w h S ss) (k : ∀ o, h.get? S = some o → h'.get? S = some o) : SetIs w h' S ss := by
  obtain ⟨f, m, ⟨o, es, ep, t, ho, r⟩, r2⟩ := x
  exact ⟨f, m, ⟨o, es, ep, t, k o ho, r⟩, r2⟩
theorem strsAre_snoc2 {vs : List Value} {ss : List PySem.Str} (h : StrsAre vs ss) (x : PySem.Str) (t : Tok) : StrsAre (vs ++ [.str x t]) (ss ++ [x]) := by
  induction h with
  | nil => exact .cons _ _ .nil
  | cons x t _ ih => exact .cons _ _ ih
theorem upd_feed {w : World} {A : Around} {I S : Addr} {α : Type} {St : List Value → List α → Shared → Prop} {Fin : List Value → Shared → Prop} {R : Result → Shared → Prop} (F : Feed w A.in1 I S St Fin)
    (hstr : ∀ vs v l s, St (vs ++ [v]) l s → ∃ x t, v = .str x t) (l : List α) : ∀ (vs : List Value) (ss : List PySem.Str) (s : Shared), St vs l s → StrsAre vs ss → SetIs w s.heap S ss → ss.length + l.length + 1 < scanBound →
      (∀ s' vs' ss', Fin vs' s' → StrsAre vs' ss' → SetIs w s'.heap S ss' → R (.ok (.ret .none)) s') → codeAny (model pw w) A (.builtin "set.update.loop" ⟨[.ref S, .ref I], []⟩) R s := by
  induction l with
  | nil =>
    intro vs ss s hst hs hS hz hR
    refine codeAny_builtin PyProof.Rows.F.entry_set_update_loop ?_
    rw [Around.under_plainId PyProof.Rows.F.plain_set_update_loop _]
    refine wpAny_bind (m := pyNext (.ref I)) (F.done vs s _ _ hst fun s' hf hk => ?_)
    exact wpAny_pure (hR s' vs ss hf hs (hS.keep hk))
  | cons x l ih =>
    intro vs ss s hst hs hS hz hR
    rw [List.length_cons] at hz
    refine codeAny_builtin PyProof.Rows.F.entry_set_update_loop ?_
    rw [Around.under_plainId PyProof.Rows.F.plain_set_update_loop _]
    refine wpAny_bind (m := pyNext (.ref I)) (F.next vs x l s _ _ hst (let ⟨_, _, ⟨o, _, _, _, e, _⟩, _⟩ := hS; ⟨o, e⟩) fun v s' hst' hk => ?_)
    obtain ⟨y, t, rfl⟩ := hstr _ _ _ _ hst'
    obtain ⟨f, m, hf, hm, hmem⟩ := hS.keep hk
    refine wpAny_bind (m := holding [Value.str y t] (setAdd S (.str y t))) (wpAny_holding ?_)
    unfold setAdd
    refine wpAny_holding (wpAny_bind ((strKind pw w).pyHash (k := y) (strKind_is _ _ _ _) ?_))
    refine wpAny_setAddHashed_of (knd := strKind pw w) (s := { s' with toks := s'.toks + 1 }) (strKind_is _ _ _ _) rfl hf (by omega) fun h' hsb hS2 => ?_
    refine wpAny_pure ⟨plainId_quiet PyProof.Rows.F.plain_set_update_loop _, ?_⟩
    refine ih _ (ss ++ [y]) _ (F.move _ l s' h' (s'.toks + 1) hst' fun b o hb e => (hsb.2 b hb).trans e) (strsAre_snoc2 hs y t) ⟨_, _, hS2, ?_, fun z => ?_⟩ (by rw [List.length_append]; show ss.length + 1 + _ + 1 < _; omega) hR
    · rw [List.length_append]
      show _ ≤ ss.length + 1
      split <;> omega
    · show (f z || decide (z = y)) = _
      rw [hmem z]
      simp
/-- a built-in type called: what its __new__ makes, filled by its __init__ -/
theorem type_call {w : World} {A : Around} {E : Value → Shared → Prop} {s : Shared} {T newId initId : String} {args : List Value} {Q M : Value → Shared → Prop} (f : TypeCalled T newId initId) (hct : checkTypeCall T ⟨args, []⟩ = pure ())
    (hnew : codeAny (model pw w) A.in1 (.call (.builtin newId) ⟨.type T :: args, []⟩) (wants M E) s)
    (hinit : ∀ x s', M x s' → s'.TypeIs x T ∧ codeAny (model pw w) A.in1 (.call (.builtin initId) ⟨x :: args, []⟩) (wants (fun r s₂ => r = .none ∧ Q x s₂) E) s') : wpAny (model pw w) A (call (.type T) args) Q E s := by
  refine wpAny_call (codeAny_of_tree (wpAny_pure ⟨Code.quiet_builtin _ (by decide +kernel), codeAny_builtin PySem.F.entry_type_call ?_⟩))
  rw [Around.under_plain (weight_type_call_type T args []) rfl]
  obtain ⟨c, tl, hmro⟩ := f.mro
  unfold Builtin.«type.__call__»
  dsimp only
  rw [f.notType, if_neg Bool.false_ne_true]
  have e1 := f.canCreate
  simp only [e1, hct, hmro, f.made, pure_bind, List.isEmpty_cons, Bool.false_eq_true, if_false]
  refine wpAny_bind (wpAny_holding (wpAny_call (codeAny_mono hnew fun r s' hr => ?_)))
  match r, hr with
  | .error e, hr => exact hr
  | .ok (.ret x), hr =>
    obtain ⟨hT, hi⟩ := hinit x s' hr
    refine wpAny_bind (wpAny_isInstance hT f.sub ?_)
    rw [if_neg (by decide)]
    refine wpAny_bind (wpAny_holding (wpAny_callSpecial?_slot hT f.init (wpAny_call (codeAny_mono hi fun r₂ s₂ hr₂ => ?_))))
    match r₂, hr₂ with
    | .error e, hr₂ => exact hr₂
    | .ok (.ret y), hr₂ =>
      obtain ⟨rfl, hq⟩ := hr₂
      exact wpAny_pure hq
/-- a list's iterator as a feed -/
theorem feed_list {w : World} {A : Around} (hh : A.handled = none) {I ax S : Addr} (s₀ : Shared) (hne : ax ≠ I) (hS : S ≠ I) (hSx : S ≠ ax) (items : List Value) :
    Feed w A I S (fun vs (l : List Value) s => vs ++ l = items ∧ s.heap.IsListIter I ax vs.length ∧ s.heap.IsList ax items.toArray ∧ ∃ h tk, s = { s₀ with heap := h, toks := tk } ∧ ∀ b o, b ≠ I → b ≠ S → s₀.heap.get? b = some o → h.get? b = some o)
      (fun vs s => vs = items ∧ ∃ h tk, s = { s₀ with heap := h, toks := tk } ∧ ∀ b o, b ≠ I → b ≠ S → s₀.heap.get? b = some o → h.get? b = some o) := by
  have W := Walks.list (prog := pw) (w := w) hh I ax hne items.toArray
  refine ⟨?_, ?_, ?_⟩
  · rintro vs l s h' tk ⟨e, ⟨o, ho, r⟩, ⟨o2, ho2, r2⟩, h, tk0, rfl, k⟩ k'
    exact ⟨e, ⟨o, k' _ _ (Ne.symm hS) ho, r⟩, ⟨o2, k' _ _ (Ne.symm hSx) ho2, r2⟩, h', tk, rfl, fun b o b1 b2 eb => k' b o b2 (k b o b1 b2 eb)⟩
  · rintro vs x l s Q E ⟨e, hit, hl, h, tk0, rfl, k⟩ _ hQ
    have hx : items[vs.length]? = some x := by rw [← e]; simp
    have hlt : vs.length < items.toArray.size := by rw [List.size_toArray]; exact (List.getElem?_eq_some_iff.mp hx).1
    refine W.item vs.length _ Q E hlt ⟨hit, hl⟩ fun v h' tk' hv st k' => ?_
    have : v = x := by
      rw [List.getElem?_toArray, hx] at hv
      exact (Option.some.inj hv).symm
    subst this
    have k2 : ∀ b o, b ≠ I → h.get? b = some o → h'.get? b = some o := fun b o hb => k' b o (by simpa using hb)
    exact hQ v _ ⟨by rw [← e]; simp, by rw [List.length_append]; exact st.1, st.2, h', tk', rfl, fun b o b1 b2 eb => k2 b o b1 (k b o b1 b2 eb)⟩ fun o eo => k2 _ _ hS eo
  · rintro vs s Q E ⟨e, hit, hl, h, tk0, rfl, k⟩ hQ
    have hz : vs.length = items.toArray.size := by rw [← e]; simp
    refine W.done _ Q E ⟨hz ▸ hit, hl⟩ fun h' tk' k' => ?_
    have k2 : ∀ b o, b ≠ I → h.get? b = some o → h'.get? b = some o := fun b o hb => k' b o (by simpa using hb)
    exact hQ _ ⟨by rw [← e]; simp, h', tk', rfl, fun b o b1 b2 eb => k2 b o b1 (k b o b1 b2 eb)⟩ fun o eo => k2 _ _ hS eo
theorem set_feed {w : World} {A : Around} {E : Value → Shared → Prop} {s : Shared} {l : Addr} {vs : List Value} {ss : List PySem.Str} {n : Nat} {Q : Value → Shared → Prop} (hh : A.handled = none) (hl : s.heap.get? l = some (listO vs.toArray n)) (hs : StrsAre vs ss) (hz : ss.length < 4000)
    (h : ∀ h' tk, (∀ b o, s.heap.get? b = some o → h'.get? b = some o) → SetIs w h' s.heap.objs.size ss → Q (.ref s.heap.objs.size) { s with heap := h', toks := tk }) : wpAny (model pw w) A (call (.type "set") [.ref l]) Q E s := by
  refine type_call (M := fun x s₁ => ∃ led : Bool, x = .ref s.heap.objs.size ∧ s₁ = { s with heap := s.heap.push { cls := .type "set", dict := none, data := .set #[] 0 (.fresh 0 0 led) } }) PySem.F.called_set (PySem.F.typeCall_set_1 _) (code_set_new_1 _ fun led => ⟨led, rfl, rfl⟩) ?_
  rintro x s₁ ⟨led, rfl, rfl⟩
  generalize hH : s.heap.push { cls := .type "set", dict := none, data := .set #[] 0 (.fresh 0 0 led) } = H
  have k1 : ∀ b o, s.heap.get? b = some o → H.get? b = some o := fun b o e => hH ▸ Heap.get?_push_of_some _ e
  have e1 : H.get? s.heap.objs.size = some { cls := .type "set", dict := none, data := .set #[] 0 (.fresh 0 0 led) } := hH ▸ Heap.get?_push_size _ rfl
  have hT : Shared.TypeIs { s with heap := H } (.ref s.heap.objs.size) "set" := ⟨_, e1, rfl⟩
  have hTl : Shared.TypeIs { s with heap := H } (.ref l) "list" := ⟨_, k1 _ _ hl, rfl⟩
  refine ⟨hT, codeAny_call_builtin PySem.F.called_set.init.plain PySem.F.entry_set_init (check_set_init_1 hT ?_)⟩
  have f1 := PySem.F.sub_list_set
  have f2 := PySem.F.sub_list_frozenset
  have f3 : (Value.type "list" == Value.type "dict") = false := by decide
  unfold Builtin.«set.__init__» noKeywords Builtin.Frozenset.updateFrom
  generalize hPI : pyIter = PI
  wp_walk
  subst hPI
  have e3 := k1 _ _ hl
  refine wpAny_pyIter_list (items := vs.toArray) ⟨_, e3, rfl, _, rfl⟩ (wpAny_bind (wpAny_runValue ?_))
  have hlt : l < s.heap.objs.size := Heap.lt_size hl
  have hsz : H.objs.size = s.heap.objs.size + 1 := by rw [← hH, Heap.size_push]
  have i1 : l ≠ H.objs.size := by rw [hsz]; exact Nat.ne_of_lt (Nat.lt_succ_of_lt hlt)
  have i2 : s.heap.objs.size ≠ H.objs.size := by rw [hsz]; exact Nat.ne_of_lt (Nat.lt_succ_self _)
  have i3 : s.heap.objs.size ≠ l := Nat.ne_of_gt hlt
  generalize hI : ({ cls := .type "list_iterator", data := .fields #[.ref l, .int 0 0] } : Obj) = oI
  have k2 : ∀ b o, H.get? b = some o → (H.push oI).get? b = some o := fun b o e => Heap.get?_push_of_some _ e
  have F := feed_list (w := w) (A := A.in1.in1.in1) hh { s with heap := H.push oI } i1 i2 i3 vs
  refine upd_feed F (fun vs' v l' s' ⟨e, _⟩ => hs.all v (by rw [← e]; simp)) vs [] [] _ ⟨rfl, ⟨oI, Heap.get?_push_size _ (hI ▸ rfl), hI ▸ rfl, hI ▸ rfl⟩, ⟨_, k2 _ _ e3, rfl, _, rfl⟩, _, _, rfl, fun b o _ _ e => e⟩ .nil ⟨_, _, (setObjOf_fresh (knd := strKind pw w) led).setOf (k2 _ _ e1) (by decide), Nat.le_refl _, fun x => by simp⟩ (by rw [StrsAre.length hs]; show 0 + ss.length + 1 < 4096; omega) ?_
  rintro s' vs' ss' ⟨rfl, h', tk, rfl, k3⟩ hs' hS
  have : ss' = ss := by rw [← hs'.strs, ← hs.strs]
  subst this
  refine wpAny_pure (wpAny_pure ⟨rfl, h h' tk (fun b o e => k3 b o ?_ ?_ (k2 _ _ (k1 _ _ e))) hS⟩)
  · rw [hsz]; exact Nat.ne_of_lt (Nat.lt_succ_of_lt (Heap.lt_size e))
  · exact Nat.ne_of_lt (Heap.lt_size e)
end Mine
end

section
open PySem PySem.W PyProof.Rows PySem.Calls PySem.Spec
namespace Mine
/-! ## A list's iterator asked by its special name; the filter object -/
noncomputable abbrev itO (l : Addr) (i : Nat) : Obj := { cls := .type "list_iterator", dict := none, data := .fields #[.ref l, .int i 0], slots := #[] }
theorem li_call {w : World} {A : Around} {E : Value → Shared → Prop} {s : Shared} {I l : Addr} {i n : Nat} {vs : List Value} {Q : Option Value → Shared → Prop} (hh : A.handled = none) (hI : s.heap.get? I = some (itO l i)) (hl : s.heap.get? l = some (listO vs.toArray n))
    (hQ : ∀ x h', vs[i]? = some x → h'.get? I = some (itO l (i + 1)) → Heap.SameBut I s.heap h' → Q (some x) { s with heap := h' })
    (hE : ∀ h' e, vs[i]? = none → (∀ b o, b ≠ I → s.heap.get? b = some o → h'.get? b = some o) → (∃ o, h'.get? e = some o ∧ o.cls = .type "StopIteration") → E (.ref e) { s with heap := h' }) : wpAny (model pw w) A (callSpecial? (.ref I) "__next__") Q E s := by
  have hT : s.TypeIs (.ref I) "list_iterator" := ⟨_, hI, rfl⟩
  obtain ⟨hp, g, d, tk, os⟩ := s
  refine wpAny_callSpecial?_slot hT slot_listiter_next (wpAny_call_entry slot_listiter_next hT entry_listiter_next ?_ (args_listiter_next _))
  refine wpAny_bind (m := field (.ref I) 0) (wpAny_field hI rfl (x := .ref l) rfl ?_)
  refine (wpAny_bind (m := field (.ref I) 1) (wpAny_field hI rfl (x := .int i 0) rfl ?_) : wpAny _ _ (if (Value.ref l == Value.none) = true then _ else _) _ _ _)
  refine wpAny_bind (m := seqItems? (.ref l)) (wpAny_seqItems hl rfl ?_)
  dsimp only
  rw [Int.toNat_natCast, List.getElem?_toArray]
  cases hv : vs[i]? with
  | some x =>
    exact wpAny_bind (m := setField (.ref I) 1 (rawInt (i + 1))) (wpAny_setField_rec hI (by simp) fun h' e k => wpAny_pure ⟨x, rfl, hQ x h' hv e k⟩)
  | none =>
    refine wpAny_bind (wpAny_rule (wpAny_bind (m := setField (.ref I) 0 .none) (wpAny_setField_rec hI (by simp) fun h' e k => ?_)))
    have f1 : firstArgMember (.type "StopIteration") [] = pure Value.none := by first | rfl | (simp only [firstArgMember]; rfl)
    refine wpAny_bind (m := newExc (.type "StopIteration") []) (wpAny_bind (m := newTuple []) (wpAny_newObj_type (wpAny_bind (wpAny_of_eq f1 (wpAny_newObj_type (wpAny_raiseNew_none hh (hE _ _ hv (fun b o hb eb => ?_) ⟨_, Heap.get?_push_size _ rfl, rfl⟩)))))))
    exact Heap.get?_push_of_some _ (Heap.get?_push_of_some _ ((k.2 b hb).trans eb))
end Mine
end

section
open PySem PySem.W PyProof.Rows PySem.Calls PySem.Spec
namespace Mine
/-! ## The bound method of a set, called; the filter object -/
theorem sub_set_module : isSubtype (.type "set") (.type "module") = pure false := by rw [isSubtype_type]; kernel_rfl
theorem sig_con : Manifest.signature? "set.__contains__" = some ⟨.oneArg, "set.__contains__", "__contains__", .self, [⟨"object", .posOnly, true⟩]⟩ := by kernel_rfl
theorem kind_con : builtinKind "set.__contains__" = some .method := by decide +kernel
theorem var_con : Manifest.varargsMethods.contains "set.__contains__" = false := by decide +kernel
theorem chk_con (a b : Value) : Bind.checkArgs "set.__contains__" ⟨.oneArg, s!"{Bind.lastOf "set"}.{Bind.lastOf "set.__contains__"}", "__contains__", .self, [⟨"object", .posOnly, true⟩]⟩ ⟨[a, b], []⟩ = pure () := by kernel_rfl
theorem SetIs.typ {w : World} {h : Heap} {a : Addr} {ss : List PySem.Str} (x : SetIs w h a ss) : ∃ o es ep t, h.get? a = some o ∧ o.cls = .type "set" ∧ o.data = .set es ep t := by
  obtain ⟨f, m, ⟨o, es, ep, t, ho, hc, hd, _⟩, _⟩ := x
  exact ⟨o, es, ep, t, ho, hc.1, hd⟩
theorem has_text {w : World} {A : Around} {E : Value → Shared → Prop} {s : Shared} {a : Addr} {ss : List PySem.Str} {x : PySem.Str} {t : Tok} {Q : Bool → Shared → Prop} (hS : SetIs w s.heap a ss) (h : Q (decide (x ∈ ss)) { s with toks := s.toks + 1 }) : wpAny (model pw w) A (setContains a (.str x t)) Q E s := by
  obtain ⟨f, m, hf, _, hmem⟩ := hS
  refine wpAny_holding (wpAny_bind ((strKind pw w).pyHash (k := x) (strKind_is _ _ _ _) (wpAny_bind (wpAny_setFind_of (knd := strKind pw w) (s := { s with toks := s.toks + 1 }) (strKind_is _ _ _ _) rfl hf fun r hr => wpAny_pure ?_))))
  rw [hr, hmem x]
  exact h
theorem call_bm {w : World} {A : Around} {E : Value → Shared → Prop} {s : Shared} {a b : Addr} {x : PySem.Str} {t : Tok} {ss : List PySem.Str} {Q : Value → Shared → Prop}
    (hb : s.heap.get? b = some (bmO a)) (hS : SetIs w s.heap a ss) (h : Q (.bool (decide (x ∈ ss))) { s with toks := s.toks + 1 }) :
    wpAny (model pw w) A (call (.ref b) [.str x t]) Q E s := by
  obtain ⟨o, es, ep, tb, ho, hc, hd⟩ := hS.typ
  have hT : s.TypeIs (.ref a) "set" := ⟨o, ho, hc⟩
  refine wpAny_call (codeAny_of_tree (wpAny_bind (wpAny_load hb (wpAny_bind (m := checkBoundCall "set.__contains__" ⟨[.ref a, .str x t], []⟩) ?_))))
  unfold checkBoundCall
  rw [sig_con, kind_con]
  refine wpAny_bind (m := isInstance (.ref a) (.type "module")) (wpAny_isInstance hT sub_set_module ?_)
  rw [var_con, if_neg (by decide)]
  refine wpAny_bind (wpAny_bind (wpAny_load ho ?_))
  rw [hd]
  refine wpAny_pure (wpAny_bind (m := typeOf (.ref a)) (wpAny_typeOf hT (wpAny_of_eq (chk_con _ _) (wpAny_pure ⟨Code.quiet_builtin _ (by decide +kernel), codeAny_builtin entry_set_contains ?_⟩))))
  refine wpAny_bind (m := Builtin.Frozenset.oneOther "__contains__" ⟨[.ref a, .str x t], []⟩) (wpAny_bind (m := pure a) (wpAny_pure (wpAny_pure ?_)))
  exact wpAny_bind (m := Builtin.Frozenset.withSetAsKey "frozenset.__contains__" (.str x t) (setContains a)) (wpAny_tryCatch (has_text hS (wpAny_pure h)))
/-! filter -/
theorem mro_flt : mroOf (.type "filter") = pure [.type "filter", .type "object"] := by rw [mroOf_type]; kernel_rfl
theorem lookup_flt_new : typeLookup (.type "filter") "__new__" = pure (some (.builtin "filter.__new__")) := by rw [typeLookup_type, builtinLookup_eq_fast]; kernel_rfl
theorem slot_flt_init : Slot "filter" "__init__" "object.__init__" :=
  .of (owner := "object") (n := "__init__") (by rw [typeLookup_type, builtinLookup_eq_fast]; kernel_rfl) (by decide +kernel) (by decide +kernel) (by decide +kernel) (by first | exact .inl (by decide +kernel) | exact .inr (by decide +kernel)) (by rw [isSubtype_type]; kernel_rfl)
theorem slot_flt_next : Slot "filter" "__next__" "filter.__next__" :=
  .of (owner := "filter") (n := "__next__") (by rw [typeLookup_type, builtinLookup_eq_fast]; kernel_rfl) (by decide +kernel) (by decide +kernel) (by decide +kernel) (by first | exact .inl (by decide +kernel) | exact .inr (by decide +kernel)) (by rw [isSubtype_type]; kernel_rfl)
theorem sub_flt : isSubtype (.type "filter") (.type "filter") = pure true := by rw [isSubtype_type]; kernel_rfl
theorem called_flt : TypeCalled "filter" "filter.__new__" "object.__init__" :=
  ⟨by decide +kernel, by decide +kernel, ⟨_, _, mro_flt⟩, madeBy_type mro_flt lookup_flt_new (by decide +kernel), by decide +kernel, sub_flt, slot_flt_init⟩
theorem typeCall_flt (a b : Value) : checkTypeCall "filter" ⟨[a, b], []⟩ = pure () := by kernel_rfl
theorem newCall_flt (a b : Value) : checkBuiltinCall "filter.__new__" ⟨[.type "filter", a, b], []⟩ = pure () := by kernel_rfl
theorem entry_flt_new : entryFor table "filter.__new__" = some Builtin.«filter.__new__» := entryFor_of_fast (by kernel_rfl)
theorem entry_flt_next : entryFor table "filter.__next__" = some Builtin.«filter.__next__» := entryFor_of_fast (by kernel_rfl)
theorem plain_flt_next : plainId "filter.__next__" = true := by decide +kernel
theorem args_flt_next (a : Value) : argsOk "filter.__next__" ⟨[a], []⟩ := by unfold argsOk; kernel_rfl
noncomputable abbrev fltO (b I : Addr) : Obj := { cls := .type "filter", dict := none, data := .fields #[.ref b, .ref I], slots := #[] }
theorem flt_new {w : World} {A : Around} {E : Value → Shared → Prop} {s : Shared} {b l : Addr} {vs : List Value} {n : Nat} {Q : Value → Shared → Prop} (hl : s.heap.get? l = some (listO vs.toArray n))
    (h : ∀ h', (∀ c o, s.heap.get? c = some o → h'.get? c = some o) → h'.get? s.heap.objs.size = some (itO l 0) → h'.get? (s.heap.objs.size + 1) = some (fltO b s.heap.objs.size) → h'.objs.size = s.heap.objs.size + 2 → Q (.ref (s.heap.objs.size + 1)) { s with heap := h' }) :
    wpAny (model pw w) A (call (.type "filter") [.ref b, .ref l]) Q E s := by
  have f1 := sub_flt
  refine callType_new (S := fun _ R s => s.heap.get? l = some (listO vs.toArray n) ∧ R (.ok (.ret (.ref (s.heap.push (itO l 0)).objs.size))) { s with heap := (s.heap.push (itO l 0)).push (fltO b s.heap.objs.size) }) called_flt (by decide) (typeCall_flt _ _) (newCall_flt _ _) (fun o => PySem.F.args_object_init_3 o _ _) entry_flt_new (.of_wp fun prog w A R s ⟨hl, hr⟩ => ?_) ⟨hl, ?_⟩
  · obtain ⟨hp, g, d, tk, os⟩ := s
    have hL : Heap.IsList (Shared.heap ⟨hp, g, d, tk, os⟩) l vs.toArray := ⟨_, hl, rfl, n, rfl⟩
    wp_walk using wpAny_pyIter_list hL
    exact ⟨_, rfl, hr⟩
  · have e0 : (s.heap.push (itO l 0)).objs.size = s.heap.objs.size + 1 := Heap.size_push ..
    have e1 : ((s.heap.push (itO l 0)).push (fltO b s.heap.objs.size)).get? (s.heap.push (itO l 0)).objs.size = some (fltO b s.heap.objs.size) := Heap.get?_push_size _ rfl
    refine ⟨⟨_, e1, rfl⟩, ?_⟩
    rw [e0] at e1 ⊢
    exact h _ (fun c o e => Heap.get?_push_of_some _ (Heap.get?_push_of_some _ e)) (Heap.get?_push_of_some _ (Heap.get?_push_size _ rfl)) e1 (by rw [Heap.size_push, e0])
end Mine
end

section
open PySem PySem.W PyProof.Rows PySem.Calls PySem.Spec
namespace Mine
/-! ## What a filter by a set gives -/
/-- the filter F at place i of the list l, whose texts are xs -/
structure FltAt (w : World) (s₀ : Shared) (F b a I l S : Addr) (xs ss : List PySem.Str) (i : Nat) (s : Shared) : Prop where
  hF : s.heap.get? F = some (fltO b I)
  hb : s.heap.get? b = some (bmO a)
  hS : SetIs w s.heap a ss
  hI : s.heap.get? I = some (itO l i)
  hl : ∃ vs n, s.heap.get? l = some (listO vs.toArray n) ∧ StrsAre vs xs
  le : i ≤ xs.length
  eq : ∃ h tk, s = { s₀ with heap := h, toks := tk } ∧ ∀ c o, c ≠ I → c ≠ S → s₀.heap.get? c = some o → h.get? c = some o
structure FltNe (F b a I l S : Addr) : Prop where
  FI : F ≠ I
  bI : b ≠ I
  aI : a ≠ I
  lI : l ≠ I
  SF : S ≠ F
  Sb : S ≠ b
  Sa : S ≠ a
  SI : S ≠ I
  Sl : S ≠ l
section
variable {w : World} {s₀ s : Shared} {F b a I l S : Addr} {xs ss : List PySem.Str} {i : Nat}
theorem FltAt.toks (x : FltAt w s₀ F b a I l S xs ss i s) (tk : Nat) : FltAt w s₀ F b a I l S xs ss i { s with toks := tk } :=
  ⟨x.hF, x.hb, x.hS, x.hI, x.hl, x.le, let ⟨h, _, e, k⟩ := x.eq; ⟨h, tk, by rw [e], k⟩⟩
theorem FltAt.step (D : FltNe F b a I l S) (x : FltAt w s₀ F b a I l S xs ss i s) {h' : Heap} (e : h'.get? I = some (itO l (i + 1))) (k : Heap.SameBut I s.heap h') (hi : i < xs.length) : FltAt w s₀ F b a I l S xs ss (i + 1) { s with heap := h' } :=
  ⟨(k.2 _ D.FI).trans x.hF, (k.2 _ D.bI).trans x.hb, x.hS.keep fun o e => (k.2 _ D.aI).trans e, e, (let ⟨vs, n, e1, e2⟩ := x.hl; ⟨vs, n, (k.2 _ D.lI).trans e1, e2⟩), hi,
    let ⟨h, tk, e1, k1⟩ := x.eq; ⟨h', tk, by rw [e1], fun c o h1 h2 e2 => (k.2 c h1).trans (by rw [e1]; exact k1 c o h1 h2 e2)⟩⟩
theorem FltAt.move (D : FltNe F b a I l S) (x : FltAt w s₀ F b a I l S xs ss i s) {h' : Heap} {tk : Nat} (k : ∀ c o, c ≠ S → s.heap.get? c = some o → h'.get? c = some o) : FltAt w s₀ F b a I l S xs ss i { s with heap := h', toks := tk } :=
  ⟨k _ _ (Ne.symm D.SF) x.hF, k _ _ (Ne.symm D.Sb) x.hb, x.hS.keep fun o e => k _ o (Ne.symm D.Sa) e, k _ _ (Ne.symm D.SI) x.hI, (let ⟨vs, n, e1, e2⟩ := x.hl; ⟨vs, n, k _ _ (Ne.symm D.Sl) e1, e2⟩), x.le,
    let ⟨h, _, e1, k1⟩ := x.eq; ⟨h', tk, by rw [e1], fun c o h1 h2 e2 => k c o h2 (by rw [e1]; exact k1 c o h1 h2 e2)⟩⟩
end
theorem flt_go {w : World} {A : Around} {s₀ : Shared} {F b a I l S : Addr} {xs ss : List PySem.Str} {R : Result → Shared → Prop} (hh : A.handled = none) (D : FltNe F b a I l S) :
    ∀ (k i : Nat) (s : Shared), xs.length - i = k → FltAt w s₀ F b a I l S xs ss i s →
      (∀ x t j s', i ≤ j → xs[j]? = some x → x ∈ ss → (xs.drop i).filter (· ∈ ss) = x :: (xs.drop (j + 1)).filter (· ∈ ss) → (∀ o, s.heap.get? S = some o → s'.heap.get? S = some o) → FltAt w s₀ F b a I l S xs ss (j + 1) s' → R (.ok (.ret (.str x t))) s') →
      (∀ e s' h tk, (xs.drop i).filter (· ∈ ss) = [] → s' = { s₀ with heap := h, toks := tk } → (∀ o, s.heap.get? S = some o → h.get? S = some o) → (∀ c o, c ≠ I → c ≠ S → s₀.heap.get? c = some o → h.get? c = some o) → (∃ o, h.get? e = some o ∧ o.cls = .type "StopIteration") → R (.error (.ref e)) s') →
      codeAny (model pw w) A (.builtin "filter.__next__" ⟨[.ref F], []⟩) R s := by
  intro k
  induction k with
  | zero =>
    intro i s hk x hR hE
    obtain ⟨vs, n, hl, hs⟩ := x.hl
    have hi : i = xs.length := by have := x.le; omega
    have hd : xs.drop i = [] := by rw [hi]; simp
    have hlen := StrsAre.length hs
    refine codeAny_builtin entry_flt_next ?_
    rw [Around.under_plainId plain_flt_next _]
    refine wpAny_bind (m := field (.ref F) 0) (wpAny_field x.hF rfl (x := .ref b) rfl ?_)
    refine wpAny_bind (m := field (.ref F) 1) (wpAny_field x.hF rfl (x := .ref I) rfl ?_)
    refine wpAny_bind (m := callSpecial? (.ref I) "__next__") (li_call (A := A.in1) hh x.hI hl (fun y h' hy _ _ => ?_) fun h' e _ kk ho => ?_)
    · rw [List.getElem?_eq_none (by omega)] at hy; cases hy
    · obtain ⟨h0, tk, e1, k1⟩ := x.eq
      have e2 : s.heap = h0 := by rw [e1]
      exact hE e _ h' s.toks (by rw [hd]; rfl) (by rw [e1]) (fun o eo => kk _ o D.SI eo) (fun c o c1 c2 ec => kk c o c1 (e2 ▸ k1 c o c1 c2 ec)) ho
  | succ k ih =>
    intro i s hk x hR hE
    obtain ⟨vs, n, hl, hs⟩ := x.hl
    have hi : i < xs.length := by omega
    have hlen := StrsAre.length hs
    have hd : xs.drop i = xs[i] :: xs.drop (i + 1) := List.drop_eq_getElem_cons hi
    refine codeAny_builtin entry_flt_next ?_
    rw [Around.under_plainId plain_flt_next _]
    refine wpAny_bind (m := field (.ref F) 0) (wpAny_field x.hF rfl (x := .ref b) rfl ?_)
    refine wpAny_bind (m := field (.ref F) 1) (wpAny_field x.hF rfl (x := .ref I) rfl ?_)
    refine wpAny_bind (m := callSpecial? (.ref I) "__next__") (li_call (A := A.in1) hh x.hI hl (fun y h' hy e kk => ?_) fun h' e hn _ _ => ?_)
    · obtain ⟨z, t, hz, rfl⟩ := strsAre_at hs i y hy
      have hz' : z = xs[i] := by rw [List.getElem?_eq_getElem hi] at hz; exact (Option.some.inj hz).symm
      have x1 := x.step D e kk hi
      refine wpAny_bind (wpAny_holding ?_)
      rw [if_neg (by simp)]
      refine wpAny_bind (m := call (.ref b) [.str z t]) (call_bm (ss := ss) x1.hb x1.hS (wpAny_holding (wpAny_truthy_bool ?_)))
      have x2 := x1.toks (s.toks + 1)
      by_cases hm : z ∈ ss
      · rw [decide_eq_true hm, if_pos rfl]
        refine wpAny_pure (hR z t i _ (Nat.le_refl _) hz hm (by rw [hd, List.filter_cons_of_pos (by rw [← hz']; simpa using hm), hz']) (fun o eo => (kk.2 S D.SI).trans eo) x2)
      · rw [decide_eq_false hm, if_neg Bool.false_ne_true]
        have hf : (xs.drop i).filter (· ∈ ss) = (xs.drop (i + 1)).filter (· ∈ ss) := by rw [hd, List.filter_cons_of_neg (by rw [← hz']; simpa using hm)]
        refine wpAny_pure ⟨plainId_quiet plain_flt_next _, ih (i + 1) _ (by omega) x2 (fun y u j s' hij h1 h2 h3 h4 h5 => hR y u j s' (by omega) h1 h2 (hf.trans h3) (fun o eo => h4 o ((kk.2 S D.SI).trans eo)) h5) (fun e' s' h tk h1 h2 h3 h4 h5 => hE e' s' h tk (hf.trans h1) h2 (fun o eo => h3 o ((kk.2 S D.SI).trans eo)) h4 h5)⟩
    · rw [List.getElem?_eq_getElem (by omega)] at hn; cases hn
theorem flt_py {w : World} {A : Around} {s₀ s : Shared} {F b a I l S : Addr} {xs ss : List PySem.Str} {i : Nat} {Q : Option Value → Shared → Prop} {E : Value → Shared → Prop} (hh : A.handled = none) (D : FltNe F b a I l S) (x : FltAt w s₀ F b a I l S xs ss i s)
    (hR : ∀ y t j s', i ≤ j → xs[j]? = some y → y ∈ ss → (xs.drop i).filter (· ∈ ss) = y :: (xs.drop (j + 1)).filter (· ∈ ss) → (∀ o, s.heap.get? S = some o → s'.heap.get? S = some o) → FltAt w s₀ F b a I l S xs ss (j + 1) s' → Q (some (.str y t)) s')
    (hE : ∀ h tk, (xs.drop i).filter (· ∈ ss) = [] → (∀ o, s.heap.get? S = some o → h.get? S = some o) → (∀ c o, c ≠ I → c ≠ S → s₀.heap.get? c = some o → h.get? c = some o) → Q none { s₀ with heap := h, toks := tk }) : wpAny (model pw w) A (pyNext (.ref F)) Q E s := by
  have hT : s.TypeIs (.ref F) "filter" := ⟨_, x.hF, rfl⟩
  unfold pyNext
  refine wpAny_bind (wpAny_attempt (wpAny_callSpecial?_slot hT slot_flt_next (wpAny_call (codeAny_call_builtin_code (plainId_quiet plain_flt_next _) (slot_flt_next.check _ _ _ _ _ _ _ _ hT (args_flt_next _) ?_)))))
  refine flt_go hh D _ i s rfl x (fun y t j s' h1 h2 h3 h4 h5 h6 => wpAny_pure (hR y t j s' h1 h2 h3 h4 h5 h6)) ?_
  rintro e s' h tk h1 rfl h3 h4 ⟨o, h5, h6⟩
  exact wpAny_bind (wpAny_isInstance (T := "StopIteration") (b := true) ⟨o, h5, h6⟩ isSubtype_stop (wpAny_pure (hE h tk h1 h3 h4)))
end Mine
end

section
open PySem PySem.W PyProof.Rows PySem.Calls PySem.Spec
namespace Mine
theorem slot_flt_iter : Slot "filter" "__iter__" "filter.__iter__" :=
  .of (owner := "filter") (n := "__iter__") (by rw [typeLookup_type, builtinLookup_eq_fast]; kernel_rfl) (by decide +kernel) (by decide +kernel) (by decide +kernel) (by first | exact .inl (by decide +kernel) | exact .inr (by decide +kernel)) (by rw [isSubtype_type]; kernel_rfl)
theorem entry_flt_iter : entryFor table "filter.__iter__" = some Builtin.«dict_keyiterator.__iter__» :=
  entryFor_alias (id' := "dict_keyiterator.__iter__") (by kernel_rfl) (by first | rfl | decide +kernel) (by decide +kernel) (by kernel_rfl)
theorem args_flt_iter (a : Value) : argsOk "filter.__iter__" ⟨[a], []⟩ := by unfold argsOk; kernel_rfl
theorem nolen_flt : typeLookup (.type "filter") (PySem.Str.ofString "__len__") = pure none := by rw [typeLookup_type, builtinLookup_eq_fast]; kernel_rfl
theorem nohint_flt : typeLookup (.type "filter") (PySem.Str.ofString "__length_hint__") = pure none := by rw [typeLookup_type, builtinLookup_eq_fast]; kernel_rfl
theorem list_flt {w : World} {A : Around} {s : Shared} {F b a I l : Addr} {xs ss : List PySem.Str} {vs : List Value} {n : Nat} {Q E : Value → Shared → Prop} (hh : A.handled = none)
    (hF : s.heap.get? F = some (fltO b I)) (hb : s.heap.get? b = some (bmO a)) (hS : SetIs w s.heap a ss) (hI : s.heap.get? I = some (itO l 0)) (hl : s.heap.get? l = some (listO vs.toArray n)) (hs : StrsAre vs xs) (hz : xs.length ≤ 1000)
    (h : ∀ h' tk vs' n', (∀ c o, c ≠ I → s.heap.get? c = some o → h'.get? c = some o) → h'.get? s.heap.objs.size = some (listO vs'.toArray n') → StrsAre vs' (xs.filter (· ∈ ss)) → Q (.ref s.heap.objs.size) { s with heap := h', toks := tk }) :
    wpAny (model pw w) A (call (.type "list") [.ref F]) Q E s := by
  have top : ∀ {c o}, s.heap.get? c = some o → s.heap.objs.size ≠ c := fun e => Nat.ne_of_gt (Heap.lt_size e)
  obtain ⟨oa, ea, pa, ta, ha, hac, _⟩ := hS.typ
  have ne : ∀ {c d : Addr} {o o' : Obj}, s.heap.get? c = some o → s.heap.get? d = some o' → o.cls ≠ o'.cls → c ≠ d := fun e1 e2 hc z => by rw [z, e2] at e1; cases e1; exact hc rfl
  have D : FltNe F b a I l s.heap.objs.size := ⟨ne hF hI (by simp), ne hb hI (by simp), ne ha hI (by rw [hac]; simp), ne hl hI (by simp), top hF, top hb, top ha, top hI, top hl⟩
  refine list_feed (l := xs.filter (· ∈ ss)) (St := fun ys r s' => ∃ i, FltAt w s F b a I l s.heap.objs.size xs ss i s' ∧ (xs.drop i).filter (· ∈ ss) = r ∧ StrsAre ys ((xs.take i).filter (· ∈ ss)))
    (Fin := fun ys s' => StrsAre ys (xs.filter (· ∈ ss)) ∧ ∃ h tk, s' = { s with heap := h, toks := tk } ∧ ∀ c o, c ≠ I → c ≠ s.heap.objs.size → s.heap.get? c = some o → h.get? c = some o) ⟨?_, ?_, ?_⟩ (Ne.symm D.SF) (by rw [sizeLine_eq]; exact Nat.le_trans (List.length_filter_le _ _) (Nat.le_trans hz (by decide))) ?_ ?_ ?_
  · rintro ys r s' h' tk ⟨i, x, e1, e2⟩ k
    exact ⟨i, x.move D k, e1, e2⟩
  · rintro ys y r s' Q E ⟨i, x, e1, e2⟩ _ hQ
    refine flt_py hh D x (fun z t j s'' hij hz1 hz2 hz3 hz4 hz5 => ?_) fun _ _ hn => ?_
    · rw [e1] at hz3
      injection hz3 with hz3 hz6
      subst hz3
      refine hQ _ s'' ⟨j + 1, hz5, hz6.symm, ?_⟩ hz4
      have hjl : j < xs.length := (List.getElem?_eq_some_iff.mp hz1).1
      have e3 : (xs.take (j + 1)).filter (· ∈ ss) = (xs.take i).filter (· ∈ ss) ++ [y] := by
        have h1 : xs.filter (· ∈ ss) = (xs.take i).filter (· ∈ ss) ++ (xs.drop i).filter (· ∈ ss) := by rw [← List.filter_append, List.take_append_drop]
        have h2 : xs.filter (· ∈ ss) = (xs.take (j + 1)).filter (· ∈ ss) ++ (xs.drop (j + 1)).filter (· ∈ ss) := by rw [← List.filter_append, List.take_append_drop]
        rw [h2, e1, ← hz6, show y :: r = [y] ++ r from rfl, ← List.append_assoc] at h1
        exact List.append_cancel_right h1
      rw [e3]
      exact strsAre_snoc2 e2 y t
    · rw [e1] at hn; cases hn
  · rintro ys s' Q E ⟨i, x, e1, e2⟩ hQ
    refine flt_py hh D x (fun z t j s'' hij hz1 hz2 hz3 hz4 hz5 => ?_) fun h tk hn k1 k2 => ?_
    · rw [e1] at hz3; cases hz3
    · refine hQ _ ⟨?_, h, tk, rfl, k2⟩ k1
      have h1 : xs.filter (· ∈ ss) = (xs.take i).filter (· ∈ ss) ++ (xs.drop i).filter (· ∈ ss) := by rw [← List.filter_append, List.take_append_drop]
      rw [h1, hn, List.append_nil]
      exact e2
  · intro h' tk k
    have hT : Shared.TypeIs { s with heap := h', toks := tk } (.ref F) "filter" := ⟨_, k _ _ hF, rfl⟩
    exact ⟨fun Q E hq => wpAny_typeOf hT (hq _ (by decide) (by decide))⟩
  · rintro s₁ Q E ⟨h', tk, rfl, k⟩ hq
    have hT : Shared.TypeIs { s with heap := h', toks := tk } (.ref F) "filter" := ⟨_, k _ _ hF, rfl⟩
    refine wpAny_pyIter_slot hT slot_flt_iter (wpAny_call_entry slot_flt_iter hT entry_flt_iter ?_ (args_flt_iter _))
    refine wpAny_pure ⟨_, rfl, "filter", _, hT, slot_flt_next.lookup, hq _ ⟨0, ⟨k _ _ hF, k _ _ hb, hS.keep fun o e => k _ o e, k _ _ hI, ⟨vs, n, k _ _ hl, hs⟩, Nat.zero_le _, h', tk, rfl, fun c o _ _ e => k c o e⟩, rfl, by simpa using StrsAre.nil⟩ (fun o e => e) fun Q E hq => ?_⟩
    exact wpAny_bind (m := specialOf (.ref F) "__len__") (wpAny_specialOf hT nolen_flt (wpAny_bind (m := specialOf (.ref F) "__length_hint__") (wpAny_specialOf hT nohint_flt (wpAny_pure hq))))
  · rintro s' vs' n' ⟨h1, h2, tk, rfl, k⟩ e
    exact h h2 tk vs' n' (fun c o hc ec => k c o hc (Ne.symm (top ec)) ec) e h1
end Mine
end

section
open PySem PySem.W PyProof.Rows PySem.Calls PySem.Spec
namespace Mine
/-! ## What a call may change; what stands at every call -/
theorem glob_bi (P : Params) : nsIn (K P) mainGlobals (PySem.Str.ofString "__builtins__") = some (some (.ref 4)) := by kernel_rfl
theorem K858 (P : Params) : ∃ o, (K P).lookup 858 = some o := ⟨_, by k_is⟩
theorem K799 (P : Params) : ∃ o, (K P).lookup 799 = some o := ⟨_, by k_is⟩
theorem get_top (h : Heap) : h.get? h.objs.size = none := by
  cases e : h.get? h.objs.size with
  | none => rfl
  | some o => exact absurd (Heap.lt_size e) (Nat.lt_irrefl _)
structure Mv (fr : List Addr) (s s' : Shared) : Prop where
  kp : KpH (795 :: fr) s.heap s'.heap
  fs : FrS fr s.heap s'.heap
  tab : TabJ s.heap → TabJ s'.heap
  bare : AllBare s.gens → AllBare s'.gens
  os : s'.os = s.os
structure Wd (w : World) (mg mb : PySem.Str → Option Value) (s : Shared) : Prop where
  X : (K w.params).In s.heap
  T : TopQ mg mb s.heap
  M : ∃ bm ob, BMod s.heap mainGlobals mg bm ob
  J : TabJ s.heap
  G : AllBare s.gens
theorem Wd.lo {w : World} {mg mb : PySem.Str → Option Value} {s : Shared} (W : Wd w mg mb s) : 859 ≤ s.heap.objs.size := by
  obtain ⟨o, e⟩ := K858 w.params
  exact Heap.lt_size (W.X _ _ e)
theorem tab_795 {h : Heap} (J : TabJ h) : ∃ o, h.get? 795 = some o ∧ o.cls = .none := by
  obtain ⟨ps, _, h2, _⟩ := J
  exact ⟨_, h2.2, rfl⟩
theorem Mv.of {fr : List Addr} {s : Shared} {h' : Heap} {tk : Nat} (hlo : ∀ a ∈ fr, 859 ≤ a) (k : KpH fr s.heap h') (f : FrS fr s.heap h') : Mv fr s { s with heap := h', toks := tk } := by
  have lo : ∀ {a : Addr}, a < 859 → a ∉ fr := fun ha hm => absurd ha (Nat.not_lt.mpr (hlo _ hm))
  exact ⟨fun b o hb e => k b o (fun hm => hb (.tail _ hm)) e, f, fun t => t.at2 (fun o e => k _ _ (lo (by decide)) e) (fun o e => k _ _ (lo (by decide)) e), id, rfl⟩
theorem Wd.mv {fr : List Addr} {w : World} {mg mb : PySem.Str → Option Value} {s s' : Shared} (W : Wd w mg mb s) (m : Mv fr s s') (hlo : ∀ a ∈ fr, 859 ≤ a) : Wd w mg mb s' := by
  have lo : ∀ {a : Addr}, a < 859 → a ≠ 795 → a ∉ 795 :: fr := fun ha hne hm => by
    rcases List.mem_cons.mp hm with z | hm
    · exact hne z
    · exact absurd ha (Nat.not_lt.mpr (hlo _ hm))
  have ns : ∀ {a : Addr} {mm}, a < 859 → a ≠ 795 → s.heap.Ns a mm → s'.heap.Ns a mm := fun ha hne n => ns_h n (lo ha hne) m.kp
  obtain ⟨bm, ob, M⟩ := W.M
  have hb : bm = 4 := by
    have := mg_of W.X W.T.g (glob_bi _)
    rw [M.name] at this; cases this; rfl
  subst hb
  refine ⟨fun a o e => m.kp a o (lo (K_lookup_lo e) fun z => by rw [z, K795] at e; cases e) (W.X a o e), ?_, ⟨4, ob, ns (by decide) (by decide) M.ns, M.name, M.ne, m.kp _ _ (lo (by decide) (by decide)) M.obj, M.cls, M.dict, M.data⟩, m.tab W.J, m.bare W.G⟩
  exact ⟨ns (by decide) (by decide) W.T.g, ns (by decide) (by decide) W.T.b, (let ⟨mc, n, e⟩ := W.T.nolimit; ⟨mc, ns (by decide) (by decide) n, e⟩), W.T.builtins, W.T.free⟩
/-- what a def of the program's promises: from Pre to Post, whatever stands around it -/
noncomputable def Spec (f : Addr) (args : List Value) (dep : Nat) (Pre : List Addr → Heap → Prop) (Post : Heap → Value → Heap → Prop) : Prop :=
  ∀ (w : World) (A : Around) (mg mb : PySem.Str → Option Value) (outer : List Env) (s : Shared) (Q E : Value → Shared → Prop), Wd w mg mb s → A.handled = none → A.depth + dep < recursionLimit → A.units + 20 * dep < cLine → Fs A outer s.heap → Pre (frs outer) s.heap →
    (∀ s' v, Mv (frs outer) s s' → Post s.heap v s'.heap → Q v s') → wpAny (model pw w) A (call (.ref f) args) Q E s
/-! ## The state within a frame -/
structure FP2 where
  s0 : Shared
  L : Addr
  outer : List Env
noncomputable abbrev Nss := List (Addr × (PySem.Str → Option Value))
structure FS (p : FP2) (nss : Nss) (news : List (Addr × Obj)) (s : Shared) : Prop where
  mv : Mv (frs p.outer) p.s0 s
  ns : ∀ q ∈ nss, s.heap.Ns q.1 q.2 ∧ p.s0.heap.get? q.1 = none
  nd : (nss.map (·.1)).Nodup
  hL : p.L ∈ nss.map (·.1)
  at_ : ∀ q ∈ news, s.heap.get? q.1 = some q.2 ∧ p.s0.heap.get? q.1 = none ∧ q.1 ∉ nss.map (·.1)
/-- what holds of a frame all along -/
structure Fk2 (w : World) (mg mb : PySem.Str → Option Value) (A₀ : Around) (p : FP2) : Prop where
  W : Wd w mg mb p.s0
  F : Fs A₀ p.outer p.s0.heap
  new : p.s0.heap.get? p.L = none
  hi : 859 ≤ p.L
  eqL : p.s0.heap.objs.size ≤ p.L
section
variable {w : World} {mg mb : PySem.Str → Option Value} {A₀ : Around} {p : FP2} {nss : Nss} {news : List (Addr × Obj)} {s s' : Shared}
theorem Fk2.fr_lo (R : Fk2 w mg mb A₀ p) : ∀ a ∈ frs p.outer, 859 ≤ a := frs_lo R.F
theorem Fk2.not_fr (R : Fk2 w mg mb A₀ p) {a : Addr} (h : p.s0.heap.get? a = none) : a ∉ 795 :: frs p.outer := fun hm => by
  rcases List.mem_cons.mp hm with z | hm
  · obtain ⟨o, e, _⟩ := tab_795 R.W.J
    rw [← z, h] at e; cases e
  · obtain ⟨o, e, _⟩ := R.F.ok.mem hm
    rw [h] at e; cases e
theorem FS.wd (hs : FS p nss news s) (R : Fk2 w mg mb A₀ p) : Wd w mg mb s := R.W.mv hs.mv R.fr_lo
theorem FS.old (hs : FS p nss news s) {a : Addr} {o : Obj} (ha : a ∉ 795 :: frs p.outer) (e : p.s0.heap.get? a = some o) : s.heap.get? a = some o := hs.mv.kp a o ha e
theorem FS.size (hs : FS p nss news s) : ∀ a ∈ nss.map (·.1), a < s.heap.objs.size := fun a ha => by
  obtain ⟨q, hq, rfl⟩ := List.mem_map.mp ha
  exact (hs.ns q hq).1.lt
/-- a call from within the frame -/
theorem FS.call (R : Fk2 w mg mb A₀ p) (hs : FS p nss news s) {env : Env} (hf : env.frame = some p.L) (m : Mv (frs (env :: p.outer)) s s') : FS p nss news s' := by
  have hfr : frs (env :: p.outer) = p.L :: frs p.outer := by unfold frs; rw [List.filterMap_cons_some hf]
  rw [hfr] at m
  have nl : ∀ {a : Addr}, a ≠ p.L → p.s0.heap.get? a = none → a ∉ 795 :: p.L :: frs p.outer := fun hne h hm => by
    have := R.not_fr h
    rcases List.mem_cons.mp hm with z | hm
    · exact this (z ▸ .head _)
    rcases List.mem_cons.mp hm with z | hm
    · exact hne z
    exact this (.tail _ hm)
  refine ⟨⟨fun b o hb e => m.kp b o (fun hm => ?_) (hs.mv.kp b o hb e), ?_, fun t => m.tab (hs.mv.tab t), fun t => m.bare (hs.mv.bare t), m.os.trans hs.mv.os⟩, fun q hq => ?_, hs.nd, hs.hL, fun q hq => ?_⟩
  · rcases List.mem_cons.mp hm with z | hm
    · exact hb (z ▸ .head _)
    rcases List.mem_cons.mp hm with z | hm
    · rw [z, R.new] at e; cases e
    exact hb (.tail _ hm)
  · intro b hb o e
    obtain ⟨sl, e1⟩ := hs.mv.fs b hb o e
    obtain ⟨sl2, e2⟩ := m.fs b (.tail _ hb) _ e1
    exact ⟨sl2, e2⟩
  · obtain ⟨n, h0⟩ := hs.ns q hq
    refine ⟨?_, h0⟩
    by_cases hL : q.1 = p.L
    · rw [hL] at n ⊢; exact FrS.ns m.fs (.head _) n
    · exact ns_h n (nl hL h0) m.kp
  · obtain ⟨a, b, c⟩ := hs.at_ q hq
    exact ⟨m.kp _ _ (nl (fun z => c (z ▸ hs.hL)) b) a, b, c⟩
/-- a step that changes the objects of a list alone, all of them new -/
theorem Fk2.k0 (R : Fk2 w mg mb A₀ p) {l : List Addr} (hl : ∀ a ∈ l, p.s0.heap.get? a = none) : ∀ b o, p.s0.heap.get? b = some o → b ∉ l := fun b o e hm => by rw [hl b hm] at e; cases e
theorem FS.step (R : Fk2 w mg mb A₀ p) (hs : FS p nss news s) {l : List Addr} {h' : Heap} {tk : Nat} (k : KpH l s.heap h') (hl : ∀ a ∈ l, p.s0.heap.get? a = none) {nss' : Nss} (hnn : nss'.map (·.1) = nss.map (·.1)) (hns : ∀ q ∈ nss', h'.Ns q.1 q.2) (news' : List (Addr × Obj)) (hn : ∀ q ∈ news', q ∈ news ∧ q.1 ∉ l) : FS p nss' news' { s with heap := h', toks := tk } := by
  have k0 := R.k0 hl
  obtain ⟨o9, e9⟩ := K799 w.params
  have n9 := k0 _ _ (R.W.X _ _ e9)
  obtain ⟨o5, e5, _⟩ := tab_795 R.W.J
  have n5 := k0 _ _ e5
  refine ⟨⟨fun b o hb e => k b o (k0 b o e) (hs.mv.kp b o hb e), fun b hb o e => ?_, fun t => (hs.mv.tab t).at2 (fun o e => k _ _ n9 e) (fun o e => k _ _ n5 e), hs.mv.bare, hs.mv.os⟩, fun q hq => ⟨hns q hq, ?_⟩, hnn ▸ hs.nd, hnn ▸ hs.hL, fun q hq => ?_⟩
  · obtain ⟨sl, e1⟩ := hs.mv.fs b hb o e
    exact ⟨sl, k _ _ (k0 _ _ e) e1⟩
  · have : q.1 ∈ nss.map (·.1) := hnn ▸ List.mem_map_of_mem hq
    obtain ⟨r, hr, e⟩ := List.mem_map.mp this
    exact e ▸ (hs.ns r hr).2
  · obtain ⟨a, b⟩ := hn q hq
    obtain ⟨c, d, e⟩ := hs.at_ q a
    exact ⟨k _ _ b c, d, hnn ▸ e⟩
theorem FS.sub (hs : FS p nss news s) {news' : List (Addr × Obj)} (hn : ∀ q ∈ news', q ∈ news) : FS p nss news' s := ⟨hs.mv, hs.ns, hs.nd, hs.hL, fun q hq => hs.at_ q (hn q hq)⟩
theorem FS.cons (hs : FS p nss news s) {a : Addr} {o : Obj} (e : s.heap.get? a = some o) (h0 : p.s0.heap.get? a = none) (hn : a ∉ nss.map (·.1)) : FS p nss ((a, o) :: news) s :=
  ⟨hs.mv, hs.ns, hs.nd, hs.hL, fun q hq => by
    rcases List.mem_cons.mp hq with rfl | hq
    · exact ⟨e, h0, hn⟩
    · exact hs.at_ q hq⟩
theorem FS.toks (hs : FS p nss news s) (tk : Nat) : FS p nss news { s with toks := tk } := ⟨⟨hs.mv.kp, hs.mv.fs, hs.mv.tab, hs.mv.bare, hs.mv.os⟩, hs.ns, hs.nd, hs.hL, hs.at_⟩
theorem FS.none0 (R : Fk2 w mg mb A₀ p) (hs : FS p nss news s) {a : Addr} (h : s.heap.get? a = none) : p.s0.heap.get? a = none ∧ a ∉ nss.map (·.1) := by
  refine ⟨?_, fun hm => by have := hs.size a hm; obtain ⟨q, hq, e⟩ := List.mem_map.mp hm; obtain ⟨o, _, _, ho, _⟩ := (hs.ns q hq).1; rw [e, h] at ho; cases ho⟩
  cases e : p.s0.heap.get? a with
  | none => rfl
  | some o =>
    by_cases hb : a ∈ 795 :: frs p.outer
    · rcases List.mem_cons.mp hb with z | hb
      · obtain ⟨o', e', _⟩ := tab_795 (hs.wd R).J
        rw [← z, h] at e'; cases e'
      · obtain ⟨sl, e1⟩ := hs.mv.fs a hb o e
        rw [h] at e1; cases e1
    · have := hs.mv.kp a o hb e
      rw [h] at this; cases this
/-- a new object -/
theorem FS.new (R : Fk2 w mg mb A₀ p) (hs : FS p nss news s) (o : Obj) (ho : o.isFreed = false) {tk : Nat} : FS p nss ((s.heap.objs.size, o) :: news) { s with heap := s.heap.push o, toks := tk } := by
  have h0 := hs.none0 R (get_top s.heap)
  have k : Kp s.heap (s.heap.push o) := fun b o' e => Heap.get?_push_of_some _ e
  have h1 : FS p nss news { s with heap := s.heap.push o, toks := tk } := hs.step R (l := []) (fun b o' _ e => k b o' e) (fun a ha => by cases ha) rfl (fun q hq => (hs.ns q hq).1.keeps k) news fun q hq => ⟨hq, fun h => by cases h⟩
  exact h1.cons (Heap.get?_push_size _ ho) h0.1 h0.2
/-- an object that changes -/
theorem FS.chg (R : Fk2 w mg mb A₀ p) (hs : FS p nss news s) {a : Addr} {o o' : Obj} {h' : Heap} {tk : Nat} (ha : (a, o) ∈ news) (k : KpH [a] s.heap h') (e : h'.get? a = some o') (news' : List (Addr × Obj)) (hn : ∀ q ∈ news', q ∈ news ∧ q.1 ≠ a) : FS p nss ((a, o') :: news') { s with heap := h', toks := tk } := by
  obtain ⟨_, h0, hx⟩ := hs.at_ _ ha
  have hne : ∀ {b : Addr}, b ≠ a → b ∉ [a] := fun hb hm => by rcases List.mem_cons.mp hm with z | hm; exact hb z; cases hm
  exact (hs.step R k (fun b hb => by rcases List.mem_cons.mp hb with rfl | hb; exact h0; cases hb) rfl (fun q hq => ns_h (hs.ns q hq).1 (hne fun z => hx (z ▸ List.mem_map_of_mem hq)) k) news' fun q hq => ⟨(hn q hq).1, hne (hn q hq).2⟩).cons e h0 hx
/-- a store to a name of the innermost namespace -/
theorem FS.put (R : Fk2 w mg mb A₀ p) {a : Addr} {m m' : PySem.Str → Option Value} (hs : FS p ((a, m) :: nss) news s) {h' : Heap} {tk : Nat} (hn : h'.Ns a m') (hsb : Heap.SameBut a s.heap h') : FS p ((a, m') :: nss) news { s with heap := h', toks := tk } := by
  have k : KpH [a] s.heap h' := fun b o hb e => (hsb.2 b fun z => hb (z ▸ .head _)).trans e
  have hne : ∀ {b : Addr}, b ≠ a → b ∉ [a] := fun hb hm => by rcases List.mem_cons.mp hm with z | hm; exact hb z; cases hm
  have nd := List.nodup_cons.mp hs.nd
  refine hs.step R (nss' := (a, m') :: nss) k (fun b hb => by rcases List.mem_cons.mp hb with rfl | hb; exact (hs.ns _ (.head _)).2; cases hb) rfl (fun q hq => ?_) news fun q hq => ⟨hq, hne fun z => (hs.at_ q hq).2.2 (z ▸ .head _)⟩
  rcases List.mem_cons.mp hq with rfl | hq
  · exact hn
  · have hm : q.1 ∈ nss.map (·.1) := List.mem_map_of_mem hq
    exact ns_h (hs.ns q (.tail _ hq)).1 (hne fun z => nd.1 (z ▸ hm)) k
theorem FS.ne (hs : FS p nss news s) {a b : Addr} {o o' : Obj} (ha : (a, o) ∈ news) (hb : (b, o') ∈ news) (h : o ≠ o') : a ≠ b := fun z => by
  subst z
  have := (hs.at_ _ ha).1
  rw [(hs.at_ _ hb).1] at this
  exact h (Option.some.inj this).symm
end
/-! ## Expressions within a frame -/
structure En (env : Env) (a L : Addr) : Prop where
  loc : env.locals = a
  frame : env.frame = some L
  glob : env.globals = mainGlobals
  bi : env.builtins = builtinsNs
  kf : env.scope.kind = .function
theorem En.of (qn : PySem.Str) {sc : Scope} (L f : Addr) (cd : Value) (kf : sc.kind = .function) : En (envOf qn sc L f cd) L L := ⟨rfl, rfl, rfl, rfl, kf⟩
section
variable {w : World} {mg mb : PySem.Str → Option Value} {A A₀ : Around} {p : FP2} {nss : Nss} {news : List (Addr × Obj)} {s : Shared} {env : Env} {a : Addr} {m : PySem.Str → Option Value} {x : PySem.Str} {q : Pos} {v : Value} {Q E : Value → Shared → Prop}
theorem nm (he : En env a p.L) (hs : FS p ((a, m) :: nss) news s) (hm : m x = some v) (h : Q v s) (kx : env.kindOf x = some .local := by rfl) (hd : (x == PySem.Str.ofString "__debug__") = false := by decide) : wpAny (model pw w) A (eval (.Name x q) env) Q E s :=
  wpAny_Name (wpAny_loadName_local he.kf kx (he.loc ▸ (hs.ns _ (.head _)).1) hm h) hd
theorem gl (R : Fk2 w mg mb A₀ p) (he : En env a p.L) (hs : FS p nss news s) (hg : ∀ P, nsIn (K P) mainGlobals x = some (some v)) (h : Q v s) (kx : env.kindOf x = some .globalImplicit := by rfl) (hd : (x == PySem.Str.ofString "__debug__") = false := by decide) : wpAny (model pw w) A (eval (.Name x q) env) Q E s :=
  Name_function_global he.kf kx (loadGlobal_global (env := env) (by rw [he.glob]; exact (hs.wd R).T.g) (mg_of (hs.wd R).X (hs.wd R).T.g (hg _)) h) hd
theorem bl (R : Fk2 w mg mb A₀ p) (he : En env a p.L) (hs : FS p nss news s) (hg : ∀ P, nsIn (K P) mainGlobals x = some none) (hv : bootBuiltins x = some v) (hn : x ≠ "__name__") (h : Q v s) (kx : env.kindOf x = some .globalImplicit := by rfl) (hd : (x == PySem.Str.ofString "__debug__") = false := by decide) : wpAny (model pw w) A (eval (.Name x q) env) Q E s :=
  Name_function_global he.kf kx (loadGlobal_builtin (env := env) (by rw [he.glob]; exact (hs.wd R).T.g) (mg_none_of (hs.wd R).X (hs.wd R).T.g (hg _)) (by rw [he.bi]; exact (hs.wd R).T.b) (((hs.wd R).T.builtins x hn).trans hv) h) hd
/-- a store to a local -/
theorem stn (R : Fk2 w mg mb A₀ p) (he : En env a p.L) {Q : Unit → Shared → Prop} (hs : FS p ((a, m) :: nss) news s) (h : ∀ s', FS p ((a, fun y => if y = x then some v else m y) :: nss) news s' → Q () s') (kx : env.kindOf x = some .local := by rfl) : wpAny (model pw w) A (storeName env x v) Q E s :=
  wpAny_storeName_local kx (he.loc ▸ (hs.ns _ (.head _)).1) (fun h' hn hsb => h _ (hs.put R (he.loc ▸ hn) (he.loc ▸ hsb))) (by rw [he.kf]; rfl)
theorem asg (R : Fk2 w mg mb A₀ p) (he : En env a p.L) {e : PySem.Expr} {q1 q2 : Pos} {Q : Flow → Shared → Prop} (hsw : swapsWith e (some (.Name x q1)) q2.line env = pure false)
    (h : wpAny (model pw w) A (eval e env) (fun v s₁ => ∃ nss news m, FS p ((a, m) :: nss) news s₁ ∧ ∀ s', FS p ((a, fun y => if y = x then some v else m y) :: nss) news s' → Q .next s') E s) (kx : env.kindOf x = some .local := by rfl) : wpAny (model pw w) A (exec (.Assign [.Name x q1] e q2) env) Q E s :=
  wpAny_Assign_Name (wpAny_mono h (fun v s₁ ⟨nss, news, m, hs, hq⟩ => stn R he hs hq kx) fun _ _ z => z) hsw
end
end Mine
end

section
open PySem PySem.W PyProof.Rows PySem.Calls PySem.Spec
namespace Mine
/-! ## Into a def, out of a call -/
structure Ar (A : Around) (p : FP2) (dep : Nat) : Prop where
  hh : A.handled = none
  st : ∃ e, A.frames = some (e :: p.outer) ∧ e.frame = some p.L ∧ e.scope.kind = .function
  dp : A.depth + dep < recursionLimit
  un : A.units + 20 * dep < cLine
theorem Ar.le {A : Around} {p : FP2} {d d' : Nat} (a : Ar A p d) (h : d' ≤ d) : Ar A p d' := ⟨a.hh, a.st, Nat.lt_of_le_of_lt (Nat.add_le_add_left h _) a.dp, Nat.lt_of_le_of_lt (Nat.add_le_add_left (Nat.mul_le_mul_left _ h) _) a.un⟩
theorem Ar.of {A : Around} {p : FP2} {dep d : Nat} {env : Env} (hh : A.handled = none) (hF : Fs A p.outer p.s0.heap) (hd : A.depth + dep < recursionLimit) (hu : A.units + 20 * dep < cLine) (hdd : d + 1 ≤ dep) (hf : env.frame = some p.L) (hk : env.scope.kind = .function) : Ar (A.deeper env) p d :=
  ⟨hh, ⟨env, Around.frames_deeper hF.stack, hf, hk⟩, by rw [depth_deeper]; omega, by rw [units_deeper]; omega⟩
section
variable {w : World} {mg mb : PySem.Str → Option Value} {A A₀ : Around} {p : FP2} {nss : Nss} {news : List (Addr × Obj)} {s : Shared} {Q E : Value → Shared → Prop} {dep : Nat}
theorem Ar.fs (R : Fk2 w mg mb A₀ p) (a : Ar A p dep) (hs : FS p nss news s) : ∃ e, Fs A (e :: p.outer) s.heap ∧ e.frame = some p.L := by
  obtain ⟨e, h1, h2, h3⟩ := a.st
  refine ⟨e, ⟨h1, fun e' he => ?_⟩, h2⟩
  rcases List.mem_cons.mp he with rfl | he
  · obtain ⟨q, hq, e2⟩ := List.mem_map.mp hs.hL
    obtain ⟨o, es, ep, ho, hd, _⟩ := (hs.ns q hq).1
    rw [e2] at ho
    exact ⟨by rw [h3]; decide, p.L, o, h2, ho, (fun vs z => by rw [hd] at z; cases z), R.hi⟩
  · exact R.F.ok.step hs.mv.fs e' he
theorem FS.off (R : Fk2 w mg mb A₀ p) (hs : FS p nss news s) {a : Addr} (h : s.heap.get? a = none) : a ∉ 795 :: p.L :: frs p.outer := fun hm => by
  obtain ⟨h0, hn⟩ := hs.none0 R h
  have := R.not_fr h0
  rcases List.mem_cons.mp hm with z | hm
  · exact this (z ▸ .head _)
  rcases List.mem_cons.mp hm with z | hm
  · exact hn (z ▸ hs.hL)
  exact this (.tail _ hm)
/-- a call of one of the program's defs from within a frame -/
theorem sp {f : Addr} {args : List Value} {Pre : List Addr → Heap → Prop} {Post : Heap → Value → Heap → Prop} (S : Spec f args dep Pre Post) (R : Fk2 w mg mb A₀ p) (a : Ar A p dep) (hs : FS p nss news s) (hP : Pre (p.L :: frs p.outer) s.heap)
    (h : ∀ s' v, FS p nss news s' → KpH (795 :: p.L :: frs p.outer) s.heap s'.heap → Post s.heap v s'.heap → Q v s') : wpAny (model pw w) A (call (.ref f) args) Q E s := by
  obtain ⟨e, hF, hf⟩ := a.fs R hs
  have hfr : frs (e :: p.outer) = p.L :: frs p.outer := by unfold frs; rw [List.filterMap_cons_some hf]
  exact S w A mg mb (e :: p.outer) s Q E (hs.wd R) a.hh a.dp a.un hF (hfr ▸ hP) fun s' v m hp => h s' v (hs.call R hf m) (hfr ▸ m.kp) hp
end
theorem enterG {w : World} {A : Around} {s : Shared} {R : Result → Shared → Prop} {name qual : PySem.Str} {params : Arguments} {body : List Stmt} {scope : Scope} {dV kV doc pm cdv ct oc : Value} {an od : Option Addr} {osl : Array (Option Value)} {f : Addr} {args : Args} {binds : List (PySem.Str × Value)} {mg mb : PySem.Str → Option Value} {outer : List Env}
    (W : Wd w mg mb s) (hF : Fs A outer s.heap) (ho : (K w.params).lookup f = some ⟨oc, od, .func (fnOf name qual params body scope dV kV doc pm an cdv ct), osl⟩) (hcd : codeIn (K w.params) cdv qual = true) (hroom : A.depth < recursionLimit)
    (hbind : BindsTo s (fnOf name qual params body scope dV kV doc pm an cdv ct) args binds) (hloc : ∀ y ∈ binds, scope.names.lookup y.1 = some .local)
    (h : ∀ (p : FP2) s₁, p.s0 = s → p.outer = outer → Fk2 w mg mb A p → FS p [(p.L, fun y => binds.reverse.lookup y)] [] s₁ →
      wpAny (model pw w) (A.deeper (envOf qual scope p.L f cdv)) (execs body (envOf qual scope p.L f cdv)) (fun fl s' => R (.ok (.ret (match fl with | .ret v => v | _ => .none))) s') (fun _ _ => False) s₁)
    (hco : scope.isCoroutine = false) (hgen : scope.isGenerator = false) (hk : scope.kind = .function)
    (hcell : ∀ x ∈ scope.names, x.2 ≠ .cell) : codeAny (model pw w) A (.call (.ref f) args) R s := by
  refine enterK W.X W.T.nolimit ho hcd hroom hbind hloc (fun h₁ F _ => ?_) hco hgen hk hcell
  have h0 := get_top s.heap
  refine h ⟨s, s.heap.objs.size, outer⟩ _ rfl rfl ⟨W, hF, h0, W.lo, Nat.le_refl _⟩ ⟨.of (frs_lo hF) (fun b o _ e => F.keep b o e) (.of_kp fun b _ o e => F.keep b o e), fun q hq => ?_, by simp, .head _, fun q hq => by cases hq⟩
  rcases List.mem_cons.mp hq with rfl | hq
  · exact ⟨F.ns, h0⟩
  · cases hq
end Mine
end

section
open PySem PySem.W PyProof.Rows PySem.Calls PySem.Spec
namespace Mine
/-! ## From the frame's state to the library's form (a base heap, a ledger) and back -/
noncomputable def cut (h : Heap) (L : Nat) : Heap := { h with objs := h.objs.extract 0 L }
theorem cut_get {h : Heap} {L : Nat} {b : Addr} {o : Obj} : (cut h L).get? b = some o ↔ @LT.lt Nat _ b L ∧ h.get? b = some o := by
  have e : (cut h L).objs[b]? = if @LT.lt Nat _ b L then h.objs[b]? else none := by
    show (h.objs.extract 0 L)[b]? = _
    rw [Array.getElem?_extract]
    by_cases hb : @LT.lt Nat _ b L
    · rw [if_pos hb]
      by_cases h2 : @LT.lt Nat _ b h.objs.size
      · rw [if_pos (by omega), Nat.zero_add]
      · rw [if_neg (by omega), Array.getElem?_eq_none (by omega)]
    · rw [if_neg hb, if_neg (by omega)]
  unfold Heap.get?
  rw [e]
  by_cases hb : @LT.lt Nat _ b L
  · rw [if_pos hb]; exact ⟨fun x => ⟨hb, x⟩, fun x => x.2⟩
  · rw [if_neg hb]; exact ⟨fun x => (by cases x), fun x => absurd x.1 hb⟩
/-- the base: what stood at the frame's entry, as it stands now -/
noncomputable def bas (p : FP2) (news : List (Addr × Obj)) (s : Shared) : Heap := hideAll (cut s.heap p.L) (news.map (·.1))
section
variable {w : World} {mg mb : PySem.Str → Option Value} {A₀ : Around} {p : FP2} {nss : Nss} {news news₂ : List (Addr × Obj)} {s : Shared} {m : PySem.Str → Option Value}
theorem FS.bas (R : Fk2 w mg mb A₀ p) (hs : FS p nss news s) {b : Addr} {o o' : Obj} (e0 : p.s0.heap.get? b = some o') (e : s.heap.get? b = some o) : (bas p news s).get? b = some o :=
  hideAll_get _ (cut_get.mpr ⟨Nat.lt_of_lt_of_le (Heap.lt_size e0) R.eqL, e⟩) fun hm => by
    obtain ⟨q, hq, z⟩ := List.mem_map.mp hm
    have := (hs.at_ q hq).2.1
    rw [z, e0] at this; cases this
theorem FS.fr (hs : FS p nss news s) (hm : (p.L, m) ∈ nss) : Fr (Mine.bas p news s) p.L s.heap m :=
  ⟨(hs.ns _ hm).1, fun b o e => (cut_get.mp (of_hideAll _ e)).2, by unfold Mine.bas; rw [hideAll_size]; show (s.heap.objs.extract 0 p.L).size ≤ p.L; rw [Array.size_extract]; exact Nat.le_trans (Nat.sub_le _ _) (Nat.min_le_left _ _)⟩
theorem FS.there (R : Fk2 w mg mb A₀ p) (hs : FS p nss news s) {a : Addr} {o : Obj} (e : p.s0.heap.get? a = some o) : ∃ o', s.heap.get? a = some o' := by
  by_cases hb : a ∈ 795 :: frs p.outer
  · rcases List.mem_cons.mp hb with rfl | hb
    · obtain ⟨o', e', _⟩ := tab_795 (hs.wd R).J; exact ⟨o', e'⟩
    · obtain ⟨sl, e1⟩ := hs.mv.fs a hb o e; exact ⟨_, e1⟩
  · exact ⟨o, hs.mv.kp a o hb e⟩
theorem FS.none_bas (R : Fk2 w mg mb A₀ p) (hs : FS p nss news s) {a : Addr} (h : (Mine.bas p news s).get? a = none) : p.s0.heap.get? a = none := by
  cases e : p.s0.heap.get? a with
  | none => rfl
  | some o =>
    obtain ⟨o', e'⟩ := hs.there R e
    rw [hs.bas R e e'] at h; cases h
theorem FS.nw (hs : FS p nss news s) : News (Mine.bas p news s) p.L s.heap news := fun q hq =>
  ⟨(hs.at_ q hq).1, fun z => (hs.at_ q hq).2.2 (z ▸ hs.hL), hideAll_none _ (List.mem_map_of_mem hq)⟩
theorem FS.X (R : Fk2 w mg mb A₀ p) (hs : FS p nss news s) : (K w.params).In (Mine.bas p news s) := fun a o e => hs.bas R (R.W.X a o e) ((hs.wd R).X a o e)
theorem FS.T (R : Fk2 w mg mb A₀ p) (hs : FS p nss news s) : TopQ mg mb (Mine.bas p news s) := by
  have ns : ∀ {a : Addr} {mm mm'}, p.s0.heap.Ns a mm' → s.heap.Ns a mm → (Mine.bas p news s).Ns a mm := fun n0 n => by
    obtain ⟨o, es, ep, ho, r⟩ := n
    obtain ⟨o', _, _, ho', _⟩ := n0
    exact ⟨o, es, ep, hs.bas R ho' ho, r⟩
  have T := (hs.wd R).T
  have T0 := R.W.T
  obtain ⟨mc, n, e⟩ := T.nolimit
  obtain ⟨mc0, n0, _⟩ := T0.nolimit
  exact ⟨ns T0.g T.g, ns T0.b T.b, ⟨mc, ns n0 n, e⟩, T.builtins, T.free⟩
/-- back: a step that keeps the base, and a new ledger -/
theorem FS.of_fr (R : Fk2 w mg mb A₀ p) {m' : PySem.Str → Option Value} (hs : FS p [(p.L, m)] news s) {h' : Heap} {tk : Nat} {news' : List (Addr × Obj)} (F : Fr (Mine.bas p news s) p.L h' m') (N : News (Mine.bas p news s) p.L h' news') : FS p [(p.L, m')] news' { s with heap := h', toks := tk } := by
  have k : ∀ {b : Addr} {o o' : Obj}, p.s0.heap.get? b = some o' → s.heap.get? b = some o → h'.get? b = some o := fun e0 e => F.keep _ _ (hs.bas R e0 e)
  obtain ⟨o9, e9⟩ := K799 w.params
  obtain ⟨o5, e5, _⟩ := tab_795 R.W.J
  refine ⟨⟨fun b o hb e => k e (hs.mv.kp b o hb e), fun b hb o e => ?_, fun t => (hs.mv.tab t).at2 (fun o e => k (R.W.X _ _ e9) e) (fun o e => k e5 e), hs.mv.bare, hs.mv.os⟩, fun q hq => ?_, by simp, .head _, fun q hq => ?_⟩
  · obtain ⟨sl, e1⟩ := hs.mv.fs b hb o e
    exact ⟨sl, k e e1⟩
  · rcases List.mem_cons.mp hq with rfl | hq
    · exact ⟨F.ns, R.new⟩
    · cases hq
  · obtain ⟨a, b, c⟩ := N q hq
    refine ⟨a, hs.none_bas R c, fun hm => ?_⟩
    rcases List.mem_cons.mp hm with z | hm
    · exact b z
    · cases hm
end
end Mine
end

section
open PySem PySem.W PyProof.Rows PySem.Calls PySem.Spec
namespace Mine
/-! ## Instances within a frame -/
section
variable {w : World} {mg mb : PySem.Str → Option Value} {A A₀ : Around} {p : FP2} {nss : Nss} {news : List (Addr × Obj)} {s : Shared} {env : Env} {m mm : PySem.Str → Option Value} {x d C : Addr} {el : List DictEntry} {nl k : Nat} {names : List PySem.Str} {name : PySem.Str} {v : Value} {Q E : Value → Shared → Prop}
theorem getA {expr : Bool} (X : (K w.params).In s.heap) (c : Cls w.params C names) (hx : s.heap.get? x = some (instObj C d)) (hd : s.heap.get? d = some (dictOf el nl)) (hE : ESk el mm k) (hn : name ∈ names) (hv : mm name = some v) (hh : handedIn v = true) (h : Q v { s with toks := s.toks + 1 }) : wpAny (model pw w) A (getAttr (.ref x) name expr) Q E s :=
  get_value X ⟨hx, rfl, rfl, hd⟩ (plainGet_of (c.get _ hn).1).1 (findObj_own c.dict (c.get _ hn).2.1 rfl (by rw [show lookIn name (dictOf el nl) = getL name el from rfl, hE.1, hv])) hh h
theorem setA (R : Fk2 w mg mb A₀ p) (hs : FS p [(p.L, m)] ((x, instObj C d) :: (d, dictOf el nl) :: news) s) (c : Cls w.params C names) (hn : name ∈ names) (hE : ESk el mm k) (hk : k + 1 ≤ 100) (hxd : @Ne Nat x d) (hd : ∀ q ∈ news, q.1 ≠ d) {Q : Unit → Shared → Prop} {E : Value → Shared → Prop}
    (h : ∀ s' el' nl', FS p [(p.L, m)] ((x, instObj C d) :: (d, dictOf el' nl') :: news) s' → ESk el' (upd mm name v) (k + 1) → Q () s') : wpAny (model pw w) A (setAttr (.ref x) name v) Q E s := by
  have hE' := hE.put (PyData.keyHash w.params name) (s.toks + 1) v (name := name)
  exact set_dict (hs.fr (.head _)) (hs.X R) hs.nw ⟨(hs.at_ _ (.head _)).1, rfl, rfl, (hs.at_ _ (.tail _ (.head _))).1⟩ rfl c.setter c.over (c.get _ hn).2.2 c.dict (by rw [hE.1]; rfl) rfl (.tail hxd (.head hd)) (Nat.le_trans hE'.2 (by omega)) fun h' F' N' => h _ _ _ (hs.of_fr R F' N') hE'
/-- an attribute of what an expression gives -/
theorem attr_of {e : PySem.Expr} {q : Pos} (h : wpAny (model pw w) A (eval e env) (fun o s₁ => wpAny (model pw w) A (getAttr o name true) Q E s₁) E s) (he : attributeBase e name env (eval e env) = eval e env := by rfl) : wpAny (model pw w) A (eval (.Attribute e name q) env) Q E s := by
  rw [arm_eval_Attribute, he]
  exact wpAny_bind (wpAny_mono h (fun o s₁ h₁ => wpAny_bind (wpAny_standAt (wpAny_bind (wpAny_holding (wpAny_mono h₁ (fun r s₂ h₂ => wpAny_bind (wpAny_letTemporaryGo (wpAny_pure h₂))) fun _ _ y => y))))) fun _ _ y => y)
end
/-- a record of the law's: its agents, no rules -/
structure Rec (h : Heap) (x d u r : Addr) (xs : List PySem.Str) : Prop where
  hx : h.get? x = some (instObj 82 d)
  hd : ∃ el nl, h.get? d = some (dictOf el nl) ∧ ESk el (enMap u r) 4
  hu : ∃ vs n, h.get? u = some (listO vs.toArray n) ∧ StrsAre vs xs
  hr : h.get? r = some (listO #[] 0)
theorem Rec.keep {h h' : Heap} {x d u r : Addr} {xs : List PySem.Str} (R : Rec h x d u r xs) (k : ∀ b ∈ [x, d, u, r], ∀ o, h.get? b = some o → h'.get? b = some o) : Rec h' x d u r xs :=
  ⟨k _ (by simp) _ R.hx, (let ⟨a, b, c, e⟩ := R.hd; ⟨a, b, k _ (by simp) _ c, e⟩), (let ⟨a, b, c, e⟩ := R.hu; ⟨a, b, k _ (by simp) _ c, e⟩), k _ (by simp) _ R.hr⟩
theorem glob_set (P : Params) : nsIn (K P) mainGlobals (PySem.Str.ofString "set") = some none := by kernel_rfl
theorem glob_flt (P : Params) : nsIn (K P) mainGlobals (PySem.Str.ofString "filter") = some none := by kernel_rfl
theorem glob_lst (P : Params) : nsIn (K P) mainGlobals (PySem.Str.ofString "list") = some none := by kernel_rfl
theorem keeper_set (P : Params) (S : Setting) : peek (K P) S (keeperOf (.type "set")) = some .machine := by kernel_rfl
theorem keeper_flt (P : Params) (S : Setting) : peek (K P) S (keeperOf (.type "filter")) = some .machine := by kernel_rfl
theorem keeper_lst (P : Params) (S : Setting) : peek (K P) S (keeperOf (.type "list")) = some .machine := by kernel_rfl
section
variable {w : World} {mg mb : PySem.Str → Option Value} {A A₀ : Around} {p : FP2} {nss : Nss} {news : List (Addr × Obj)} {s : Shared} {env : Env} {a : Addr} {x : PySem.Str} {q1 q2 : Pos} {f : Value} {e : PySem.Expr} {rest : List PySem.Expr} {Q E : Value → Shared → Prop}
/-- a built-in called by its name -/
theorem cB (R : Fk2 w mg mb A₀ p) (he : En env a p.L) (hs : FS p nss news s) (hg : ∀ P, nsIn (K P) mainGlobals x = some none) (hv : bootBuiltins x = some f) (hkp : ∀ P S, peek (K P) S (keeperOf f) = some .machine) (kx : env.kindOf x = some .globalImplicit)
    (h : wpAny (model pw w) A (spliced (backTo q2 (starEach (e :: rest) env))) (fun vs s₁ => (K w.params).In s₁.heap ∧ wpAny (model pw w) A (call f vs) Q E s₁) E s) (hn : x ≠ "__name__" := by decide) (hd : (x == PySem.Str.ofString "__debug__") = false := by decide)
    (h1 : starEach (e :: rest) env = (false, eval e env) :: starEach rest env := by rfl) (h2 : (backTo q2 (starEach rest env)).any (·.1) = false := by rfl) (h3 : eval (.Call (.Name x q1) (e :: rest) [] q2) env = (do callWith q2 (← eval (.Name x q1) env) [] (backTo q2 (starEach (e :: rest) env)) (backToKw q2 (keywordEach [] env))) := by rfl) : wpAny (model pw w) A (eval (.Call (.Name x q1) (e :: rest) [] q2) env) Q E s :=
  Call_ (bl R he hs hg hv hn (callWith_mach (first := []) (hkp _) h h1 h2) kx hd) h3
/-- a def of the program's called by its name -/
theorem cG {g : Addr} (R : Fk2 w mg mb A₀ p) (he : En env a p.L) (hs : FS p nss news s) (hg : ∀ P, nsIn (K P) mainGlobals x = some (some (.ref g))) (hkp : ∀ P, keepIn (K P) (.ref g) = true) (kx : env.kindOf x = some .globalImplicit)
    (h : wpAny (model pw w) A (spliced (backTo q2 (starEach (e :: rest) env))) (fun vs s₁ => (K w.params).In s₁.heap ∧ wpAny (model pw w) A (call (.ref g) vs) Q E s₁) E s) (hd : (x == PySem.Str.ofString "__debug__") = false := by decide)
    (h1 : starEach (e :: rest) env = (false, eval e env) :: starEach rest env := by rfl) (h2 : (backTo q2 (starEach rest env)).any (·.1) = false := by rfl) (h3 : eval (.Call (.Name x q1) (e :: rest) [] q2) env = (do callWith q2 (← eval (.Name x q1) env) [] (backTo q2 (starEach (e :: rest) env)) (backToKw q2 (keywordEach [] env))) := by rfl) : wpAny (model pw w) A (eval (.Call (.Name x q1) (e :: rest) [] q2) env) Q E s :=
  Call_ (gl R he hs hg (callWith_K (first := []) (hs.wd R).X (hkp _) h h1 h2) kx hd) h3
end
end Mine
end

section
open PySem PySem.W PyProof.Rows PySem.Calls PySem.Spec
namespace Mine
/-! ## merge_entries -/
/-- an entry whose agents are the texts xs -/
noncomputable def UA (h : Heap) (x u : Addr) (xs : List PySem.Str) : Prop := ∃ d el nl k mm vs n, h.get? x = some (instObj 82 d) ∧ h.get? d = some (dictOf el nl) ∧ ESk el mm k ∧ mm (PySem.Str.ofString "useragents") = some (.ref u) ∧ h.get? u = some (listO vs.toArray n) ∧ StrsAre vs xs
structure RecP (fr : List Addr) (h : Heap) (x d u r : Addr) (xs : List PySem.Str) : Prop where
  rec_ : Rec h x d u r xs
  off : ∀ b ∈ [x, d, u, r], b ∉ 795 :: fr
section
variable {w : World} {mg mb : PySem.Str → Option Value} {A A₀ : Around} {p : FP2} {nss : Nss} {news : List (Addr × Obj)} {s : Shared} {x d u r : Addr} {xs : List PySem.Str} {Q E : Value → Shared → Prop} {expr : Bool}
theorem RecP.at (hs : FS p nss news s) (c : RecP (frs p.outer) p.s0.heap x d u r xs) : Rec s.heap x d u r xs := c.rec_.keep fun b hb o e => hs.old (c.off b hb) e
theorem Rec.get (X : (K w.params).In s.heap) (c : Rec s.heap x d u r xs) {name : PySem.Str} {v : Value} (hn : name ∈ enNames) (hv : enMap u r name = some v) (hh : handedIn v = true) (h : Q v { s with toks := s.toks + 1 }) : wpAny (model pw w) A (getAttr (.ref x) name expr) Q E s := by
  obtain ⟨el, nl, e, hE⟩ := c.hd
  exact getA X (en_cls _) c.hx e hE hn hv hh h
end
/-- the environment behind a variable -/
theorem with_env {P : Env → Prop} {e : Env} {a L : Addr} (hE : En e a L) (h : ∀ env, En env a L → (∀ x, env.kindOf x = e.kindOf x) → P env) : P e := h e hE fun _ => rfl
section
variable {w : World} {mg mb : PySem.Str → Option Value} {A A₀ : Around} {p : FP2} {nss : Nss} {news : List (Addr × Obj)} {s : Shared} {env : Env} {a : Addr} {m : PySem.Str → Option Value} {x : PySem.Str} {q q1 q2 q3 : Pos} {Q E : Value → Shared → Prop}
/-- x.name, x a local that holds a record -/
theorem rec_at (R : Fk2 w mg mb A₀ p) (he : En env a p.L) (hs : FS p ((a, m) :: nss) news s) {o d u r : Addr} {xs : List PySem.Str} (c : RecP (frs p.outer) p.s0.heap o d u r xs) (hm : m x = some (.ref o)) (kx : env.kindOf x = some .local) (hd : (x == PySem.Str.ofString "__debug__") = false) {name : PySem.Str} {v : Value} (hn : name ∈ enNames) (hv : enMap u r name = some v) (hh : handedIn v = true)
    (h : ∀ s', FS p ((a, m) :: nss) news s' → (∃ tk, s' = { s with toks := tk }) → Q v s') : wpAny (model pw w) A (eval (.Attribute (.Name x q1) name q2) env) Q E s :=
  Attribute_name (nm he hs hm (Rec.get (hs.wd R).X (c.at hs) hn hv hh (h _ (hs.toks _) ⟨_, rfl⟩)) kx hd)
/-- a if b.name is None else c, where b.name is None -/
theorem if_none {t b o : PySem.Expr} {k : Nat} (ht : wpAny (model pw w) A (eval t env) (fun v s₁ => v = .none ∧ wpAny (model pw w) A (eval b env) Q E s₁) E s) : wpAny (model pw w) A (eval (.IfExp (.Compare t [.Is] [.Constant .none k q1] q2) b o q3) env) Q E s :=
  wpAny_IfExp (wpAny_isTrue_Compare1 (wpAny_mono ht (fun v s₁ ⟨hv, h⟩ => wpAny_Constant_none (is_none_gen (by subst hv; exact wpAny_truthy_bool h))) fun _ _ z => z) rfl)
end
theorem me_spec {x1 d1 u1 r1 x2 d2 u2 r2 : Addr} {xs ys : List PySem.Str} (hz1 : xs.length ≤ 1000) (hz2 : ys.length ≤ 1000) :
    Spec 93 [.ref x1, .ref x2] 8 (fun fr h => RecP fr h x1 d1 u1 r1 xs ∧ RecP fr h x2 d2 u2 r2 ys) (fun h v h' => ∃ x u, v = .ref x ∧ UA h' x u (xs.filter (· ∈ ys)) ∧ h.get? u = none) := by
  intro w A mg mb outer s Q E W hh hd hu hF ⟨P1, P2⟩ h
  refine wpAny_call ?_
  k_dflt (refine' enterG (binds := [(PySem.Str.ofString "e1", .ref x1), (PySem.Str.ofString "e2", .ref x2)]) W hF ?k6 ?k7 ?k8 ?k9 ?kB ?_ ?c2 ?c3 ?c4 ?c5; (case k6 => k_is); (case k7 => k_is); (case k8 => omega); (case k9 => exact BindsTo.of_eq rfl); (case c5 => decide); (case kB => exact locs rfl); (case c2 => exact rfl); (case c3 => exact rfl); (case c4 => exact rfl); k_whole; rintro p s1 rfl rfl R hs)
  refine with_env (P := fun env => wpAny (model pw w) (A.deeper env) (execs _ env) _ _ _) (En.of _ p.L 93 _ rfl) fun env he hk => ?_
  have hlo : 859 ≤ (bas p [] s1).objs.size := by
    obtain ⟨o, e⟩ := K858 w.params
    exact Heap.lt_size (hs.X R _ _ e)
  -- entry = Entry()
  refine wpAny_execs_cons (asg R he rfl (Call_ (gl R he hs glob_entry (callWith_K0 (hs.wd R).X (keep82 _) (en_F (hs.fr (.head _)) hs.nw (hs.X R) (hs.T R) (by simp only [depth_deeper]; omega) hlo fun x dx ua rl el nl h2 tk2 F2 N2 hE hdlo hxd n1 n2 hur hual _ => ⟨_, _, _, hs.of_fr R F2 N2, fun s2 hs2 => ?_⟩)) ((hk _).trans rfl))) ((hk _).trans rfl))
  -- entry.useragents = list(filter(set(e2.useragents).__contains__, e1.useragents))
  refine wpAny_execs_cons (plainObj_wpAny_Assign_Attribute ?_ rfl)
  obtain ⟨vs2, m2, hu2, hst2⟩ := P2.rec_.hu
  obtain ⟨vs1, m1, hu1, hst1⟩ := P1.rec_.hu
  refine cB R he hs2 glob_lst (by boot_by_name) keeper_lst ((hk _).trans rfl) (args_cons ?_)
  refine cB R he hs2 glob_flt (by boot_by_name) keeper_flt ((hk _).trans rfl) (args_cons (attr_of ?_))
  refine cB R he hs2 glob_set (by boot_by_name) keeper_set ((hk _).trans rfl) (args_cons ?_)
  refine rec_at R he hs2 P2 rfl ((hk _).trans rfl) (by decide) (by decide) rfl rfl fun s3 hs3 e3 => args_nil ⟨(hs3.wd R).X, ?_⟩
  have g3 : s3.heap.get? u2 = some (listO vs2.toArray m2) := hs3.old (P2.off _ (by simp)) hu2
  refine set_feed (A := A.deeper env) hh g3 hst2 (by omega) fun h4 tk4 k4 hS4 => ?_
  have hs4 := hs3.step R (l := []) (h' := h4) (tk := tk4) (fun b o _ e => k4 b o e) (fun a ha => by cases ha) rfl (fun q hq => (hs3.ns q hq).1.keeps k4) _ (fun q hq => ⟨hq, fun h => by cases h⟩)
  obtain ⟨oS, eS, pS, tS, hoS, hcS, hdS⟩ := hS4.typ
  obtain ⟨f, mS, ⟨oS2, eS2, pS2, tS2, hoS2, ⟨hcS2, hdS2, hsS2⟩, hdat2, _⟩, _⟩ := id hS4
  have hset : h4.get? s3.heap.objs.size = some { cls := .type "set", dict := none, data := .set eS2 pS2 tS2, slots := #[] } := by
    rw [hoS2]; cases oS2; simp only at hcS2 hdS2 hsS2 hdat2; subst hcS2 hdS2 hsS2 hdat2; rfl
  refine get_con hset ?_
  have hs5 := hs4.new R (bmO s3.heap.objs.size) rfl (tk := tk4 + 1)
  generalize hB : ({ s3 with heap := h4, toks := tk4 } : Shared).heap.objs.size = B at hs5
  refine args_cons (rec_at R he hs5 P1 rfl ((hk _).trans rfl) (by decide) (by decide) rfl rfl fun s6 hs6 e6 => args_nil ⟨(hs6.wd R).X, ?_⟩)
  have hBat := (hs6.at_ _ (.head _)).1
  have g6 : s6.heap.get? u1 = some (listO vs1.toArray m1) := hs6.old (P1.off _ (by simp)) hu1
  have hS6 : SetIs w s6.heap s3.heap.objs.size ys := by
    obtain ⟨tk, e⟩ := e6
    rw [e]
    exact hS4.keep fun o eo => Heap.get?_push_of_some _ eo
  refine flt_new g6 fun h7 k7 hI7 hF7 z7 => args_nil ⟨(hs6.wd R).X.keeps k7, ?_⟩
  have top7 := hs6.none0 R (get_top s6.heap)
  refine list_flt (A := A.deeper env) (s := { s6 with heap := h7 }) (xs := xs) hh hF7 (k7 _ _ hBat) (hS6.keep fun o eo => k7 _ o eo) hI7 (k7 _ _ g6) hst1 hz1 fun h8 tk8 vs8 n8 k8 e8 hst8 => ?_
  have hs8 := hs6.step R (l := [s6.heap.objs.size]) (h' := h8) (tk := tk8) (fun b o hb e => k8 b o (fun z => hb (z ▸ .head _)) (k7 b o e)) (fun a ha => by rcases List.mem_cons.mp ha with rfl | ha; exact top7.1; cases ha) rfl (fun q hq => ns_h (l := [s6.heap.objs.size]) ((hs6.ns q hq).1.keeps k7) (fun ha => by rcases List.mem_cons.mp ha with z | ha; exact top7.2 (z ▸ List.mem_map_of_mem hq); cases ha) fun b o hb e => k8 b o (fun z => hb (z ▸ .head _)) e) _ (fun q hq => ⟨hq, fun ha => by rcases List.mem_cons.mp ha with z | ha; exact absurd (z ▸ Heap.lt_size (hs6.at_ q hq).1) (Nat.lt_irrefl _); cases ha⟩)
  have hs7 := hs6.step R (l := []) (h' := h7) (tk := s6.toks) (fun b o _ e => k7 b o e) (fun a ha => by cases ha) rfl (fun q hq => (hs6.ns q hq).1.keeps k7) _ (fun q hq => ⟨hq, fun h => by cases h⟩)
  have top8 := hs7.none0 R (get_top h7)
  have hs9 := (hs8.cons e8 top8.1 top8.2).sub (news' := [(x, instObj 82 dx), (dx, dictOf el nl), (h7.objs.size, listO vs8.toArray n8)]) (fun q hq => by
    rcases List.mem_cons.mp hq with rfl | hq
    · exact .tail _ (.tail _ (.head _))
    rcases List.mem_cons.mp hq with rfl | hq
    · exact .tail _ (.tail _ (.tail _ (.head _)))
    rcases List.mem_cons.mp hq with rfl | hq
    · exact .head _
    cases hq)
  have xdne : @Ne Nat x dx := Nat.ne_of_gt hxd
  have dne : ∀ q ∈ [(h7.objs.size, listO vs8.toArray n8)], q.1 ≠ dx := fun q hq => by
    rcases List.mem_cons.mp hq with rfl | hq
    · exact hs9.ne (.tail _ (.tail _ (.head _))) (.tail _ (.head _)) (by simp)
    cases hq
  have u0 := top8.1
  clear hs8 hs7 top8 top7 hs6 hs5 hs4 hs3
  refine nm he hs9 rfl (setA R hs9 (en_cls _) (by decide) hE (by decide) xdne dne fun s10 el10 nl10 hs10 hE10 => ?_) ((hk _).trans rfl)
  -- entry.rulelines = e1.rulelines + e2.rulelines
  refine wpAny_execs_cons (plainObj_wpAny_Assign_Attribute (wpAny_BinOp (rec_at R he hs10 P1 rfl ((hk _).trans rfl) (by decide) (by decide) rfl rfl fun s11 hs11 e11 => rec_at R he hs11 P2 rfl ((hk _).trans rfl) (by decide) (by decide) rfl rfl fun s12 hs12 e12 => ?_)) rfl)
  refine PySem.P.add_list (hs12.old (P1.off _ (by simp)) P1.rec_.hr) (hs12.old (P2.off _ (by simp)) P2.rec_.hr) ?_ (by rw [sizeLine_eq]; decide)
  have hs13 := (hs12.new R (listO (#[] ++ #[]) 0) rfl (tk := s12.toks)).sub (news' := [(x, instObj 82 dx), (dx, dictOf el10 nl10), (h7.objs.size, listO vs8.toArray n8)]) (fun q hq => .tail _ hq)
  refine nm he hs13 rfl (setA R hs13 (en_cls _) (by decide) hE10 (by decide) xdne dne fun s14 el14 nl14 hs14 hE14 => ?_) ((hk _).trans rfl)
  -- entry.delay, entry.req_rate
  refine wpAny_execs_cons (plainObj_wpAny_Assign_Attribute (if_none (rec_at R he hs14 P2 rfl ((hk _).trans rfl) (by decide) (by decide) rfl rfl fun s15 hs15 _ => ⟨rfl, rec_at R he hs15 P1 rfl ((hk _).trans rfl) (by decide) (by decide) rfl rfl fun s16 hs16 _ => ?_⟩)) rfl)
  refine nm he hs16 rfl (setA R hs16 (en_cls _) (by decide) hE14 (by decide) xdne dne fun s17 el17 nl17 hs17 hE17 => ?_) ((hk _).trans rfl)
  refine wpAny_execs_cons (plainObj_wpAny_Assign_Attribute (if_none (rec_at R he hs17 P2 rfl ((hk _).trans rfl) (by decide) (by decide) rfl rfl fun s18 hs18 _ => ⟨rfl, rec_at R he hs18 P1 rfl ((hk _).trans rfl) (by decide) (by decide) rfl rfl fun s19 hs19 _ => ?_⟩)) rfl)
  refine nm he hs19 rfl (setA R hs19 (en_cls _) (by decide) hE17 (by decide) xdne dne fun s20 el20 nl20 hs20 hE20 => ?_) ((hk _).trans rfl)
  refine execs_one (wpAny_Return_some (nm he hs20 rfl (h s20 _ hs20.mv ⟨x, h7.objs.size, rfl, ⟨dx, el20, nl20, 8, _, vs8, n8, (hs20.at_ _ (.head _)).1, (hs20.at_ _ (.tail _ (.head _))).1, hE20, rfl, (hs20.at_ _ (.tail _ (.tail _ (.head _)))).1, hst8⟩, u0⟩) ((hk _).trans rfl)))
end Mine
end

section
open PySem PySem.W PyProof.Rows PySem.Calls PySem.Spec
namespace Mine
/-! ## join and split as promises -/
noncomputable def lineOf (ss : List PySem.Str) : PySem.Str := ⟨(textOf (ss.map (·.cps.toList))).toArray⟩
structure Wordy (ss : List PySem.Str) : Prop where
  n : ss.length ≤ 100
  z : ∀ x ∈ ss, x.length < 100
theorem quoted_list (x : PySem.Str) : (quoted x).cps.toList = quotedL x.cps.toList := by simp [quoted]
theorem join_go : ∀ ss : List PySem.Str, (PySem.Str.join (PySem.Str.ofString " ") (ss.map quoted)).cps.toList = textOf (ss.map (·.cps.toList))
  | [] => rfl
  | [x] => quoted_list x
  | x :: y :: l => by
    have e : (PySem.Str.ofString " ").cps.toList = [32] := by decide +kernel
    show (quoted x ++ PySem.Str.ofString " " ++ PySem.Str.join (PySem.Str.ofString " ") ((y :: l).map quoted)).cps.toList = quotedL x.cps.toList ++ 32 :: textOf ((y :: l).map (·.cps.toList))
    rw [PyProof.Rows.cps_toList_append, PyProof.Rows.cps_toList_append, join_go (y :: l), quoted_list, e]
    simp
theorem join_text (ss : List PySem.Str) : Txt.join (PySem.Str.ofString " ") (ss.map quoted) = lineOf ss := by
  refine PyProof.Rows.str_of_list ?_
  show (Builtin.Str.glued (PySem.Str.ofString " ") (ss.map quoted)).cps.toList = (textOf (ss.map (·.cps.toList))).toArray.toList
  rw [StrLaws.glued_eq_join, join_go]
theorem map_tok (ss : List PySem.Str) : (ss.map (·.cps.toList)).map tokOf = ss := by
  rw [List.map_map]
  conv => rhs; rw [← List.map_id ss]
  exact List.map_congr_left fun x _ => PyProof.Rows.str_of_list (by simp [tokOf])
theorem text_len : ∀ ss : List PySem.Str, (∀ x ∈ ss, x.length < 100) → (textOf (ss.map (·.cps.toList))).length ≤ 603 * ss.length
  | [], _ => by simp [textOf]
  | [x], h => by
    have := quoted_len x
    have := h x (.head _)
    have e : (quotedL x.cps.toList).length = (quoted x).length := by rw [← quoted_list]; exact Array.length_toList
    show (quotedL x.cps.toList).length ≤ _
    rw [e]
    simp only [List.length_cons, List.length_nil]
    omega
  | x :: y :: l, h => by
    have ih := text_len (y :: l) fun z hz => h z (.tail _ hz)
    have := quoted_len x
    have := h x (.head _)
    have e : (quotedL x.cps.toList).length = (quoted x).length := by rw [← quoted_list]; exact Array.length_toList
    show (quotedL x.cps.toList ++ 32 :: textOf ((y :: l).map (·.cps.toList))).length ≤ _
    rw [List.length_append, List.length_cons, e]
    simp only [List.length_cons] at ih ⊢
    omega
theorem line_size {ss : List PySem.Str} (h : Wordy ss) : (lineOf ss).cps.size < 100000 := by
  have := text_len ss h.z
  have := h.n
  show (textOf _).toArray.size < _
  rw [List.size_toArray]
  omega
/-- the list l of texts, out of the reach of what a call may change -/
noncomputable def LsP (l : Addr) (ss : List PySem.Str) (fr : List Addr) (h : Heap) : Prop := (∃ vs n, h.get? l = some (listO vs.toArray n) ∧ StrsAre vs ss) ∧ l ∉ 795 :: fr
theorem jn_spec {l : Addr} {ss : List PySem.Str} (hw : Wordy ss) : Spec 800 [.ref l] 6 (LsP l ss) (fun _ v _ => ∃ t, v = .str (lineOf ss) t) := by
  intro w A mg mb outer s Q E W hh hd hu hF ⟨⟨vs, n, hl, hs⟩, _⟩ h
  obtain ⟨bm, ob, M⟩ := W.M
  refine join_spec W.X W.T M hh hd (by omega) ⟨_, hl, rfl, _, rfl⟩ hs hw.n hw.z W.J W.G fun s' t' k hT hG ho => ?_
  rw [join_text]
  have n795 : (795 : Nat) ∉ frs outer := fun hm => absurd (frs_lo hF _ hm) (by decide)
  exact h s' _ ⟨fun b o hb e => k b o (fun z => hb (z ▸ .head _)) e, .of_kp fun b hb o e => k b o (fun z => n795 (z ▸ hb)) e, fun _ => hT, fun _ => hG, ho⟩ ⟨t', rfl⟩
theorem sps {ss : List PySem.Str} {t : Tok} (hw : Wordy ss) : Spec 793 [.str (lineOf ss) t] 12 (fun _ _ => True) (fun h v h' => ∃ S vs n, v = .ref S ∧ h.get? S = none ∧ h'.get? S = some (listO vs.toArray n) ∧ StrsAre vs ss) := by
  intro w A mg mb outer s Q E W hh hd hu hF _ h
  refine sp_spec W.X W.T hh hd hF (line_size hw) W.lo (ws := ss.map (·.cps.toList)) (by simp [lineOf]) (by rw [List.length_map]; have := hw.n; omega) fun S h' tk' vs n h1 _ k f e hs => ?_
  rw [map_tok] at hs
  exact h _ _ (.of (frs_lo hF) k f) ⟨S, vs, n, rfl, h1, e, hs⟩
theorem recs {ss : List PySem.Str} {t : Tok} (hw : Wordy ss) : Spec 839 [.str (lineOf ss) t] 14 (fun _ _ => True) (fun h v h' => ∃ x d u r, v = .ref x ∧ Rec h' x d u r ss ∧ ∀ b ∈ [x, d, u, r], h.get? b = none) := by
  intro w A mg mb outer s Q E W hh hd hu hF _ h
  refine rec_spec W.X W.T hh hd hF (line_size hw) W.lo (ws := ss.map (·.cps.toList)) (by simp [lineOf]) (by rw [List.length_map]; have := hw.n; omega) fun x dx ua rl el nl h' tk' vs n k f e1 e2 hE e3 hs e4 n1 n2 n3 n4 _ _ _ _ _ _ => ?_
  rw [map_tok] at hs
  refine h _ _ (.of (frs_lo hF) k f) ⟨x, dx, ua, rl, rfl, ⟨e1, ⟨el, nl, e2, hE⟩, ⟨vs, n, e3, hs⟩, e4⟩, fun b hb => ?_⟩
  rcases List.mem_cons.mp hb with rfl | hb
  · exact n1
  rcases List.mem_cons.mp hb with rfl | hb
  · exact n2
  rcases List.mem_cons.mp hb with rfl | hb
  · exact n3
  rcases List.mem_cons.mp hb with rfl | hb
  · exact n4
  cases hb
end Mine
end

section
open PySem PySem.W PyProof.Rows PySem.Calls PySem.Spec
namespace Mine
/-! ## _law_in_both -/
theorem glob_join (P : Params) : nsIn (K P) mainGlobals (PySem.Str.ofString "join_shlex") = some (some (.ref 800)) := by kernel_rfl
theorem glob_merge (P : Params) : nsIn (K P) mainGlobals (PySem.Str.ofString "merge_entries") = some (some (.ref 93)) := by kernel_rfl
theorem glob_rec (P : Params) : nsIn (K P) mainGlobals (PySem.Str.ofString "_law_record") = some (some (.ref 839)) := by kernel_rfl
theorem keep800 (P : Params) : keepIn (K P) (.ref 800) = true := by kernel_rfl
theorem keep93 (P : Params) : keepIn (K P) (.ref 93) = true := by kernel_rfl
theorem keep839 (P : Params) : keepIn (K P) (.ref 839) = true := by kernel_rfl
theorem Wordy.filter {xs : List PySem.Str} (h : Wordy xs) (f : PySem.Str → Bool) : Wordy (xs.filter f) := ⟨Nat.le_trans (List.length_filter_le _ _) h.n, fun x hx => h.z x (List.mem_filter.mp hx).1⟩
theorem ib_spec {xs ys : List PySem.Str} {t1 t2 : Tok} (hx : Wordy xs) (hy : Wordy ys) : Spec 846 [.str (lineOf xs) t1, .str (lineOf ys) t2] 16 (fun _ _ => True) (fun _ v _ => ∃ t, v = .str (lineOf (xs.filter (· ∈ ys))) t) := by
  intro w A mg mb outer s Q E W hh hd hu hF _ h
  refine wpAny_call ?_
  k_dflt (refine' enterG (binds := [(PySem.Str.ofString "one", .str (lineOf xs) t1), (PySem.Str.ofString "two", .str (lineOf ys) t2)]) W hF ?k6 ?k7 ?k8 ?k9 ?kB ?_ ?c2 ?c3 ?c4 ?c5; (case k6 => k_is); (case k7 => k_is); (case k8 => omega); (case k9 => exact BindsTo.of_eq rfl); (case c5 => decide); (case kB => exact locs rfl); (case c2 => exact rfl); (case c3 => exact rfl); (case c4 => exact rfl); k_whole; rintro p s1 rfl rfl R hs)
  refine with_env (P := fun env => wpAny (model pw w) (A.deeper env) (execs _ env) _ _ _) (En.of _ p.L 846 _ rfl) fun env he hk => ?_
  have ar : Ar (A.deeper env) p 15 := .of hh hF hd hu (by decide) he.frame he.kf
  refine execs_one (wpAny_Return_some ?_)
  refine cG R he hs glob_join keep800 ((hk _).trans rfl) (args_cons (attr_of ?_))
  refine cG R he hs glob_merge keep93 ((hk _).trans rfl) (args_cons ?_)
  refine cG R he hs glob_rec keep839 ((hk _).trans rfl) (args_cons (nm he hs rfl (args_nil ⟨(hs.wd R).X, ?_⟩) ((hk _).trans rfl)))
  refine sp (recs hx) R (ar.le (by decide)) hs trivial ?_
  rintro s2 _ hs2 k2 ⟨x1, d1, u1, r1, rfl, c1, n1⟩
  refine args_cons ?_
  refine cG R he hs2 glob_rec keep839 ((hk _).trans rfl) (args_cons (nm he hs2 rfl (args_nil ⟨(hs2.wd R).X, ?_⟩) ((hk _).trans rfl)))
  refine sp (recs hy) R (ar.le (by decide)) hs2 trivial ?_
  rintro s3 _ hs3 k3 ⟨x2, d2, u2, r2, rfl, c2, n2⟩
  refine args_nil ⟨(hs3.wd R).X, ?_⟩
  have o1 := fun b hb => hs.off R (n1 b hb)
  have o2 := fun b hb => hs2.off R (n2 b hb)
  refine sp (me_spec (Nat.le_trans hx.n (by decide)) (Nat.le_trans hy.n (by decide))) R (ar.le (by decide)) hs3 ⟨⟨c1.keep fun b hb o e => k3 b o (o1 b hb) e, o1⟩, ⟨c2, o2⟩⟩ ?_
  rintro s4 _ hs4 k4 ⟨x, u, rfl, ⟨d, el, nl, k, mm, vs, n, e1, e2, hE, hm, e3, hst⟩, hu0⟩
  refine getA (hs4.wd R).X (en_cls _) e1 e2 hE (by decide) hm rfl ?_
  refine args_nil ⟨(hs4.wd R).X, ?_⟩
  have hs5 := hs4.toks (s4.toks + 1)
  refine sp (jn_spec (hx.filter _)) R (ar.le (by decide)) hs5 ⟨⟨vs, n, e3, hst⟩, ?_⟩ ?_
  · exact hs3.off R hu0
  · rintro s6 _ hs6 _ ⟨t, rfl⟩
    exact h s6 _ hs6.mv ⟨t, rfl⟩
end Mine
end

section
open PySem PySem.W PyProof.Rows PySem.Calls PySem.Spec
namespace Mine
/-! ## An exception of the frame's own -/
/-- e is an IndexError made within the frame; its context; the place of its traceback's flight (none: no traceback yet) -/
structure EF (p : FP2) (s : Shared) (e : Addr) (ctx : Value) (fl : Option Value) : Prop where
  new : p.s0.heap.get? e = none
  at_ : ∃ oe vs, s.heap.get? e = some oe ∧ oe.cls = .type "IndexError" ∧ oe.data = .fields vs ∧ vs[2]? = some ctx ∧
    match fl with
    | none => vs[1]? = some .none
    | some v => ∃ T oT ts, vs[1]? = some (.ref T) ∧ p.s0.heap.get? T = none ∧ T ≠ e ∧ s.heap.get? T = some oT ∧ oT.data = .fields ts ∧ ts[3]? = some v
/-- the ledger holds lists alone -/
noncomputable def LN (news : List (Addr × Obj)) : Prop := ∀ q ∈ news, ∃ xs n, q.2 = listO xs n
section
variable {w : World} {mg mb : PySem.Str → Option Value} {A A₀ : Around} {p : FP2} {nss : Nss} {news : List (Addr × Obj)} {s : Shared} {env : Env} {a e : Addr} {m : PySem.Str → Option Value} {ctx v : Value} {fl : Option Value} {E : Value → Shared → Prop}
/-- a field of a record that is new changes -/
theorem FS.recd (R : Fk2 w mg mb A₀ p) (hs : FS p nss news s) (hl : LN news) {b : Addr} {o : Obj} {vs : Array Value} (hb : s.heap.get? b = some o) (hd : o.data = .fields vs) (h0 : p.s0.heap.get? b = none) {h' : Heap} {tk : Nat} (k : ∀ c o, c ≠ b → s.heap.get? c = some o → h'.get? c = some o) : FS p nss news { s with heap := h', toks := tk } := by
  have hne : ∀ {c : Addr}, c ≠ b → c ∉ [b] := fun hc hm => by rcases List.mem_cons.mp hm with z | hm; exact hc z; cases hm
  have kk : KpH [b] s.heap h' := fun c o hc eo => k c o (fun z => hc (z ▸ .head _)) eo
  refine hs.step R kk (fun c hc => by rcases List.mem_cons.mp hc with rfl | hc; exact h0; cases hc) rfl (fun q hq => ns_h (hs.ns q hq).1 (hne fun z => ?_) kk) news fun q hq => ⟨hq, hne fun z => ?_⟩
  · obtain ⟨o', es, ep, ho', hd', _⟩ := (hs.ns q hq).1
    rw [z, hb] at ho'; cases ho'; rw [hd] at hd'; cases hd'
  · obtain ⟨xs, n, e1⟩ := hl q hq
    have := (hs.at_ q hq).1
    rw [z, hb, e1] at this; cases this; cases hd
theorem frm (hfr : A.frames = some (env :: p.outer)) (R : Fk2 w mg mb A₀ p) (he : En env a p.L) (hs : FS p nss news s) : (bas p news s).StaysIn s.heap ∧ s.heap.FunFrames (hideAll p.s0.heap (frs p.outer)) (env :: p.outer) := by
  refine ⟨fun b o e => (cut_get.mp (of_hideAll _ e)).2, funFrames (fun e' he' => ?_) fun f hf => ?_⟩
  · rcases List.mem_cons.mp he' with rfl | he'
    · obtain ⟨q, hq, e2⟩ := List.mem_map.mp hs.hL
      obtain ⟨o, es, ep, ho, hd, _⟩ := (hs.ns q hq).1
      rw [e2] at ho
      exact ⟨by rw [he.kf]; decide, p.L, o, he.frame, ho, (fun vs z => by rw [hd] at z; cases z), R.hi⟩
    · exact R.F.ok.step hs.mv.fs e' he'
  · have hfr : frs (env :: p.outer) = p.L :: frs p.outer := by unfold frs; rw [List.filterMap_cons_some he.frame]
    rw [hfr] at hf
    rcases List.mem_cons.mp hf with rfl | hf
    · cases e1 : (hideAll p.s0.heap (frs p.outer)).get? p.L with
      | none => rfl
      | some o => have := of_hideAll _ e1; rw [R.new] at this; cases this
    · exact hideAll_none _ hf
theorem note (hfr : A.frames = some (env :: p.outer)) (R : Fk2 w mg mb A₀ p) (he : En env a p.L) (hs : FS p nss news s) (hl : LN news) (x : EF p s e ctx fl) (hfl : fl = none ∨ fl = some (rawInt p.L)) {Q : Unit → Shared → Prop} (h : ∀ s', FS p nss news s' → EF p s' e ctx (some (rawInt p.L)) → Q () s') :
    wpAny (model pw w) A (noteFrame (.ref e) env) Q E s := by
  obtain ⟨hn, oe, vs, h1, h2, h3, h4, h5⟩ := id x
  unfold noteFrame
  simp only [he.frame]
  rcases hfl with rfl | rfl
  · have hsz : 1 < vs.size := (Array.getElem?_eq_some_iff.mp h5).1
    refine wpAny_bind (wpAny_field h1 h3 h5 ?_)
    rw [if_neg (by decide)]
    refine wpAny_bind (wpAny_frameOf_fun hfr (frm hfr R he hs).2 he.frame fun h₁ hs₁ => ?_)
    have hfr : frs (env :: p.outer) = p.L :: frs p.outer := by unfold frs; rw [List.filterMap_cons_some he.frame]
    obtain ⟨z1, z2, z3⟩ := hs₁
    have m₁ : Mv (frs (env :: p.outer)) s { s with heap := h₁ } := by
      refine ⟨fun b o hb eb => (z2 b fun hm => hb (.tail _ hm)).trans eb, fun b hb o eb => z3 b o eb, fun t => ?_, id, rfl⟩
      have lo : ∀ {c : Addr}, @LT.lt Nat _ c 859 → c ∉ frs (env :: p.outer) := fun hc hm => by
        rw [hfr] at hm
        rcases List.mem_cons.mp hm with z | hm
        · exact absurd (z ▸ R.hi) (Nat.not_le.mpr hc)
        · exact absurd hc (Nat.not_lt.mpr (R.fr_lo _ hm))
      exact t.at2 (fun o eo => (z2 _ (lo (by decide))).trans eo) (fun o eo => (z2 _ (lo (by decide))).trans eo)
    have hs1 := hs.call R he.frame m₁
    have e₁ : h₁.get? e = some oe := by
      refine (z2 e fun hm => ?_).trans h1
      change e ∈ frs (env :: p.outer) at hm
      rw [hfr] at hm
      rcases List.mem_cons.mp hm with z | hm
      · obtain ⟨q, hq, e2⟩ := List.mem_map.mp hs.hL
        obtain ⟨o, es, ep, ho, hd, _⟩ := (hs.ns q hq).1
        rw [e2, ← z, h1] at ho; cases ho; rw [h3] at hd; cases hd
      · obtain ⟨o, ho, _⟩ := R.F.ok.mem hm
        rw [hn] at ho; cases ho
    refine wpAny_bind (wpAny_entryPlaceOf fun pl hpl => ?_)
    refine wpAny_bind (m := EntryCells.newEntry _ _ _ _ _ _) (wpAny_newObj_type ?_ (hpl.sizeOk5 _ _ _ _ _))
    generalize hoT : ({ cls := .type "traceback", data := .fields ([Value.none, .ref p.L, .none, rawInt p.L, .none] ++ (if pl.isEmpty then List.replicate 6 Value.none else pl)).toArray } : Obj) = oT
    have hdT : oT.data = .fields ([Value.none, .ref p.L, .none, rawInt p.L, .none] ++ (if pl.isEmpty then List.replicate 6 Value.none else pl)).toArray := by rw [← hoT]
    have hs2 := (hs1.new R oT (by rw [← hoT]; rfl) (tk := s.toks)).sub (news' := news) fun q hq => .tail _ hq
    have top := hs1.none0 R (get_top h₁)
    have e₂ : (h₁.push oT).get? e = some oe := Heap.get?_push_of_some _ e₁
    refine wpAny_setField (i := 1) (x := .ref h₁.objs.size) e₂ h3 hsz ?_
    have hTe : h₁.objs.size ≠ e := Nat.ne_of_gt (Heap.lt_size e₁)
    have other : ∀ b o, b ≠ e → (h₁.push oT).get? b = some o → ((h₁.push oT).update e (Obj.mapFields (·.setIfInBounds 1 (.ref h₁.objs.size)))).get? b = some o := fun b o hb eb => (Heap.get?_update_other _ _ (Ne.symm hb)).trans eb
    have hd₃ := Obj.data_mapFields h3 (·.setIfInBounds 1 (Value.ref h₁.objs.size))
    refine h _ (hs2.recd R hl (tk := s.toks) e₂ h3 hn other) ⟨hn, _, _, Heap.get?_update_self _ e₂ (Obj.isFreed_of_fields hd₃), (Obj.cls_mapFields _ _).trans h2, hd₃, by rw [Array.getElem?_setIfInBounds_ne (by decide)]; exact h4, h₁.objs.size, oT, _, by simp [hsz], top.1, hTe, other _ _ hTe (Heap.get?_push_size _ (by rw [← hoT]; rfl)), hdT, by rcases hpl with rfl | ⟨_, _, _, _, _, _, _, rfl⟩ <;> simp⟩
  · obtain ⟨T, oT, ts, t1, t2, t3, t4, t5, t6⟩ := h5
    refine wpAny_bind (wpAny_field h1 h3 t1 ?_)
    rw [if_pos (show (Value.ref T != Value.none) = true from by simp)]
    refine wpAny_bind (wpAny_field t4 t5 t6 ?_)
    rw [if_pos (show (rawInt p.L == rawInt p.L) = true from by simp)]
    exact wpAny_pure (h s hs x)
theorem flight (R : Fk2 w mg mb A₀ p) (hs : FS p nss news s) (hl : LN news) (x : EF p s e ctx (some v)) (f : Option Addr) {Q : Unit → Shared → Prop} (h : ∀ s', FS p nss news s' → EF p s' e ctx (some (f.elim .none fun b => rawInt b)) → Q () s') :
    wpAny (model pw w) A (setFlight (.ref e) f) Q E s := by
  obtain ⟨hn, oe, vs, h1, h2, h3, h4, T, oT, ts, t1, t2, t3, t4, t5, t6⟩ := x
  have hsz : 3 < ts.size := (Array.getElem?_eq_some_iff.mp t6).1
  unfold setFlight
  refine wpAny_bind (wpAny_field h1 h3 t1 ?_)
  rw [if_pos (show (Value.ref T != Value.none) = true from by simp)]
  have other : ∀ b o, b ≠ T → s.heap.get? b = some o → (s.heap.update T (Obj.mapFields (·.setIfInBounds 3 (f.elim .none fun b => rawInt b)))).get? b = some o := fun b o hb eb => (Heap.get?_update_other _ _ (Ne.symm hb)).trans eb
  have hd₃ := Obj.data_mapFields t5 (·.setIfInBounds 3 (f.elim Value.none fun b => rawInt b))
  refine wpAny_setField (i := 3) (x := f.elim .none fun b => rawInt b) t4 t5 hsz (h _ (hs.recd R hl (tk := s.toks) t4 t5 t2 other) ⟨hn, oe, vs, other _ _ (Ne.symm t3) h1, h2, h3, h4, T, _, _, t1, t2, t3, Heap.get?_update_self _ t4 (Obj.isFreed_of_fields hd₃), hd₃, by simp [hsz]⟩)
/-- what came back from code of the frame's own -/
theorem came (R : Fk2 w mg mb A₀ p) (he : En env a p.L) (hs : FS p nss news s) (hl : LN news) (x : EF p s e ctx (some v)) (h : ∀ s', FS p nss news s' → EF p s' e ctx (some (rawInt p.L)) → E (.ref e) s') : cameBackBy (model pw w) A env E (.ref e) s := by
  obtain ⟨hn, oe, vs, h1, h2, h3, h4, T, oT, ts, t1, t⟩ := id x
  unfold cameBackBy
  refine wpAny_bind (wpAny_field h1 h3 t1 ?_)
  rw [if_neg (by simp), he.frame]
  first
    | exact wpAny_bind (wpAny_pure (flight R hs hl x (some p.L) h))
    | exact flight R hs hl x (some p.L) h
theorem pass (R : Fk2 w mg mb A₀ p) (he : En env a p.L) (hs : FS p nss news s) (hl : LN news) (x : EF p s e ctx (some v)) {α : Type} {Q : α → Shared → Prop} {what : String} (h : ∀ s', FS p nss news s' → EF p s' e ctx (some (rawInt p.L)) → E (.ref e) s') : wpAny (model pw w) A (PySem.passOn what (.ref e) env : Sem α) Q E s := by
  obtain ⟨hn, oe, vs, h1, h2, h3, h4, T, oT, ts, t1, t⟩ := id x
  unfold PySem.passOn
  refine wpAny_bind (wpAny_field h1 h3 t1 ?_)
  rw [if_neg (by simp), he.frame]
  have step : wpAny (model pw w) A (setFlight (.ref e) (some p.L) >>= fun _ => (throw (.ref e) : Sem α)) Q E s := wpAny_bind (flight R hs hl x (some p.L) fun s' a b => wpAny_throw (h s' a b))
  first
    | exact wpAny_bind (wpAny_pure step)
    | exact step
end
end Mine
end

section
open PySem PySem.W PyProof.Rows PySem.Calls PySem.Spec
namespace Mine
/-! ## IndexError: raised with nothing at hand, or while another one is handled -/
/-- what is being handled: nothing, or an exception without a context -/
noncomputable def Hand (A : Around) (h : Heap) : Prop := A.handled = none ∨ ∃ e o vs, A.handled = some (.ref e) ∧ h.get? e = some o ∧ o.data = .fields vs ∧ vs[2]? = some .none
theorem entry_unchain : entryFor table "proto.unchain" = some Builtin.«proto.unchain» := entryFor_of_fast (by kernel_rfl)
theorem raise_ix {α : Type} {w : World} {A : Around} {E : Value → Shared → Prop} {s : Shared} {msg : String} {Q : α → Shared → Prop} (hh : Hand A s.heap)
    (h : ∀ h' tk e o vs ctx, (∀ b o, s.heap.get? b = some o → h'.get? b = some o) → s.heap.get? e = none → h'.get? e = some o → o.cls = .type "IndexError" → o.data = .fields vs → vs[1]? = some .none → vs[2]? = some ctx → (A.handled = none → ctx = .none) → E (.ref e) { s with heap := h', toks := tk }) :
    wpAny (model pw w) A (raiseErrorWords "IndexError" msg : Sem α) Q E s := by
  have f1 : firstArgMember (.type "IndexError") [.str msg s.toks] = pure Value.none := by simp only [firstArgMember, plainExc_IndexError.first]; rfl
  refine wpAny_bind (m := newExc (.type "IndexError") [.str msg s.toks]) ?_
  refine wpAny_bind (m := newTuple [.str msg s.toks]) (wpAny_newObj_type (wpAny_bind (wpAny_of_eq f1 ?_)))
  rw [plainExc_IndexError.own]
  refine wpAny_newObj_type ?_
  generalize hT : s.heap.push { cls := .type "tuple", data := .seq [Value.str msg s.toks].toArray } = H
  have k1 : ∀ b o, s.heap.get? b = some o → H.get? b = some o := fun b o e => hT ▸ Heap.get?_push_of_some _ e
  generalize hX : ({ cls := .type "IndexError", data := .fields (#[.ref s.heap.objs.size, .none, .none, .none, .bool false, .none] ++ #[]) } : Obj) = X
  have hXd : X.data = .fields #[.ref s.heap.objs.size, .none, .none, .none, .bool false, .none] := by rw [← hX]; rfl
  have hXc : X.cls = .type "IndexError" := by rw [← hX]
  have eX : (H.push X).get? H.objs.size = some X := Heap.get?_push_size _ (by rw [← hX]; rfl)
  have k2 : ∀ b o, s.heap.get? b = some o → (H.push X).get? b = some o := fun b o e => Heap.get?_push_of_some _ (k1 b o e)
  have n0 : s.heap.get? H.objs.size = none := by
    cases e : s.heap.get? H.objs.size with
    | none => rfl
    | some o => exact absurd (Heap.lt_size (k1 _ _ e)) (Nat.lt_irrefl _)
  unfold raiseNew
  refine wpAny_bind (wpAny_handled ?_)
  rcases hh with hh | ⟨e1, o1, vs1, hh, g1, g2, g3⟩
  · rw [hh]
    first
      | exact wpAny_throw (h _ _ _ X _ .none k2 n0 eX hXc hXd rfl rfl fun _ => rfl)
      | exact wpAny_bind (wpAny_pure (wpAny_throw (h _ _ _ X _ .none k2 n0 eX hXc hXd rfl rfl fun _ => rfl)))
  · rw [hh]
    have hne : e1 ≠ H.objs.size := fun z => by rw [z, n0] at g1; cases g1
    have e3 : ((Value.ref e1 != Value.ref H.objs.size) = true) := by simpa using hne
    dsimp only
    rw [if_pos e3]
    refine wpAny_bind (m := holding _ _) (wpAny_holding (wpAny_runValue (codeAny_builtin entry_unchain (wpAny_bind (m := field (.ref e1) 2) (wpAny_field (k2 _ _ g1) g2 g3 (wpAny_pure ?_))))))
    have hd₃ := Obj.data_mapFields hXd (·.setIfInBounds 2 (Value.ref e1))
    refine wpAny_bind (m := updateField H.objs.size 2 (.ref e1)) (wpAny_setField (a := H.objs.size) (i := 2) (x := .ref e1) eX hXd (by simp) (wpAny_throw (h _ _ _ _ _ (.ref e1) (fun b o e => ?_) n0 (Heap.get?_update_self _ eX (Obj.isFreed_of_fields hd₃)) ((Obj.cls_mapFields _ _).trans hXc) hd₃ rfl rfl fun hn => by rw [hh] at hn; cases hn)))
    exact (Heap.get?_update_other _ _ (fun z => by rw [← z, n0] at e; cases e)).trans (k2 b o e)
theorem fits_small {i : Nat} (hz : i < 1000000) : Builtin.List.listFitsIndex (i : Int) = true := by
  unfold Builtin.List.listFitsIndex
  have e1 : (-(2 ^ 63) : Int) = -9223372036854775808 := by decide
  have e2 : (2 ^ 63 : Int) = 9223372036854775808 := by decide
  rw [e1, e2]
  simp only [Bool.and_eq_true, decide_eq_true_eq]
  omega
theorem out_go {w : World} {A : Around} {E : Value → Shared → Prop} {s : Shared} {l : Addr} {vs : List Value} {n i : Nat} {k : Int} {t : Tok} {Q : Value → Shared → Prop} (hh : Hand A s.heap) (hl : s.heap.get? l = some (listO vs.toArray n)) (hn : vs[i]? = none) (h1 : Builtin.List.listFitsIndex k = true) (hk : Int.ofNat i = k)
    (h : ∀ h' tk e o us ctx, (∀ b o, s.heap.get? b = some o → h'.get? b = some o) → s.heap.get? e = none → h'.get? e = some o → o.cls = .type "IndexError" → o.data = .fields us → us[1]? = some .none → us[2]? = some ctx → (A.handled = none → ctx = .none) → E (.ref e) { s with heap := h', toks := tk }) :
    wpAny (model pw w) A (getItem (.ref l) (.int k t)) Q E s := by
  have hT : s.TypeIs (.ref l) "list" := ⟨_, hl, rfl⟩
  unfold getItem
  refine wpAny_holding ?_
  refine wpAny_bind (wpAny_sequenceKey hT (by decide) ?_)
  refine wpAny_bind (wpAny_callSpecial?_slot (name := PySem.Str.ofString "__getitem__") hT slot_list_getitem (wpAny_call_entry slot_list_getitem hT entry_list_getitem ?_ (args_list_getitem _ _)))
  show wpAny _ _ (Builtin.List.listSubscript? (.int k t) >>= _) _ _ s
  refine wpAny_bind (wpAny_listSubscript_int h1 ?_)
  clear h1
  subst hk
  show wpAny _ _ ((seqItemAt l i >>= fun r => pure (r.map (i, ·))) >>= _) _ _ s
  refine wpAny_bind (wpAny_bind (wpAny_seqItemAt hl rfl (wpAny_pure ?_)))
  rw [List.getElem?_toArray, hn]
  exact wpAny_bind (wpAny_rule (wpAny_bind (raise_ix hh h)))
end Mine
end

section
open PySem PySem.W PyProof.Rows PySem.Calls PySem.Spec
namespace Mine
/-! ## Steps on lists within a frame -/
/-- what a statement needs that may raise within its frame -/
structure Rz (w : World) (mg mb : PySem.Str → Option Value) (A A₀ : Around) (p : FP2) (env : Env) : Prop where
  R : Fk2 w mg mb A₀ p
  he : En env p.L p.L
  hfr : A.frames = some (env :: p.outer)
/-- the list l of the texts xs, older than the frame -/
structure Old (p : FP2) (l : Addr) (vs : List Value) (n : Nat) (xs : List PySem.Str) : Prop where
  at_ : p.s0.heap.get? l = some (listO vs.toArray n)
  off : l ∉ 795 :: frs p.outer
  str : StrsAre vs xs
section
variable {w : World} {mg mb : PySem.Str → Option Value} {A A₀ : Around} {p : FP2} {nss : Nss} {news : List (Addr × Obj)} {s : Shared} {env : Env} {m : PySem.Str → Option Value} {xl xi xe : PySem.Str} {l : Addr} {vs : List Value} {n i : Nat} {xs : List PySem.Str} {t : Tok} {q q1 q2 q3 q4 q5 : Pos} {Q E : Value → Shared → Prop}
theorem sub_in (z : Rz w mg mb A A₀ p env) (hs : FS p ((p.L, m) :: nss) news s) (o : Old p l vs n xs) (ml : m xl = some (.ref l)) (mi : m xi = some (.int (i : Int) t)) (kl : env.kindOf xl = some .local) (ki : env.kindOf xi = some .local) {v : Value} (hv : vs[i]? = some v) (hz : vs.length < 1000000) (h : Q v s)
    (d1 : (xl == PySem.Str.ofString "__debug__") = false := by decide) (d2 : (xi == PySem.Str.ofString "__debug__") = false := by decide) : wpAny (model pw w) A (eval (.Subscript (.Name xl q1) (.Name xi q2) q3) env) Q E s := by
  have e1 := hs.old o.off o.at_
  have hi : i < vs.length := (List.getElem?_eq_some_iff.mp hv).1
  refine wpAny_Subscript_Name slot_list_getitem.lookup (nm z.he hs ml (nm z.he hs mi ⟨⟨_, e1, rfl⟩, ?_⟩ ki d2) kl d1)
  exact wpAny_getItem_list (items := vs.toArray) ⟨_, e1, rfl, _, rfl⟩ (Int.natCast_nonneg _) (by omega) (by rw [List.getElem?_toArray, Int.toNat_natCast]; exact hv) h
theorem sub_out (z : Rz w mg mb A A₀ p env) (hs : FS p ((p.L, m) :: nss) news s) (hh : Hand A s.heap) (o : Old p l vs n xs) (ml : m xl = some (.ref l)) (mi : m xi = some (.int (i : Int) t)) (kl : env.kindOf xl = some .local) (ki : env.kindOf xi = some .local) (hi : vs.length ≤ i) (hz : i < 1000000)
    (h : ∀ s' e ctx, FS p ((p.L, m) :: nss) news s' → EF p s' e ctx none → (A.handled = none → ctx = .none) → E (.ref e) s')
    (d1 : (xl == PySem.Str.ofString "__debug__") = false := by decide) (d2 : (xi == PySem.Str.ofString "__debug__") = false := by decide) : wpAny (model pw w) A (eval (.Subscript (.Name xl q1) (.Name xi q2) q3) env) Q E s := by
  have e1 := hs.old o.off o.at_
  refine wpAny_Subscript_Name slot_list_getitem.lookup (nm z.he hs ml (nm z.he hs mi ⟨⟨_, e1, rfl⟩, ?_⟩ ki d2) kl d1)
  refine out_go hh e1 (List.getElem?_eq_none hi) (fits_small hz) rfl fun h' tk e o us ctx k n0 g1 g2 g3 g4 g5 g6 => ?_
  have hs' := hs.step z.R (l := []) (h' := h') (tk := tk) (fun b o _ e => k b o e) (fun a ha => by cases ha) rfl (fun q hq => (hs.ns q hq).1.keeps k) news (fun q hq => ⟨hq, fun h => by cases h⟩)
  exact h _ e ctx hs' ⟨(hs.none0 z.R n0).1, o, us, g1, g2, g3, g5, g4⟩ g6
/-- x += 1 -/
theorem inc (z : Rz w mg mb A A₀ p env) {Q : Flow → Shared → Prop} (hs : FS p ((p.L, m) :: nss) news s) (mi : m xi = some (.int (i : Int) t)) (ki : env.kindOf xi = some .local) {k : Nat}
    (h : ∀ s' u, FS p ((p.L, fun y => if y = xi then some (.int ((i + 1 : Nat) : Int) u) else m y) :: nss) news s' → (∀ b o, b ≠ p.L → s.heap.get? b = some o → s'.heap.get? b = some o) → Q .next s') : wpAny (model pw w) A (exec (.AugAssign (.Name xi q1) .Add (.Constant (.int 1) k q2) q3) env) Q E s := by
  refine wpAny_AugAssign_Name (wpAny_loadName_local z.he.kf ki (z.he.loc ▸ (hs.ns _ (.head _)).1) mi (wpAny_Constant_int (iadd_int ?_)))
  have hs1 := hs.toks (s.toks + 1 + 1)
  refine wpAny_storeName_local ki (z.he.loc ▸ (hs1.ns _ (.head _)).1) (fun h' hn hsb => ?_) (by rw [z.he.kf]; rfl)
  refine h _ _ (hs1.put z.R (z.he.loc ▸ hn) (z.he.loc ▸ hsb)) fun b o hb e => (hsb.2 b (z.he.loc ▸ hb)).trans e
/-- while l[i] == x: i += 1, where the next item is another, or there is none -/
theorem wh (z : Rz w mg mb A A₀ p env) {Q : Flow → Shared → Prop} (hs : FS p ((p.L, m) :: nss) news s) (hl : LN news) (hh : Hand A s.heap) (o : Old p l vs n xs) (ml : m xl = some (.ref l)) (mi : m xi = some (.int (i : Int) t)) {x : PySem.Str} {u : Tok} (me : m xe = some (.str x u)) (kl : env.kindOf xl = some .local) (ki : env.kindOf xi = some .local) (ke : env.kindOf xe = some .local) (hz : i < 1000000) (hzv : vs.length < 1000000) {body : List Stmt}
    (h1 : ∀ y, xs[i]? = some y → y ≠ x) (hQ : i < xs.length → Q .next s) (hE : xs.length ≤ i → ∀ s' e ctx, FS p ((p.L, m) :: nss) news s' → EF p s' e ctx (some (rawInt p.L)) → (A.handled = none → ctx = .none) → E (.ref e) s')
    (d1 : (xl == PySem.Str.ofString "__debug__") = false := by decide) (d2 : (xi == PySem.Str.ofString "__debug__") = false := by decide) (d3 : (xe == PySem.Str.ofString "__debug__") = false := by decide) :
    wpAny (model pw w) A (exec (.While (.Compare (.Subscript (.Name xl q1) (.Name xi q2) q3) [.Eq] [.Name xe q4] q5) body [] q) env) Q E s := by
  have hlen := StrsAre.length o.str
  refine wpAny_While (codeAny_whileLoop (fun _ s' => s' = s) (fun _ s' hs' => ?_) 0 rfl)
  subst hs'
  by_cases hi : i < xs.length
  · obtain ⟨v, hv⟩ : ∃ v, vs[i]? = some v := ⟨vs[i]'(by omega), List.getElem?_eq_getElem (by omega)⟩
    obtain ⟨y, t', hy, rfl⟩ := strsAre_at o.str i v hv
    refine wpAny_isTrue_Compare1 (sub_in z hs o ml mi kl ki hv hzv (nm z.he hs me (eq_str ?_) ke d3) d1 d2) rfl
    have : (y == x) = false := beq_eq_false_iff_ne.mpr (h1 y hy)
    rw [this]
    exact wpAny_truthy_bool (wpAny_execs_nil (hQ hi))
  · refine wpAny_isTrue_Compare1 (sub_out z hs hh o ml mi kl ki (by omega) hz (fun s' e ctx hs' x hc => ?_) d1 d2) rfl
    refine note z.hfr z.R z.he hs' hl x (.inl rfl) fun s'' hs'' x' => ?_
    exact came z.R z.he hs'' hl x' fun s3 hs3 x3 => hE (by omega) s3 e ctx hs3 x3 hc
end
end Mine
end

section
open PySem PySem.W PyProof.Rows PySem.Calls PySem.Spec
namespace Mine
/-! ## append, slices, extend within a frame -/
section
variable {w : World} {mg mb : PySem.Str → Option Value} {A A₀ : Around} {p : FP2} {nss : Nss} {news news' : List (Addr × Obj)} {s : Shared} {env : Env} {a : Addr} {m : PySem.Str → Option Value} {xl xi xe : PySem.Str} {D l : Addr} {vs ms : List Value} {n k i : Nat} {t : Tok} {v : Value} {q q1 q2 q3 q4 q5 : Pos}
theorem call_app {Q E : Value → Shared → Prop} (hD : s.heap.get? D = some (listO ms.toArray k)) (hz : ms.length < 1000000) (h : ∀ h' k', KpH [D] s.heap h' → h'.get? D = some (listO (ms ++ [v]).toArray k') → Q .none { s with heap := h' }) : wpAny (model pw w) A (call (.builtin "list.append") [.ref D, v]) Q E s := by
  have hT : s.TypeIs (.ref D) "list" := ⟨_, hD, rfl⟩
  refine wpAny_call_entry slot_list_append hT entry_list_append ?_ (args_list_append _ _)
  show wpAny _ _ (updateSeq D (·.push v) >>= fun _ => ret .none) _ _ _
  exact wpAny_bind (grow hD (by rw [sizeLine_eq]; omega) fun h' n' k e => wpAny_pure ⟨.none, rfl, h h' n' (fun b o hb eb => k b o (fun z => hb (z ▸ .head _)) eb) e⟩)
/-- (a list).append(e), behind the list's own reading -/
theorem app (R : Fk2 w mg mb A₀ p) (he : En env a p.L) {Q : Value → Shared → Prop} {E : Value → Shared → Prop} {pl : Sem Bool} (hs : FS p ((a, m) :: nss) news s) (hD : (D, listO ms.toArray k) ∈ news) (hz : ms.length < 1000000) (hn : ∀ q ∈ news', q ∈ news ∧ q.1 ≠ D) (me : m xe = some v) (ke : env.kindOf xe = some .local)
    (h : ∀ s' k', FS p ((a, m) :: nss) ((D, listO (ms ++ [v]).toArray k') :: news') s' → Q .none s') (d2 : (xe == PySem.Str.ofString "__debug__") = false := by decide) :
    wpAny (model pw w) A (getMethod (.ref D) (PySem.Str.ofString "append") pl) (fun fx s₂ => wpAny (model pw w) A (callWith q4 fx.1 fx.2 (backTo q4 (starEach [.Name xe q3] env)) []) Q E s₂) E s := by
  have e1 := (hs.at_ _ hD).1
  refine getMethod_list_of slot_list_append type_list_append (items := ms.toArray) ⟨_, e1, rfl, _, rfl⟩ ⟨_, e1, rfl⟩ (callWith_method1 (args_cons (nm he hs me (args_nil ?_) ke d2)))
  exact call_app e1 hz fun h' k' kk e => h _ _ (hs.chg R hD kk e news' hn)
/-- l[i:] -/
theorem drop_at (z : Rz w mg mb A A₀ p env) {Q E : Value → Shared → Prop} (hs : FS p ((p.L, m) :: nss) news s) {xs : List PySem.Str} (o : Old p l vs n xs) (ml : m xl = some (.ref l)) (mi : m xi = some (.int (i : Int) t)) (kl : env.kindOf xl = some .local) (ki : env.kindOf xi = some .local) (hi : i ≤ vs.length) (hz : vs.length < 1000000)
    (h : ∀ s' S n', FS p ((p.L, m) :: nss) ((S, listO (vs.drop i).toArray n') :: news) s' → (∀ q ∈ news, q.1 ≠ S) → Q (.ref S) s') (d1 : (xl == PySem.Str.ofString "__debug__") = false := by decide) (d2 : (xi == PySem.Str.ofString "__debug__") = false := by decide) :
    wpAny (model pw w) A (eval (.Subscript (.Name xl q1) (.Slice (some (.Name xi q2)) none none q3) q4) env) Q E s := by
  have e1 := hs.old o.off o.at_
  refine wpAny_Subscript_list_slice (nm z.he hs ml (wpAny_evalPart_some (nm z.he hs mi (wpAny_evalPart_none ?_) ki d2)) kl d1) (fun _ _ => rfl)
  refine ⟨l, vs.toArray, some (i : Int), none, rfl, ⟨_, e1, rfl, _, rfl⟩, by rw [List.size_toArray, sizeLine_eq]; omega, .int _ _, .none, ?_⟩
  rw [slicePick_from vs.toArray i (by rw [List.size_toArray]; exact hi), List.toList_toArray]
  have h1 := hs.new z.R { cls := .type "slice", data := .fields #[.int (i : Int) t, .none, .none] } rfl (tk := s.toks)
  have h2 := h1.new z.R (listO (vs.drop i).toArray 0) rfl (tk := s.toks)
  have hne : ∀ q ∈ news, q.1 ≠ s.heap.objs.size + 1 := fun q hq z2 => by
    have := Heap.lt_size (hs.at_ q hq).1
    rw [z2] at this
    exact absurd this (Nat.not_lt.mpr (Nat.le_succ _))
  have e2 : (s.heap.push { cls := .type "slice", data := .fields #[.int (i : Int) t, .none, .none] }).objs.size = s.heap.objs.size + 1 := Heap.size_push ..
  have h3 := h2.sub (news' := ((s.heap.push { cls := .type "slice", data := .fields #[.int (i : Int) t, .none, .none] }).objs.size, listO (vs.drop i).toArray 0) :: news) fun q hq => by
    rcases List.mem_cons.mp hq with rfl | hq
    · exact .head _
    · exact .tail _ (.tail _ hq)
  rw [e2] at h3
  exact h _ _ _ h3 hne
theorem call_ext {Q E : Value → Shared → Prop} (hD : s.heap.get? D = some (listO ms.toArray k)) (hb : s.heap.get? l = some (listO vs.toArray n)) (hz : ms.length + vs.length < 1000000)
    (h : ∀ h' k', KpH [D] s.heap h' → h'.get? D = some (listO (ms ++ vs).toArray k') → Q .none { s with heap := h' }) : wpAny (model pw w) A (call (.builtin "list.extend") [.ref D, .ref l]) Q E s := by
  have hsz : ms.toArray.size + vs.toArray.size ≤ sizeLine := by rw [List.size_toArray, List.size_toArray, sizeLine_eq]; omega
  refine call_meets PySem.F.slot_list_extend ⟨_, hD, rfl⟩ PySem.F.entry_list_extend (PySem.F.args_list_extend_2 _ _) (AutoSeq1.list_extend_list_list_0 D ms.toArray k l vs.toArray n (extend_door hsz) (by rw [List.size_toArray, sizeLine_eq]; omega) (Nat.le_succ_of_le hsz)) ⟨hD, hb, ?_⟩
  obtain ⟨k', e⟩ : ∃ k', (s.heap.update D (Obj.mapSeq fun x => x ++ vs.toArray)).get? D = some (listO (ms.toArray ++ vs.toArray) k') := ⟨_, Heap.get?_update_self (Obj.mapSeq fun x => x ++ vs.toArray) hD rfl⟩
  have e2 : ms.toArray ++ vs.toArray = (ms ++ vs).toArray := by simp
  rw [e2] at e
  exact h _ _ (fun b o hb e => (Heap.get?_update_other _ _ (fun z => hb (by rw [← z]; exact .head _))).trans e) e
/-- (a list).extend(e), behind the list's own reading -/
theorem ext (R : Fk2 w mg mb A₀ p) {Q : Value → Shared → Prop} {E : Value → Shared → Prop} {pl : Sem Bool} (hs : FS p ((a, m) :: nss) news s) (hD : (D, listO ms.toArray k) ∈ news) {e : PySem.Expr}
    (h : wpAny (model pw w) A (eval e env) (fun v s₁ => ∃ S vs n news₁ news₂, v = .ref S ∧ FS p ((a, m) :: nss) news₁ s₁ ∧ (D, listO ms.toArray k) ∈ news₁ ∧ (S, listO vs.toArray n) ∈ news₁ ∧ ms.length + vs.length < 1000000 ∧ (∀ q ∈ news₂, q ∈ news₁ ∧ q.1 ≠ D) ∧ ∀ s' k', FS p ((a, m) :: nss) ((D, listO (ms ++ vs).toArray k') :: news₂) s' → Q .none s') E s)
    (hst : starEach [e] env = (false, eval e env) :: starEach [] env := by rfl) :
    wpAny (model pw w) A (getMethod (.ref D) (PySem.Str.ofString "extend") pl) (fun fx s₂ => wpAny (model pw w) A (callWith q4 fx.1 fx.2 (backTo q4 (starEach [e] env)) []) Q E s₂) E s := by
  have e1 := (hs.at_ _ hD).1
  refine getMethod_list_of PySem.F.slot_list_extend PySem.F.type_list_extend (items := ms.toArray) ⟨_, e1, rfl, _, rfl⟩ ⟨_, e1, rfl⟩ (callWith_method1 (args_cons (wpAny_mono h (fun v s₁ hv => args_nil ?_) fun _ _ z => z) hst) hst)
  obtain ⟨S, vs, n, news₁, news₂, rfl, hs₁, hD₁, hS₁, hz, hn, hq⟩ := hv
  exact call_ext (hs₁.at_ _ hD₁).1 (hs₁.at_ _ hS₁).1 hz fun h' k' kk e => hq _ _ (hs₁.chg R hD₁ kk e news₂ hn)
end
end Mine
end

section
open PySem PySem.W PyProof.Rows PySem.Calls PySem.Spec
namespace Mine
/-! ## sorted_list_difference: the plain law of its loop -/
noncomputable def below (x y : PySem.Str) : Bool := decide (x.cps.toList < y.cps.toList)
/-- one word x ahead of what `r` tells of the rest -/
noncomputable def difAt (x : PySem.Str) (xs : List PySem.Str) (r : List PySem.Str → List PySem.Str × List PySem.Str) : List PySem.Str → List PySem.Str × List PySem.Str
  | [] => (x :: xs, [])
  | y :: ys => if below x y then (x :: (r (y :: ys)).1, (r (y :: ys)).2) else if below y x then ((difAt x xs r ys).1, y :: (difAt x xs r ys).2) else r ys
noncomputable def dif : List PySem.Str → List PySem.Str → List PySem.Str × List PySem.Str
  | [], ys => ([], ys)
  | x :: xs, ys => difAt x xs (dif xs) ys
theorem dif_nil (ys : List PySem.Str) : dif [] ys = ([], ys) := rfl
theorem dif_none (xs : List PySem.Str) : dif xs [] = (xs, []) := by cases xs <;> rfl
theorem dif_cons (x y : PySem.Str) (xs ys : List PySem.Str) : dif (x :: xs) (y :: ys) = if below x y then (x :: (dif xs (y :: ys)).1, (dif xs (y :: ys)).2) else if below y x then ((dif (x :: xs) ys).1, y :: (dif (x :: xs) ys).2) else dif xs ys := rfl
theorem dif_ind {P : List PySem.Str → List PySem.Str → Prop} (h0 : ∀ ys, P [] ys) (h1 : ∀ xs, P xs []) (h2 : ∀ x xs y ys, P xs (y :: ys) → P (x :: xs) ys → P xs ys → P (x :: xs) (y :: ys)) (xs ys : List PySem.Str) : P xs ys := by
  induction xs generalizing ys with
  | nil => exact h0 ys
  | cons x xs ih =>
    induction ys with
    | nil => exact h1 _
    | cons y ys ih2 => exact h2 x xs y ys (ih _) ih2 (ih _)
theorem dif_sublist (xs ys : List PySem.Str) : (dif xs ys).1.Sublist xs ∧ (dif xs ys).2.Sublist ys := by
  refine dif_ind (P := fun xs ys => (dif xs ys).1.Sublist xs ∧ (dif xs ys).2.Sublist ys) (fun ys => ?_) (fun xs => ?_) (fun x xs y ys a b c => ?_) xs ys
  · rw [dif_nil]; exact ⟨List.Sublist.refl _, List.Sublist.refl _⟩
  · rw [dif_none]; exact ⟨List.Sublist.refl _, List.Sublist.refl _⟩
  · rw [dif_cons]
    split
    · exact ⟨a.1.cons_cons x, a.2⟩
    · split
      · exact ⟨b.1, b.2.cons_cons y⟩
      · exact ⟨c.1.cons x, c.2.cons y⟩
/-- at places i and j, with ms and us told so far -/
noncomputable def Reach (xs ys : List PySem.Str) (i j : Nat) (ms us : List PySem.Str) : Prop := i ≤ xs.length ∧ j ≤ ys.length ∧ dif xs ys = (ms ++ (dif (xs.drop i) (ys.drop j)).1, us ++ (dif (xs.drop i) (ys.drop j)).2)
theorem Reach.zero (xs ys : List PySem.Str) : Reach xs ys 0 0 [] [] := ⟨Nat.zero_le _, Nat.zero_le _, rfl⟩
section
variable {xs ys : List PySem.Str} {i j : Nat} {ms us : List PySem.Str} {x y : PySem.Str}
theorem Reach.step (r : Reach xs ys i j ms us) (hx : xs[i]? = some x) (hy : ys[j]? = some y) : i < xs.length ∧ j < ys.length ∧ xs.drop i = x :: xs.drop (i + 1) ∧ ys.drop j = y :: ys.drop (j + 1) := by
  obtain ⟨h1, e1⟩ := List.getElem?_eq_some_iff.mp hx
  obtain ⟨h2, e2⟩ := List.getElem?_eq_some_iff.mp hy
  exact ⟨h1, h2, by rw [← e1]; exact List.drop_eq_getElem_cons h1, by rw [← e2]; exact List.drop_eq_getElem_cons h2⟩
theorem Reach.lt (r : Reach xs ys i j ms us) (hx : xs[i]? = some x) (hy : ys[j]? = some y) (h : below x y = true) : Reach xs ys (i + 1) j (ms ++ [x]) us := by
  obtain ⟨a, b, c, d⟩ := r.step hx hy
  refine ⟨a, r.2.1, ?_⟩
  rw [r.2.2, c, d, dif_cons, if_pos h]
  simp
theorem Reach.gt (r : Reach xs ys i j ms us) (hx : xs[i]? = some x) (hy : ys[j]? = some y) (h : below x y = false) (h2 : below y x = true) : Reach xs ys i (j + 1) ms (us ++ [y]) := by
  obtain ⟨a, b, c, d⟩ := r.step hx hy
  refine ⟨r.1, b, ?_⟩
  rw [r.2.2, c, d, dif_cons, if_neg (by rw [h]; exact Bool.false_ne_true), if_pos h2]
  simp
theorem Reach.eq (r : Reach xs ys i j ms us) (hx : xs[i]? = some x) (hy : ys[j]? = some y) (h : below x y = false) (h2 : below y x = false) : Reach xs ys (i + 1) (j + 1) ms us := by
  obtain ⟨a, b, c, d⟩ := r.step hx hy
  refine ⟨a, b, ?_⟩
  rw [r.2.2, c, d, dif_cons, if_neg (by rw [h]; exact Bool.false_ne_true), if_neg (by rw [h2]; exact Bool.false_ne_true)]
theorem Reach.fin (r : Reach xs ys i j ms us) (h : i = xs.length ∨ j = ys.length) : dif xs ys = (ms ++ xs.drop i, us ++ ys.drop j) := by
  rw [r.2.2]
  rcases h with rfl | rfl
  · rw [List.drop_length, dif_nil]
  · rw [List.drop_length (l := ys), dif_none]
end
theorem nodup_next {xs : List PySem.Str} (h : xs.Nodup) {i : Nat} {x : PySem.Str} (hx : xs[i]? = some x) : ∀ y, xs[i + 1]? = some y → y ≠ x := fun y hy z => by
  subst z
  obtain ⟨h1, e1⟩ := List.getElem?_eq_some_iff.mp hx
  obtain ⟨h2, e2⟩ := List.getElem?_eq_some_iff.mp hy
  have := (List.getElem_inj h).mp (e1.trans e2.symm)
  omega
/-! ## the state of its frame -/
structure Iv (p : FP2) (lx ly M U : Addr) (i j : Nat) (ms us : List PySem.Str) (m : PySem.Str → Option Value) (s : Shared) : Prop where
  fs : ∃ vM vU k1 k2, FS p [(p.L, m)] [(M, listO vM.toArray k1), (U, listO vU.toArray k2)] s ∧ StrsAre vM ms ∧ StrsAre vU us
  ex : m (PySem.Str.ofString "expected") = some (.ref lx)
  ac : m (PySem.Str.ofString "actual") = some (.ref ly)
  mi : ∃ t, m (PySem.Str.ofString "i") = some (.int (i : Int) t)
  mj : ∃ t, m (PySem.Str.ofString "j") = some (.int (j : Int) t)
  mm : m (PySem.Str.ofString "missing") = some (.ref M)
  mu : m (PySem.Str.ofString "unexpected") = some (.ref U)
theorem ln2 {M U : Addr} {vM vU : List Value} {k1 k2 : Nat} : LN [(M, listO vM.toArray k1), (U, listO vU.toArray k2)] := fun q hq => by
  rcases List.mem_cons.mp hq with rfl | hq
  · exact ⟨_, _, rfl⟩
  rcases List.mem_cons.mp hq with rfl | hq
  · exact ⟨_, _, rfl⟩
  cases hq
/-- the raise that ends the loop: the lists are told up to one's end -/
noncomputable def Ends (p : FP2) (lx ly M U : Addr) (xs ys : List PySem.Str) (ev : Value) (s : Shared) : Prop := ∃ e i j ms us m ctx fl, ev = .ref e ∧ Iv p lx ly M U i j ms us m s ∧ Reach xs ys i j ms us ∧ (i = xs.length ∨ j = ys.length) ∧ EF p s e ctx fl ∧ (fl = none ∨ fl = some (rawInt p.L))
noncomputable def Goes (p : FP2) (lx ly M U : Addr) (xs ys : List PySem.Str) (k : Nat) (s : Shared) : Prop := ∃ i j ms us m, Iv p lx ly M U i j ms us m s ∧ Reach xs ys i j ms us ∧ (xs.length - i) + (ys.length - j) = k
end Mine
end

section
open PySem PySem.W PyProof.Rows PySem.Calls PySem.Spec
namespace Mine
section
variable {p : FP2} {lx ly M U : Addr} {i j : Nat} {ms us : List PySem.Str} {m : PySem.Str → Option Value} {s s' : Shared} {x : PySem.Str} {v : Value}
/-- another name stored -/
theorem Iv.other (V : Iv p lx ly M U i j ms us m s) (hx : x ∉ [PySem.Str.ofString "expected", PySem.Str.ofString "actual", PySem.Str.ofString "i", PySem.Str.ofString "j", PySem.Str.ofString "missing", PySem.Str.ofString "unexpected"])
    {vM vU : List Value} {k1 k2 : Nat} (f1 : FS p [(p.L, fun y => if y = x then some v else m y)] [(M, listO vM.toArray k1), (U, listO vU.toArray k2)] s') (f2 : StrsAre vM ms) (f3 : StrsAre vU us) : Iv p lx ly M U i j ms us (fun y => if y = x then some v else m y) s' := by
  obtain ⟨_, a, b, c, d, e, f⟩ := V
  have ne : ∀ {y}, y ∈ [PySem.Str.ofString "expected", PySem.Str.ofString "actual", PySem.Str.ofString "i", PySem.Str.ofString "j", PySem.Str.ofString "missing", PySem.Str.ofString "unexpected"] → ¬ y = x := fun hy z => hx (z ▸ hy)
  refine ⟨⟨vM, vU, k1, k2, f1, f2, f3⟩, ?_, ?_, ?_, ?_, ?_, ?_⟩
  · show (if _ then _ else _) = _; rw [if_neg (ne (by simp))]; exact a
  · show (if _ then _ else _) = _; rw [if_neg (ne (by simp))]; exact b
  · obtain ⟨t, c⟩ := c; refine ⟨t, ?_⟩; show (if _ then _ else _) = _; rw [if_neg (ne (by simp))]; exact c
  · obtain ⟨t, d⟩ := d; refine ⟨t, ?_⟩; show (if _ then _ else _) = _; rw [if_neg (ne (by simp))]; exact d
  · show (if _ then _ else _) = _; rw [if_neg (ne (by simp))]; exact e
  · show (if _ then _ else _) = _; rw [if_neg (ne (by simp))]; exact f
theorem Iv.i1 {k : Nat} {u : Tok} {vM vU : List Value} {k1 k2 : Nat} (V : Iv p lx ly M U i j ms us m s) (f1 : FS p [(p.L, fun y => if y = PySem.Str.ofString "i" then some (.int (k : Int) u) else m y)] [(M, listO vM.toArray k1), (U, listO vU.toArray k2)] s') {ms' us' : List PySem.Str} (f2 : StrsAre vM ms') (f3 : StrsAre vU us') : Iv p lx ly M U k j ms' us' (fun y => if y = PySem.Str.ofString "i" then some (.int (k : Int) u) else m y) s' := by
  obtain ⟨_, a, b, c, ⟨t, d⟩, e, f⟩ := V
  exact ⟨⟨vM, vU, k1, k2, f1, f2, f3⟩, (if_neg (by decide)).trans a, (if_neg (by decide)).trans b, ⟨u, if_pos rfl⟩, ⟨t, (if_neg (by decide)).trans d⟩, (if_neg (by decide)).trans e, (if_neg (by decide)).trans f⟩
theorem Iv.j1 {k : Nat} {u : Tok} {vM vU : List Value} {k1 k2 : Nat} (V : Iv p lx ly M U i j ms us m s) (f1 : FS p [(p.L, fun y => if y = PySem.Str.ofString "j" then some (.int (k : Int) u) else m y)] [(M, listO vM.toArray k1), (U, listO vU.toArray k2)] s') {ms' us' : List PySem.Str} (f2 : StrsAre vM ms') (f3 : StrsAre vU us') : Iv p lx ly M U i k ms' us' (fun y => if y = PySem.Str.ofString "j" then some (.int (k : Int) u) else m y) s' := by
  obtain ⟨_, a, b, ⟨t, c⟩, d, e, f⟩ := V
  exact ⟨⟨vM, vU, k1, k2, f1, f2, f3⟩, (if_neg (by decide)).trans a, (if_neg (by decide)).trans b, ⟨t, (if_neg (by decide)).trans c⟩, ⟨u, if_pos rfl⟩, (if_neg (by decide)).trans e, (if_neg (by decide)).trans f⟩
/-- the state alone is another -/
theorem Iv.at (V : Iv p lx ly M U i j ms us m s) {vM vU : List Value} {k1 k2 : Nat} (f1 : FS p [(p.L, m)] [(M, listO vM.toArray k1), (U, listO vU.toArray k2)] s') {ms' us' : List PySem.Str} (f2 : StrsAre vM ms') (f3 : StrsAre vU us') : Iv p lx ly M U i j ms' us' m s' :=
  ⟨⟨vM, vU, k1, k2, f1, f2, f3⟩, V.ex, V.ac, V.mi, V.mj, V.mm, V.mu⟩
theorem EF.keep {e : Addr} {ctx : Value} {fl : Option Value} (x : EF p s e ctx fl) {L : Addr} (hL : ∀ o, s.heap.get? L = some o → ∀ vs, o.data ≠ .fields vs) (k : ∀ b o, b ≠ L → s.heap.get? b = some o → s'.heap.get? b = some o) : EF p s' e ctx fl := by
  obtain ⟨hn, oe, vs, h1, h2, h3, h4, h5⟩ := x
  have ne : ∀ {b o vs}, s.heap.get? b = some o → o.data = .fields vs → b ≠ L := fun e1 e2 z => hL _ (z ▸ e1) _ e2
  refine ⟨hn, oe, vs, k _ _ (ne h1 h3) h1, h2, h3, h4, ?_⟩
  cases fl with
  | none => exact h5
  | some v =>
    obtain ⟨T, oT, ts, t1, t2, t3, t4, t5, t6⟩ := h5
    exact ⟨T, oT, ts, t1, t2, t3, k _ _ (ne t4 t5) t4, t5, t6⟩
theorem FS.noRec {nss : Nss} {news : List (Addr × Obj)} (hs : FS p nss news s) : ∀ o, s.heap.get? p.L = some o → ∀ vs, o.data ≠ .fields vs := fun o e vs z => by
  obtain ⟨q, hq, e2⟩ := List.mem_map.mp hs.hL
  obtain ⟨o', es, ep, ho, hd, _⟩ := (hs.ns q hq).1
  rw [e2, e] at ho; cases ho; rw [hd] at z; cases z
end
end Mine
end

section
open PySem PySem.W PyProof.Rows PySem.Calls PySem.Spec
namespace Mine
/-! ## sorted_list_difference, walked -/
theorem glob_ix (P : Params) : nsIn (K P) mainGlobals (PySem.Str.ofString "IndexError") = some none := by kernel_rfl
/-- the two told lists -/
noncomputable def SdPost (xs ys : List PySem.Str) (h : Heap) (v : Value) (h' : Heap) : Prop := ∃ T M U vM vU k1 k2, v = .ref T ∧ h'.get? T = some { cls := .type "tuple", data := .seq #[.ref M, .ref U] } ∧ h'.get? M = some (listO vM.toArray k1) ∧ h'.get? U = some (listO vU.toArray k2) ∧ StrsAre vM (dif xs ys).1 ∧ StrsAre vU (dif xs ys).2 ∧ h.get? T = none ∧ h.get? M = none ∧ h.get? U = none
theorem Rz.mark {w : World} {mg mb : PySem.Str → Option Value} {A A₀ : Around} {p : FP2} {env : Env} (z : Rz w mg mb A A₀ p env) (h : Option Value) : Rz w mg mb (A.mark h) A₀ p env := ⟨z.R, z.he, z.hfr⟩
section
variable {w : World} {mg mb : PySem.Str → Option Value} {A A₀ : Around} {p : FP2} {env : Env} {m : PySem.Str → Option Value} {s : Shared} {lx ly M U : Addr} {vx vy : List Value} {nx ny : Nat} {xs ys : List PySem.Str} {i j : Nat} {ms us : List PySem.Str}
/-- j += 1; while actual[j] == a: j += 1 -/
theorem fin_do (z : Rz w mg mb A A₀ p env) (oy : Old p ly vy ny ys) (hy : ys.Nodup) (hz : ys.length < 1000) (V : Iv p lx ly M U i j ms us m s) (hh : ∀ s' : Shared, (∀ b o, b ≠ p.L → s.heap.get? b = some o → s'.heap.get? b = some o) → Hand A s'.heap) (kj : env.kindOf (PySem.Str.ofString "j") = some .local) (ky : env.kindOf (PySem.Str.ofString "actual") = some .local) (ka : env.kindOf (PySem.Str.ofString "a") = some .local)
    {y : PySem.Str} {ty : Tok} (my : m (PySem.Str.ofString "a") = some (.str y ty)) (hj : ys[j]? = some y) {body : List Stmt} {k : Nat} {q1 q2 q3 q4 q5 q6 q7 q8 q9 : Pos} {Q : Flow → Shared → Prop} {E : Value → Shared → Prop}
    (hQ : ∀ m' s', Iv p lx ly M U i (j + 1) ms us m' s' → j + 1 < ys.length → (∀ b o, b ≠ p.L → s.heap.get? b = some o → s'.heap.get? b = some o) → Q .next s')
    (hE : ∀ m' s' e ctx, Iv p lx ly M U i (j + 1) ms us m' s' → j + 1 = ys.length → EF p s' e ctx (some (rawInt p.L)) → E (.ref e) s') :
    wpAny (model pw w) A (execs [.AugAssign (.Name (PySem.Str.ofString "j") q1) .Add (.Constant (.int 1) k q2) q3, .While (.Compare (.Subscript (.Name (PySem.Str.ofString "actual") q4) (.Name (PySem.Str.ofString "j") q5) q6) [.Eq] [.Name (PySem.Str.ofString "a") q7] q8) body [] q9] env) Q E s := by
  obtain ⟨vM, vU, k1, k2, f1, f2, f3⟩ := V.fs
  obtain ⟨t, mj⟩ := V.mj
  have hlen := StrsAre.length oy.str
  have hjl : j < ys.length := (List.getElem?_eq_some_iff.mp hj).1
  refine wpAny_execs_cons (inc z f1 mj kj fun s' u f' kk => ?_)
  have V' := V.j1 (s' := s') f' f2 f3
  obtain ⟨t', mj'⟩ := V'.mj
  refine execs_one (wh z f' ln2 (hh s' kk) oy V'.ac mj' (x := y) (u := ty) ((if_neg (by decide)).trans my) ky kj ka (by omega) (by omega) (nodup_next hy hj) (fun hlt => hQ _ _ V' hlt kk) fun hge s3 e ctx f3' x _ => hE _ s3 e ctx (V'.at f3' f2 f3) (by omega) x)
end
theorem Reach.msl {xs ys : List PySem.Str} {i j : Nat} {ms us : List PySem.Str} (r : Reach xs ys i j ms us) : ms.length ≤ xs.length ∧ us.length ≤ ys.length := by
  have h := And.intro (dif_sublist xs ys).1.length_le (dif_sublist xs ys).2.length_le
  rw [r.2.2] at h
  simp only [List.length_append] at h
  omega
set_option maxHeartbeats 4000000 in
theorem sd_spec {lx ly : Addr} {xs ys : List PySem.Str} (hx : xs.Nodup) (hy : ys.Nodup) (hzx : xs.length < 1000) (hzy : ys.length < 1000) : Spec 815 [.ref lx, .ref ly] 4 (fun fr h => LsP lx xs fr h ∧ LsP ly ys fr h) (SdPost xs ys) := by
  intro w A mg mb outer s Q E W hh hd hu hF ⟨⟨⟨vx, nx, lx1, lx2⟩, lx3⟩, ⟨⟨vy, ny, ly1, ly2⟩, ly3⟩⟩ h
  refine wpAny_call ?_
  k_dflt (refine' enterG (binds := [(PySem.Str.ofString "expected", .ref lx), (PySem.Str.ofString "actual", .ref ly)]) W hF ?k6 ?k7 ?k8 ?k9 ?kB ?_ ?c2 ?c3 ?c4 ?c5; (case k6 => k_is); (case k7 => k_is); (case k8 => omega); (case k9 => exact BindsTo.of_eq rfl); (case c5 => decide); (case kB => exact locs rfl); (case c2 => exact rfl); (case c3 => exact rfl); (case c4 => exact rfl); k_whole; rintro p s1 rfl rfl R hs)
  refine with_env (P := fun env => wpAny (model pw w) (A.deeper env) (execs _ env) _ _ _) (En.of _ p.L 815 _ rfl) fun env he hk => ?_
  have z : Rz w mg mb (A.deeper env) A p env := ⟨R, he, Around.frames_deeper hF.stack⟩
  have ox : Old p lx vx nx xs := ⟨lx1, lx3, lx2⟩
  have oy : Old p ly vy ny ys := ⟨ly1, ly3, ly2⟩
  have lenx := StrsAre.length lx2
  have leny := StrsAre.length ly2
  have hA : ∀ h, Hand (A.deeper env) h := fun h => .inl hh
  have hin : interactive env = false := by unfold interactive; rw [he.kf]; rfl
  -- i = j = 0; missing = []; unexpected = []
  refine wpAny_execs_cons (wpAny_Assign_two (wpAny_Constant_int (wpAny_assign_Name (stn R he (hs.toks _) (fun s2 hs2 => wpAny_assign_Name (stn R he hs2 (fun s3 hs3 => ?_) ((hk _).trans rfl))) ((hk _).trans rfl)))))
  refine wpAny_execs_cons (asg R he rfl (wpAny_List (args_nil ⟨by rw [sizeLine_eq]; show 0 ≤ _; exact Nat.zero_le _, _, _, _, hs3.new R (listO #[] 0) rfl, fun s4 hs4 => ?_⟩)) ((hk _).trans rfl))
  refine wpAny_execs_cons (asg R he rfl (wpAny_List (args_nil ⟨by rw [sizeLine_eq]; show 0 ≤ _; exact Nat.zero_le _, _, _, _, hs4.new R (listO #[] 0) rfl, fun s5 hs5 => ?_⟩)) ((hk _).trans rfl))
  have hMU : s4.heap.objs.size ≠ s3.heap.objs.size := fun e => by
    have := Heap.lt_size (hs4.at_ _ (.head _)).1
    rw [e] at this; exact Nat.lt_irrefl _ this
  generalize s3.heap.objs.size = M at hs4 hs5 hMU
  generalize s4.heap.objs.size = U at hs5 hMU
  have hs6 := hs5.sub (news' := [(M, listO ([] : List Value).toArray 0), (U, listO ([] : List Value).toArray 0)]) fun q hq => by
    rcases List.mem_cons.mp hq with rfl | hq
    · exact .tail _ (.head _)
    rcases List.mem_cons.mp hq with rfl | hq
    · exact .head _
    cases hq
  have V0 : Iv p lx ly M U 0 0 [] [] _ s5 := ⟨⟨[], [], 0, 0, hs6, .nil, .nil⟩, rfl, rfl, ⟨_, rfl⟩, ⟨_, rfl⟩, rfl, rfl⟩
  clear hs hs2 hs3 hs4 hs5 hs6
  -- the loop
  refine wpAny_execs_cons (wpAny_While (codeAny_whileLoop (fun k s => Goes p lx ly M U xs ys k s) (fun k s hI => ?_) _ ⟨0, 0, [], [], _, V0, Reach.zero xs ys, rfl⟩))
  clear V0
  refine isTrue_plain (wpAny_Constant_bool (wpAny_truthy_bool ?_))
  rw [if_pos rfl]
  refine execs_one (wpAny_Try_except (wpAny_mono (Q := fun f s' => f = .next ∧ ∃ k' < k, Goes p lx ly M U xs ys k' s') (E := Ends p lx ly M U xs ys) ?_ ?_ ?_))
  · obtain ⟨i, j, ms, us, m, V, r, hk0⟩ := hI
    obtain ⟨vM, vU, k1, k2, f1, f2, f3⟩ := V.fs
    obtain ⟨ti, mi⟩ := V.mi
    have lenM := StrsAre.length f2
    have lenU := StrsAre.length f3
    have kE := (hk (PySem.Str.ofString "expected")).trans (rfl : _ = some NameKind.local)
    have kA := (hk (PySem.Str.ofString "actual")).trans (rfl : _ = some NameKind.local)
    have ki := (hk (PySem.Str.ofString "i")).trans (rfl : _ = some NameKind.local)
    have kj := (hk (PySem.Str.ofString "j")).trans (rfl : _ = some NameKind.local)
    have ke := (hk (PySem.Str.ofString "e")).trans (rfl : _ = some NameKind.local)
    have ka := (hk (PySem.Str.ofString "a")).trans (rfl : _ = some NameKind.local)
    have kM := (hk (PySem.Str.ofString "missing")).trans (rfl : _ = some NameKind.local)
    have kU := (hk (PySem.Str.ofString "unexpected")).trans (rfl : _ = some NameKind.local)
    by_cases hi : i < xs.length
    · obtain ⟨v, hv⟩ : ∃ v, vx[i]? = some v := ⟨vx[i]'(by omega), List.getElem?_eq_getElem (by omega)⟩
      obtain ⟨x, tx, hxi, rfl⟩ := strsAre_at lx2 i v hv
      refine wpAny_execs_cons (asg R he rfl (sub_in z f1 ox V.ex mi kE ki hv (by omega) ⟨_, _, _, f1, fun s2 hs2 => ?_⟩) ke)
      have V2 := V.other (s' := s2) (by decide) hs2 f2 f3
      obtain ⟨tj, mj⟩ := V2.mj
      by_cases hj : j < ys.length
      · obtain ⟨v, hv⟩ : ∃ v, vy[j]? = some v := ⟨vy[j]'(by omega), List.getElem?_eq_getElem (by omega)⟩
        obtain ⟨y, ty, hyj, rfl⟩ := strsAre_at ly2 j v hv
        refine wpAny_execs_cons (asg R he rfl (sub_in z hs2 oy V2.ac mj kA kj hv (by omega) ⟨_, _, _, hs2, fun s3 hs3 => ?_⟩) ka)
        have V3 := V2.other (s' := s3) (by decide) hs3 f2 f3
        have mx : (fun z => if z = PySem.Str.ofString "a" then some (Value.str y ty) else if z = PySem.Str.ofString "e" then some (Value.str x tx) else m z) (PySem.Str.ofString "e") = some (.str x tx) := (if_neg (by decide)).trans (if_pos rfl)
        have my : (fun z => if z = PySem.Str.ofString "a" then some (Value.str y ty) else if z = PySem.Str.ofString "e" then some (Value.str x tx) else m z) (PySem.Str.ofString "a") = some (.str y ty) := if_pos rfl
        generalize (fun z => if z = PySem.Str.ofString "a" then some (Value.str y ty) else if z = PySem.Str.ofString "e" then some (Value.str x tx) else m z) = m3 at V3 mx my hs3
        obtain ⟨ti3, mi3⟩ := V3.mi
        obtain ⟨tj3, mj3⟩ := V3.mj
        clear V V2 hs2 f1
        refine execs_one (wpAny_If (wpAny_isTrue_Compare1 (nm he hs3 mx (nm he hs3 my (lt_str (wpAny_truthy_bool ?_)) ka) ke) rfl))
        cases hb : below x y with
        | true =>
          have hb' : decide (x.cps.toList < y.cps.toList) = true := hb
          rw [hb', if_pos rfl]
          refine wpAny_execs_cons (wpAny_Expr (MethodCall_ (nm he hs3 V3.mm (app R he hs3 (news' := [(U, listO vU.toArray k2)]) (.head _) (by have := r.msl.1; omega) ?_ mx ke fun s4 k4 hs4 => ?_) kM)) hin rfl)
          · intro q hq
            rcases List.mem_cons.mp hq with rfl | hq
            · exact ⟨.tail _ (.head _), fun e => hMU e⟩
            cases hq
          refine wpAny_execs_cons (inc z hs4 mi3 ki fun s5 u5 hs5 kk5 => ?_)
          have V5 := V3.i1 hs5 (ms' := ms ++ [x]) (us' := us) (StrsAre.append' f2 (.cons x tx .nil)) f3
          obtain ⟨ti5, mi5⟩ := V5.mi
          have r5 := r.lt hxi hyj hb
          refine execs_one (wh z hs5 ln2 (hA _) ox V5.ex mi5 (x := x) (u := tx) ((if_neg (by decide)).trans mx) kE ki ke (by have := r.1; omega) (by omega) (nodup_next hx hxi) (fun hlt => ?_) fun hge s6 e ctx hs6 x6 _ => ⟨e, _, _, _, _, _, ctx, _, rfl, V5.at hs6 (StrsAre.append' f2 (.cons x tx .nil)) f3, r5, .inl (by have := r5.1; omega), x6, .inr rfl⟩)
          exact ⟨rfl, _, (by have := r5.1; omega), _, _, _, _, _, V5, r5, rfl⟩
        | false =>
          have hb' : decide (x.cps.toList < y.cps.toList) = false := hb
          rw [hb', if_neg Bool.false_ne_true]
          refine execs_one (wpAny_If (wpAny_isTrue_Compare1 (nm he hs3 mx (nm he hs3 my (PySem.P.gt_str (wpAny_truthy_bool ?_)) ka) ke) rfl))
          cases hb2 : below y x with
          | true =>
            have hb2' : decide (y.cps.toList < x.cps.toList) = true := hb2
            rw [hb2', if_pos rfl]
            refine wpAny_execs_cons (wpAny_Expr (MethodCall_ (nm he hs3 V3.mu (app R he hs3 (news' := [(M, listO vM.toArray k1)]) (.tail _ (.head _)) (by have := r.msl.2; omega) ?_ my ka fun s4 k4 hs4 => ?_) kU)) hin rfl)
            · intro q hq
              rcases List.mem_cons.mp hq with rfl | hq
              · exact ⟨.head _, fun e => hMU e.symm⟩
              cases hq
            have hs4' := hs4.sub (news' := [(M, listO vM.toArray k1), (U, listO (vU ++ [Value.str y ty]).toArray k4)]) fun q hq => by
              rcases List.mem_cons.mp hq with rfl | hq
              · exact .tail _ (.head _)
              rcases List.mem_cons.mp hq with rfl | hq
              · exact .head _
              cases hq
            refine wpAny_execs_cons (inc z hs4' mj3 kj fun s5 u5 hs5 kk5 => ?_)
            have V5 := V3.j1 hs5 (ms' := ms) (us' := us ++ [y]) f2 (StrsAre.append' f3 (.cons y ty .nil))
            obtain ⟨tj5, mj5⟩ := V5.mj
            have r5 := r.gt hxi hyj hb hb2
            refine execs_one (wh z hs5 ln2 (hA _) oy V5.ac mj5 (x := y) (u := ty) ((if_neg (by decide)).trans my) kA kj ka (by have := r.2.1; omega) (by omega) (nodup_next hy hyj) (fun hlt => ?_) fun hge s6 e ctx hs6 x6 _ => ⟨e, _, _, _, _, _, ctx, _, rfl, V5.at hs6 f2 (StrsAre.append' f3 (.cons y ty .nil)), r5, .inr (by have := r5.2.1; omega), x6, .inr rfl⟩)
            exact ⟨rfl, _, (by have := r5.2.1; omega), _, _, _, _, _, V5, r5, rfl⟩
          | false =>
            have hb2' : decide (y.cps.toList < x.cps.toList) = false := hb2
            rw [hb2', if_neg Bool.false_ne_true]
            refine wpAny_execs_cons (inc z hs3 mi3 ki fun s5 u5 hs5 kk5 => ?_)
            have V5 := V3.i1 hs5 (ms' := ms) (us' := us) f2 f3
            obtain ⟨ti5, mi5⟩ := V5.mi
            have r5 := r.eq hxi hyj hb hb2
            have mx5 : (fun z => if z = PySem.Str.ofString "i" then some (.int ((i + 1 : Nat) : Int) u5) else m3 z) (PySem.Str.ofString "e") = some (.str x tx) := (if_neg (by decide)).trans mx
            have my5 : (fun z => if z = PySem.Str.ofString "i" then some (.int ((i + 1 : Nat) : Int) u5) else m3 z) (PySem.Str.ofString "a") = some (.str y ty) := (if_neg (by decide)).trans my
            refine execs_one (wpAny_Try_finally ?_)
            refine execs_one (wh z hs5 ln2 (hA _) ox V5.ex mi5 (x := x) (u := tx) mx5 kE ki ke (by have := r.1; omega) (by omega) (nodup_next hx hxi) (fun hlt => ?_) fun hge s6 e ctx hs6 x6 hcx => ?_)
            · refine wpAny_execs_nil ?_
              refine fin_do z oy hy hzy V5 (fun _ _ => hA _) kj kA ka my5 hyj (fun m' s' V' hlt' _ => ⟨rfl, _, (by omega), _, _, _, _, _, V', r5, rfl⟩) fun m' s' e ctx V' hge' x' => ?_
              obtain ⟨vM', vU', k1', k2', g1, g2, g3⟩ := V'.fs
              exact note z.hfr R he g1 ln2 x' (.inr rfl) fun s8 hs8 x8 => came R he hs8 ln2 x8 fun s9 hs9 x9 => ⟨e, _, _, _, _, _, ctx, _, rfl, V'.at hs9 g2 g3, r5, .inr hge', x9, .inr rfl⟩
            · refine note z.hfr R he hs6 ln2 x6 (.inr rfl) fun s7 hs7 x7 => ⟨ref_ne_byPass e, note z.hfr R he hs7 ln2 x7 (.inr rfl) fun s8 hs8 x8 => flight R hs8 ln2 x8 none fun s9 hs9 x9 => ?_⟩
              have zm := z.mark (some (.ref e))
              refine fin_do zm oy hy hzy (V5.at hs9 f2 f3) (fun s' kk => ?_) kj kA ka my5 hyj (fun m' s' V' hlt' kk => ?_) fun m' s' e' ctx' V' hge' x' => ?_
              · obtain ⟨_, oe, vs, q1, _, q3, q4, _⟩ := x9.keep hs9.noRec kk
                exact .inr ⟨e, oe, vs, rfl, q1, q3, by rw [q4, hcx hh]⟩
              · obtain ⟨vM', vU', k1', k2', g1, g2, g3⟩ := V'.fs
                exact pass R he g1 ln2 (x9.keep hs9.noRec kk) fun s10 hs10 x10 => ⟨e, _, _, _, _, _, ctx, _, rfl, V'.at hs10 g2 g3, r5, .inl (by have := r5.1; omega), x10, .inr rfl⟩
              · obtain ⟨vM', vU', k1', k2', g1, g2, g3⟩ := V'.fs
                exact note zm.hfr R he g1 ln2 x' (.inr rfl) fun s8 hs8 x8 => came R he hs8 ln2 x8 fun s9 hs9 x9 => ⟨e', _, _, _, _, _, ctx', _, rfl, V'.at hs9 g2 g3, r5, .inr hge', x9, .inr rfl⟩
      · refine wpAny_execs_cons (wpAny_Assign_Name (sub_out z hs2 (hA _) oy V2.ac mj kA kj (by omega) (by have := r.2.1; omega) fun s' e ctx hs' x _ => ⟨e, i, j, ms, us, _, ctx, none, rfl, V2.at hs' f2 f3, r, .inr (by have := r.2.1; omega), x, .inl rfl⟩) rfl)
    · exact wpAny_execs_cons (wpAny_Assign_Name (sub_out z f1 (hA _) ox V.ex mi kE ki (by omega) (by have := r.1; omega) fun s' e ctx hs' x _ => ⟨e, i, j, ms, us, _, ctx, none, rfl, V.at hs' f2 f3, r, .inl (by have := r.1; omega), x, .inl rfl⟩) rfl)
  · rintro f s' ⟨rfl, k', hk', g⟩
    exact wpAny_execs_nil ⟨k', hk', g⟩
  · rintro ev s' ⟨e, i, j, ms, us, m, ctx, fl, rfl, V, r, hend, x, hfl⟩
    obtain ⟨vM, vU, k1, k2, f1, f2, f3⟩ := V.fs
    obtain ⟨ti, mi⟩ := V.mi
    obtain ⟨tj, mj⟩ := V.mj
    refine note z.hfr R he f1 ln2 x hfl fun s6 hs6 x6 => ?_
    refine flight R hs6 ln2 x6 none fun s7 hs7 x7 => ?_
    refine wpAny_handleBy_builtin (X := "IndexError") (T := "IndexError") (b := true) PySem.F.isExc_IndexError PySem.F.notTuple_IndexError PySem.F.self_IndexError ?_
    have hty : s7.TypeIs (.ref e) "IndexError" := let ⟨oe, _, a, b, _⟩ := x7.at_; ⟨oe, a, b⟩
    refine bl R he hs7 glob_ix (by boot_by_name) (by decide) ⟨rfl, hty, ?_⟩ ((hk _).trans rfl)
    rw [if_pos rfl]
    refine flight R hs7 ln2 x7 none fun s8 hs8 x8 => ?_
    have zm := z.mark (some (.ref e))
    have lenM := StrsAre.length f2
    have lenU := StrsAre.length f3
    have hdif := r.fin hend
    have lM : ms.length ≤ xs.length := Nat.le_trans (by rw [hdif]; simp) (dif_sublist xs ys).1.length_le
    have lU : us.length ≤ ys.length := Nat.le_trans (by rw [hdif]; simp) (dif_sublist xs ys).2.length_le
    refine wpAny_execs_cons (wpAny_Expr (MethodCall_ (nm he hs8 V.mm (ext R hs8 (.head _) (drop_at zm hs8 ox V.ex mi ((hk _).trans rfl) ((hk _).trans rfl) (by have := r.1; omega) (by omega) fun s9 S9 n9 hs9 hne9 => ⟨S9, _, n9, _, [(U, listO vU.toArray k2)], rfl, hs9, .tail _ (.head _), .head _, ?_, ?_, fun s10 k10 hs10 => ?_⟩)) ((hk _).trans rfl))) hin rfl)
    · rw [List.length_drop]; omega
    · intro q hq
      rcases List.mem_cons.mp hq with rfl | hq
      · exact ⟨.tail _ (.tail _ (.head _)), hMU⟩
      cases hq
    refine wpAny_execs_cons (wpAny_Expr (MethodCall_ (nm he hs10 V.mu (ext R hs10 (.tail _ (.head _)) (drop_at zm hs10 oy V.ac mj ((hk _).trans rfl) ((hk _).trans rfl) (by have := r.2.1; omega) (by omega) fun s11 S11 n11 hs11 hne11 => ⟨S11, _, n11, _, [(M, listO (vM ++ vx.drop i).toArray k10)], rfl, hs11, .tail _ (.tail _ (.head _)), .head _, ?_, ?_, fun s12 k12 hs12 => ?_⟩)) ((hk _).trans rfl))) hin rfl)
    · rw [List.length_drop]; omega
    · intro q hq
      rcases List.mem_cons.mp hq with rfl | hq
      · exact ⟨.tail _ (.head _), fun e => hMU e.symm⟩
      cases hq
    refine execs_one (wpAny_Break ?_)
    have hs13 := hs12.new R { cls := .type "tuple", data := .seq #[.ref M, .ref U] } rfl (tk := s12.toks)
    refine execs_one (wpAny_Return_some (wpAny_Tuple (args_cons (nm he hs12 V.mm (args_cons (nm he hs12 V.mu (args_nil ⟨by rw [sizeLine_eq]; show 2 ≤ _; decide, ?_⟩) ((hk _).trans rfl))) ((hk _).trans rfl)))))
    have a1 := hs13.at_ _ (.head _)
    have a2 := hs13.at_ _ (.tail _ (.head _))
    have a3 := hs13.at_ _ (.tail _ (.tail _ (.head _)))
    refine h _ _ hs13.mv ⟨_, M, U, _, _, _, _, rfl, a1.1, a3.1, a2.1, ?_, ?_, a1.2.1, a3.2.1, a2.2.1⟩
    · rw [hdif]; exact StrsAre.append' f2 (StrsAre.drop' lx2 i)
    · rw [hdif]; exact StrsAre.append' f3 (StrsAre.drop' ly2 j)
end Mine
end

section
open PySem PySem.W PyProof.Rows PySem.Calls PySem.Spec
namespace Mine
/-! ## _law_in_one_alone -/
theorem glob_sd (P : Params) : nsIn (K P) mainGlobals (PySem.Str.ofString "sorted_list_difference") = some (some (.ref 815)) := by kernel_rfl
theorem glob_sorted (P : Params) : nsIn (K P) mainGlobals (PySem.Str.ofString "sorted") = some none := by kernel_rfl
theorem keep815 (P : Params) : keepIn (K P) (.ref 815) = true := by kernel_rfl
theorem keeper_sorted (P : Params) (S : Setting) : peek (K P) S (keeperOf (.builtin "sorted")) = some .machine := by kernel_rfl
theorem dif_sub (xs ys : List PySem.Str) : (∀ x ∈ (dif xs ys).1, x ∈ xs) ∧ ∀ x ∈ (dif xs ys).2, x ∈ ys := ⟨fun _ h => (dif_sublist xs ys).1.subset h, fun _ h => (dif_sublist xs ys).2.subset h⟩
section
variable {w : World} {mg mb : PySem.Str → Option Value} {A A₀ : Around} {p : FP2} {news : List (Addr × Obj)} {s : Shared} {m : PySem.Str → Option Value}
/-- sorted(a list of texts) -/
theorem srt (R : Fk2 w mg mb A₀ p) {Q E : Value → Shared → Prop} (hs : FS p [(p.L, m)] news s) {l : Addr} {vs : List Value} {ss : List PySem.Str} (hl : s.heap.IsList l vs.toArray) (hS : StrsAre vs ss) (h64 : vs.length < 64)
    (h : ∀ s' S vs' ss' e, FS p [(p.L, m)] ((S, listO vs'.toArray e) :: news) s' → s.heap.get? S = none → StrsAre vs' ss' → ss'.Perm ss → sortedS ss' = true → Q (.ref S) s') : wpAny (model pw w) A (call (.builtin "sorted") [.ref l]) Q E s := by
  refine sorted_N_str (hs.fr (.head _)) hs.nw hl hS h64 fun h' vs' ss' e F' N' a b c => ?_
  refine h _ _ vs' ss' e (hs.of_fr R F' N') ?_ a b c
  cases hh : s.heap.get? (s.heap.objs.size + 1) with
  | none => rfl
  | some o => exact absurd (Heap.lt_size hh) (Nat.not_lt.mpr (Nat.le_succ _))
end
set_option maxHeartbeats 2000000 in
theorem ia_spec {xs ys : List PySem.Str} {t1 t2 : Tok} (hx : Wordy xs) (hy : Wordy ys) (nx : xs.Nodup) (ny : ys.Nodup) (h64 : xs.length + ys.length < 64) : Spec 853 [.str (lineOf xs) t1, .str (lineOf ys) t2] 16 (fun _ _ => True)
    (fun _ v _ => ∃ zs t, v = .str (lineOf zs) t ∧ zs.Perm ((dif xs ys).1 ++ (dif xs ys).2) ∧ sortedS zs = true) := by
  intro w A mg mb outer s Q E W hh hd hu hF _ h
  refine wpAny_call ?_
  k_dflt (refine' enterG (binds := [(PySem.Str.ofString "one", .str (lineOf xs) t1), (PySem.Str.ofString "two", .str (lineOf ys) t2)]) W hF ?k6 ?k7 ?k8 ?k9 ?kB ?_ ?c2 ?c3 ?c4 ?c5; (case k6 => k_is); (case k7 => k_is); (case k8 => omega); (case k9 => exact BindsTo.of_eq rfl); (case c5 => decide); (case kB => exact locs rfl); (case c2 => exact rfl); (case c3 => exact rfl); (case c4 => exact rfl); k_whole; rintro p s1 rfl rfl R hs)
  refine with_env (P := fun env => wpAny (model pw w) (A.deeper env) (execs _ env) _ _ _) (En.of _ p.L 853 _ rfl) fun env he hk => ?_
  have ar : Ar (A.deeper env) p 15 := .of hh hF hd hu (by decide) he.frame he.kf
  refine wpAny_execs_cons (wpAny_Assign_stores ?_ rfl rfl)
  refine cG R he hs glob_sd keep815 ((hk _).trans rfl) (args_cons ?_)
  refine cG R he hs glob_split keep793 ((hk _).trans rfl) (args_cons (nm he hs rfl (args_nil ⟨(hs.wd R).X, ?_⟩) ((hk _).trans rfl)))
  refine sp (sps hx) R (ar.le (by decide)) hs trivial ?_
  rintro s2 _ hs2 k2 ⟨l1, v1, n1, rfl, z1, e1, st1⟩
  refine args_cons ?_
  refine cG R he hs2 glob_split keep793 ((hk _).trans rfl) (args_cons (nm he hs2 rfl (args_nil ⟨(hs2.wd R).X, ?_⟩) ((hk _).trans rfl)))
  refine sp (sps hy) R (ar.le (by decide)) hs2 trivial ?_
  rintro s3 _ hs3 k3 ⟨l2, v2, n2, rfl, z2, e2, st2⟩
  refine args_nil ⟨(hs3.wd R).X, ?_⟩
  have hnx := hx.n
  have hny := hy.n
  refine sp (sd_spec nx ny (by omega) (by omega)) R (ar.le (by decide)) hs3 ⟨⟨⟨v1, n1, k3 _ _ (hs.off R z1) e1, st1⟩, hs.off R z1⟩, ⟨⟨v2, n2, e2, st2⟩, hs2.off R z2⟩⟩ ?_
  rintro s4 _ hs4 k4 ⟨T, M, U, vM, vU, j1, j2, rfl, eT, eM, eU, sM, sU, zT, zM, zU⟩
  have tT := hs3.none0 R zT
  have tM := hs3.none0 R zM
  have tU := hs3.none0 R zU
  have hs5 := ((hs4.cons eU tU.1 tU.2).cons eM tM.1 tM.2)
  refine wpAny_assign_Tuple (A := A.deeper env) (x1 := 0) hh ⟨_, eT, rfl, _, rfl⟩ rfl rfl fun h6 k6 => ?_
  have top := hs4.none0 R (get_top s4.heap)
  have hs6 := hs5.step R (l := [s4.heap.objs.size]) (h' := h6) (tk := s4.toks) (fun b o hb e => k6 b o (fun z => hb (z ▸ .head _)) e) (fun a ha => by rcases List.mem_cons.mp ha with rfl | ha; exact top.1; cases ha) rfl (fun q hq => ns_h (l := [s4.heap.objs.size]) (hs4.ns q hq).1 (fun ha => by rcases List.mem_cons.mp ha with z | ha; exact top.2 (z ▸ List.mem_map_of_mem hq); cases ha) fun b o hb e => k6 b o (fun z => hb (z ▸ .head _)) e) _ (fun q hq => ⟨hq, fun ha => by rcases List.mem_cons.mp ha with z | ha; exact absurd (z ▸ Heap.lt_size (hs5.at_ q hq).1) (Nat.lt_irrefl _); cases ha⟩)
  clear hs5
  refine assignInOrder_cons (wpAny_assign_Name (stn R he hs6 (fun s7 hs7 => assignInOrder_cons (wpAny_assign_Name (stn R he hs7 (fun s8 hs8 => assignInOrder_nil ?_) ((hk _).trans rfl)))) ((hk _).trans rfl)))
  refine execs_one (wpAny_Return_some ?_)
  refine cG R he hs8 glob_join keep800 ((hk _).trans rfl) (args_cons ?_)
  refine cB R he hs8 glob_sorted (by boot_by_name) keeper_sorted ((hk _).trans rfl) (args_cons (wpAny_BinOp (nm he hs8 rfl (nm he hs8 rfl ?_ ((hk _).trans rfl)) ((hk _).trans rfl))))
  have lM := StrsAre.length sM
  have lU := StrsAre.length sU
  have ll := And.intro (dif_sublist xs ys).1.length_le (dif_sublist xs ys).2.length_le
  have aM := (hs8.at_ _ (.head _)).1
  have aU := (hs8.at_ _ (.tail _ (.head _))).1
  refine PySem.P.add_list aM aU ?_ (by rw [sizeLine_eq, List.size_toArray, List.size_toArray]; omega)
  have hs9 := hs8.new R (listO (vM.toArray ++ vU.toArray) 0) rfl (tk := s8.toks)
  have e9 := (hs9.at_ _ (.head _)).1
  refine args_nil ⟨(hs9.wd R).X, ?_⟩
  have ea : vM.toArray ++ vU.toArray = (vM ++ vU).toArray := by simp
  refine srt R hs9 (vs := vM ++ vU) ⟨_, e9, rfl, _, congrArg (Data.seq · _) ea⟩ (StrsAre.append' sM sU) (by rw [List.length_append]; omega) fun s10 S vs' ss' e hs10 z10 hS' hp hso => ?_
  refine args_nil ⟨(hs10.wd R).X, ?_⟩
  have hw : Wordy ss' := by
    refine ⟨?_, fun z hz => ?_⟩
    · rw [hp.length_eq, List.length_append]; omega
    · rcases List.mem_append.mp (hp.mem_iff.mp hz) with a | a
      · exact hx.z _ ((dif_sub xs ys).1 z a)
      · exact hy.z _ ((dif_sub xs ys).2 z a)
  refine sp (jn_spec hw) R (ar.le (by decide)) hs10 ⟨⟨vs', e, (hs10.at_ _ (.head _)).1, hS'⟩, hs9.off R z10⟩ ?_
  rintro s11 _ hs11 _ ⟨t, rfl⟩
  exact h s11 _ hs11.mv ⟨ss', t, rfl, hp, hso⟩
end Mine
end

section
open PySem PySem.W PyProof.Rows PySem.Calls PySem.Spec
namespace Mine
/-! ## Loops over what an iterator gives, within a frame -/
section
variable {w : World} {mg mb : PySem.Str → Option Value} {A A₀ : Around} {p : FP2} {nss : Nss} {news : List (Addr × Obj)} {s : Shared} {env : Env} {a : Addr} {m : PySem.Str → Option Value} {x y : PySem.Str} {v : Value}
theorem FS.swap {q₁ q₂ : Addr × (PySem.Str → Option Value)} (hs : FS p (q₁ :: q₂ :: nss) news s) : FS p (q₂ :: q₁ :: nss) news s := by
  have e : ∀ a, a ∈ (q₂ :: q₁ :: nss).map (·.1) ↔ a ∈ (q₁ :: q₂ :: nss).map (·.1) := fun a => by simp only [List.map_cons, List.mem_cons]; exact ⟨fun h => h.elim (fun z => .inr (.inl z)) fun h => h.elim .inl fun z => .inr (.inr z), fun h => h.elim (fun z => .inr (.inl z)) fun h => h.elim .inl fun z => .inr (.inr z)⟩
  refine ⟨hs.mv, fun q hq => hs.ns q ?_, ?_, (e _).mpr hs.hL, fun q hq => ?_⟩
  · rcases List.mem_cons.mp hq with rfl | hq
    · exact .tail _ (.head _)
    rcases List.mem_cons.mp hq with rfl | hq
    · exact .head _
    exact .tail _ (.tail _ hq)
  · have h := hs.nd
    simp only [List.map_cons, List.nodup_cons, List.mem_cons, not_or] at h ⊢
    exact ⟨⟨fun z => h.1.1 z.symm, h.2.1⟩, h.1.2, h.2.2⟩
  · obtain ⟨b, c, d⟩ := hs.at_ q hq
    exact ⟨b, c, fun z => d ((e _).mp z)⟩
/-- a namespace is let go -/
theorem FS.pop {C : Addr} (R : Fk2 w mg mb A₀ p) (hs : FS p ((C, m) :: nss) news s) (hL : p.L ∈ nss.map (·.1)) {h' : Heap} (hb : Heap.SameBut C s.heap h') {tk : Nat} : FS p nss news { s with heap := h', toks := tk } := by
  have nd := List.nodup_cons.mp hs.nd
  have h0 := (hs.ns _ (.head _)).2
  have h1 : FS p nss news s := ⟨hs.mv, fun q hq => hs.ns q (.tail _ hq), nd.2, hL, fun q hq => let ⟨b, c, d⟩ := hs.at_ q hq; ⟨b, c, fun z => d (.tail _ z)⟩⟩
  have k : KpH [C] s.heap h' := fun b o hb' e => (hb.2 b fun z => hb' (z ▸ .head _)).trans e
  have hne : ∀ {b : Addr}, b ≠ C → b ∉ [C] := fun hb hm => by rcases List.mem_cons.mp hm with z | hm; exact hb z; cases hm
  exact h1.step R k (fun b hb => by rcases List.mem_cons.mp hb with rfl | hb; exact h0; cases hb) rfl (fun q hq => ns_h (h1.ns q hq).1 (hne fun z => nd.1 (by have := List.mem_map_of_mem (f := (·.1)) hq; rw [z] at this; exact this)) k) news fun q hq => ⟨hq, hne fun z => (hs.at_ q hq).2.2 (z ▸ .head _)⟩
/-- what an iterator gives: its objects `It i` before item i; what the target's names hold then -/
structure Src (w : World) (A : Around) (p : FP2) (st : List (Addr × Obj)) (ads : List Addr) (I : Addr) (n : Nat) (It : Nat → List (Addr × Obj) → Prop) (tgt : PySem.Expr) (env : Env) (C : Addr) (Bd : Nat → (PySem.Str → Option Value) → (PySem.Str → Option Value) → Prop) : Prop where
  adr : ∀ i its, It i its → its.map (·.1) = ads
  draw : ∀ i its m nss news s (Q : Shared → Prop) (E : Value → Shared → Prop), i < n → It i its → (∀ q ∈ st ++ news, q.1 ∉ ads) → FS p ((C, m) :: nss) (its ++ (st ++ news)) s →
    (∀ its' m' s', It (i + 1) its' → Bd i m m' → FS p ((C, m') :: nss) (its' ++ (st ++ news)) s' → Q s') →
    wpAny (model pw w) A (pyNext (.ref I)) (fun r s₁ => match r with | none => False | some v => wpAny (model pw w) A (letOwnedTupleGo tgt (.ref I) v) (fun _ s₂ => wpAny (model pw w) A (assign tgt env v) (fun _ s₃ => Q s₃) E s₂) E s₁) E s
  done : ∀ its m nss news s (Q : Shared → Prop) (E : Value → Shared → Prop), It n its → (∀ q ∈ st ++ news, q.1 ∉ ads) → FS p ((C, m) :: nss) (its ++ (st ++ news)) s → (∀ s', FS p ((C, m) :: nss) (st ++ news) s' → Q s') →
    wpAny (model pw w) A (pyNext (.ref I)) (fun r s₁ => match r with | none => Q s₁ | some _ => False) E s
  self : ∀ i its m nss news s (Q : Value → Shared → Prop) (E : Value → Shared → Prop), It i its → FS p ((C, m) :: nss) (its ++ (st ++ news)) s → Q (.ref I) s → wpAny (model pw w) A (pyIter (.ref I)) Q E s
variable {st : List (Addr × Obj)} {ads : List Addr} {I : Addr} {n : Nat} {It : Nat → List (Addr × Obj) → Prop} {tgt : PySem.Expr} {C : Addr} {Bd : Nat → (PySem.Str → Option Value) → (PySem.Str → Option Value) → Prop}
/-- the state before turn i of a comprehension's loop -/
noncomputable def Turn (p : FP2) (nss : Nss) (st : List (Addr × Obj)) (It : Nat → List (Addr × Obj) → Prop) (C D : Addr) (Inv : Nat → List Value → List (Addr × Obj) → Prop) (i : Nat) (s : Shared) : Prop :=
  ∃ its m ys k ext, It i its ∧ FS p ((C, m) :: nss) (its ++ (st ++ (D, listO ys.toArray k) :: ext)) s ∧ Inv i ys ext
theorem cmpGo {D : Addr} {elt iter : PySem.Expr} {ifs : List PySem.Expr} {scope : Scope} {pos : Pos} {R : Result → Shared → Prop} (K : Fk2 w mg mb A₀ p) (S : Src w A p st ads I n It tgt env C Bd) (Inv : Nat → List Value → List (Addr × Obj) → Prop)
    (hz : ∀ i ys ext, i < n → Inv i ys ext → ys.length < 1000000) (hDi : D ∉ ads) (hDs : ∀ q ∈ st, q.1 ≠ D ∧ q.1 ∉ ads) (hDe : ∀ i ys ext, Inv i ys ext → ∀ q ∈ ext, q.1 ≠ D ∧ q.1 ∉ ads)
    (body : ∀ i its m m' ys k ext s (E : Value → Shared → Prop), i < n → It (i + 1) its → Inv i ys ext → Bd i m m' → FS p ((C, m') :: nss) (its ++ (st ++ (D, listO ys.toArray k) :: ext)) s →
      wpAny (model pw w) A (forIn ifs true fun c r => if r = true then do let ok ← isTrue c env (eval c env); pure (ForInStep.yield ok) else pure (ForInStep.yield r)) (fun ok s₁ =>
        if ok = true then wpAny (model pw w) A (eval elt env) (fun y s₂ => ∃ m₂ ext₂, FS p ((C, m₂) :: nss) (its ++ (st ++ (D, listO ys.toArray k) :: ext₂)) s₂ ∧ Inv (i + 1) (ys ++ [y]) ext₂) E s₁
        else ∃ m₂ ext₂, FS p ((C, m₂) :: nss) (its ++ (st ++ (D, listO ys.toArray k) :: ext₂)) s₁ ∧ Inv (i + 1) ys ext₂) E s)
    (hR : ∀ m ys k ext s, Inv n ys ext → FS p ((C, m) :: nss) (st ++ (D, listO ys.toArray k) :: ext) s → R (.ok .next) s)
    (h0 : Turn p nss st It C D Inv 0 s) : codeAny (model pw w) A (.compStart (.ListComp elt [⟨tgt, iter, ifs, 0⟩] scope pos) 0 (.ref I) (.ref D) env) R s := by
  have loop : ∀ s, Turn p nss st It C D Inv 0 s → codeAny (model pw w) A (.compLoop (.ListComp elt [⟨tgt, iter, ifs, 0⟩] scope pos) 0 (.ref I) (.ref D) env) R s := fun s h0 => by
    refine codeAny_loop rfl (fun k s' => ∃ i, i ≤ n ∧ k = n - i ∧ Turn p nss st It C D Inv i s') (fun k s' hI => ?_) n ⟨0, Nat.zero_le _, rfl, h0⟩
    obtain ⟨i, hi, rfl, its, m, ys, kk, ext, hIt, hs, hv⟩ := hI
    show wpAny _ A ((compTurn (.ListComp elt [⟨tgt, iter, ifs, 0⟩] scope pos) 0 (.ref I) (.ref D) env).onRaise (fun x => do noteFrame x env; theTreesLotGoes x)) _ _ _
    refine wpAny_noted ?_
    rw [compTurn_list]
    refine wpAny_bind (wpAny_standAt (wpAny_bind ?_))
    have off : ∀ q ∈ st ++ (D, listO ys.toArray kk) :: ext, q.1 ∉ ads := fun q hq => by
      rcases List.mem_append.mp hq with h | h
      · exact (hDs q h).2
      rcases List.mem_cons.mp h with rfl | h
      · exact hDi
      · exact (hDe _ _ _ hv q h).2
    by_cases hlt : i < n
    · refine wpAny_mono (S.draw i its m nss _ s' (fun s₃ => ∃ its' m', It (i + 1) its' ∧ Bd i m m' ∧ FS p ((C, m') :: nss) (its' ++ (st ++ (D, listO ys.toArray kk) :: ext)) s₃) _ hlt hIt off hs fun its' m' s₃ a b c => ⟨its', m', a, b, c⟩) (fun r s₁ h₁ => ?_) fun _ _ h' => h'
      cases r with
      | none => exact h₁.elim
      | some v =>
        refine wpAny_bind (wpAny_mono h₁ (fun _ s₂ h₂ => wpAny_bind (wpAny_mono h₂ (fun _ s₃ h₃ => ?_) fun _ _ h' => h')) fun _ _ h' => h')
        obtain ⟨its', m', a, b, c⟩ := h₃
        refine wpAny_bind (wpAny_mono (body i its' m m' ys kk ext s₃ _ hlt a hv b c) (fun ok s₄ h₄ => ?_) fun _ _ h' => h')
        have dn : ∀ (ys' : List Value) kk' ext' s₅, (∃ m₂, FS p ((C, m₂) :: nss) (its' ++ (st ++ (D, listO ys'.toArray kk') :: ext')) s₅) → Inv (i + 1) ys' ext' → ∃ k, k < n - i ∧ ∃ i, i ≤ n ∧ k = n - i ∧ Turn p nss st It C D Inv i s₅ := fun ys' kk' ext' s₅ ⟨m₂, f⟩ hv' => ⟨_, by omega, i + 1, hlt, rfl, its', m₂, ys', kk', ext', a, f, hv'⟩
        cases ok with
        | false =>
          obtain ⟨m₂, ext₂, f, hv'⟩ := h₄
          exact wpAny_pure ⟨rfl, dn _ _ _ _ ⟨m₂, f⟩ hv'⟩
        | true =>
          refine wpAny_bind (wpAny_bind (wpAny_mono h₄ (fun y s₅ h₅ => wpAny_bind ?_) fun _ _ h' => h'))
          obtain ⟨m₂, ext₂, f, hv'⟩ := h₅
          have hD := (f.at_ (D, listO ys.toArray kk) (List.mem_append.mpr (.inr (List.mem_append.mpr (.inr (.head _)))))).1
          refine call_app hD (hz i ys ext hlt hv) fun h' k' kp e => wpAny_pure (wpAny_pure ⟨rfl, ?_⟩)
          have nD : ∀ q ∈ its' ++ (st ++ ext₂), q ∈ its' ++ (st ++ (D, listO ys.toArray kk) :: ext₂) ∧ q.1 ≠ D := fun q hq => by
            rcases List.mem_append.mp hq with h | h
            · exact ⟨List.mem_append.mpr (.inl h), fun z => hDi (by rw [← S.adr _ _ a, ← z]; exact List.mem_map_of_mem (f := (·.1)) h)⟩
            rcases List.mem_append.mp h with h | h
            · exact ⟨List.mem_append.mpr (.inr (List.mem_append.mpr (.inl h))), (hDs q h).1⟩
            · exact ⟨List.mem_append.mpr (.inr (List.mem_append.mpr (.inr (.tail _ h)))), (hDe _ _ _ hv' q h).1⟩
          have f' := (f.chg K (List.mem_append.mpr (.inr (List.mem_append.mpr (.inr (.head _))))) kp e _ nD (tk := s₅.toks)).sub (news' := its' ++ (st ++ (D, listO (ys ++ [y]).toArray k') :: ext₂)) fun q hq => by
            simp only [List.mem_append, List.mem_cons] at hq ⊢
            rcases hq with h | h | h | h
            · exact .inr (.inl h)
            · exact .inr (.inr (.inl h))
            · exact .inl h
            · exact .inr (.inr (.inr h))
          exact dn _ _ _ _ ⟨m₂, f'⟩ hv'
    · have hin : i = n := by omega
      subst hin
      refine wpAny_mono (S.done its m nss _ s' (fun s₃ => FS p ((C, m) :: nss) (st ++ (D, listO ys.toArray kk) :: ext) s₃) _ hIt off hs fun _ a => a) (fun r s₁ h₁ => ?_) fun _ _ h' => h'
      cases r with
      | none => exact wpAny_pure (hR m ys kk ext s₁ hv h₁)
      | some v => exact h₁.elim
  obtain ⟨its, m, ys, kk, ext, hIt, hs, hv⟩ := id h0
  exact codeAny_compStart_list (loop s h0) (S.self 0 its m nss _ s _ _ hIt hs (loop s h0))
end
end Mine
end

section
open PySem PySem.W PyProof.Rows PySem.Calls PySem.Spec
namespace Mine
/-! ## Comprehensions and for statements within a frame -/
section
variable {w : World} {mg mb : PySem.Str → Option Value} {A A₀ : Around} {p : FP2} {nss : Nss} {news : List (Addr × Obj)} {s : Shared} {env : Env} {a : Addr} {m : PySem.Str → Option Value} {x y : PySem.Str} {v : Value}
theorem FS.room (R : Fk2 w mg mb A₀ p) (hs : FS p nss news s) {C : Addr} {h' : Heap} {tk : Nat} (hC : s.heap.get? C = none) (k : ∀ b o, s.heap.get? b = some o → h'.get? b = some o) (hn : h'.Ns C m) : FS p ((C, m) :: nss) news { s with heap := h', toks := tk } := by
  have h0 := hs.none0 R hC
  have h1 : FS p nss news { s with heap := h', toks := tk } := hs.step R (l := []) (fun b o _ e => k b o e) (fun a ha => by cases ha) rfl (fun q hq => (hs.ns q hq).1.keeps k) news fun q hq => ⟨hq, fun h => by cases h⟩
  refine ⟨h1.mv, fun q hq => ?_, List.nodup_cons.mpr ⟨h0.2, h1.nd⟩, .tail _ h1.hL, fun q hq => ?_⟩
  · rcases List.mem_cons.mp hq with rfl | hq
    · exact ⟨hn, h0.1⟩
    · exact h1.ns q hq
  · obtain ⟨b, c, d⟩ := h1.at_ q hq
    refine ⟨b, c, fun hm => ?_⟩
    rcases List.mem_cons.mp hm with z | hm
    · have := (hs.at_ q hq).1
      rw [show q.1 = C from z, hC] at this; cases this
    · exact d hm
/-- what a comprehension's block must show, from its own namespace and its list on -/
noncomputable def Block (w : World) (A : Around) (p : FP2) (nss : Nss) (news : List (Addr × Obj)) (scope : Scope) (cl : List (PySem.Str × Addr)) (env : Env) (e : PySem.Expr) (I : Addr) (s₂ : Shared) (Fin : Addr → List (Addr × Obj) → Prop) : Prop :=
  ∀ D C s₃, s₂.heap.get? D = none → FS p ((C, fun _ => none) :: nss) ((D, listO ([] : List Value).toArray 0) :: news) s₃ → (∀ b o, s₂.heap.get? b = some o → s₃.heap.get? b = some o) → En (compEnvC scope cl C env) C p.L →
    codeAny (model pw w) A (.compStart e 0 (.ref I) (.ref D) (compEnvC scope cl C env)) (fun r s' => ∃ f m' news', r = .ok f ∧ FS p ((C, m') :: nss) news' s' ∧ Fin D news') s₃
theorem blk (R : Fk2 w mg mb A₀ p) (he : En env a p.L) {scope : Scope} {cl : List (PySem.Str × Addr)} {e : PySem.Expr} {I : Addr} {s₂ : Shared} {Fin : Addr → List (Addr × Obj) → Prop} {R' : Value → Addr → Result → Shared → Prop} {E : Value → Shared → Prop} (hcell : ∀ z ∈ scope.names, z.2 ≠ .cell) (hkind : scope.kind = .function)
    (hs : FS p nss news s₂) (hB : Block w A p nss news scope cl env e I s₂ Fin) (hR : ∀ D C f m' news' s', FS p ((C, m') :: nss) news' s' → Fin D news' → R' (.ref D) C (.ok f) s') :
    wpAny (model pw w) A (newList []) (fun acc s₃ => wpAny (model pw w) A (newFunctionEnv scope env.globals cl [] env.qual none .none (some env)) (fun cenv s₄ =>
      codeAny (model pw w) A (.compStart e 0 (.ref I) acc { cenv with scope := relabel scope env }) (R' acc cenv.locals) s₄) E s₃) E s₂ := by
  refine wpAny_newObj_type (wpAny_newFunctionEnv hcell (by intro y hy; simp at hy) (fun h₁ hns₁ hsb₁ => ?_) hkind)
  dsimp only at hns₁ hsb₁ ⊢
  have h1 := hs.new R (listO ([] : List Value).toArray 0) rfl (tk := s₂.toks)
  have k : ∀ b o, (s₂.heap.push (listO ([] : List Value).toArray 0)).get? b = some o → h₁.get? b = some o := fun b o e => (hsb₁.2 b (Nat.ne_of_lt (Heap.lt_size e))).trans (Heap.get?_push_of_some _ e)
  have h2 := h1.room R (tk := s₂.toks + ([] : List (PySem.Str × Value)).length) (get_top _) k hns₁
  refine codeAny_mono (hB s₂.heap.objs.size _ _ (get_top _) h2 (fun b o e => k b o (Heap.get?_push_of_some _ e)) ⟨rfl, he.frame, he.glob, he.bi, hkind⟩) ?_
  rintro r s' ⟨f, m', news', rfl, hf, hfin⟩
  exact hR _ _ f m' news' s' hf hfin
theorem cmp (R : Fk2 w mg mb A₀ p) (he : En env a p.L) {elt iter tgt : PySem.Expr} {ifs : List PySem.Expr} {scope : Scope} {pos : Pos} {cl : List (PySem.Str × Addr)} {Q E : Value → Shared → Prop}
    (hclos : closureFor scope env = pure cl) (hcell : ∀ z ∈ scope.names, z.2 ≠ .cell) (hkind : scope.kind = .function) (hnames : ∀ z ∈ scope.names, z.2 = .local → scope.names.lookup z.1 = some .local)
    (h : wpAny (model pw w) A (eval iter env) (fun xv s₁ => wpAny (model pw w) A (pyIter xv) (fun it s₂ => ∃ I nss news Fin, it = .ref I ∧ FS p nss news s₂ ∧ Block w A p nss news scope cl env (.ListComp elt [⟨tgt, iter, ifs, 0⟩] scope pos) I s₂ Fin ∧ ∀ D news' s', FS p nss news' s' → Fin D news' → Q (.ref D) s') E s₁) E s)
    (hs : ∀ x, foldedSetIterable iter env x = pure x := by intro _; rfl) : wpAny (model pw w) A (eval (.ListComp elt [⟨tgt, iter, ifs, 0⟩] scope pos) env) Q E s := by
  rw [eval_ListComp]
  refine wpAny_comprehension_free (use := none) rfl hs hclos hkind hnames (wpAny_mono h (fun xv s₁ h₁ => wpAny_mono h₁ (fun it s₂ h₂ => ?_) fun _ _ e => e) fun _ _ e => e)
  obtain ⟨I, nss, news, Fin, rfl, hf, hB, hQ⟩ := h₂
  refine blk (R' := fun acc C => compPost (model pw w) A E none Q acc C) R he hcell hkind hf hB fun D C f m' news' s' hf' hfin => ?_
  exact ⟨m', (hf'.ns _ (.head _)).1, fun h' hb => hQ D news' _ (hf'.pop R hf.hL hb) hfin⟩
theorem cmpA (R : Fk2 w mg mb A₀ p) (he : En env a p.L) {elt iter tgt : PySem.Expr} {ifs : List PySem.Expr} {scope : Scope} {pos py pa : Pos} {cl : List (PySem.Str × Addr)} {Q : Flow → Shared → Prop} {E : Value → Shared → Prop}
    (hsw : swapsWith (.ListComp elt [⟨tgt, iter, ifs, 0⟩] scope pos) (some (.Name y py)) pa.line env = pure true) (ky : env.kindOf y = some .local)
    (hclos : closureFor scope env = pure cl) (hcell : ∀ z ∈ scope.names, z.2 ≠ .cell) (hkind : scope.kind = .function) (hnames : ∀ z ∈ scope.names, z.2 = .local → scope.names.lookup z.1 = some .local)
    (h : wpAny (model pw w) A (eval iter env) (fun xv s₁ => wpAny (model pw w) A (pyIter xv) (fun it s₂ => ∃ I m nss news Fin, it = .ref I ∧ FS p ((a, m) :: nss) news s₂ ∧ Block w A p ((a, m) :: nss) news scope cl env (.ListComp elt [⟨tgt, iter, ifs, 0⟩] scope pos) I s₂ Fin ∧ ∀ D news' s', FS p ((a, fun z => if z = y then some (.ref D) else m z) :: nss) news' s' → Fin D news' → Q .next s') E s₁) E s)
    (hs : ∀ x, foldedSetIterable iter env x = pure x := by intro _; rfl) : wpAny (model pw w) A (exec (.Assign [.Name y py] (.ListComp elt [⟨tgt, iter, ifs, 0⟩] scope pos) pa) env) Q E s := by
  rw [exec_Assign_Name_used _ _ _ _ hsw]
  refine wpAny_bind (wpAny_standAt (wpAny_bind ?_))
  show wpAny _ A (do let _ ← comprehension (.ListComp elt [⟨tgt, iter, ifs, 0⟩] scope pos) scope env _ (newList []) false (eval iter env) (some (assign (.Name y py) env))) _ _ s
  refine wpAny_bind (wpAny_mono (wpAny_comprehension_free (use := some (assign (.Name y py) env)) (Q := fun _ s' => Q .next s') rfl hs hclos hkind hnames
    (wpAny_mono h (fun xv s₁ h₁ => wpAny_mono h₁ (fun it s₂ h₂ => ?_) fun _ _ e => e) fun _ _ e => e)) (fun _ s' hq => wpAny_pure (wpAny_pure hq)) fun _ _ e => e)
  obtain ⟨I, m, nss, news, Fin, rfl, hf, hB, hQ⟩ := h₂
  refine blk (R' := fun acc C => compPost (model pw w) A E (some (assign (.Name y py) env)) (fun _ s' => Q .next s') acc C) R he hcell hkind hf hB fun D C f m' news' s' hf' hfin => ?_
  refine wpAny_assign_Name (stn R he hf'.swap (fun s'' hf'' => ?_) ky)
  exact ⟨m', (hf''.ns _ (.tail _ (.head _))).1, fun h' hb => hQ D news' _ (hf''.swap.pop R hf.hL hb) hfin⟩
/-- a for statement over what an iterator gives -/
theorem forGo {st : List (Addr × Obj)} {ads : List Addr} {I : Addr} {n : Nat} {It : Nat → List (Addr × Obj) → Prop} {tgt : PySem.Expr} {body : List Stmt} {Bd : Nat → (PySem.Str → Option Value) → (PySem.Str → Option Value) → Prop} {R : Result → Shared → Prop} (S : Src w A p st ads I n It tgt env a Bd)
    (Inv : Nat → (PySem.Str → Option Value) → List (Addr × Obj) → Prop)
    (turn : ∀ i its m m' ext s (E : Value → Shared → Prop), i < n → It (i + 1) its → Inv i m ext → Bd i m m' → FS p ((a, m') :: nss) (its ++ (st ++ ext)) s →
      wpAny (model pw w) A (execs body env) (fun f s₁ => f = .next ∧ ∃ m₂ ext₂, FS p ((a, m₂) :: nss) (its ++ (st ++ ext₂)) s₁ ∧ Inv (i + 1) m₂ ext₂) E s)
    (hR : ∀ m ext s, Inv n m ext → FS p ((a, m) :: nss) (st ++ ext) s → R (.ok .next) s) (hDs : ∀ q ∈ st, q.1 ∉ ads) (hDe : ∀ i m ext, Inv i m ext → ∀ q ∈ ext, q.1 ∉ ads)
    {its : List (Addr × Obj)} {ext : List (Addr × Obj)} (h1 : It 0 its) (h2 : FS p ((a, m) :: nss) (its ++ (st ++ ext)) s) (h3 : Inv 0 m ext) : codeAny (model pw w) A (.forLoop tgt (.ref I) body [] env) R s := by
  refine codeAny_forLoop_any (fun k s' => ∃ i its m ext, i ≤ n ∧ k = n - i ∧ It i its ∧ FS p ((a, m) :: nss) (its ++ (st ++ ext)) s' ∧ Inv i m ext) (fun k s' hI => ?_) n ⟨0, its, m, ext, Nat.zero_le _, rfl, h1, h2, h3⟩
  obtain ⟨i, its, m, ext, hi, rfl, hIt, hs, hv⟩ := hI
  have off : ∀ q ∈ st ++ ext, q.1 ∉ ads := fun q hq => (List.mem_append.mp hq).elim (hDs q) (hDe _ _ _ hv q)
  by_cases hlt : i < n
  · refine wpAny_mono (S.draw i its m nss _ s' (fun s₃ => ∃ its' m', It (i + 1) its' ∧ Bd i m m' ∧ FS p ((a, m') :: nss) (its' ++ (st ++ ext)) s₃) _ hlt hIt off hs fun its' m' s₃ a b c => ⟨its', m', a, b, c⟩) (fun r s₁ h₁ => ?_) fun _ _ h' => h'
    cases r with
    | none => exact h₁.elim
    | some v =>
      refine wpAny_mono h₁ (fun _ s₂ h₂ => wpAny_mono h₂ (fun _ s₃ h₃ => ?_) fun _ _ h' => h') fun _ _ h' => h'
      obtain ⟨its', m', a, b, c⟩ := h₃
      refine wpAny_mono (turn i its' m m' ext s₃ _ hlt a hv b c) (fun f s₄ h₄ => ?_) fun _ _ h' => h'
      obtain ⟨rfl, m₂, ext₂, f, hv'⟩ := h₄
      exact ⟨_, by omega, i + 1, its', m₂, ext₂, hlt, rfl, a, f, hv'⟩
  · have hin : i = n := by omega
    subst hin
    refine wpAny_mono (S.done its m nss _ s' (fun s₃ => FS p ((a, m) :: nss) (st ++ ext) s₃) _ hIt off hs fun _ a => a) (fun r s₁ h₁ => ?_) fun _ _ h' => h'
    cases r with
    | none => exact wpAny_execs_nil (hR m ext s₁ hv h₁)
    | some v => exact h₁.elim
end
end Mine
end

section
open PySem PySem.W PyProof.Rows PySem.Calls PySem.Spec
namespace Mine
/-! ## What gives items: lists, ranges, texts; two lists zipped -/
noncomputable abbrev upd1 (m : PySem.Str → Option Value) (x : PySem.Str) (v : Value) : PySem.Str → Option Value := fun y => if y = x then some v else m y
section
variable {w : World} {mg mb : PySem.Str → Option Value} {A A₀ : Around} {p : FP2} {nss : Nss} {news rest its its' st : List (Addr × Obj)} {s : Shared} {env : Env} {C : Addr} {m : PySem.Str → Option Value} {x y : PySem.Str} {v : Value}
/-- an object that stays as long as the frame's static part of the ledger does -/
noncomputable def Has (p : FP2) (st : List (Addr × Obj)) (l : Addr) (o : Obj) : Prop := ∀ nss news s, FS p nss news s → (∀ q ∈ st, q ∈ news) → s.heap.get? l = some o
theorem Has.in {l : Addr} {o : Obj} (h : (l, o) ∈ st) : Has p st l o := fun _ _ _ hs hi => (hs.at_ _ (hi _ h)).1
theorem Has.old {l : Addr} {o : Obj} (h : p.s0.heap.get? l = some o) (hl : l ∉ 795 :: frs p.outer) : Has p st l o := fun _ _ _ hs _ => hs.old hl h
theorem Has.at {l : Addr} {o : Obj} (h : Has p st l o) (hs : FS p nss (its ++ (st ++ news)) s) : s.heap.get? l = some o := h _ _ _ hs fun q hq => List.mem_append.mpr (.inr (List.mem_append.mpr (.inl hq)))
theorem FS.turn (R : Fk2 w mg mb A₀ p) (hs : FS p nss (its ++ rest) s) {h' : Heap} {tk : Nat} (hk : ∀ b o, b ∉ its.map (·.1) → s.heap.get? b = some o → h'.get? b = some o) (h1 : ∀ q ∈ its', h'.get? q.1 = some q.2 ∧ q.1 ∈ its.map (·.1)) (hn : ∀ q ∈ rest, q.1 ∉ its.map (·.1)) : FS p nss (its' ++ rest) { s with heap := h', toks := tk } := by
  have off : ∀ a ∈ its.map (·.1), p.s0.heap.get? a = none ∧ a ∉ nss.map (·.1) := fun a ha => by
    obtain ⟨q, hq, rfl⟩ := List.mem_map.mp ha
    exact (hs.at_ q (List.mem_append.mpr (.inl hq))).2
  have h2 := hs.step R (tk := tk) (l := its.map (·.1)) hk (fun a ha => (off a ha).1) rfl (fun q hq => ns_h (hs.ns q hq).1 (fun ha => (off _ ha).2 (List.mem_map_of_mem (f := (·.1)) hq)) hk) rest fun q hq => ⟨List.mem_append.mpr (.inr hq), hn q hq⟩
  refine ⟨h2.mv, h2.ns, h2.nd, h2.hL, fun q hq => ?_⟩
  rcases List.mem_append.mp hq with h | h
  · exact ⟨(h1 q h).1, off _ (h1 q h).2⟩
  · exact h2.at_ q h
/-- one object gives single items -/
theorem Src.one (R : Fk2 w mg mb A₀ p) (he : En env C p.L) {I : Addr} {n : Nat} {It : Nat → Obj → Prop} {P : Nat → Value → Prop} {q : Pos} (H : Shared → Prop) (hH : ∀ its nss news s, FS p nss (its ++ (st ++ news)) s → H s) (kx : env.kindOf x = some .local)
    (item : ∀ i o s (Q : Option Value → Shared → Prop) (E : Value → Shared → Prop), i < n → s.heap.get? I = some o → It i o → H s → (∀ v h' tk o', P i v → h'.get? I = some o' → It (i + 1) o' → (∀ b o, b ≠ I → s.heap.get? b = some o → h'.get? b = some o) → Q (some v) { s with heap := h', toks := tk }) → wpAny (model pw w) A (pyNext (.ref I)) Q E s)
    (done : ∀ o s (Q : Option Value → Shared → Prop) (E : Value → Shared → Prop), s.heap.get? I = some o → It n o → H s → (∀ h' tk, (∀ b o, b ≠ I → s.heap.get? b = some o → h'.get? b = some o) → Q none { s with heap := h', toks := tk }) → wpAny (model pw w) A (pyNext (.ref I)) Q E s)
    (self : ∀ i o s (Q : Value → Shared → Prop) (E : Value → Shared → Prop), s.heap.get? I = some o → It i o → Q (.ref I) s → wpAny (model pw w) A (pyIter (.ref I)) Q E s) :
    Src w A p st [I] I n (fun i its => ∃ o, its = [(I, o)] ∧ It i o) (.Name x q) env C (fun i m m' => ∃ v, P i v ∧ m' = upd1 m x v) where
  adr := fun i its ⟨o, e, _⟩ => by rw [e]; rfl
  draw := fun i its m nss news s Q E hi hI hn hs hQ => by
    obtain ⟨o, rfl, hI⟩ := hI
    refine item i o s _ _ hi (hs.at_ _ (.head _)).1 hI (hH _ _ _ _ hs) fun v h' tk o' hv e1 hI' k => ?_
    have h1 := hs.turn R (its' := [(I, o')]) (h' := h') (tk := tk) (fun b o hb => k b o fun z => hb (by rw [z]; exact .head _)) (fun q hq => by rcases List.mem_cons.mp hq with rfl | hq; exact ⟨e1, .head _⟩; cases hq) hn
    show wpAny _ _ (pure ()) _ _ _
    exact wpAny_pure (wpAny_assign_Name (stn R he h1 (fun s' hs' => hQ _ _ s' ⟨o', rfl, hI'⟩ ⟨v, hv, rfl⟩ hs') kx))
  done := fun its m nss news s Q E hI hn hs hQ => by
    obtain ⟨o, rfl, hI⟩ := hI
    refine done o s _ _ (hs.at_ _ (.head _)).1 hI (hH _ _ _ _ hs) fun h' tk k => ?_
    exact hQ _ (hs.turn R (its' := []) (h' := h') (tk := tk) (fun b o hb => k b o fun z => hb (by rw [z]; exact .head _)) (fun q hq => by cases hq) hn)
  self := fun i its m nss news s Q E hI hs hQ => by
    obtain ⟨o, rfl, hI⟩ := hI
    exact self i o s _ _ (hs.at_ _ (.head _)).1 hI hQ
theorem src_list (R : Fk2 w mg mb A₀ p) (he : En env C p.L) (hh : A.handled = none) {I l : Addr} {vs : List Value} {k : Nat} {q : Pos} (hl : Has p st l (listO vs.toArray k)) (hne : l ≠ I) (kx : env.kindOf x = some .local) :
    Src w A p st [I] I vs.length (fun i its => ∃ o, its = [(I, o)] ∧ o.cls = .type "list_iterator" ∧ o.data = .fields #[.ref l, .int i 0]) (.Name x q) env C (fun i m m' => ∃ v, vs[i]? = some v ∧ m' = upd1 m x v) := by
  refine Src.one R he (fun s => s.heap.get? l = some (listO vs.toArray k)) (fun _ _ _ _ hs => hl.at hs) kx (fun i o s Q E hi ho hI hH hQ => ?_) (fun o s Q E ho hI hH hQ => ?_) fun i o s Q E ho hI hQ => ?_
  · refine wpAny_pyNext_list_item (it := I) (l := l) (i := i) (items := vs.toArray) (x := vs[i]) ⟨o, ho, hI⟩ ⟨_, hH, rfl, _, rfl⟩ (by rw [List.getElem?_toArray]; exact List.getElem?_eq_getElem hi) fun h' ⟨o', e1, e2⟩ k' => ?_
    exact hQ _ h' s.toks o' (List.getElem?_eq_getElem hi) e1 e2 fun b o hb e => (k'.2 b hb).trans e
  · refine wpAny_pyNext_list_end hh (it := I) (l := l) (i := vs.length) (items := vs.toArray) ⟨o, ho, hI⟩ ⟨_, hH, rfl, _, rfl⟩ (by rw [List.getElem?_toArray]; exact List.getElem?_eq_none (Nat.le_refl _)) fun h' k' => ?_
    exact hQ h' s.toks k'
  · exact wpAny_pyIter_listiter (l := l) (i := i) ⟨o, ho, hI⟩ hQ
theorem src_range (R : Fk2 w mg mb A₀ p) (he : En env C p.L) (hh : A.handled = none) {I : Addr} {n : Nat} {q : Pos} (kx : env.kindOf x = some .local) :
    Src w A p st [I] I n (fun i its => ∃ o, its = [(I, o)] ∧ i ≤ n ∧ o = { cls := .type "range_iterator", dict := none, data := .fields #[rawInt (i : Int), rawInt ((n : Int) - (i : Int)), rawInt 1], slots := #[] }) (.Name x q) env C (fun i m m' => ∃ v, (∃ t, v = .int (i : Int) t) ∧ m' = upd1 m x v) := by
  refine Src.one R he (fun _ => True) (fun _ _ _ _ _ => trivial) kx (fun i o s Q E hi ho hI _ hQ => ?_) (fun o s Q E ho hI _ hQ => ?_) fun i o s Q E ho hI hQ => ?_
  · obtain ⟨_, rfl⟩ := hI
    refine wpAny_pyNext_range_item (it := I) ho (by omega) fun h' e1 k' => ?_
    have e2 : (i : Int) + 1 = ((i + 1 : Nat) : Int) := by omega
    have e3 : (n : Int) - (i : Int) - 1 = (n : Int) - ((i + 1 : Nat) : Int) := by omega
    rw [e2, e3] at e1
    exact hQ _ h' _ _ ⟨_, rfl⟩ e1 ⟨hi, rfl⟩ fun b o hb e => (k'.2 b hb).trans e
  · obtain ⟨_, rfl⟩ := hI
    exact wpAny_pyNext_range_end hh (it := I) ho (by omega) fun h' k' => hQ h' s.toks k'
  · obtain ⟨_, rfl⟩ := hI
    exact wpAny_pyIter_rangeiter ho hQ
/-- two names from a tuple -/
theorem un2 (R : Fk2 w mg mb A₀ p) (he : En env C p.L) (hh : A.handled = none) {Q : Unit → Shared → Prop} {E : Value → Shared → Prop} (hs : FS p ((C, m) :: nss) news s) {T : Addr} {a b : Value} {q1 q2 q3 : Pos} {k : Nat} (hT : s.heap.IsTuple T #[a, b]) (kx : env.kindOf x = some .local) (ky : env.kindOf y = some .local)
    (h : ∀ s', FS p ((C, upd1 (upd1 m x a) y b) :: nss) news s' → Q () s') : wpAny (model pw w) A (assign (.Tuple [.Name x q1, .Name y q2] k q3) env (.ref T)) Q E s := by
  refine wpAny_assign_Tuple hh hT rfl rfl fun h6 k6 => ?_
  have top := hs.none0 R (get_top s.heap)
  have hs6 := hs.step R (l := [s.heap.objs.size]) (h' := h6) (tk := s.toks) (fun b o hb e => k6 b o (fun z => hb (z ▸ .head _)) e) (fun a ha => by rcases List.mem_cons.mp ha with rfl | ha; exact top.1; cases ha) rfl (fun q hq => ns_h (l := [s.heap.objs.size]) (hs.ns q hq).1 (fun ha => by rcases List.mem_cons.mp ha with z | ha; exact top.2 (z ▸ List.mem_map_of_mem (f := (·.1)) hq); cases ha) fun b o hb e => k6 b o (fun z => hb (z ▸ .head _)) e) _ (fun q hq => ⟨hq, fun ha => by rcases List.mem_cons.mp ha with z | ha; exact absurd (z ▸ Heap.lt_size (hs.at_ q hq).1) (Nat.lt_irrefl _); cases ha⟩)
  exact assignInOrder_cons (wpAny_assign_Name (stn R he hs6 (fun s7 hs7 => assignInOrder_cons (wpAny_assign_Name (stn R he hs7 (fun s8 hs8 => assignInOrder_nil (h s8 hs8)) ky))) kx))
theorem src_pairs (R : Fk2 w mg mb A₀ p) (he : En env C p.L) (hh : A.handled = none) {I l : Addr} {vs : List Value} {k kt : Nat} {q1 q2 q3 : Pos} {P : Nat → Value → Value → Prop} (hl : Has p st l (listO vs.toArray k)) (hne : l ≠ I) (kx : env.kindOf x = some .local) (ky : env.kindOf y = some .local)
    (hv : ∀ i v, vs[i]? = some v → ∃ T a b n, v = .ref T ∧ T ≠ I ∧ P i a b ∧ Has p st T { cls := .type "tuple", dict := none, data := .seq #[a, b] n, slots := #[] }) :
    Src w A p st [I] I vs.length (fun i its => ∃ o, its = [(I, o)] ∧ o.cls = .type "list_iterator" ∧ o.data = .fields #[.ref l, .int i 0]) (.Tuple [.Name x q1, .Name y q2] kt q3) env C (fun i m m' => ∃ a b, P i a b ∧ m' = upd1 (upd1 m x a) y b) where
  adr := fun i its ⟨o, e, _⟩ => by rw [e]; rfl
  draw := fun i its m nss news s Q E hi hI hn hs hQ => by
    obtain ⟨o, rfl, hI⟩ := hI
    have hH := hl.at hs
    have ei : vs[i]? = some vs[i] := List.getElem?_eq_getElem hi
    obtain ⟨T, a, b, n, eT, hTI, hP, hT⟩ := hv i _ ei
    have gT := hT.at hs
    refine wpAny_pyNext_list_item (it := I) (l := l) (i := i) (items := vs.toArray) (x := .ref T) ⟨o, (hs.at_ _ (.head _)).1, hI⟩ ⟨_, hH, rfl, _, rfl⟩ (by rw [List.getElem?_toArray, ei, eT]) fun h' e1 k' => ?_
    obtain ⟨o', e1, e2⟩ := id e1
    have h1 := hs.turn R (its' := [(I, o')]) (h' := h') (tk := s.toks) (fun b o hb e => (k'.2 b fun z => hb (by rw [z]; exact .head _)).trans e) (fun q hq => by rcases List.mem_cons.mp hq with rfl | hq; exact ⟨e1, .head _⟩; cases hq) hn
    refine wpAny_letOwnedTupleGo_listiter ⟨o', e1, e2⟩ ?_
    exact un2 R he hh h1 ⟨_, (k'.2 _ hTI).trans gT, rfl, _, rfl⟩ kx ky fun s' hs' => hQ _ _ s' ⟨o', rfl, e2⟩ ⟨a, b, hP, rfl⟩ hs'
  done := fun its m nss news s Q E hI hn hs hQ => by
    obtain ⟨o, rfl, hI⟩ := hI
    have hH := hl.at hs
    refine wpAny_pyNext_list_end hh (it := I) (l := l) (i := vs.length) (items := vs.toArray) ⟨o, (hs.at_ _ (.head _)).1, hI⟩ ⟨_, hH, rfl, _, rfl⟩ (by rw [List.getElem?_toArray]; exact List.getElem?_eq_none (Nat.le_refl _)) fun h' k' => ?_
    exact hQ _ (hs.turn R (its' := []) (h' := h') (tk := s.toks) (fun b o hb => k' b o fun z => hb (by rw [z]; exact .head _)) (fun q hq => by cases hq) hn)
  self := fun i its m nss news s Q E hI hs hQ => by
    obtain ⟨o, rfl, hI⟩ := hI
    exact wpAny_pyIter_listiter (l := l) (i := i) ⟨o, (hs.at_ _ (.head _)).1, hI⟩ hQ
noncomputable abbrev zipO (TI TO : Addr) (f0 : Value) : Obj := { cls := .type "zip", dict := none, data := .fields #[f0, .bool false, .bool false, .ref TI, .ref TO], slots := #[] }
noncomputable abbrev pairO (a b : Value) : Obj := { cls := .type "tuple", data := .seq #[a, b] }
noncomputable def ItZ (z TI TO i1 i2 l1 l2 : Addr) (i : Nat) (its : List (Addr × Obj)) : Prop := ∃ a b o1 o2, its = [(z, zipO TI TO .none), (TI, pairO (.ref i1) (.ref i2)), (TO, pairO a b), (i1, o1), (i2, o2)] ∧ (o1.cls = .type "list_iterator" ∧ o1.data = .fields #[.ref l1, .int i 0]) ∧ o2.cls = .type "list_iterator" ∧ o2.data = .fields #[.ref l2, .int i 0]
theorem src_zip (R : Fk2 w mg mb A₀ p) (he : En env C p.L) (hh : A.handled = none) {z TI TO i1 i2 l1 l2 : Addr} (D : ZipApart z TI TO i1 i2 l1 l2) {vs us : List Value} {k1 k2 kt n : Nat} {q1 q2 q3 : Pos} (hl1 : Has p st l1 (listO vs.toArray k1)) (hl2 : Has p st l2 (listO us.toArray k2)) (kx : env.kindOf x = some .local) (ky : env.kindOf y = some .local) (hn1 : vs.length = n) (hn2 : us.length = n) :
    Src w A p st [z, TI, TO, i1, i2] z n (ItZ z TI TO i1 i2 l1 l2) (.Tuple [.Name x q1, .Name y q2] kt q3) env C (fun i m m' => ∃ a b, vs[i]? = some a ∧ us[i]? = some b ∧ m' = upd1 (upd1 m x a) y b) where
  adr := fun i its ⟨a, b, o1, o2, e, _⟩ => by rw [e]; rfl
  draw := fun i its m nss news s Q E hi hI hn hs hQ => by
    obtain ⟨a, b, o1, o2, rfl, c1, c2⟩ := hI
    have hz := (hs.at_ _ (.head _)).1
    have hTI := (hs.at_ _ (.tail _ (.head _))).1
    have hTO := (hs.at_ _ (.tail _ (.tail _ (.head _)))).1
    have h1 := (hs.at_ _ (.tail _ (.tail _ (.tail _ (.head _))))).1
    have h2 := (hs.at_ _ (.tail _ (.tail _ (.tail _ (.tail _ (.head _)))))).1
    have g1 := hl1.at hs
    have g2 := hl2.at hs
    have e1 : vs[i]? = some (vs[i]'(by omega)) := List.getElem?_eq_getElem _
    have e2 : us[i]? = some (us[i]'(by omega)) := List.getElem?_eq_getElem _
    refine wpAny_pyNext_zip_item D hz hTI hTO ⟨o1, h1, c1⟩ ⟨o2, h2, c2⟩ ⟨_, g1, rfl, _, rfl⟩ ⟨_, g2, rfl, _, rfl⟩ (by rw [List.getElem?_toArray]; exact e1) (by rw [List.getElem?_toArray]; exact e2) fun h' a1 a2 a3 a4 a5 a6 hk => ?_
    refine wpAny_letOwnedTupleGo_zip a1 fun h'' b1 k' => ?_
    obtain ⟨o1', f1, d1⟩ := a3
    obtain ⟨o2', f2, d2⟩ := a4
    have up : ∀ c o, c ≠ z → h'.get? c = some o → h''.get? c = some o := fun c o hc e => (k'.2 c hc).trans e
    have hs1 := hs.turn R (its' := [(z, zipO TI TO .none), (TI, pairO (.ref i1) (.ref i2)), (TO, pairO _ _), (i1, o1'), (i2, o2')]) (h' := h'') (tk := s.toks) (fun b o hb e => up b o (fun zz => hb (by rw [zz]; simp)) (hk b o (fun zz => hb (by rw [zz]; simp)) (fun zz => hb (by rw [zz]; simp)) (fun zz => hb (by rw [zz]; simp)) (fun zz => hb (by rw [zz]; simp)) e)) (fun q hq => by
      rcases List.mem_cons.mp hq with rfl | hq
      · exact ⟨b1, by simp⟩
      rcases List.mem_cons.mp hq with rfl | hq
      · exact ⟨up _ _ D.TIz (hk _ _ D.TIz D.TITO D.TIi1 D.TIi2 hTI), by simp⟩
      rcases List.mem_cons.mp hq with rfl | hq
      · exact ⟨up _ _ D.TOz a2, by simp⟩
      rcases List.mem_cons.mp hq with rfl | hq
      · exact ⟨up _ _ D.i1z f1, by simp⟩
      rcases List.mem_cons.mp hq with rfl | hq
      · exact ⟨up _ _ D.i2z f2, by simp⟩
      cases hq) hn
    exact un2 R he hh hs1 ⟨_, up _ _ (Nat.ne_of_gt (Heap.lt_size hz)) a5, rfl, _, rfl⟩ kx ky fun s' hs' => hQ _ _ s' ⟨_, _, o1', o2', rfl, d1, d2⟩ ⟨_, _, e1, e2, rfl⟩ hs'
  done := fun its m nss news s Q E hI hn hs hQ => by
    obtain ⟨a, b, o1, o2, rfl, c1, c2⟩ := hI
    have hz := (hs.at_ _ (.head _)).1
    have hTI := (hs.at_ _ (.tail _ (.head _))).1
    have hTO := (hs.at_ _ (.tail _ (.tail _ (.head _)))).1
    have h1 := (hs.at_ _ (.tail _ (.tail _ (.tail _ (.head _))))).1
    have h2 := (hs.at_ _ (.tail _ (.tail _ (.tail _ (.tail _ (.head _)))))).1
    have g1 := hl1.at hs
    have g2 := hl2.at hs
    refine wpAny_pyNext_zip_end hh D hz hTI hTO ⟨o1, h1, c1⟩ ⟨o2, h2, c2⟩ ⟨_, g1, rfl, _, rfl⟩ ⟨_, g2, rfl, _, rfl⟩ (.inl (by rw [List.getElem?_toArray]; exact List.getElem?_eq_none (by omega))) fun h' hk => ?_
    exact hQ _ (hs.turn R (its' := []) (h' := h') (tk := s.toks) (fun b o hb e => hk b o (fun zz => hb (by rw [zz]; simp)) (fun zz => hb (by rw [zz]; simp)) (fun zz => hb (by rw [zz]; simp)) (fun zz => hb (by rw [zz]; simp)) e) (fun q hq => by cases hq) hn)
  self := fun i its m nss news s Q E hI hs hQ => by
    obtain ⟨a, b, o1, o2, rfl, c1, c2⟩ := hI
    exact wpAny_pyIter_zip (hs.at_ _ (.head _)).1 hQ
end
end Mine
end

section
open PySem PySem.W PyProof.Rows PySem.Calls PySem.Spec
namespace Mine
section
variable {w : World} {mg mb : PySem.Str → Option Value} {A A₀ : Around} {p : FP2} {nss : Nss} {news rest its its' st : List (Addr × Obj)} {s : Shared} {env : Env} {C : Addr} {m : PySem.Str → Option Value} {x y : PySem.Str} {v : Value}
/-- the world grows -/
theorem FS.grow (R : Fk2 w mg mb A₀ p) (hs : FS p nss news s) {h' : Heap} {tk : Nat} (k : ∀ b o, s.heap.get? b = some o → h'.get? b = some o) : FS p nss news { s with heap := h', toks := tk } :=
  hs.step R (l := []) (fun b o _ e => k b o e) (fun a ha => by cases ha) rfl (fun q hq => (hs.ns q hq).1.keeps k) news fun q hq => ⟨hq, fun h => by cases h⟩
theorem FS.more (R : Fk2 w mg mb A₀ p) (hs : FS p nss news s) {h' : Heap} {tk : Nat} (k : ∀ b o, s.heap.get? b = some o → h'.get? b = some o) (its : List (Addr × Obj)) (hi : ∀ q ∈ its, h'.get? q.1 = some q.2 ∧ s.heap.get? q.1 = none) : FS p nss (its ++ news) { s with heap := h', toks := tk } := by
  have h1 := hs.grow R k (tk := tk)
  refine ⟨h1.mv, h1.ns, h1.nd, h1.hL, fun q hq => ?_⟩
  rcases List.mem_append.mp hq with h | h
  · exact ⟨(hi q h).1, hs.none0 R (hi q h).2⟩
  · exact h1.at_ q h
theorem zipN (R : Fk2 w mg mb A₀ p) {Q E : Value → Shared → Prop} (hs : FS p nss news s) {l1 l2 : Addr} {vs us : List Value} {k1 k2 : Nat} (g1 : s.heap.get? l1 = some (listO vs.toArray k1)) (g2 : s.heap.get? l2 = some (listO us.toArray k2))
    (h : ∀ s' z TI TO i1 i2 its, ZipApart z TI TO i1 i2 l1 l2 → ItZ z TI TO i1 i2 l1 l2 0 its → FS p nss (its ++ news) s' → (∀ a ∈ [z, TI, TO, i1, i2], s.heap.get? a = none) → (∀ b o, s.heap.get? b = some o → s'.heap.get? b = some o) → Q (.ref z) s') : wpAny (model pw w) A (call (.type "zip") [.ref l1, .ref l2]) Q E s := by
  refine call_zip_2 (xs := vs.toArray) (ys := us.toArray) ⟨_, g1, rfl, _, rfl⟩ ⟨_, g2, rfl, _, rfl⟩ fun h' hz hTI hTO ⟨o1, e1, c1⟩ ⟨o2, e2, c2⟩ hsz hk => ?_
  have up : ∀ j, s.heap.get? (s.heap.objs.size + j) = none := fun j => Heap.get?_none_of_le (Nat.le_add_right _ j)
  have a0 : ∀ a ∈ [s.heap.objs.size + 4, s.heap.objs.size + 2, s.heap.objs.size + 3, s.heap.objs.size, s.heap.objs.size + 1], s.heap.get? a = none := fun a ha => by
    simp only [List.mem_cons, List.not_mem_nil, or_false] at ha
    rcases ha with rfl | rfl | rfl | rfl | rfl
    · exact up 4
    · exact up 2
    · exact up 3
    · exact up 0
    · exact up 1
  refine h _ _ _ _ _ _ [(s.heap.objs.size + 4, zipO _ _ .none), (s.heap.objs.size + 2, pairO _ _), (s.heap.objs.size + 3, pairO .none .none), (s.heap.objs.size, o1), (s.heap.objs.size + 1, o2)] (zipApart_new (Heap.lt_size g1) (Heap.lt_size g2)) ⟨_, _, o1, o2, rfl, c1, c2⟩ (hs.more R hk _ fun q hq => ?_) a0 hk
  rcases List.mem_cons.mp hq with rfl | hq
  · exact ⟨hz, a0 _ (by simp)⟩
  rcases List.mem_cons.mp hq with rfl | hq
  · exact ⟨hTI, a0 _ (by simp)⟩
  rcases List.mem_cons.mp hq with rfl | hq
  · exact ⟨hTO, a0 _ (by simp)⟩
  rcases List.mem_cons.mp hq with rfl | hq
  · exact ⟨e1, a0 _ (by simp)⟩
  rcases List.mem_cons.mp hq with rfl | hq
  · exact ⟨e2, a0 _ (by simp)⟩
  cases hq
theorem iterL (R : Fk2 w mg mb A₀ p) {Q E : Value → Shared → Prop} (hs : FS p nss news s) {l : Addr} {vs : List Value} {k : Nat} (g : s.heap.get? l = some (listO vs.toArray k))
    (h : ∀ s' I, FS p nss ((I, itO l 0) :: news) s' → s.heap.get? I = none → Q (.ref I) s') : wpAny (model pw w) A (pyIter (.ref l)) Q E s :=
  wpAny_pyIter_list (items := vs.toArray) ⟨_, g, rfl, _, rfl⟩ (h _ _ (hs.new R (itO l 0) rfl) (get_top _))
theorem src_str (R : Fk2 w mg mb A₀ p) (he : En env C p.L) (hh : A.handled = none) {I : Addr} {z : PySem.Str} {t : Tok} {ty : String} {q : Pos} (hty : ty = "str_ascii_iterator" ∨ ty = "str_iterator") (kx : env.kindOf x = some .local) :
    Src w A p st [I] I z.cps.size (fun i its => ∃ o, its = [(I, o)] ∧ o.cls = .type ty ∧ o.data = .fields #[.str z t, .int i 0]) (.Name x q) env C (fun i m m' => ∃ v, SignAt z i v ∧ m' = upd1 m x v) := by
  refine Src.one R he (fun s => True) (fun _ _ _ _ hs => trivial) kx (fun i o s Q E hi ho hI hH hQ => ?_) (fun o s Q E ho hI hH hQ => ?_) fun i o s Q E ho hI hQ => ?_
  · have ec : z.cps[i]? = some z.cps[i] := Array.getElem?_eq_getElem hi
    rcases hty with rfl | rfl
    · exact wpAny_pyNext_ascii_item ⟨o, ho, hI⟩ ec fun h' ⟨o', e1, e2⟩ k' => hQ _ h' _ o' ⟨_, _, ec, rfl⟩ e1 e2 fun b o hb e => (k'.2 b hb).trans e
    · exact wpAny_pyNext_wide_item ⟨o, ho, hI⟩ ec fun h' ⟨o', e1, e2⟩ k' => hQ _ h' _ o' ⟨_, _, ec, rfl⟩ e1 e2 fun b o hb e => (k'.2 b hb).trans e
  · have ec : z.cps[z.cps.size]? = none := Array.getElem?_eq_none (Nat.le_refl _)
    rcases hty with rfl | rfl
    · exact wpAny_pyNext_ascii_end hh ⟨o, ho, hI⟩ ec fun h' k' => hQ h' s.toks k'
    · exact wpAny_pyNext_wide_end hh ⟨o, ho, hI⟩ ec fun h' k' => hQ h' s.toks k'
  · rcases hty with rfl | rfl
    · exact wpAny_pyIter_striter_ascii ⟨o, ho, hI⟩ hQ
    · exact wpAny_pyIter_striter_wide ⟨o, ho, hI⟩ hQ
theorem iterS (R : Fk2 w mg mb A₀ p) {Q E : Value → Shared → Prop} (hs : FS p nss news s) {z : PySem.Str} {t : Tok}
    (h : ∀ s' I ty o, (ty = "str_ascii_iterator" ∨ ty = "str_iterator") → o.cls = .type ty → o.data = .fields #[.str z t, .int (0 : Nat) 0] → FS p nss ((I, o) :: news) s' → s.heap.get? I = none → Q (.ref I) s') : wpAny (model pw w) A (pyIter (.str z t)) Q E s := by
  cases ha : z.cps.all (· < 128)
  · exact wpAny_pyIter_wide ha (h _ _ "str_iterator" _ (.inr rfl) rfl rfl (hs.new R _ rfl) (get_top _))
  · exact wpAny_pyIter_ascii ha (h _ _ "str_ascii_iterator" _ (.inl rfl) rfl rfl (hs.new R _ rfl) (get_top _))
/-- the iterator of range(0, n) -/
noncomputable abbrev rgO (n i : Nat) : Obj := { cls := .type "range_iterator", dict := none, data := .fields #[rawInt (i : Int), rawInt ((n : Int) - (i : Int)), rawInt 1], slots := #[] }
end
end Mine
end

section
open PySem PySem.W PyProof.Rows PySem.Calls PySem.Spec
namespace Mine
local macro_rules | `(tactic| walk_at "mlk") => `(tactic| repeat (first | with_reducible assumption | exact if_pos rfl | refine (if_neg (by decide)).trans ?_))
/-! ## _law_words -/
theorem glob_range (P : Params) : nsIn (K P) mainGlobals (PySem.Str.ofString "range") = some none := by kernel_rfl
theorem glob_len (P : Params) : nsIn (K P) mainGlobals (PySem.Str.ofString "len") = some none := by kernel_rfl
theorem glob_chr (P : Params) : nsIn (K P) mainGlobals (PySem.Str.ofString "chr") = some none := by kernel_rfl
theorem keeper_range (P : Params) (S : Setting) : peek (K P) S (keeperOf (.type "range")) = some .machine := by kernel_rfl
theorem keeper_len (P : Params) (S : Setting) : peek (K P) S (keeperOf (.builtin "len")) = some .machine := by kernel_rfl
theorem keeper_chr (P : Params) (S : Setting) : peek (K P) S (keeperOf (.builtin "chr")) = some .machine := by kernel_rfl
noncomputable def base4 : List PySem.Str := [PySem.Str.ofString "", PySem.Str.ofString " ", PySem.Str.ofString "'", PySem.Str.ofString "b"]
/-- the words of three signs -/
noncomputable def Signed (ws : List PySem.Str) : Prop := ∀ (j : Nat) z, ws[j]? = some z → ∃ c, z = ⟨#[c, 49 + j]⟩
section
variable {w : World} {mg mb : PySem.Str → Option Value} {A A₀ : Around} {p : FP2} {nss : Nss} {news : List (Addr × Obj)} {s : Shared} {env : Env} {a : Addr} {m : PySem.Str → Option Value} {q1 q2 q3 q4 : Pos} {Q E : Value → Shared → Prop}
/-- range(n) walked -/
theorem subT {value : PySem.Expr} {x : PySem.Str} {T id : String} (hl : typeLookup (.type T) "__getitem__" = pure (some (.builtin id))) (h : wpAny (model pw w) A (eval value env) (fun o s₁ => wpAny (model pw w) A (eval (.Name x q1) env) (fun i s₂ => s₂.TypeIs o T ∧ wpAny (model pw w) A (getItem o i) Q E s₂) E s₁) E s) :
    wpAny (model pw w) A (eval (.Subscript value (.Name x q1) q2) env) Q E s := by
  rw [eval_Subscript]
  refine wpAny_bind (wpAny_mono h (fun o s₁ h₁ => wpAny_bind (wpAny_holding (wpAny_mono h₁ (fun i s₂ h₂ => ?_) fun _ _ z => z))) fun _ _ z => z)
  obtain ⟨hT, hg⟩ := h₂
  have last : wpAny (model pw w) A (operate [o, i] (getItem o i)) (fun r s₃ => wpAny (model pw w) A (letTemporaryGo value o r >>= fun _ => pure r) Q E s₃) E s₂ :=
    wpAny_operating (wpAny_mono hg (fun r s₃ h₃ => wpAny_bind (wpAny_letTemporaryGo (wpAny_pure h₃))) fun _ _ z => z)
  refine wpAny_bind (wpAny_standAt (wpAny_bind ?_))
  rw [getitemInPython_of_ne hT.not_modules]
  refine wpAny_bind (wpAny_specialOf hT hl ?_)
  first
    | exact wpAny_pure (wpAny_bind last)
    | exact wpAny_bind (wpAny_pure (wpAny_bind last))
    | exact wpAny_bind last
theorem rangeN (R : Fk2 w mg mb A₀ p) {n : Nat} {t : Tok} (hs : FS p nss news s) (hn : n < 1000) {Q : Value → Shared → Prop}
    (h : ∀ s' I, FS p nss ((I, rgO n 0) :: news) s' → s.heap.get? I = none → Q (.ref I) s') : wpAny (model pw w) A (call (.type "range") [.int (n : Int) t]) (fun xv s₁ => wpAny (model pw w) A (pyIter xv) Q E s₁) E s := by
  refine call_range_1 ?_
  have h1 := hs.new R { cls := .type "range", data := .fields #[.int 0 s.toks, .int (n : Int) t, .int 1 (s.toks + 1)] } rfl (tk := s.toks + 1 + 1)
  have hsz : Builtin.Range.rangeSize 0 (n : Int) 1 = (n : Int) := by rw [rangeSize_one]; split <;> omega
  have e1 : (2 : Int) ^ 62 = 4611686018427387904 := by decide
  refine wpAny_pyIter_range (r := s.heap.objs.size) (a := 0) (b := (n : Int)) (c := 1) (h1.at_ _ (.head _)).1 (small_one (by rw [e1]; omega) (by rw [e1]; omega) (by rw [e1]; omega) (by rw [e1]; omega)) ?_
  rw [hsz]
  have h2 := h1.new R (rgO n 0) rfl (tk := s.toks + 1 + 1)
  have e0 : (n : Int) - ((0 : Nat) : Int) = (n : Int) := by omega
  have h3 := h2.sub (news' := ((s.heap.push { cls := .type "range", data := .fields #[.int 0 s.toks, .int (n : Int) t, .int 1 (s.toks + 1)] }).objs.size, rgO n 0) :: news) fun q hq => by
    rcases List.mem_cons.mp hq with rfl | hq
    · exact .head _
    · exact .tail _ (.tail _ hq)
  have ho : rgO n 0 = { cls := .type "range_iterator", dict := none, data := .fields #[rawInt 0, rawInt (n : Int), rawInt 1], slots := #[] } := by simp only [rgO, e0]; rfl
  rw [ho] at h3
  refine h _ _ (by rw [ho]; exact h3) ?_
  rw [Heap.size_push]
  exact Heap.get?_none_of_le (Nat.le_succ _)
/-- (a list).append(e), behind the list's own reading -/
theorem appE (R : Fk2 w mg mb A₀ p) {Q : Value → Shared → Prop} {E : Value → Shared → Prop} {pl : Sem Bool} {D : Addr} {ms : List Value} {k : Nat} {e : PySem.Expr} (hD : s.heap.get? D = some (listO ms.toArray k)) (hz : ms.length < 1000000)
    (h : wpAny (model pw w) A (eval e env) (fun v s₁ => ∃ news₁ news₂ m k, FS p ((a, m) :: nss) news₁ s₁ ∧ (D, listO ms.toArray k) ∈ news₁ ∧ (∀ q ∈ news₂, q ∈ news₁ ∧ q.1 ≠ D) ∧ ∀ s' k', FS p ((a, m) :: nss) ((D, listO (ms ++ [v]).toArray k') :: news₂) s' → Q .none s') E s)
    (hst : starEach [e] env = (false, eval e env) :: starEach [] env := by rfl) :
    wpAny (model pw w) A (getMethod (.ref D) (PySem.Str.ofString "append") pl) (fun fx s₂ => wpAny (model pw w) A (callWith q4 fx.1 fx.2 (backTo q4 (starEach [e] env)) []) Q E s₂) E s := by
  refine getMethod_list_of slot_list_append type_list_append (items := ms.toArray) ⟨_, hD, rfl, _, rfl⟩ ⟨_, hD, rfl⟩ (callWith_method1 (args_cons (wpAny_mono h (fun v s₁ hv => args_nil ?_) fun _ _ z => z) hst) hst)
  obtain ⟨news₁, news₂, m, k, f, hin, hn, hq⟩ := hv
  exact call_app (f.at_ _ hin).1 hz fun h' k' kk e => hq _ _ (f.chg R hin kk e news₂ hn)
end
set_option maxHeartbeats 2000000 in
theorem wd_spec {l : Addr} {ns : List Int} (hn : ns.length ≤ 3) : Spec 822 [.ref l] 2 (fun fr h => (∃ vs k, h.get? l = some (listO vs.toArray k) ∧ IntsAre vs ns) ∧ l ∉ 795 :: fr)
    (fun h v h' => ∃ W vs k ss ws, v = .ref W ∧ h.get? W = none ∧ h'.get? W = some (listO vs.toArray k) ∧ StrsAre vs ss ∧ ss.Perm (base4 ++ ws) ∧ ws.length = 3 ∧ Signed ws ∧ sortedS ss = true) := by
  intro w A mg mb outer s Q E W hh hd hu hF ⟨⟨vn, kn, hl, hi⟩, hoff⟩ h
  refine wpAny_call ?_
  k_dflt (refine' enterG (binds := [(PySem.Str.ofString "numbers", .ref l)]) W hF ?k6 ?k7 ?k8 ?k9 ?kB ?_ ?c2 ?c3 ?c4 ?c5; (case k6 => k_is); (case k7 => k_is); (case k8 => omega); (case k9 => exact BindsTo.of_eq rfl); (case c5 => decide); (case kB => exact locs rfl); (case c2 => exact rfl); (case c3 => exact rfl); (case c4 => exact rfl); k_whole; rintro p s1 rfl rfl R hs)
  refine with_env (P := fun env => wpAny (model pw w) (A.deeper env) (execs _ env) _ _ _) (En.of _ p.L 822 _ rfl) fun env he hk => ?_
  have hin : interactive env = false := by unfold interactive; rw [he.kf]; rfl
  have kl := (hk (PySem.Str.ofString "numbers")).trans (rfl : _ = some NameKind.local)
  have kw := (hk (PySem.Str.ofString "words")).trans (rfl : _ = some NameKind.local)
  have kp := (hk (PySem.Str.ofString "place")).trans (rfl : _ = some NameKind.local)
  have ks := (hk (PySem.Str.ofString "sign")).trans (rfl : _ = some NameKind.local)
  have ko := (hk (PySem.Str.ofString "point")).trans (rfl : _ = some NameKind.local)
  -- the four words
  refine wpAny_execs_cons (asg R he rfl (wpAny_List (args_cons (wpAny_Constant_str (args_cons (wpAny_Constant_str (args_cons (wpAny_Constant_str (args_cons (wpAny_Constant_str (args_nil ⟨by rw [sizeLine_eq]; show 4 ≤ _; decide, ?_⟩)))))))))) kw)
  refine ⟨_, _, _, (hs.toks _).new R _ rfl, fun s2 hs2 => ?_⟩
  have w0 : s1.heap.get? s1.heap.objs.size = none := get_top _
  generalize hWd : s1.heap.objs.size = Wd at hs2 w0
  refine wpAny_execs_cons (wpAny_For (cB R he hs2 glob_range (by boot_by_name) keeper_range ((hk _).trans rfl) (args_cons (wpAny_Constant_int (args_nil ⟨(hs2.wd R).X, rangeN R (n := 3) (hs2.toks _) (by decide) fun s3 I hs3 hI => ?_⟩)))) fun _ => rfl)
  have hWI : Wd ≠ I := fun z => by rw [← z, (hs2.at_ _ (.head _)).1] at hI; cases hI
  refine forGo (st := []) (n := 3) (src_range (A := A.deeper env) R he hh kp) (fun i m ext => ∃ vs k ws, m (PySem.Str.ofString "words") = some (.ref Wd) ∧ m (PySem.Str.ofString "numbers") = some (.ref l) ∧ ext = [(Wd, listO vs.toArray k)] ∧ StrsAre vs (base4 ++ ws) ∧ ws.length = i ∧ Signed ws)
    ?_ ?_ (fun q hq => by cases hq) ?_ (its := [(I, rgO 3 0)]) (ext := [(Wd, _)]) ⟨_, rfl, by decide, rfl⟩ hs3 ⟨_, _, [], rfl, rfl, rfl, ?_, rfl, ?_⟩
  · -- one turn
    rintro i its m m' ext s E' hi3 ⟨_, rfl, _, rfl⟩ ⟨vs, k, ws, mw, ml, rfl, hst, hlen, hsg⟩ ⟨_, ⟨ti, rfl⟩, rfl⟩ hs
    have hvl := StrsAre.length hst
    rw [List.length_append, hlen] at hvl
    have b4 : base4.length = 4 := rfl
    refine wpAny_execs_cons (asg R he rfl (wpAny_Constant_str ⟨_, _, _, hs.toks _, fun s4 hs4 => ?_⟩) ks)
    have hil := IntsAre.length hi
    have e1 := fun {nss news s} (hs : FS p nss news s) => hs.old hoff hl
    refine wpAny_execs_cons (wpAny_mono (Q := fun f s' => f = .next ∧ ∃ m c t, FS p [(p.L, m)] [(I, rgO 3 (i + 1)), (Wd, listO vs.toArray k)] s' ∧ m (PySem.Str.ofString "words") = some (.ref Wd) ∧ m (PySem.Str.ofString "numbers") = some (.ref l) ∧ m (PySem.Str.ofString "place") = some (.int (i : Int) ti) ∧ m (PySem.Str.ofString "sign") = some (.str ⟨#[c]⟩ t)) ?_ ?_ fun _ _ e => e)
    · refine wpAny_If (wpAny_isTrue_Compare1 (nm he hs4 (by walk_at "mlk") (cB R he hs4 glob_len (by boot_by_name) keeper_len ((hk _).trans rfl) (args_cons (nm he hs4 (by walk_at "mlk") (args_nil ⟨(hs4.wd R).X, ?_⟩) kl))) kp) rfl)
      refine call_len_list (items := vn.toArray) ⟨_, e1 hs4, rfl, _, rfl⟩ (by rw [List.size_toArray]; omega) (lt_int (wpAny_truthy_bool ?_))
      by_cases hb : (i : Int) < (vn.toArray.size : Int)
      · rw [decide_eq_true hb, if_pos rfl]
        have hb2 : i < vn.length := by rw [List.size_toArray] at hb; omega
        obtain ⟨nv, hnv⟩ : ∃ nv, vn[i]? = some nv := ⟨vn[i], List.getElem?_eq_getElem hb2⟩
        obtain ⟨z, tz, rfl, _⟩ := IntsAre.at hi i nv hnv
        have hs5 := hs4.toks (s4.toks + 1 + 1)
        refine wpAny_execs_cons (asg R he rfl (wpAny_BinOp (wpAny_Subscript_Name slot_list_getitem.lookup (nm (v := .ref l) he hs5 (by walk_at "mlk") (nm (v := .int (i : Int) ti) he hs5 (by walk_at "mlk") ⟨⟨_, e1 hs5, rfl⟩, wpAny_getItem_list (items := vn.toArray) ⟨_, e1 hs5, rfl, _, rfl⟩ (Int.natCast_nonneg _) (by omega) (by rw [List.getElem?_toArray, Int.toNat_natCast]; exact hnv) (wpAny_Constant_int (mod_int (by decide) ⟨_, _, _, hs5.toks _, fun s6 hs6 => ?_⟩))⟩ kp) kl))) ko)
        have hz0 := Int.fmod_nonneg_of_pos z (b := 1112064) (by decide)
        have hz1 := Int.fmod_lt_of_pos z (b := 1112064) (by decide)
        refine execs_one (asg R he rfl (cB R he hs6 glob_chr (by boot_by_name) keeper_chr ((hk _).trans rfl) (args_cons (wpAny_IfExp (wpAny_isTrue_Compare1 (nm he hs6 (by walk_at "mlk") (wpAny_Constant_int (lt_int (wpAny_truthy_bool ?_))) ko) rfl)))) ks)
        by_cases hc : z.fmod 1112064 < 55296
        · rw [decide_eq_true hc, if_pos rfl]
          have hs7 := hs6.toks (s6.toks + 1)
          refine nm he hs7 (by walk_at "mlk") (args_nil ⟨(hs7.wd R).X, ?_⟩) ko
          refine chr_of_range hz0 (by omega) ⟨_, _, _, hs7.toks _, fun s8 hs8 => ⟨rfl, _, _, _, hs8, by walk_at "mlk", by walk_at "mlk", by walk_at "mlk", by walk_at "mlk"⟩⟩
        · rw [decide_eq_false hc, if_neg Bool.false_ne_true]
          have hs7 := hs6.toks (s6.toks + 1)
          refine wpAny_BinOp (nm he hs7 (by walk_at "mlk") (wpAny_Constant_int (add_int (args_nil ⟨(hs7.wd R).X, ?_⟩))) ko)
          refine chr_of_range (by omega) (by omega) ⟨_, _, _, hs7.toks _, fun s8 hs8 => ⟨rfl, _, _, _, hs8, by walk_at "mlk", by walk_at "mlk", by walk_at "mlk", by walk_at "mlk"⟩⟩
      · rw [decide_eq_false hb, if_neg Bool.false_ne_true]
        exact wpAny_execs_nil ⟨rfl, _, 120, _, hs4.toks _, by walk_at "mlk", by walk_at "mlk", by walk_at "mlk", by walk_at "mlk"⟩
    · rintro f s5 ⟨rfl, m5, c, t5, hs5, mw5, ml5, mp5, ms5⟩
      refine execs_one (wpAny_Expr (MethodCall_ (nm he hs5 mw5 (appE (a := p.L) (nss := []) R (hs5.at_ _ (.tail _ (.head _))).1 (by omega) (wpAny_BinOp (nm he hs5 ms5 (subT slot_str_getitem.lookup (wpAny_Constant_str (nm he (hs5.toks _) mp5 ⟨typeIs_str _ _ _, ?_⟩ kp))) ks))) kw)) hin rfl)
      have hs6 := hs5.toks (s5.toks + 1)
      refine getItem_str (c := 49 + i) ?_ ?_ (add_str (fun t7 tk7 => ?_) ?_)
      · have : i = 0 ∨ i = 1 ∨ i = 2 := by omega
        rcases this with h | h | h <;> rw [h] <;> decide
      · have : i = 0 ∨ i = 1 ∨ i = 2 := by omega
        rcases this with h | h | h <;> rw [h] <;> decide +kernel
      · refine ⟨_, [(I, rgO 3 (i + 1))], _, _, hs6.toks _, .tail _ (.head _), fun q hq => ?_, fun s8 k8 hs8 => ⟨rfl, _, [(Wd, listO (vs ++ [Value.str (⟨#[c]⟩ ++ ⟨#[49 + i]⟩) t7]).toArray k8)], hs8.sub fun q hq => ?_, _, k8, ws ++ [⟨#[c, 49 + i]⟩], mw5, ml5, rfl, ?_, ?_, ?_⟩⟩
        · rcases List.mem_cons.mp hq with rfl | hq
          · exact ⟨.head _, fun z => hWI z.symm⟩
          · cases hq
        · rcases List.mem_cons.mp hq with rfl | hq
          · exact .tail _ (.head _)
          rcases List.mem_cons.mp hq with rfl | hq
          · exact .head _
          · cases hq
        · have e2 : (⟨#[c]⟩ : PySem.Str) ++ ⟨#[49 + i]⟩ = ⟨#[c, 49 + i]⟩ := PyProof.Rows.str_of_list rfl
          rw [← List.append_assoc]
          refine StrsAre.append' hst ?_
          rw [e2]
          exact .cons _ _ .nil
        · rw [List.length_append, hlen]; rfl
        · intro j z hz
          rcases Nat.lt_trichotomy j ws.length with h | h | h
          · exact hsg j z (by rwa [List.getElem?_append_left h] at hz)
          · subst h
            rw [List.getElem?_append_right (Nat.le_refl _), Nat.sub_self] at hz
            exact ⟨c, by rw [hlen]; exact (Option.some.inj hz).symm⟩
          · rw [List.getElem?_eq_none (by rw [List.length_append, List.length_singleton]; omega)] at hz; cases hz
      · rw [sizeLine_eq]; show 1 + 1 ≤ _; decide
  · rintro m ext s ⟨vs, k, ws, mw, ml, rfl, hst, hlen, hsg⟩ hs
    have aW := (hs.at_ _ (.head _)).1
    have hvl := StrsAre.length hst
    rw [List.length_append, hlen] at hvl
    refine execs_one (wpAny_Return_some (cB R he hs glob_sorted (by boot_by_name) keeper_sorted ((hk _).trans rfl) (args_cons (nm he hs mw (args_nil ⟨(hs.wd R).X, ?_⟩) kw))))
    refine srt R hs ⟨_, aW, rfl, _, rfl⟩ hst (by rw [hvl]; decide) fun s' S vs' ss' e hs' z' hS' hp hso => ?_
    have a' := hs'.at_ _ (.head _)
    exact h s' _ hs'.mv ⟨S, vs', e, ss', ws, rfl, a'.2.1, a'.1, hS', hp, hlen, hsg, hso⟩
  · rintro i m ext ⟨vs, k, ws, mw, ml, rfl, hst, hlen, hsg⟩ q hq
    rcases List.mem_cons.mp hq with rfl | hq
    · intro hm
      rcases List.mem_cons.mp hm with z | hm
      · exact hWI z
      · cases hm
    · cases hq
  · exact .cons _ _ (.cons _ _ (.cons _ _ (.cons _ _ .nil)))
  · intro j z hz; simp at hz
end Mine
end

section
open PySem PySem.W PyProof.Rows PySem.Calls PySem.Spec
namespace Mine
/-! ## Names in cells -/
theorem relab {env : Env} : ∀ (names : List (PySem.Str × NameKind)) (x : PySem.Str), (names.map fun (n, k) => if (k == NameKind.free && env.scope.kind == .function && env.kindOf n == some .cell) then (n, NameKind.cell) else (n, k)).lookup x = (names.lookup x).map fun k => if (k == NameKind.free && env.scope.kind == .function && env.kindOf x == some .cell) then NameKind.cell else k
  | [], _ => rfl
  | (n, k) :: r, x => by
    have ih := relab (env := env) r x
    show List.lookup x ((if (k == NameKind.free && env.scope.kind == .function && env.kindOf n == some .cell) = true then (n, NameKind.cell) else (n, k)) :: _) = _
    by_cases hx : x = n
    · subst hx
      have e1 : ((x, k) :: r).lookup x = some k := by simp [List.lookup_cons]
      rw [e1]
      by_cases hc : (k == NameKind.free && env.scope.kind == .function && env.kindOf x == some .cell) = true
      · rw [if_pos hc, Option.map_some, if_pos hc]; simp [List.lookup_cons]
      · rw [if_neg hc, Option.map_some, if_neg hc]; simp [List.lookup_cons]
    · have hb : (x == n) = false := beq_eq_false_iff_ne.mpr hx
      have e1 : ((n, k) :: r).lookup x = r.lookup x := by rw [List.lookup_cons]; simp only [hb]
      rw [e1]
      by_cases hc : (k == NameKind.free && env.scope.kind == .function && env.kindOf n == some .cell) = true
      · rw [if_pos hc, List.lookup_cons]; simp only [hb]; exact ih
      · rw [if_neg hc, List.lookup_cons]; simp only [hb]; exact ih
section
variable {w : World} {mg mb : PySem.Str → Option Value} {A A₀ : Around} {p : FP2} {nss : Nss} {news : List (Addr × Obj)} {s : Shared} {env : Env} {a c : Addr} {m : PySem.Str → Option Value} {q1 q2 q3 q4 : Pos} {x : PySem.Str} {v : Value} {scope : Scope} {cl : List (PySem.Str × Addr)} {C : Addr} {k : NameKind}
theorem kC (h : scope.names.lookup x = some k) (hk : (k == NameKind.free) = false) : (compEnvC scope cl C env).kindOf x = some k := by
  show ((relabel scope env).names).lookup x = _
  unfold relabel
  rw [relab, h]
  have : k ≠ .free := by simpa using hk
  simp [this]
theorem kF (h : scope.names.lookup x = some .free) (hf : env.scope.kind = .function) (hx : env.kindOf x = some .cell) : (compEnvC scope cl C env).kindOf x = some .cell := by
  show ((relabel scope env).names).lookup x = _
  unfold relabel
  rw [relab, h]
  simp [hf, hx]
/-- a name in a cell -/
theorem nmC {Q E : Value → Shared → Prop} (he : En env a p.L) (hs : FS p nss news s) {oc : Obj} (hc : (c, oc) ∈ news) (hd : oc.data = .cell (some v)) (hl : env.cells.lookup x = some c) (kx : env.kindOf x = some .cell) (h : Q v s) (hx : (x == PySem.Str.ofString "__debug__") = false := by decide) : wpAny (model pw w) A (eval (.Name x q1) env) Q E s :=
  wpAny_Name (wpAny_loadName_cell he.kf kx hl ⟨oc, (hs.at_ _ hc).1, hd⟩ h) hx
theorem stC {Q : Unit → Shared → Prop} {E : Value → Shared → Prop} {news' : List (Addr × Obj)} (R : Fk2 w mg mb A₀ p) (he : En env a p.L) (hs : FS p nss news s) {oc : Obj} {v₀ : Option Value} (hc : (c, oc) ∈ news) (hd : oc.data = .cell v₀) (hl : env.cells.lookup x = some c) (kx : env.kindOf x = some .cell) (hn : ∀ q ∈ news', q ∈ news ∧ q.1 ≠ c)
    (h : ∀ s' oc', oc'.data = .cell (some v) → FS p nss ((c, oc') :: news') s' → Q () s') : wpAny (model pw w) A (storeName env x v) Q E s :=
  wpAny_storeName_cell he.kf kx hl ⟨oc, (hs.at_ _ hc).1, hd⟩ fun h' ⟨oc', e, d⟩ k => h _ oc' d (hs.chg R hc (fun b o hb eb => (k.2 b fun z => hb (z ▸ .head _)).trans eb) e news' hn)
end
/-- into a def with one cell -/
theorem enterC {w : World} {A : Around} {s : Shared} {R : Result → Shared → Prop} {name qual : PySem.Str} {params : Arguments} {body : List Stmt} {scope : Scope} {dV kV doc pm cdv ct oc : Value} {an od : Option Addr} {osl : Array (Option Value)} {f : Addr} {vals : List Value} {binds : List (PySem.Str × Value)} {mg mb : PySem.Str → Option Value} {outer : List Env} {cx : PySem.Str}
    (W : Wd w mg mb s) (hF : Fs A outer s.heap) (ho : (K w.params).lookup f = some ⟨oc, od, .func (fnOf name qual params body scope dV kV doc pm an cdv ct), osl⟩) (hcd : codeIn (K w.params) cdv qual = true) (hroom : A.depth < recursionLimit)
    (hbind : bindArgs (fnOf name qual params body scope dV kV doc pm an cdv ct) ⟨vals, []⟩ = pure binds) (hloc : ∀ y ∈ binds, scope.names.lookup y.1 = some .local) (hcs : ∀ n, cellsFrom n scope.names [] = [(cx, n)])
    (h : ∀ (p : FP2) s₁ oc, p.s0 = s → p.outer = outer → Fk2 w mg mb A p → oc.data = .cell none → FS p [(p.L, bindL (callEnvC (fnOf name qual params body scope dV kV doc pm an cdv ct) p.L f).kindOf binds fun _ => none)] [(p.L + 1, oc)] s₁ →
      wpAny (model pw w) (A.deeper (callEnvC (fnOf name qual params body scope dV kV doc pm an cdv ct) p.L f)) (execs body (callEnvC (fnOf name qual params body scope dV kV doc pm an cdv ct) p.L f)) (fun fl s' => R (.ok (.ret (match fl with | .ret v => v | _ => .none))) s') (fun _ _ => False) s₁)
    (hco : scope.isCoroutine = false) (hgen : scope.isGenerator = false) (hk : scope.kind = .function) : codeAny (model pw w) A (.call (.ref f) ⟨vals, []⟩) R s := by
  have h0 := get_top s.heap
  refine codeAny_call_cells (fd := fnOf name qual params body scope dV kV doc pm an cdv ct) (body := body) (binds := binds) hroom (W.X _ _ ho) rfl W.T.nolimit (codeRec_of W.X hcd) rfl hbind rfl (fun y hy => .inl (hloc y hy)) (fun s₁ hc => ?_) hco hgen hk
  obtain ⟨⟨⟨h₁, tk, rfl⟩, hns, hkeep, _⟩, hcell, _, _⟩ := hc
  have e1 : (callEnvC (fnOf name qual params body scope dV kV doc pm an cdv ct) s.heap.objs.size f).cells = [(cx, s.heap.objs.size + 1)] := hcs _
  have bc : ∀ (l : List (PySem.Str × Value)) (cm : PySem.Str → Option Value), (∀ y ∈ l, scope.names.lookup y.1 = some .local) → bindC (callEnvC (fnOf name qual params body scope dV kV doc pm an cdv ct) s.heap.objs.size f).kindOf l cm = cm := fun l => by
    induction l with
    | nil => intro cm _; rfl
    | cons y r ih => intro cm hl; obtain ⟨n, v⟩ := y; have e3 : (callEnvC (fnOf name qual params body scope dV kV doc pm an cdv ct) s.heap.objs.size f).kindOf n = some .local := hl _ (.head _); show bindC _ r _ = cm; rw [if_pos e3]; exact ih cm fun z hz => hl z (.tail _ hz)
  obtain ⟨oc, eo, ed⟩ := hcell cx (s.heap.objs.size + 1) (by rw [e1]; simp [List.lookup_cons])
  rw [bc _ _ hloc] at ed
  refine wpAny_mono (h ⟨s, s.heap.objs.size, outer⟩ _ oc rfl rfl ⟨W, hF, h0, W.lo, Nat.le_refl _⟩ ed ⟨.of (frs_lo hF) (fun b o _ e => hkeep b o e) (.of_kp fun b _ o e => hkeep b o e), fun q hq => ?_, by simp, .head _, fun q hq => ?_⟩) (fun _ _ x => x) fun _ _ x => x.elim
  · rcases List.mem_cons.mp hq with rfl | hq
    · exact ⟨hns, h0⟩
    · cases hq
  · rcases List.mem_cons.mp hq with rfl | hq
    · refine ⟨eo, Heap.get?_none_of_le (Nat.le_succ _), fun hm => ?_⟩
      rcases List.mem_cons.mp hm with z | hm
      · exact absurd z (Nat.succ_ne_self _)
      · cases hm
    · cases hq
theorem EnC.of {fd : FuncData} (L f : Addr) (kf : fd.scope.kind = .function) (hg : fd.globals = mainGlobals) (hb : fd.builtins = builtinsNs) : En (callEnvC fd L f) L L := ⟨rfl, rfl, hg, hb, kf⟩
end Mine
end

section
open PySem PySem.W PyProof.Rows PySem.Calls PySem.Spec
namespace Mine
/-! ## _law_quoted -/
noncomputable def plainS : PySem.Str := PySem.Str.ofString "abcdefghijklmnopqrstuvwxyzABCDEFGHIJKLMNOPQRSTUVWXYZ0123456789_@%+=:,./-"
theorem plain_lo : plainS.cps.toList.all (fun c => decide (c < 128)) = true := by decide +kernel
theorem plain_256 : ∀ c < 256, decide (c ∈ plainS.cps.toList) = safeCp c := by decide +kernel
theorem plain_safe (c : Nat) : decide (c ∈ plainS.cps.toList) = safeCp c := by
  by_cases h : c < 256
  · exact plain_256 c h
  · have h1 : c ∉ plainS.cps.toList := fun hm => by have := of_decide_eq_true (List.all_eq_true.mp plain_lo c hm); omega
    rw [decide_eq_false h1]
    unfold safeCp inChars Sre.isWord Sre.isDigit
    simp only [decide_eq_false h, Bool.false_and, Bool.false_or]
    have a1 : ¬ c ≤ 57 := by omega
    have a2 : ¬ c ≤ 90 := by omega
    have a3 : ¬ c ≤ 122 := by omega
    have a4 : (c == 95) = false := by rw [beq_eq_false_iff_ne]; omega
    simp [a1, a2, a3, a4]
noncomputable def one (c : Nat) : PySem.Str := ⟨#[c]⟩
noncomputable def aposS : PySem.Str := PySem.Str.ofString "'\"'\"'"
theorem aposS_list : aposS.cps.toList = apos5 := by decide +kernel
theorem join_empty : ∀ ss : List PySem.Str, (PySem.Str.join (PySem.Str.ofString "") ss).cps.toList = (ss.map (·.cps.toList)).flatten
  | [] => rfl
  | [x] => by show x.cps.toList = _; simp
  | x :: y :: l => by
    have e : (PySem.Str.ofString "").cps.toList = [] := by decide +kernel
    show (x ++ PySem.Str.ofString "" ++ PySem.Str.join (PySem.Str.ofString "") (y :: l)).cps.toList = _
    rw [PyProof.Rows.cps_toList_append, PyProof.Rows.cps_toList_append, join_empty (y :: l), e]
    simp
/-- a sign as it stands between the quotes -/
noncomputable def sgn (c : Nat) : PySem.Str := if c = 39 then aposS else one c
theorem join_sgn (l : List Nat) : Txt.join (PySem.Str.ofString "") (l.map sgn) = ⟨(repl 39 apos5 l).toArray⟩ := by
  refine PyProof.Rows.str_of_list ?_
  show (Builtin.Str.glued (PySem.Str.ofString "") (l.map sgn)).cps.toList = _
  rw [StrLaws.glued_eq_join, join_empty]
  show _ = (repl 39 apos5 l).toArray.toList
  rw [List.map_map]
  unfold repl
  induction l with
  | nil => rfl
  | cons c r ih =>
    rw [List.map_cons, List.flatten_cons, ih, List.flatMap_cons]
    congr 1
    show (sgn c).cps.toList = _
    unfold sgn
    split
    · exact aposS_list
    · rfl
theorem repl5 (l : List Nat) : (repl 39 apos5 l).length ≤ 5 * l.length := by
  unfold repl
  induction l with
  | nil => exact Nat.le_refl _
  | cons c r ih =>
    rw [List.flatMap_cons, List.length_append, List.length_cons]
    have : (if c = 39 then apos5 else [c]).length ≤ 5 := by
      split
      · decide
      · show 1 ≤ 5; decide
    omega
theorem sgn5 (l : List Nat) : ((l.map sgn).map (·.length)).sum ≤ 5 * l.length := by
  induction l with
  | nil => exact Nat.le_refl _
  | cons c r ih =>
    rw [List.map_cons, List.map_cons, List.sum_cons, List.length_cons]
    have : (sgn c).length ≤ 5 := by
      unfold sgn
      split
      · decide +kernel
      · show 1 ≤ 5; decide
    omega
theorem quoted_sgn {x : PySem.Str} (h : x.cps.toList = [] ∨ x.cps.toList.all safeCp = false) : PySem.Str.ofString "'" ++ Txt.join (PySem.Str.ofString "") (x.cps.toList.map sgn) ++ PySem.Str.ofString "'" = quoted x := by
  have e : (PySem.Str.ofString "'").cps.toList = [39] := by decide +kernel
  refine PyProof.Rows.str_of_list ?_
  rw [PyProof.Rows.cps_toList_append, PyProof.Rows.cps_toList_append, join_sgn, e, quoted_list]
  unfold quotedL
  rcases h with h | h
  · rw [if_pos h, h]; rfl
  · have hne : x.cps.toList ≠ [] := fun z => by rw [z] at h; cases h
    rw [if_neg hne, h, if_neg Bool.false_ne_true]
    simp
theorem with_envC {P : Env → Prop} {e : Env} {a L : Addr} (hE : En e a L) (h : ∀ env, En env a L → (∀ x, env.kindOf x = e.kindOf x) → env.cells = e.cells → P env) : P e := h e hE (fun _ => rfl) rfl
theorem take_next {l : List Nat} {i : Nat} {c : Nat} (h : l[i]? = some c) : l.take (i + 1) = l.take i ++ [c] := by rw [List.take_add_one, h]; rfl
theorem FS.sep {p : FP2} {nss : Nss} {news : List (Addr × Obj)} {s : Shared} (hs : FS p nss news s) {D : Addr} (h : s.heap.get? D = none) : ∀ q ∈ news, q.1 ≠ D := fun q hq z => by
  have := (hs.at_ q hq).1
  rw [z, h] at this; cases this
set_option maxHeartbeats 4000000 in
theorem lq_spec {x : PySem.Str} {t : Tok} (hx : x.length < 1000) : Spec 827 [.str x t] 2 (fun _ _ => True) (fun _ v _ => ∃ t', v = .str (quoted x) t') := by
  intro w A mg mb outer s Q E W hh hd hu hF _ h
  refine wpAny_call ?_
  k_dflt (refine' enterC (cx := PySem.Str.ofString "plain") (binds := [(PySem.Str.ofString "word", .str x t)]) W hF ?k6 ?k7 ?k8 ?k9 ?kB ?kc ?_ ?c2 ?c3 ?c4; (case k6 => k_is); (case k7 => k_is); (case k8 => omega); (case k9 => exact rfl); (case kc => exact fun _ => rfl); (case kB => exact locs rfl); (case c2 => exact rfl); (case c3 => exact rfl); (case c4 => exact rfl); k_whole; rintro p s1 oc rfl rfl R hoc hs)
  obtain ⟨m, mw, hs⟩ : ∃ m : PySem.Str → Option Value, m (PySem.Str.ofString "word") = some (.str x t) ∧ FS p [(p.L, m)] [(p.L + 1, oc)] s1 := ⟨_, rfl, hs⟩
  refine with_envC (P := fun env => wpAny (model pw w) (A.deeper env) (execs _ env) _ _ _) (EnC.of p.L 827 rfl rfl rfl) fun env he hk hcl => ?_
  have hcl : env.cells = [(PySem.Str.ofString "plain", p.L + 1)] := hcl
  have lk : env.cells.lookup (PySem.Str.ofString "plain") = some (p.L + 1) := by rw [hcl]; rfl
  have kw := (hk (PySem.Str.ofString "word")).trans (rfl : _ = some NameKind.local)
  have kp := (hk (PySem.Str.ofString "plain")).trans (rfl : _ = some NameKind.cell)
  have hhd : (A.deeper env).handled = none := hh
  refine wpAny_execs_cons (wpAny_Assign_Name (wpAny_Constant_str (stC R he (news' := []) (hs.toks _) (.head _) hoc lk kp (fun q hq => by cases hq) fun s2 oc2 d2 hs2 => ?_)) rfl)
  have e0 : (PySem.Str.ofString "").cps.toList = [] := by decide +kernel
  refine wpAny_execs_cons (wpAny_mono (Q := fun f s' => (f = .ret (.str x t) ∧ (∃ news, FS p [(p.L, m)] news s') ∧ x.cps.toList ≠ [] ∧ x.cps.toList.all safeCp = true) ∨ (f = .next ∧ FS p [(p.L, m)] [(p.L + 1, oc2)] s' ∧ (x.cps.toList = [] ∨ x.cps.toList.all safeCp = false))) (wpAny_If ?_) ?_ fun _ _ e => e)
  · refine isTrue_and (wpAny_isTrue_Compare1 (nm he hs2 mw (wpAny_Constant_str (PySem.P.ne_str (wpAny_truthy_bool ?_))) kw) rfl)
    rw [e0]
    have hs3 := hs2.toks (s2.toks + 1)
    by_cases hx0 : x.cps.toList = []
    · have : (x.cps.toList != []) = false := by rw [hx0]; rfl
      rw [this, if_neg Bool.false_ne_true, if_neg Bool.false_ne_true]
      exact wpAny_execs_nil (.inr ⟨rfl, hs3, .inl hx0⟩)
    have hx1 : (x.cps.toList != []) = true := by simpa using hx0
    rw [hx1, if_pos rfl]
    refine isTrue_and (wpAny_isTrue_Compare1 (cmp R he (cl := [(PySem.Str.ofString "plain", p.L + 1)]) (by simp [closureFor, cellOf, lk]) (by decide) rfl (by decide) (nm he hs3 mw (iterS R hs3 fun s4 I ty o hty hc hd hs4 hI => ⟨I, _, _, fun D news' => ∃ ys k, news' = [(p.L + 1, oc2), (D, listO ys.toArray k)] ∧ StrsAre ys ((x.cps.toList.filter fun c => !safeCp c).map one), rfl, hs4, fun D C s5 hD hs5 kk he' => ?_, fun D news' s6 hs6 hfin => ?_⟩) kw)) rfl)
    · have sD := hs4.sep hD
      have sI := hs3.sep hI
      have kx : (compEnvC _ [(PySem.Str.ofString "plain", p.L + 1)] C env).kindOf (PySem.Str.ofString "sign") = some NameKind.local := kC (scope := { kind := .function, names := [(PySem.Str.ofString ".0", NameKind.local), (PySem.Str.ofString "sign", NameKind.local), (PySem.Str.ofString "plain", NameKind.free)], isGenerator := false, isCoroutine := false }) rfl rfl
      refine cmpGo (A := A.deeper env) (st := [(p.L + 1, oc2)]) (ads := [I]) (nss := [(p.L, m)]) R (src_str (A := A.deeper env) (z := x) (t := t) R he' hhd hty kx) (fun i ys ext => ext = [] ∧ StrsAre ys (((x.cps.toList.take i).filter fun c => !safeCp c).map one)) ?_ ?_ ?_ ?_ ?_ ?_ ?_
      · rintro i ys ext hi ⟨rfl, hst⟩
        have h1 := StrsAre.length hst
        have h2 := List.length_filter_le (fun c => !safeCp c) (x.cps.toList.take i)
        rw [List.length_map] at h1
        rw [List.length_take] at h2
        have : x.cps.toList.length = x.length := rfl
        omega
      · exact fun z => sD _ (.head _) (List.mem_singleton.mp z).symm
      · rintro q hq
        rcases List.mem_cons.mp hq with rfl | hq
        · exact ⟨sD _ (.tail _ (.head _)), fun z => sI _ (.head _) (List.mem_singleton.mp z)⟩
        · cases hq
      · rintro i ys ext ⟨rfl, _⟩ q hq; cases hq
      · rintro i its m1 m' ys k ext s E' hi _ ⟨rfl, hst⟩ ⟨v, ⟨c, u, hcx, rfl⟩, rfl⟩ hs6
        have hcl : x.cps.toList[i]? = some c := by rw [Array.getElem?_toList]; exact hcx
        have kq : (compEnvC { kind := .function, names := [(PySem.Str.ofString ".0", NameKind.local), (PySem.Str.ofString "sign", NameKind.local), (PySem.Str.ofString "plain", NameKind.free)], isGenerator := false, isCoroutine := false } [(PySem.Str.ofString "plain", p.L + 1)] C env).kindOf (PySem.Str.ofString "plain") = some NameKind.cell := kF rfl he.kf kp
        refine wpAny_tests_one (wpAny_isTrue_Compare1 (nm he' hs6 (if_pos rfl) (nmC he' hs6 (List.mem_append.mpr (.inr (.head _))) d2 rfl kq (notIn_str (wpAny_truthy_bool ?_))) kx) rfl)
        have e1 : (!(!(Builtin.Str.occurrences plainS ⟨#[c]⟩ 0 plainS.length 1).isEmpty)) = !safeCp c := by rw [StrLaws.found_one, plain_safe]
        show (if (!(!(Builtin.Str.occurrences plainS ⟨#[c]⟩ 0 plainS.length 1).isEmpty)) = true then _ else _)
        rw [e1, take_next hcl, List.filter_append, List.map_append]
        cases hsc : safeCp c
        · rw [if_pos (show (!false) = true from rfl)]
          refine nm he' hs6 (if_pos rfl) ⟨_, [], hs6, rfl, StrsAre.append' hst ?_⟩ kx
          rw [show [c].filter (fun c => !safeCp c) = [c] from by simp [hsc]]
          exact .cons _ _ .nil
        · rw [if_neg (show ¬ (!true) = true from Bool.false_ne_true)]
          refine ⟨_, [], hs6, rfl, ?_⟩
          rw [show [c].filter (fun c => !safeCp c) = [] from by simp [hsc]]
          simpa using hst
      · rintro m1 ys k ext s ⟨rfl, hst⟩ hs6
        refine ⟨_, _, _, rfl, hs6, ys, k, rfl, ?_⟩
        rwa [show x.cps.size = x.cps.toList.length from rfl, List.take_length] at hst
      · refine ⟨[(I, o)], _, [], 0, [], ⟨o, rfl, hc, hd⟩, hs5.sub fun q hq => ?_, rfl, .nil⟩
        rcases List.mem_cons.mp hq with rfl | hq
        · exact .tail _ (.head _)
        rcases List.mem_cons.mp hq with rfl | hq
        · exact .tail _ (.tail _ (.head _))
        rcases List.mem_cons.mp hq with rfl | hq
        · exact .head _
        cases hq
    · obtain ⟨ys, k, rfl, hst⟩ := hfin
      have hD := (hs6.at_ _ (.tail _ (.head _))).1
      refine wpAny_List (args_nil ⟨by rw [sizeLine_eq]; show 0 ≤ _; exact Nat.zero_le _, ?_⟩)
      have hs7 := hs6.new R (listO #[] 0) rfl (tk := s6.toks)
      have hE := (hs7.at_ _ (.head _)).1
      have hD7 := (hs7.at_ _ (.tail _ (.tail _ (.head _)))).1
      have hs8 := hs7.sub (news' := [(p.L + 1, oc2)]) fun q hq => by
        rcases List.mem_cons.mp hq with rfl | hq
        · exact .tail _ (.head _)
        cases hq
      have hlen := StrsAre.length hst
      rw [List.length_map] at hlen
      have hun : (A.deeper env).units < cLine := by rw [units_deeper]; omega
      cases ys with
      | nil =>
        refine SeqAt.eq_listAt (items := #[]) (items2 := #[]) (e := fun _ => true) ⟨_, hD7, rfl, _, rfl⟩ ⟨_, hE, rfl, _, rfl⟩ rfl hun (fun j h1 => absurd h1 (Nat.not_lt_zero _)) ?_
        refine wpAny_truthy_bool ?_
        show (if true = true then _ else _)
        rw [if_pos rfl]
        refine isTrue_and_nil ?_
        rw [if_pos rfl]
        refine execs_one (wpAny_Return_some (nm he hs8 mw ?_ kw))
        refine .inl ⟨rfl, ⟨_, hs8⟩, hx0, ?_⟩
        rw [List.all_eq_true]
        intro c hc'
        have h3 : x.cps.toList.filter (fun c => !safeCp c) = [] := List.eq_nil_of_length_eq_zero hlen.symm
        have := List.filter_eq_nil_iff.mp h3 c hc'
        simpa using this
      | cons y r =>
        refine SeqAt.eq_list_lengthsAt (items := (y :: r).toArray) (items2 := #[]) ⟨_, hD7, rfl, _, rfl⟩ ⟨_, hE, rfl, _, rfl⟩ rfl hun ?_
        refine wpAny_truthy_bool ?_
        rw [if_neg Bool.false_ne_true, if_neg Bool.false_ne_true]
        refine wpAny_execs_nil (.inr ⟨rfl, hs8, .inr ?_⟩)
        rw [← Bool.not_eq_true, List.all_eq_true]
        intro hall
        have h3 : x.cps.toList.filter (fun c => !safeCp c) = [] := List.filter_eq_nil_iff.mpr fun c hc' => by simp [hall c hc']
        rw [h3] at hlen
        cases hlen
  · rintro f s' (⟨rfl, ⟨news, f1⟩, hne, hall⟩ | ⟨rfl, hs9, hor⟩)
    · have h0 : 0 < x.cps.size := by
        cases hz : x.cps.toList with
        | nil => exact absurd hz hne
        | cons a l => have := congrArg List.length hz; simp at this; omega
      exact h s' _ f1.mv ⟨t, by rw [quoted_safe h0 hall]⟩
    · refine execs_one (wpAny_Return_some (wpAny_BinOp (wpAny_BinOp (wpAny_Constant_str ?_))))
      refine MethodCall_ (wpAny_Constant_str (GM.join (callWith_method1 (args_cons ?_))))
      have hsA := (hs9.toks (s'.toks + 1 + 1)).sub (news' := []) fun q hq => by cases hq
      refine cmp R he (cl := []) (by simp [closureFor]) (by decide) rfl (by decide) (nm he hsA mw (iterS R hsA fun s4 I ty o hty hc hd hs4 hI => ⟨I, _, _, fun D news' => ∃ ys k, news' = [(D, listO ys.toArray k)] ∧ StrsAre ys (x.cps.toList.map sgn), rfl, hs4, fun D C s5 hD hs5 kk he' => ?_, fun D news' s6 hs6 hfin => ?_⟩) kw)
      · have sD := hs4.sep hD
        have kx : (compEnvC { kind := .function, names := [(PySem.Str.ofString ".0", NameKind.local), (PySem.Str.ofString "sign", NameKind.local)], isGenerator := false, isCoroutine := false } [] C env).kindOf (PySem.Str.ofString "sign") = some NameKind.local := kC rfl rfl
        refine cmpGo (A := A.deeper env) (st := []) (ads := [I]) (nss := [(p.L, m)]) R (src_str (A := A.deeper env) (z := x) (t := t) R he' hhd hty kx) (fun i ys ext => ext = [] ∧ StrsAre ys ((x.cps.toList.take i).map sgn)) ?_ ?_ ?_ ?_ ?_ ?_ ?_
        · rintro i ys ext hi ⟨rfl, hst⟩
          have h1 := StrsAre.length hst
          rw [List.length_map, List.length_take] at h1
          have : x.cps.toList.length = x.length := rfl
          omega
        · exact fun z => sD _ (.head _) (List.mem_singleton.mp z).symm
        · intro q hq; cases hq
        · rintro i ys ext ⟨rfl, _⟩ q hq; cases hq
        · rintro i its m1 m' ys k ext s E' hi _ ⟨rfl, hst⟩ ⟨v, ⟨c, u, hcx, rfl⟩, rfl⟩ hs6
          have hcl : x.cps.toList[i]? = some c := by rw [Array.getElem?_toList]; exact hcx
          refine wpAny_tests_nil ?_
          rw [if_pos rfl]
          refine wpAny_IfExp (wpAny_isTrue_Compare1 (nm he' hs6 (if_pos rfl) (wpAny_Constant_str (PySem.P.eq_str (wpAny_truthy_bool ?_))) kx) rfl)
          have eq1 : (((⟨#[c]⟩ : PySem.Str).cps.toList == (PySem.Str.ofString "'").cps.toList) : Bool) = decide (c = 39) := by
            rw [show (PySem.Str.ofString "'").cps.toList = [39] by decide +kernel]
            show ([c] == [39]) = _
            by_cases hc9 : c = 39 <;> simp [hc9]
          rw [eq1, take_next hcl, List.map_append]
          have hs7 := hs6.toks (s.toks + 1)
          by_cases hc9 : c = 39
          · rw [decide_eq_true hc9, if_pos rfl]
            refine wpAny_Constant_str ⟨_, [], hs7.toks _, rfl, StrsAre.append' hst ?_⟩
            rw [show [c].map sgn = [aposS] by simp [sgn, hc9]]
            exact .cons _ _ .nil
          · rw [decide_eq_false hc9, if_neg Bool.false_ne_true]
            refine nm he' hs7 (if_pos rfl) ⟨_, [], hs7, rfl, StrsAre.append' hst ?_⟩ kx
            rw [show [c].map sgn = [one c] by simp [sgn, hc9]]
            exact .cons _ _ .nil
        · rintro m1 ys k ext s ⟨rfl, hst⟩ hs6
          refine ⟨_, _, _, rfl, hs6, ys, k, rfl, ?_⟩
          rwa [show x.cps.size = x.cps.toList.length from rfl, List.take_length] at hst
        · refine ⟨[(I, o)], _, [], 0, [], ⟨o, rfl, hc, hd⟩, hs5.sub fun q hq => ?_, rfl, .nil⟩
          rcases List.mem_cons.mp hq with rfl | hq
          · exact .tail _ (.head _)
          rcases List.mem_cons.mp hq with rfl | hq
          · exact .head _
          cases hq
      · obtain ⟨ys, k, rfl, hst⟩ := hfin
        have hD := (hs6.at_ _ (.head _)).1
        have l1 := sgn5 x.cps.toList
        have l2 := repl5 x.cps.toList
        have l3 : x.cps.toList.length = x.length := rfl
        refine args_nil ?_
        refine join_listW (items := ys.toArray) ⟨_, hD, rfl, _, rfl⟩ hst (by decide) (by rw [List.length_map]; omega) fun t7 k7 => ?_
        have lJ : (Txt.join (PySem.Str.ofString "") (x.cps.toList.map sgn)).length ≤ 5 * x.length := by rw [join_sgn]; exact l2
        refine add_str (fun t8 k8 => ?_) (by rw [sizeLine_eq, show (PySem.Str.ofString "'").length = 1 by decide +kernel]; omega)
        refine wpAny_Constant_str (add_str (fun t9 k9 => ?_) (by
          rw [sizeLine_eq, show (PySem.Str.ofString "'").length = 1 by decide +kernel]
          have : (PySem.Str.ofString "'" ++ Txt.join (PySem.Str.ofString "") (x.cps.toList.map sgn)).length = 1 + (Txt.join (PySem.Str.ofString "") (x.cps.toList.map sgn)).length := by
            show ((PySem.Str.ofString "'").cps ++ _).size = _
            rw [Array.size_append]; rfl
          omega))
        rw [quoted_sgn hor]
        exact h _ _ (hs6.toks k9).mv ⟨t9, rfl⟩
end Mine
end

section
open PySem PySem.W PyProof.Rows PySem.Calls PySem.Spec
namespace Mine
/-! ## _law_told -/
theorem glob_zip (P : Params) : nsIn (K P) mainGlobals (PySem.Str.ofString "zip") = some none := by kernel_rfl
theorem keeper_zip (P : Params) (S : Setting) : peek (K P) S (keeperOf (.type "zip")) = some .machine := by kernel_rfl
theorem glob_quoted (P : Params) : nsIn (K P) mainGlobals (PySem.Str.ofString "_law_quoted") = some (some (.ref 827)) := by kernel_rfl
theorem keep827 (P : Params) : keepIn (K P) (.ref 827) = true := by kernel_rfl
theorem int_at : ∀ {vs : List Value} {ns : List Int}, IntsAre vs ns → ∀ (i : Nat) v, vs[i]? = some v → ∃ z t, ns[i]? = some z ∧ v = .int z t
  | _, _, .nil, _, _, h => by simp at h
  | _, _, .cons n t _, 0, v, h => ⟨n, t, rfl, (Option.some.inj h).symm⟩
  | _, _, .cons _ _ r, i + 1, v, h => int_at r i v h
/-- the words whose bit is one -/
noncomputable def pk (l : List (PySem.Str × Int)) : List PySem.Str := (l.filter (·.2 == 1)).map (·.1)
theorem pk_next {l : List (PySem.Str × Int)} {i : Nat} {x : PySem.Str} {b : Int} (h : l[i]? = some (x, b)) : pk (l.take (i + 1)) = pk (l.take i) ++ if b == 1 then [x] else [] := by
  unfold pk
  rw [List.take_add_one, h, List.filter_append, List.map_append]
  congr 1
  by_cases hb : (b == 1) = true <;> simp [hb]
theorem pk_len (l : List (PySem.Str × Int)) : (pk l).length ≤ l.length := by unfold pk; rw [List.length_map]; exact List.length_filter_le _ _
theorem zip_at {ws : List PySem.Str} {bs : List Int} {i : Nat} {x : PySem.Str} {b : Int} (h1 : ws[i]? = some x) (h2 : bs[i]? = some b) : (ws.zip bs)[i]? = some (x, b) := List.getElem?_zip_eq_some.mpr ⟨h1, h2⟩
theorem ItZ.ads {z TI TO i1 i2 l1 l2 : Addr} {i : Nat} {its : List (Addr × Obj)} (h : ItZ z TI TO i1 i2 l1 l2 i its) : its.map (·.1) = [z, TI, TO, i1, i2] := by
  obtain ⟨a, b, o1, o2, rfl, _⟩ := h; rfl
theorem iterZ {w : World} {A : Around} {p : FP2} {nss : Nss} {news its : List (Addr × Obj)} {s : Shared} {z TI TO i1 i2 l1 l2 : Addr} {i : Nat} {Q E : Value → Shared → Prop} (h : ItZ z TI TO i1 i2 l1 l2 i its) (hs : FS p nss (its ++ news) s) (hq : Q (.ref z) s) : wpAny (model pw w) A (pyIter (.ref z)) Q E s := by
  obtain ⟨a, b, o1, o2, rfl, _⟩ := h
  exact wpAny_pyIter_zip (hs.at_ _ (.head _)).1 hq
theorem ItZ.sep {p : FP2} {nss : Nss} {news its : List (Addr × Obj)} {s : Shared} {z TI TO i1 i2 l1 l2 D : Addr} {i : Nat} (h : ItZ z TI TO i1 i2 l1 l2 i its) (hs : FS p nss (its ++ news) s) (hD : s.heap.get? D = none) : D ∉ [z, TI, TO, i1, i2] := fun hm => by
  rw [← h.ads] at hm
  obtain ⟨q, hq, e⟩ := List.mem_map.mp hm
  exact hs.sep hD q (List.mem_append.mpr (.inl hq)) e
/-- a list of bits, out of the reach of what a call may change -/
noncomputable def BsP (l : Addr) (bs : List Int) (fr : List Addr) (h : Heap) : Prop := (∃ vs n, h.get? l = some (listO vs.toArray n) ∧ IntsAre vs bs) ∧ l ∉ 795 :: fr
set_option maxHeartbeats 4000000 in
theorem lt_spec {lw lb : Addr} {ws : List PySem.Str} {bs : List Int} (hw : Wordy ws) (hl : bs.length = ws.length) : Spec 832 [.ref lw, .ref lb] 5 (fun fr h => LsP lw ws fr h ∧ BsP lb bs fr h) (fun _ v _ => ∃ t, v = .str (lineOf (pk (ws.zip bs))) t) := by
  intro w A mg mb outer s Q E W hh hd hu hF ⟨⟨⟨vw, kw, hw1, hw2⟩, hw3⟩, ⟨⟨vb, kb, hb1, hb2⟩, hb3⟩⟩ h
  refine wpAny_call ?_
  k_dflt (refine' enterG (binds := [(PySem.Str.ofString "words", .ref lw), (PySem.Str.ofString "bits", .ref lb)]) W hF ?k6 ?k7 ?k8 ?k9 ?kB ?_ ?c2 ?c3 ?c4 ?c5; (case k6 => k_is); (case k7 => k_is); (case k8 => omega); (case k9 => exact BindsTo.of_eq rfl); (case c5 => decide); (case kB => exact locs rfl); (case c2 => exact rfl); (case c3 => exact rfl); (case c4 => exact rfl); k_whole; rintro p s1 rfl rfl R hs)
  refine with_env (P := fun env => wpAny (model pw w) (A.deeper env) (execs _ env) _ _ _) (En.of _ p.L 832 _ rfl) fun env he hk => ?_
  obtain ⟨m, mw, mb', hs⟩ : ∃ m : PySem.Str → Option Value, m (PySem.Str.ofString "words") = some (.ref lw) ∧ m (PySem.Str.ofString "bits") = some (.ref lb) ∧ FS p [(p.L, m)] [] s1 := ⟨_, rfl, rfl, hs⟩
  have ar : Ar (A.deeper env) p 4 := .of hh hF hd hu (by decide) he.frame he.kf
  have hhd : (A.deeper env).handled = none := hh
  have lw1 := StrsAre.length hw2
  have lb1 := IntsAre.length hb2
  refine execs_one (wpAny_Return_some (MethodCall_ (wpAny_Constant_str (GM.join (callWith_method1 (args_cons ?_))))))
  have hs2 := hs.toks (s1.toks + 1)
  refine cmp R he (cl := []) (by simp [closureFor]) (by decide) rfl (by decide) (cB R he hs2 glob_zip (by boot_by_name) keeper_zip ((hk _).trans rfl) (args_cons (nm he hs2 mw (args_cons (nm he hs2 mb' (args_nil ⟨(hs2.wd R).X, zipN R hs2 (hs2.old hw3 hw1) (hs2.old hb3 hb1) fun s4 z TI TO i1 i2 its dz hIt hs4 fz kz => ?_⟩) ((hk _).trans rfl))) ((hk _).trans rfl))))
  refine iterZ hIt hs4 ?_
  refine ⟨z, _, _, fun D news' => ∃ ys k, news' = [(D, listO ys.toArray k)] ∧ StrsAre ys ((pk (ws.zip bs)).map quoted), rfl, hs4, fun D C s5 hD hs5 kk he' => ?_, fun D news' s6 hs6 hfin => ?_⟩
  · have kx : (compEnvC { kind := .function, names := [(PySem.Str.ofString ".0", NameKind.local), (PySem.Str.ofString "word", NameKind.local), (PySem.Str.ofString "bit", NameKind.local), (PySem.Str.ofString "_law_quoted", NameKind.globalImplicit)], isGenerator := false, isCoroutine := false } [] C env).kindOf (PySem.Str.ofString "word") = some NameKind.local := kC rfl rfl
    have ky : (compEnvC { kind := .function, names := [(PySem.Str.ofString ".0", NameKind.local), (PySem.Str.ofString "word", NameKind.local), (PySem.Str.ofString "bit", NameKind.local), (PySem.Str.ofString "_law_quoted", NameKind.globalImplicit)], isGenerator := false, isCoroutine := false } [] C env).kindOf (PySem.Str.ofString "bit") = some NameKind.local := kC rfl rfl
    have kq : (compEnvC { kind := .function, names := [(PySem.Str.ofString ".0", NameKind.local), (PySem.Str.ofString "word", NameKind.local), (PySem.Str.ofString "bit", NameKind.local), (PySem.Str.ofString "_law_quoted", NameKind.globalImplicit)], isGenerator := false, isCoroutine := false } [] C env).kindOf (PySem.Str.ofString "_law_quoted") = some NameKind.globalImplicit := kC rfl rfl
    refine cmpGo (A := A.deeper env) (st := []) (ads := [z, TI, TO, i1, i2]) (nss := [(p.L, m)]) R (src_zip (A := A.deeper env) (st := []) (n := ws.length) R he' hhd dz (Has.old hw1 hw3) (Has.old hb1 hb3) kx ky (by omega) (by omega)) (fun i ys ext => ext = [] ∧ StrsAre ys ((pk ((ws.zip bs).take i)).map quoted)) ?_ (hIt.sep hs4 hD) (fun q hq => by cases hq) ?_ ?_ ?_ ?_
    · rintro i ys ext hi ⟨rfl, hst⟩
      have h1 := StrsAre.length hst
      have h2 := pk_len ((ws.zip bs).take i)
      rw [List.length_map] at h1
      rw [List.length_take] at h2
      have := hw.n
      omega
    · rintro i ys ext ⟨rfl, _⟩ q hq; cases hq
    · rintro i its' m1 m' ys k ext s E' hi _ ⟨rfl, hst⟩ ⟨va, vb', e1, e2, rfl⟩ hs6
      obtain ⟨x, tx, hx, rfl⟩ := strsAre_at hw2 i va e1
      obtain ⟨b, tb, hb, rfl⟩ := int_at hb2 i vb' e2
      have hz := zip_at hx hb
      refine wpAny_tests_one (wpAny_isTrue_Compare1 (nm he' hs6 (if_pos rfl) (wpAny_Constant_int (eq_int (wpAny_truthy_bool ?_))) ky) rfl)
      have hs7 := hs6.toks (s.toks + 1)
      rw [pk_next hz, List.map_append]
      cases hb1 : b == 1
      · rw [if_neg Bool.false_ne_true, if_neg Bool.false_ne_true]
        exact ⟨_, [], hs7, rfl, by simpa using hst⟩
      · rw [if_pos rfl, if_pos rfl]
        refine cG R he' hs7 glob_quoted keep827 kq (args_cons (nm he' hs7 ((if_neg (by decide)).trans (if_pos rfl)) (args_nil ⟨(hs7.wd R).X, ?_⟩) kx))
        refine sp (lq_spec (Nat.lt_trans (hw.z x (List.mem_of_getElem? hx)) (by decide))) R (ar.le (by decide)) hs7 trivial ?_
        rintro s8 _ hs8 k8 ⟨t8, rfl⟩
        exact ⟨_, [], hs8, rfl, StrsAre.append' hst (.cons _ _ .nil)⟩
    · rintro m1 ys k ext s ⟨rfl, hst⟩ hs6
      refine ⟨_, _, _, rfl, hs6, ys, k, rfl, ?_⟩
      rwa [List.take_of_length_le (by rw [List.length_zip]; omega)] at hst
    · refine ⟨its, _, [], 0, [], hIt, hs5.sub fun q hq => ?_, rfl, ?_⟩
      · rcases List.mem_append.mp hq with hq | hq
        · exact .tail _ (List.mem_append.mpr (.inl hq))
        rcases List.mem_cons.mp hq with rfl | hq
        · exact .head _
        cases hq
      · rw [List.take_zero]; exact .nil
  · obtain ⟨ys, k, rfl, hst⟩ := hfin
    have hD := (hs6.at_ _ (.head _)).1
    refine args_nil ?_
    have hpl := pk_len (ws.zip bs)
    rw [List.length_zip] at hpl
    have hwn := hw.n
    refine join_listW (items := ys.toArray) ⟨_, hD, rfl, _, rfl⟩ hst (by decide) ?_ fun t7 k7 => ?_
    · have : ∀ l : List PySem.Str, (∀ x ∈ l, x.length < 100) → ((l.map quoted).map (·.length)).sum ≤ 603 * l.length := fun l => by
        induction l with
        | nil => intro _; exact Nat.le_refl _
        | cons x r ih =>
          intro hz
          have h1 := ih fun y hy => hz y (.tail _ hy)
          have h2 := quoted_len x
          have h3 := hz x (.head _)
          rw [List.map_cons, List.map_cons, List.sum_cons, List.length_cons]
          omega
      have h5 := this (pk (ws.zip bs)) fun x hx => by
        obtain ⟨q, hq, rfl⟩ := List.mem_map.mp hx
        exact hw.z _ (List.of_mem_zip (List.mem_filter.mp hq).1).1
      rw [List.length_map]
      omega
    · rw [join_text]
      exact h _ _ (hs6.toks k7).mv ⟨t7, rfl⟩
end Mine
end

section
open PySem PySem.W PyProof.Rows PySem.Calls PySem.Spec
namespace Mine
/-! ## The plain law: rows of bits over a sorted list of distinct words -/
theorem below_irrefl (x : PySem.Str) : below x x = false := decide_eq_false (List.lt_irrefl _)
theorem below_trans {x y z : PySem.Str} (h1 : below x y = true) (h2 : below y z = true) : below x z = true := decide_eq_true (List.lt_trans (of_decide_eq_true h1) (of_decide_eq_true h2))
theorem below_asymm {x y : PySem.Str} (h1 : below x y = true) : below y x = false := by
  cases h : below y x
  · rfl
  · have := below_trans h1 h; rw [below_irrefl] at this; cases this
theorem below_eq {x y : PySem.Str} (h1 : below x y = false) (h2 : below y x = false) : x = y :=
  PyProof.Rows.str_of_list (List.le_antisymm (of_decide_eq_false h2) (of_decide_eq_false h1))
noncomputable abbrev Rising (l : List PySem.Str) : Prop := l.Pairwise fun x y => below x y = true
theorem Rising.nodup {l : List PySem.Str} (h : Rising l) : l.Nodup := List.Pairwise.imp (fun hb z => by rw [z, below_irrefl] at hb; cases hb) h
theorem risingS_le : ∀ (l : List PySem.Str) (p : PySem.Str), risingS p l = true → (∀ x ∈ l, below x p = false) ∧ l.Pairwise fun x y => below y x = false
  | [], p, _ => ⟨fun x hx => (by cases hx), .nil⟩
  | x :: r, p, h => by
    have h' : (!ltCps x.cps.toList p.cps.toList && risingS x r) = true := h
    obtain ⟨a, b⟩ := Bool.and_eq_true_iff.mp h'
    obtain ⟨c, d⟩ := risingS_le r x b
    have e : below x p = false := by
      show decide (x.cps.toList < p.cps.toList) = false
      rw [← ltCps_eq]; simpa using a
    refine ⟨fun y hy => ?_, .cons (fun y hy => c y hy) d⟩
    rcases List.mem_cons.mp hy with rfl | hy
    · exact e
    · cases hb : below y p
      · rfl
      · -- y < p ≤ x ≤ y
        have hc := c y hy
        cases hxy : below x y
        · have := below_eq hxy hc; subst this; rw [e] at hb; cases hb
        · have := below_trans hxy hb; rw [e] at this; cases this
theorem rising_of {l : List PySem.Str} (h : sortedS l = true) (hn : l.Nodup) : Rising l := by
  have h1 : l.Pairwise fun x y => below y x = false := by
    cases l with
    | nil => exact .nil
    | cons x r => obtain ⟨c, d⟩ := risingS_le r x h; exact .cons c d
  refine List.Pairwise.imp (R := fun x y => below y x = false ∧ x ≠ y) (fun ⟨a, b⟩ => ?_) (List.pairwise_and_iff.mpr ⟨h1, hn⟩)
  cases h2 : below _ _
  · exact absurd (below_eq h2 a) b
  · rfl
theorem rising_ext : ∀ {l l' : List PySem.Str}, Rising l → Rising l' → (∀ x, x ∈ l ↔ x ∈ l') → l = l'
  | [], [], _, _, _ => rfl
  | [], y :: r, _, _, h => absurd ((h y).mpr (.head _)) (by simp)
  | x :: r, [], _, _, h => absurd ((h x).mp (.head _)) (by simp)
  | x :: r, y :: r', h1, h2, h => by
    obtain ⟨a1, a2⟩ := List.pairwise_cons.mp h1
    obtain ⟨b1, b2⟩ := List.pairwise_cons.mp h2
    have e : x = y := by
      rcases List.mem_cons.mp ((h x).mp (.head _)) with z | z
      · exact z
      rcases List.mem_cons.mp ((h y).mpr (.head _)) with z' | z'
      · exact z'.symm
      have := below_asymm (b1 x z); rw [a1 y z'] at this; cases this
    subst e
    have : r = r' := rising_ext a2 b2 fun v => ⟨fun hv => by
      rcases List.mem_cons.mp ((h v).mp (.tail _ hv)) with rfl | z
      · have := a1 v hv; rw [below_irrefl] at this; cases this
      · exact z, fun hv => by
      rcases List.mem_cons.mp ((h v).mpr (.tail _ hv)) with rfl | z
      · have := b1 v hv; rw [below_irrefl] at this; cases this
      · exact z⟩
    rw [this]
theorem dif_mem {xs ys : List PySem.Str} : Rising xs → Rising ys → (∀ v, v ∈ (dif xs ys).1 ↔ v ∈ xs ∧ v ∉ ys) ∧ ∀ v, v ∈ (dif xs ys).2 ↔ v ∈ ys ∧ v ∉ xs := by
  refine dif_ind (P := fun xs ys => Rising xs → Rising ys → (∀ v, v ∈ (dif xs ys).1 ↔ v ∈ xs ∧ v ∉ ys) ∧ ∀ v, v ∈ (dif xs ys).2 ↔ v ∈ ys ∧ v ∉ xs) (fun ys _ _ => ?_) (fun xs _ _ => ?_) (fun x xs y ys r1 r2 r3 h1 h2 => ?_) xs ys
  · rw [dif_nil]; exact ⟨fun v => by simp, fun v => by simp⟩
  · rw [dif_none]; exact ⟨fun v => by simp, fun v => by simp⟩
  · obtain ⟨a1, a2⟩ := List.pairwise_cons.mp h1
    obtain ⟨b1, b2⟩ := List.pairwise_cons.mp h2
    rw [dif_cons]
    cases hxy : below x y with
    | true =>
      rw [if_pos rfl]
      obtain ⟨p, q⟩ := r1 a2 h2
      have hx : x ∉ y :: ys := fun hm => by
        rcases List.mem_cons.mp hm with z | z
        · rw [z, below_irrefl] at hxy; cases hxy
        · have := below_asymm hxy; rw [b1 x z] at this; cases this
      refine ⟨fun v => ?_, fun v => ?_⟩
      · rw [List.mem_cons, p v, List.mem_cons (a := v) (b := x)]
        refine ⟨fun h => h.elim (fun z => ⟨.inl z, z ▸ hx⟩) fun ⟨z, t⟩ => ⟨.inr z, t⟩, fun ⟨h, t⟩ => h.elim .inl fun z => .inr ⟨z, t⟩⟩
      · rw [q v]
        refine ⟨fun ⟨z, t⟩ => ⟨z, fun hm => ?_⟩, fun ⟨z, t⟩ => ⟨z, fun hm => t (.tail _ hm)⟩⟩
        rcases List.mem_cons.mp hm with rfl | hm
        · exact hx z
        · exact t hm
    | false =>
      rw [if_neg Bool.false_ne_true]
      cases hyx : below y x with
      | true =>
        rw [if_pos rfl]
        obtain ⟨p, q⟩ := r2 h1 b2
        have hy : y ∉ x :: xs := fun hm => by
          rcases List.mem_cons.mp hm with z | z
          · rw [z, below_irrefl] at hyx; cases hyx
          · have := below_asymm hyx; rw [a1 y z] at this; cases this
        refine ⟨fun v => ?_, fun v => ?_⟩
        · rw [p v]
          refine ⟨fun ⟨z, t⟩ => ⟨z, fun hm => ?_⟩, fun ⟨z, t⟩ => ⟨z, fun hm => t (.tail _ hm)⟩⟩
          rcases List.mem_cons.mp hm with rfl | hm
          · exact hy z
          · exact t hm
        · rw [List.mem_cons, q v, List.mem_cons (a := v) (b := y)]
          exact ⟨fun h => h.elim (fun z => ⟨.inl z, z ▸ hy⟩) fun ⟨z, t⟩ => ⟨.inr z, t⟩, fun ⟨h, t⟩ => h.elim .inl fun z => .inr ⟨z, t⟩⟩
      | false =>
        rw [if_neg Bool.false_ne_true]
        have e := below_eq hxy hyx
        subst e
        obtain ⟨p, q⟩ := r3 a2 b2
        have n1 : x ∉ xs := fun hm => by have := a1 x hm; rw [below_irrefl] at this; cases this
        have n2 : x ∉ ys := fun hm => by have := b1 x hm; rw [below_irrefl] at this; cases this
        refine ⟨fun v => ?_, fun v => ?_⟩
        · rw [p v, List.mem_cons, List.mem_cons]
          exact ⟨fun ⟨z, t⟩ => ⟨.inr z, fun hm => hm.elim (fun w => n1 (w ▸ z)) t⟩, fun ⟨h, t⟩ => h.elim (fun w => absurd (.inl w) t) fun z => ⟨z, fun hm => t (.inr hm)⟩⟩
        · rw [q v, List.mem_cons, List.mem_cons]
          exact ⟨fun ⟨z, t⟩ => ⟨.inr z, fun hm => hm.elim (fun w => n2 (w ▸ z)) t⟩, fun ⟨h, t⟩ => h.elim (fun w => absurd (.inl w) t) fun z => ⟨z, fun hm => t (.inr hm)⟩⟩
/-- bits -/
noncomputable def Bits (bs : List Int) : Prop := ∀ b ∈ bs, b = 0 ∨ b = 1
noncomputable def andB (a b : List Int) : List Int := List.zipWith (fun x y => x * y) a b
noncomputable def xorB (a b : List Int) : List Int := List.zipWith (fun x y => (x + y).fmod 2) a b
theorem pk_mem {l : List (PySem.Str × Int)} {v : PySem.Str} : v ∈ pk l ↔ (v, 1) ∈ l := by
  unfold pk
  rw [List.mem_map]
  constructor
  · rintro ⟨⟨u, b⟩, hq, rfl⟩
    obtain ⟨h1, h2⟩ := List.mem_filter.mp hq
    have : b = 1 := by simpa using h2
    rw [this] at h1; exact h1
  · intro h
    exact ⟨(v, 1), List.mem_filter.mpr ⟨h, rfl⟩, rfl⟩
theorem pkz_sub {ws : List PySem.Str} {bs : List Int} (hl : bs.length = ws.length) : (pk (ws.zip bs)).Sublist ws := by
  have h1 := (List.filter_sublist (p := fun q : PySem.Str × Int => q.2 == 1) (l := ws.zip bs)).map Prod.fst
  rwa [List.map_fst_zip (by omega)] at h1
theorem pk_at {ws : List PySem.Str} {bs : List Int} (hn : ws.Nodup) {i : Nat} {v : PySem.Str} (hi : ws[i]? = some v) : v ∈ pk (ws.zip bs) ↔ bs[i]? = some 1 := by
  rw [pk_mem, List.mem_iff_getElem?]
  constructor
  · rintro ⟨j, hj⟩
    obtain ⟨h1, h2⟩ := List.getElem?_zip_eq_some.mp hj
    obtain ⟨a1, b1⟩ := List.getElem?_eq_some_iff.mp hi
    obtain ⟨a2, b2⟩ := List.getElem?_eq_some_iff.mp h1
    have : i = j := (List.getElem_inj hn).mp (b1.trans b2.symm)
    rw [this]; exact h2
  · intro h
    exact ⟨i, List.getElem?_zip_eq_some.mpr ⟨hi, h⟩⟩
theorem pk_rising {ws : List PySem.Str} {bs : List Int} (hw : Rising ws) (hl : bs.length = ws.length) : Rising (pk (ws.zip bs)) := hw.sublist (pkz_sub hl)
theorem zw_at {f : Int → Int → Int} {a b : List Int} {i : Nat} {x y : Int} (h1 : a[i]? = some x) (h2 : b[i]? = some y) : (List.zipWith f a b)[i]? = some (f x y) := by
  rw [List.getElem?_zipWith, h1, h2]
theorem bit_at {ws : List PySem.Str} {a : List Int} (ha : Bits a) (hl : a.length = ws.length) {i : Nat} {v : PySem.Str} (hi : ws[i]? = some v) : a[i]? = some 0 ∨ a[i]? = some 1 := by
  have hlt := (List.getElem?_eq_some_iff.mp hi).1
  have e : a[i]? = some (a[i]'(by omega)) := List.getElem?_eq_getElem _
  rcases ha (a[i]'(by omega)) (List.getElem_mem _) with z | z
  · exact .inl (by rw [e, z])
  · exact .inr (by rw [e, z])
section
variable {ws : List PySem.Str} {a b : List Int} (hw : Rising ws) (ha : Bits a) (hb : Bits b) (la : a.length = ws.length) (lb : b.length = ws.length)
include hw ha hb la lb
theorem and_law : (pk (ws.zip a)).filter (· ∈ pk (ws.zip b)) = pk (ws.zip (andB a b)) := by
  have lab : (andB a b).length = ws.length := by unfold andB; rw [List.length_zipWith]; omega
  refine rising_ext ((pk_rising hw la).sublist List.filter_sublist) (pk_rising hw lab) fun v => ?_
  rw [List.mem_filter, decide_eq_true_eq]
  have key : ∀ i, ws[i]? = some v → (v ∈ pk (ws.zip a) ∧ v ∈ pk (ws.zip b) ↔ v ∈ pk (ws.zip (andB a b))) := fun i hi => by
    rw [pk_at hw.nodup hi, pk_at hw.nodup hi, pk_at hw.nodup hi]
    rcases bit_at ha la hi with e1 | e1 <;> rcases bit_at hb lb hi with e2 | e2 <;> rw [e1, e2, show (andB a b)[i]? = _ from zw_at e1 e2] <;> simp
  constructor
  · intro h
    obtain ⟨i, hi⟩ := List.mem_iff_getElem?.mp ((pkz_sub la).subset h.1)
    exact (key i hi).mp h
  · intro h
    obtain ⟨i, hi⟩ := List.mem_iff_getElem?.mp ((pkz_sub lab).subset h)
    exact (key i hi).mpr h
theorem xor_law {zs : List PySem.Str} (hp : zs.Perm ((dif (pk (ws.zip a)) (pk (ws.zip b))).1 ++ (dif (pk (ws.zip a)) (pk (ws.zip b))).2)) (hs : sortedS zs = true) : zs = pk (ws.zip (xorB a b)) := by
  have lab : (xorB a b).length = ws.length := by unfold xorB; rw [List.length_zipWith]; omega
  obtain ⟨p, q⟩ := dif_mem (pk_rising hw la) (pk_rising hw lb)
  have hn : zs.Nodup := by
    refine hp.nodup_iff.mpr (List.nodup_append.mpr ⟨(pk_rising hw la).nodup.sublist (dif_sublist _ _).1, (pk_rising hw lb).nodup.sublist (dif_sublist _ _).2, fun u hu v hv e => ?_⟩)
    subst e
    exact ((q u).mp hv).2 ((p u).mp hu).1
  refine rising_ext (rising_of hs hn) (pk_rising hw lab) fun v => ?_
  rw [hp.mem_iff, List.mem_append, p v, q v]
  have key : ∀ i, ws[i]? = some v → (v ∈ pk (ws.zip a) ∧ v ∉ pk (ws.zip b) ∨ v ∈ pk (ws.zip b) ∧ v ∉ pk (ws.zip a) ↔ v ∈ pk (ws.zip (xorB a b))) := fun i hi => by
    rw [pk_at hw.nodup hi, pk_at hw.nodup hi, pk_at hw.nodup hi]
    rcases bit_at ha la hi with e1 | e1 <;> rcases bit_at hb lb hi with e2 | e2 <;> rw [e1, e2, show (xorB a b)[i]? = _ from zw_at e1 e2] <;> simp <;> decide
  constructor
  · rintro (h | h)
    · obtain ⟨i, hi⟩ := List.mem_iff_getElem?.mp ((pkz_sub la).subset h.1)
      exact (key i hi).mp (.inl h)
    · obtain ⟨i, hi⟩ := List.mem_iff_getElem?.mp ((pkz_sub lb).subset h.1)
      exact (key i hi).mp (.inr h)
  · intro h
    obtain ⟨i, hi⟩ := List.mem_iff_getElem?.mp ((pkz_sub lab).subset h)
    exact (key i hi).mpr h
end
theorem bits_and {a b : List Int} (ha : Bits a) (hb : Bits b) : Bits (andB a b) := fun v hv => by
  obtain ⟨i, hi⟩ := List.mem_iff_getElem?.mp hv
  unfold andB at hi
  rw [List.getElem?_zipWith] at hi
  cases e1 : a[i]? with
  | none => rw [e1] at hi; simp at hi
  | some x =>
    cases e2 : b[i]? with
    | none => rw [e1, e2] at hi; simp at hi
    | some y =>
      rw [e1, e2] at hi
      have := (Option.some.inj hi).symm
      rcases ha x (List.mem_of_getElem? e1) with rfl | rfl <;> rcases hb y (List.mem_of_getElem? e2) with rfl | rfl <;> simp [this]
theorem bits_xor {a b : List Int} (ha : Bits a) (hb : Bits b) : Bits (xorB a b) := fun v hv => by
  obtain ⟨i, hi⟩ := List.mem_iff_getElem?.mp hv
  unfold xorB at hi
  rw [List.getElem?_zipWith] at hi
  cases e1 : a[i]? with
  | none => rw [e1] at hi; simp at hi
  | some x =>
    cases e2 : b[i]? with
    | none => rw [e1, e2] at hi; simp at hi
    | some y =>
      rw [e1, e2] at hi
      have := (Option.some.inj hi).symm
      rcases ha x (List.mem_of_getElem? e1) with rfl | rfl <;> rcases hb y (List.mem_of_getElem? e2) with rfl | rfl <;> rw [this] <;> decide
end Mine
end

section
open PySem PySem.W PyProof.Rows PySem.Calls PySem.Spec
namespace Mine
/-! ## A comprehension whose turns leave the ledger as it is; one whose target is in a cell -/
section
variable {w : World} {mg mb : PySem.Str → Option Value} {A A₀ : Around} {p : FP2} {nss : Nss} {news its : List (Addr × Obj)} {s : Shared} {env : Env} {a : Addr} {m : PySem.Str → Option Value} {x y : PySem.Str} {v : Value}
theorem blockS (R : Fk2 w mg mb A₀ p) {elt iter tgt : PySem.Expr} {ifs : List PySem.Expr} {scope : Scope} {pos : Pos} {cl : List (PySem.Str × Addr)} {ads : List Addr} {I : Addr} {n : Nat} {It : Nat → List (Addr × Obj) → Prop} {Bd : Nat → (PySem.Str → Option Value) → (PySem.Str → Option Value) → Prop}
    (hs : FS p nss (its ++ news) s) (hIt : It 0 its) (S : ∀ C, En (compEnvC scope cl C env) C p.L → Src w A p news ads I n It tgt (compEnvC scope cl C env) C Bd) (hna : ∀ q ∈ news, q.1 ∉ ads) (had : its.map (·.1) = ads)
    (Rel : Nat → List Value → Prop) (h0 : Rel 0 []) (hz : ∀ i ys, i < n → Rel i ys → ys.length < 1000000)
    (body : ∀ C D i its m m' ys k s (E : Value → Shared → Prop), En (compEnvC scope cl C env) C p.L → i < n → Bd i m m' → Rel i ys → FS p ((C, m') :: nss) (its ++ (news ++ [(D, listO ys.toArray k)])) s →
      wpAny (model pw w) A (forIn ifs true fun c r => if r = true then do let ok ← isTrue c (compEnvC scope cl C env) (eval c (compEnvC scope cl C env)); pure (ForInStep.yield ok) else pure (ForInStep.yield r)) (fun ok s₁ =>
        if ok = true then wpAny (model pw w) A (eval elt (compEnvC scope cl C env)) (fun y s₂ => ∃ m₂, FS p ((C, m₂) :: nss) (its ++ (news ++ [(D, listO ys.toArray k)])) s₂ ∧ Rel (i + 1) (ys ++ [y])) E s₁
        else ∃ m₂, FS p ((C, m₂) :: nss) (its ++ (news ++ [(D, listO ys.toArray k)])) s₁ ∧ Rel (i + 1) ys) E s) :
    Block w A p nss (its ++ news) scope cl env (.ListComp elt [⟨tgt, iter, ifs, 0⟩] scope pos) I s (fun D news' => (∃ ys k, news' = news ++ [(D, listO ys.toArray k)] ∧ Rel n ys) ∧ s.heap.get? D = none) := by
  intro D C s₃ hD hs₃ kk he'
  have sD := hs.sep hD
  have dads : D ∉ ads := fun hm => by
    rw [← had] at hm
    obtain ⟨q, hq, e⟩ := List.mem_map.mp hm
    exact sD q (List.mem_append.mpr (.inl hq)) e
  refine cmpGo (nss := nss) (st := news) R (S C he') (fun i ys ext => ext = [] ∧ Rel i ys) ?_ dads (fun q hq => ⟨sD q (List.mem_append.mpr (.inr hq)), hna q hq⟩) ?_ ?_ ?_ ?_
  · rintro i ys ext hi ⟨_, h⟩; exact hz i ys hi h
  · rintro i ys ext ⟨rfl, _⟩ q hq; cases hq
  · rintro i its m m' ys k ext s E hi _ ⟨rfl, hr⟩ hb hs₄
    refine wpAny_mono (body C D i its m m' ys k s E he' hi hb hr hs₄) (fun ok s₁ h₁ => ?_) fun _ _ e => e
    cases ok with
    | true =>
      rw [if_pos rfl] at h₁ ⊢
      exact wpAny_mono h₁ (fun y s₂ ⟨m₂, f, hr'⟩ => ⟨m₂, [], f, rfl, hr'⟩) fun _ _ e => e
    | false =>
      rw [if_neg Bool.false_ne_true] at h₁ ⊢
      obtain ⟨m₂, f, hr'⟩ := h₁
      exact ⟨m₂, [], f, rfl, hr'⟩
  · rintro m ys k ext s ⟨rfl, hr⟩ f
    exact ⟨_, m, _, rfl, f, ⟨ys, k, rfl, hr⟩, hD⟩
  · refine ⟨its, _, [], 0, [], hIt, hs₃.sub fun q hq => ?_, rfl, h0⟩
    rcases List.mem_append.mp hq with hq | hq
    · exact .tail _ (List.mem_append.mpr (.inl hq))
    rcases List.mem_append.mp hq with hq | hq
    · exact .tail _ (List.mem_append.mpr (.inr hq))
    rcases List.mem_cons.mp hq with rfl | hq
    · exact .head _
    cases hq
/-- the same, where the comprehension's own target is in a cell -/
noncomputable def Block1 (w : World) (A : Around) (p : FP2) (nss : Nss) (news : List (Addr × Obj)) (scope : Scope) (cx : PySem.Str) (env : Env) (e : PySem.Expr) (I : Addr) (s₂ : Shared) (Fin : Addr → List (Addr × Obj) → Prop) : Prop :=
  ∀ D C c oc s₃, s₂.heap.get? D = none → s₂.heap.get? c = none → c ≠ D → oc.data = .cell none → FS p ((C, fun _ => none) :: nss) ((c, oc) :: (D, listO ([] : List Value).toArray 0) :: news) s₃ → (∀ b o, s₂.heap.get? b = some o → s₃.heap.get? b = some o) → En (compEnvC scope [(cx, c)] C env) C p.L →
    codeAny (model pw w) A (.compStart e 0 (.ref I) (.ref D) (compEnvC scope [(cx, c)] C env)) (fun r s' => ∃ f m' news', r = .ok f ∧ FS p ((C, m') :: nss) news' s' ∧ Fin D news') s₃
theorem blk1 (R : Fk2 w mg mb A₀ p) (he : En env a p.L) {scope : Scope} {cx : PySem.Str} {e : PySem.Expr} {I : Addr} {s₂ : Shared} {Fin : Addr → List (Addr × Obj) → Prop} {R' : Value → Addr → Result → Shared → Prop} {E : Value → Shared → Prop} (hcs : ∀ n, cellsFrom n scope.names [] = [(cx, n)]) (hps : ∀ h : Heap, pushCells h scope.names = h.push { cls := .type "cell", data := .cell none }) (hkind : scope.kind = .function)
    (hs : FS p nss news s₂) (hB : Block1 w A p nss news scope cx env e I s₂ Fin) (hR : ∀ D C f m' news' s', FS p ((C, m') :: nss) news' s' → Fin D news' → R' (.ref D) C (.ok f) s') :
    wpAny (model pw w) A (newList []) (fun acc s₃ => wpAny (model pw w) A (newFunctionEnv scope env.globals [] [] env.qual none .none (some env)) (fun cenv s₄ =>
      codeAny (model pw w) A (.compStart e 0 (.ref I) acc { cenv with scope := relabel scope env }) (R' acc cenv.locals) s₄) E s₃) E s₂ := by
  refine wpAny_newObj_type ?_
  have h1 := hs.new R (listO ([] : List Value).toArray 0) rfl (tk := s₂.toks)
  generalize hH : s₂.heap.push (listO ([] : List Value).toArray 0) = H at h1
  have hsz : H.objs.size = s₂.heap.objs.size + 1 := by rw [← hH, Heap.size_push]
  have up1 : ∀ b o, s₂.heap.get? b = some o → H.get? b = some o := fun b o e => hH ▸ Heap.get?_push_of_some _ e
  unfold newFunctionEnv
  refine wpAny_bind (wpAny_alloc ?_)
  refine wpAny_bind (wpAny_layCells _ (fun name kind cells => by cases hkc : kind == NameKind.cell <;> simp [hkc]) _ _ _ _ ?_)
  rw [hps, hcs]
  refine wpAny_bind ?_
  simp only [List.forIn_nil]
  refine wpAny_pure (wpAny_pure ?_)
  dsimp only
  have h2 := h1.room R (C := H.objs.size) (h' := H.push { cls := .type "dict", data := .dict #[] }) (tk := s₂.toks) (get_top _) (fun b o e => Heap.get?_push_of_some _ e) (Heap.Ns.new H (.type "dict"))
  have h3 := h2.new R { cls := .type "cell", data := .cell none } rfl (tk := s₂.toks)
  have e3 : (H.push { cls := .type "dict", data := .dict #[] }).objs.size = H.objs.size + 1 := Heap.size_push ..
  have n1 : s₂.heap.get? (H.push { cls := .type "dict", data := .dict #[] }).objs.size = none := Heap.get?_none_of_le (by rw [e3, hsz]; exact Nat.le_succ_of_le (Nat.le_succ _))
  have n2 : (H.push { cls := .type "dict", data := .dict #[] }).objs.size ≠ s₂.heap.objs.size := by rw [e3, hsz]; exact Nat.ne_of_gt (Nat.lt_succ_of_lt (Nat.lt_succ_self _))
  refine codeAny_mono (hB s₂.heap.objs.size H.objs.size (H.push { cls := .type "dict", data := .dict #[] }).objs.size _ _ (get_top _) n1 n2 rfl h3 (fun b o e => Heap.get?_push_of_some _ (Heap.get?_push_of_some _ (up1 b o e))) ⟨rfl, he.frame, he.glob, he.bi, hkind⟩) ?_
  rintro r s' ⟨f, m', news', rfl, hf, hfin⟩
  exact hR _ _ f m' news' s' hf hfin
theorem cmpA1 (R : Fk2 w mg mb A₀ p) (he : En env a p.L) {elt iter tgt : PySem.Expr} {ifs : List PySem.Expr} {scope : Scope} {pos py pa : Pos} {cx : PySem.Str} {Q : Flow → Shared → Prop} {E : Value → Shared → Prop}
    (hsw : swapsWith (.ListComp elt [⟨tgt, iter, ifs, 0⟩] scope pos) (some (.Name y py)) pa.line env = pure true) (ky : env.kindOf y = some .local)
    (hclos : closureFor scope env = pure []) (hcs : ∀ n, cellsFrom n scope.names [] = [(cx, n)]) (hps : ∀ h : Heap, pushCells h scope.names = h.push { cls := .type "cell", data := .cell none }) (hkind : scope.kind = .function) (hnames : ∀ z ∈ scope.names, z.2 = .local → scope.names.lookup z.1 = some .local)
    (h : wpAny (model pw w) A (eval iter env) (fun xv s₁ => wpAny (model pw w) A (pyIter xv) (fun it s₂ => ∃ I m nss news Fin, it = .ref I ∧ FS p ((a, m) :: nss) news s₂ ∧ Block1 w A p ((a, m) :: nss) news scope cx env (.ListComp elt [⟨tgt, iter, ifs, 0⟩] scope pos) I s₂ Fin ∧ ∀ D news' s', FS p ((a, fun z => if z = y then some (.ref D) else m z) :: nss) news' s' → Fin D news' → Q .next s') E s₁) E s)
    (hs : ∀ x, foldedSetIterable iter env x = pure x := by intro _; rfl) : wpAny (model pw w) A (exec (.Assign [.Name y py] (.ListComp elt [⟨tgt, iter, ifs, 0⟩] scope pos) pa) env) Q E s := by
  rw [exec_Assign_Name_used _ _ _ _ hsw]
  refine wpAny_bind (wpAny_standAt (wpAny_bind ?_))
  show wpAny _ A (do let _ ← comprehension (.ListComp elt [⟨tgt, iter, ifs, 0⟩] scope pos) scope env _ (newList []) false (eval iter env) (some (assign (.Name y py) env))) _ _ s
  refine wpAny_bind (wpAny_mono (wpAny_comprehension_free (use := some (assign (.Name y py) env)) (Q := fun _ s' => Q .next s') rfl hs hclos hkind hnames
    (wpAny_mono h (fun xv s₁ h₁ => wpAny_mono h₁ (fun it s₂ h₂ => ?_) fun _ _ e => e) fun _ _ e => e)) (fun _ s' hq => wpAny_pure (wpAny_pure hq)) fun _ _ e => e)
  obtain ⟨I, m, nss, news, Fin, rfl, hf, hB, hQ⟩ := h₂
  refine blk1 (R' := fun acc C => compPost (model pw w) A E (some (assign (.Name y py) env)) (fun _ s' => Q .next s') acc C) R he hcs hps hkind hf hB fun D C f m' news' s' hf' hfin => ?_
  refine wpAny_assign_Name (stn R he hf'.swap (fun s'' hf'' => ?_) ky)
  exact ⟨m', (hf''.ns _ (.tail _ (.head _))).1, fun h' hb => hQ D news' _ (hf''.swap.pop R hf.hL hb) hfin⟩
/-- a range whose item goes to a cell -/
noncomputable def ItC (I c : Addr) (n i : Nat) (its : List (Addr × Obj)) : Prop := ∃ oc v, its = [(I, rgO n i), (c, oc)] ∧ i ≤ n ∧ oc.data = .cell v ∧ (∀ j, i = j + 1 → ∃ t, v = some (.int (j : Int) t))
theorem src_rangeC (R : Fk2 w mg mb A₀ p) {C : Addr} (he : En env C p.L) (hh : A.handled = none) {st : List (Addr × Obj)} {I c : Addr} {n : Nat} {q : Pos} (hIc : I ≠ c) (kx : env.kindOf x = some .cell) (hl : env.cells.lookup x = some c) :
    Src w A p st [I, c] I n (ItC I c n) (.Name x q) env C (fun _ m m' => m' = m) where
  adr := fun i its ⟨oc, v, e, _⟩ => by rw [e]; rfl
  draw := fun i its m nss news s Q E hi hI hn hs hQ => by
    obtain ⟨oc, v, rfl, hin, hd, _⟩ := hI
    have hI := (hs.at_ _ (.head _)).1
    have hc := (hs.at_ _ (.tail _ (.head _))).1
    refine wpAny_pyNext_range_item (it := I) hI (by omega) fun h' e1 k' => ?_
    have e2 : (i : Int) + 1 = ((i + 1 : Nat) : Int) := by omega
    have e3 : (n : Int) - (i : Int) - 1 = (n : Int) - ((i + 1 : Nat) : Int) := by omega
    rw [e2, e3] at e1
    show wpAny _ _ (pure ()) _ _ _
    refine wpAny_pure (wpAny_assign_Name (wpAny_storeName_cell he.kf kx hl ⟨oc, (k'.2 _ (Ne.symm hIc)).trans hc, hd⟩ fun h'' ⟨oc', c1, c2⟩ k'' => ?_))
    exact hQ [(I, rgO n (i + 1)), (c, oc')] m _ ⟨oc', _, rfl, hi, c2, fun j hj => ⟨s.toks, by cases hj; rfl⟩⟩ rfl (hs.turn R (tk := s.toks + 1) (h' := h'') (fun b o hb e => (k''.2 b fun z => hb (by rw [z]; exact .tail _ (.head _))).trans ((k'.2 b fun z => hb (by rw [z]; exact .head _)).trans e)) (fun q hq => by
      rcases List.mem_cons.mp hq with rfl | hq
      · exact ⟨(k''.2 _ hIc).trans e1, .head _⟩
      rcases List.mem_cons.mp hq with rfl | hq
      · exact ⟨c1, .tail _ (.head _)⟩
      cases hq) hn)
  done := fun its m nss news s Q E hI hn hs hQ => by
    obtain ⟨oc, v, rfl, _⟩ := hI
    refine wpAny_pyNext_range_end hh (it := I) (hs.at_ _ (.head _)).1 (by omega) fun h' k' => ?_
    exact hQ _ (hs.turn R (its' := []) (h' := h') (tk := s.toks) (fun b o hb => k' b o fun z => hb (by rw [z]; exact .head _)) (fun q hq => by cases hq) hn)
  self := fun i its m nss news s Q E hI hs hQ => by
    obtain ⟨oc, v, rfl, _⟩ := hI
    exact wpAny_pyIter_rangeiter (hs.at_ _ (.head _)).1 hQ
end
end Mine
end

section
open PySem PySem.W PyProof.Rows PySem.Calls PySem.Spec
namespace Mine
/-! ## law: the words and the first rows -/
theorem glob_words (P : Params) : nsIn (K P) mainGlobals (PySem.Str.ofString "_law_words") = some (some (.ref 822)) := by kernel_rfl
theorem keep822 (P : Params) : keepIn (K P) (.ref 822) = true := by kernel_rfl
/-- the bits of row k: bit `place` is digit k of place + 1 -/
noncomputable def bitOf (k i : Nat) : Int := (((i : Int) + 1).fdiv ((2 : Int) ^ k)).fmod 2
noncomputable def rowOf (k : Nat) : List Int := (List.range 7).map (bitOf k)
section
variable {w : World} {mg mb : PySem.Str → Option Value} {A A₀ : Around} {p : FP2} {nss : Nss} {news its : List (Addr × Obj)} {s : Shared} {env : Env} {a c : Addr} {m : PySem.Str → Option Value}
noncomputable abbrev scR : Scope := { kind := .function, names := [(PySem.Str.ofString ".0", NameKind.local), (PySem.Str.ofString "place", NameKind.local), (PySem.Str.ofString "k", NameKind.free)], isGenerator := false, isCoroutine := false }
theorem sw_true {e : PySem.Expr} {g : List Comprehension} {scope : Scope} {pos py : Pos} {y : PySem.Str} {ln : Nat} (kf : env.scope.kind = .function) (ky : env.kindOf y = some .local) (hp : (py.line == pos.line) = true) (hn : (scope.names.any fun x => x.1 == y && (x.2 == .local || x.2 == .cell)) = false) : swapsWith (.ListComp e g scope pos) (some (.Name y py)) ln env = pure true := by
  have hb : env.blockKind = .function := by unfold Env.blockKind; rw [kf]; rfl
  show (pure (env.blockKind == .function && env.kindOf y == some .local && py.line == pos.line && !(scope.names.any fun x => x.1 == y && (x.2 == .local || x.2 == .cell))) : Sem Bool) = _
  rw [hb, ky, hp, hn]
  rfl
/-- one row of bits -/
theorem rowC (R : Fk2 w mg mb A₀ p) (he : En env a p.L) (hh : A.handled = none) {k : Nat} {tk : Tok} (hk3 : k < 3) {oc : Obj} {q1 q2 q3 q4 q5 q6 q7 q8 q9 q10 q11 q12 q13 q14 : Pos} {d1 d2 d3 d4 : Nat} {Q E : Value → Shared → Prop} (hs : FS p ((a, m) :: nss) news s) (hc : (c, oc) ∈ news) (hd : oc.data = .cell (some (.int (k : Int) tk))) (hl : env.cells.lookup (PySem.Str.ofString "k") = some c) (kk : env.kindOf (PySem.Str.ofString "k") = some .cell) (kr : env.kindOf (PySem.Str.ofString "range") = some .globalImplicit)
    (h : ∀ s' D vs n, FS p ((a, m) :: nss) (news ++ [(D, listO vs.toArray n)]) s' → (∀ q ∈ news, q.1 ≠ D) → IntsAre vs (rowOf k) → Q (.ref D) s') :
    wpAny (model pw w) A (eval (.ListComp (.BinOp (.BinOp (.BinOp (.Name (PySem.Str.ofString "place") q1) .Add (.Constant (.int 1) d1 q2) q3) .FloorDiv (.BinOp (.Constant (.int 2) d2 q4) .Pow (.Name (PySem.Str.ofString "k") q5) q6) q7) .Mod (.Constant (.int 2) d3 q8) q9)
      [⟨.Name (PySem.Str.ofString "place") q10, .Call (.Name (PySem.Str.ofString "range") q11) [.Constant (.int 7) d4 q12] [] q13, [], 0⟩] scR q14) env) Q E s := by
  refine cmp R he (cl := [(PySem.Str.ofString "k", c)]) (by simp [closureFor, cellOf, hl]) (by decide) rfl (by decide) (cB R he hs glob_range (by boot_by_name) keeper_range kr (args_cons (wpAny_Constant_int (args_nil ⟨(hs.wd R).X, rangeN R (n := 7) (hs.toks _) (by decide) fun s3 I hs3 hI => ?_⟩))))
  have sI := hs.sep (D := I) hI
  have kx : ∀ C, (compEnvC scR [(PySem.Str.ofString "k", c)] C env).kindOf (PySem.Str.ofString "place") = some NameKind.local := fun C => kC rfl rfl
  have kq : ∀ C, (compEnvC scR [(PySem.Str.ofString "k", c)] C env).kindOf (PySem.Str.ofString "k") = some NameKind.cell := fun C => kF rfl he.kf kk
  have hz : s3.heap.get? I ≠ none := by rw [(hs3.at_ _ (.head _)).1]; intro z; cases z
  refine ⟨I, _, (I, rgO 7 0) :: news, _, rfl, hs3, blockS (A := A) (its := [(I, rgO 7 0)]) (news := news) (ads := [I]) R hs3 ⟨_, rfl, by decide, rfl⟩ (fun C he' => src_range (A := A) (n := 7) R he' hh (kx C)) (fun q hq z => sI q hq (List.mem_singleton.mp z)) rfl (fun i ys => IntsAre ys ((List.range i).map (bitOf k))) .nil ?_ ?_, fun D news' s6 hs6 hfin => ?_⟩
  · rintro i ys hi hr
    have := IntsAre.length hr
    rw [List.length_map, List.length_range] at this
    omega
  · rintro C D i its m1 m2 ys n s E' he' hi ⟨v, ⟨ti, rfl⟩, rfl⟩ hr hs4
    refine wpAny_tests_nil ?_
    rw [if_pos rfl]
    have hin : ∀ {q}, q ∈ news → q ∈ its ++ (news ++ [(D, listO ys.toArray n)]) := fun hq => List.mem_append.mpr (.inr (List.mem_append.mpr (.inl hq)))
    refine wpAny_BinOp (wpAny_BinOp (wpAny_BinOp (nm he' hs4 (if_pos rfl) (wpAny_Constant_int (add_int (wpAny_BinOp (wpAny_Constant_int (nmC he' (hs4.toks _) (hin hc) hd rfl (kq C) (pow_int (Int.natCast_nonneg _) ?_ (floordiv_int ?_ (wpAny_Constant_int (mod_int (by decide) ⟨_, hs4.toks _, ?_⟩)) (.inl ?_)))))))) (kx C))))
    · have : k = 0 ∨ k = 1 ∨ k = 2 := by omega
      rcases this with h | h | h <;> rw [h] <;> decide +kernel
    · have : k = 0 ∨ k = 1 ∨ k = 2 := by omega
      rcases this with h | h | h <;> rw [h] <;> decide +kernel
    · rw [List.range_succ, List.map_append]
      exact IntsAre.append hr (.cons _ _ .nil)
    · have : k = 0 ∨ k = 1 ∨ k = 2 := by omega
      rcases this with h | h | h <;> rw [h] <;> exact PyProof.noPylong_small (by decide +kernel)
  · obtain ⟨⟨ys, n, rfl, hr⟩, hD⟩ := hfin
    exact h s6 D ys n hs6 (fun q hq => hs3.sep hD q (.tail _ hq)) hr
end
/-- the rows' own lists -/
inductive RowsAre : List (Addr × Obj) → List (List Int) → Prop
  | nil : RowsAre [] []
  | cons {a : Addr} {vs : List Value} {n : Nat} {bs : List Int} {r : List (Addr × Obj)} {bss : List (List Int)} : IntsAre vs bs → RowsAre r bss → RowsAre ((a, listO vs.toArray n) :: r) (bs :: bss)
noncomputable def refs (ext : List (Addr × Obj)) : List Value := ext.map fun q => Value.ref q.1
theorem RowsAre.app {a : Addr} {vs : List Value} {n : Nat} {bs : List Int} (hi : IntsAre vs bs) : ∀ {r : List (Addr × Obj)} {bss : List (List Int)}, RowsAre r bss → RowsAre (r ++ [(a, listO vs.toArray n)]) (bss ++ [bs])
  | _, _, .nil => .cons hi .nil
  | _, _, .cons h r => .cons h (RowsAre.app hi r)
theorem RowsAre.len : ∀ {r : List (Addr × Obj)} {bss : List (List Int)}, RowsAre r bss → r.length = bss.length
  | _, _, .nil => rfl
  | _, _, .cons _ h => congrArg (· + 1) (RowsAre.len h)
section
variable {w : World} {mg mb : PySem.Str → Option Value} {A A₀ : Around} {p : FP2} {nss : Nss} {st : List (Addr × Obj)} {s : Shared} {env : Env} {a : Addr} {m : PySem.Str → Option Value}
noncomputable abbrev scR1 : Scope := { kind := .function, names := [(PySem.Str.ofString ".0", NameKind.local), (PySem.Str.ofString "k", NameKind.cell), (PySem.Str.ofString "range", NameKind.globalImplicit)], isGenerator := false, isCoroutine := false }
theorem rowsC (R : Fk2 w mg mb A₀ p) (he : En env a p.L) (hh : A.handled = none) {q1 q2 q3 q4 q5 q6 q7 q8 q9 q10 q11 q12 q13 q14 q15 q16 q17 q18 q19 q20 q21 : Pos} {d1 d2 d3 d4 d5 : Nat} {Q : Flow → Shared → Prop} {E : Value → Shared → Prop} (hs : FS p ((a, m) :: nss) st s) (kr : env.kindOf (PySem.Str.ofString "range") = some .globalImplicit) (ky : env.kindOf (PySem.Str.ofString "rows") = some .local)
    (hsw : (q20.line == q19.line) = true)
    (h : ∀ s' D ext n, FS p ((a, upd1 m (PySem.Str.ofString "rows") (.ref D)) :: nss) (st ++ (D, listO (refs ext).toArray n) :: ext) s' → RowsAre ext [rowOf 0, rowOf 1, rowOf 2] → (∀ q ∈ st ++ ext, q.1 ≠ D) → Q .next s') :
    wpAny (model pw w) A (exec (.Assign [.Name (PySem.Str.ofString "rows") q20] (.ListComp (.ListComp (.BinOp (.BinOp (.BinOp (.Name (PySem.Str.ofString "place") q1) .Add (.Constant (.int 1) d1 q2) q3) .FloorDiv (.BinOp (.Constant (.int 2) d2 q4) .Pow (.Name (PySem.Str.ofString "k") q5) q6) q7) .Mod (.Constant (.int 2) d3 q8) q9)
      [⟨.Name (PySem.Str.ofString "place") q10, .Call (.Name (PySem.Str.ofString "range") q11) [.Constant (.int 7) d4 q12] [] q13, [], 0⟩] scR q14) [⟨.Name (PySem.Str.ofString "k") q15, .Call (.Name (PySem.Str.ofString "range") q16) [.Constant (.int 3) d5 q17] [] q18, [], 0⟩] scR1 q19) q21) env) Q E s := by
  refine cmpA1 (a := a) (cx := PySem.Str.ofString "k") R he (sw_true he.kf ky hsw (by decide)) ky (by simp [closureFor]) (fun _ => rfl) (fun _ => rfl) rfl (by decide) (cB R he hs glob_range (by boot_by_name) keeper_range kr (args_cons (wpAny_Constant_int (args_nil ⟨(hs.wd R).X, rangeN R (n := 3) (hs.toks _) (by decide) fun s3 I hs3 hI => ?_⟩))))
  have sI := hs.sep (D := I) hI
  refine ⟨I, m, nss, (I, rgO 3 0) :: st, fun D news' => ∃ ext k, news' = st ++ (D, listO (refs ext).toArray k) :: ext ∧ RowsAre ext [rowOf 0, rowOf 1, rowOf 2] ∧ (∀ q ∈ st ++ ext, q.1 ≠ D), rfl, hs3, fun D C c oc s4 hD hc hcD hoc hs4 kk he' => ?_, fun D news' s6 hs6 ⟨ext, k, e, hr, hq⟩ => h s6 D ext k (e ▸ hs6) hr hq⟩
  have sD := hs3.sep hD
  have sc := hs3.sep hc
  have hIc : I ≠ c := sc _ (.head _)
  have hst : ∀ q ∈ st, q.1 ≠ D ∧ q.1 ∉ [I, c] := fun q hq => ⟨sD q (.tail _ hq), fun z => by
    rcases List.mem_cons.mp z with z | z
    · exact sI q hq z
    · exact sc q (.tail _ hq) (List.mem_singleton.mp z)⟩
  have hDa : D ∉ [I, c] := fun z => by
    rcases List.mem_cons.mp z with z | z
    · exact sD _ (.head _) z.symm
    · exact hcD (List.mem_singleton.mp z).symm
  have kq : (compEnvC scR1 [(PySem.Str.ofString "k", c)] C env).kindOf (PySem.Str.ofString "k") = some NameKind.cell := kC rfl rfl
  have kr' : (compEnvC scR1 [(PySem.Str.ofString "k", c)] C env).kindOf (PySem.Str.ofString "range") = some NameKind.globalImplicit := kC rfl rfl
  refine cmpGo (A := A) (nss := (a, m) :: nss) (st := st) R (src_rangeC (A := A) (n := 3) R he' hh hIc kq rfl) (fun i ys ext => ys = refs ext ∧ RowsAre ext ((List.range i).map rowOf) ∧ ∀ q ∈ ext, q.1 ≠ D ∧ q.1 ∉ [I, c]) ?_ hDa hst ?_ ?_ ?_ ?_
  · rintro i ys ext hi ⟨rfl, hr, _⟩
    have := hr.len
    rw [List.length_map, List.length_range] at this
    unfold refs
    rw [List.length_map]
    omega
  · rintro i ys ext ⟨_, _, h⟩; exact h
  · rintro i its m1 m2 ys k ext s E' hi ⟨oc', v, rfl, _, hd', hv⟩ ⟨rfl, hr, hq⟩ rfl hs5
    obtain ⟨t, rfl⟩ := hv i rfl
    refine wpAny_tests_nil ?_
    rw [if_pos rfl]
    refine rowC R he' hh hi hs5 (.tail _ (.head _)) hd' rfl kq kr' fun s6 D' vs n hs6 hD' hvs => ?_
    refine ⟨m2, ext ++ [(D', listO vs.toArray n)], ?_, ?_, ?_, ?_⟩
    · rw [List.append_assoc, List.append_assoc, List.cons_append] at hs6
      exact hs6
    · unfold refs; rw [List.map_append]; rfl
    · rw [List.range_succ, List.map_append]
      exact hr.app hvs
    · intro q hq'
      rcases List.mem_append.mp hq' with hq' | hq'
      · exact hq q hq'
      rcases List.mem_cons.mp hq' with rfl | hq'
      · refine ⟨fun z => hD' (D, _) (List.mem_append.mpr (.inr (List.mem_append.mpr (.inr (.head _))))) z.symm, fun z => ?_⟩
        rcases List.mem_cons.mp z with z | z
        · exact hD' (I, _) (.head _) z.symm
        · exact hD' (c, _) (.tail _ (.head _)) (List.mem_singleton.mp z).symm
      · cases hq'
  · rintro m1 ys k ext s ⟨rfl, hr, hq⟩ hs5
    refine ⟨_, m1, _, rfl, hs5, ext, k, rfl, hr, fun q hq' => ?_⟩
    rcases List.mem_append.mp hq' with hq' | hq'
    · exact (hst q hq').1
    · exact (hq q hq').1
  · refine ⟨[(I, rgO 3 0), (c, oc)], _, [], 0, [], ⟨oc, _, rfl, by decide, hoc, fun j hj => by cases hj⟩, hs4.sub fun q hq => ?_, rfl, .nil, fun q hq => by cases hq⟩
    rcases List.mem_append.mp hq with hq | hq
    · rcases List.mem_cons.mp hq with rfl | hq
      · exact .tail _ (.tail _ (.head _))
      rcases List.mem_cons.mp hq with rfl | hq
      · exact .head _
      cases hq
    rcases List.mem_append.mp hq with hq | hq
    · exact .tail _ (.tail _ (.tail _ hq))
    rcases List.mem_cons.mp hq with rfl | hq
    · exact .tail _ (.head _)
    cases hq
end
end Mine
end

section
open PySem PySem.W PyProof.Rows PySem.Calls PySem.Spec
namespace Mine
/-! ## law: the first lines -/
theorem FS.offL {w : World} {mg mb : PySem.Str → Option Value} {A₀ : Around} {p : FP2} {nss : Nss} {news : List (Addr × Obj)} {s : Shared} (R : Fk2 w mg mb A₀ p) (hs : FS p nss news s) {D : Addr} {o : Obj} (h : (D, o) ∈ news) : D ∉ 795 :: p.L :: frs p.outer := fun hm => by
  obtain ⟨_, h0, hn⟩ := hs.at_ _ h
  have := R.not_fr h0
  rcases List.mem_cons.mp hm with z | hm
  · exact this (z ▸ .head _)
  rcases List.mem_cons.mp hm with z | hm
  · exact hn (z ▸ hs.hL)
  exact this (.tail _ hm)
section
variable {w : World} {mg mb : PySem.Str → Option Value} {A A₀ : Around} {p : FP2} {nss : Nss} {news its : List (Addr × Obj)} {s : Shared} {env : Env} {a cw Wd rw' : Addr} {m : PySem.Str → Option Value} {oc : Obj} {vw vb : List Value} {kW kB : Nat} {ws : List PySem.Str} {bs : List Int}
noncomputable abbrev scP : Scope := { kind := .function, names := [(PySem.Str.ofString ".0", NameKind.local), (PySem.Str.ofString "word", NameKind.local), (PySem.Str.ofString "bit", NameKind.local)], isGenerator := false, isCoroutine := false }
theorem pickC (R : Fk2 w mg mb A₀ p) (he : En env a p.L) (hh : A.handled = none) {q1 q2 q3 q4 q5 q6 q7 q8 q9 q10 q11 q12 : Pos} {d1 d2 : Nat} {Q E : Value → Shared → Prop} (hs : FS p ((a, m) :: nss) news s) (hc : (cw, oc) ∈ news) (hd : oc.data = .cell (some (.ref Wd))) (hl : env.cells.lookup (PySem.Str.ofString "words") = some cw) (kw : env.kindOf (PySem.Str.ofString "words") = some .cell) (kr : env.kindOf (PySem.Str.ofString "row") = some .local) (kz : env.kindOf (PySem.Str.ofString "zip") = some .globalImplicit)
    (mr : m (PySem.Str.ofString "row") = some (.ref rw')) (hW : (Wd, listO vw.toArray kW) ∈ news) (hB : (rw', listO vb.toArray kB) ∈ news) (sw : StrsAre vw ws) (sb : IntsAre vb bs) (hlen : bs.length = ws.length) (hw : Wordy ws)
    (h : ∀ s' D vs n, FS p ((a, m) :: nss) (news ++ [(D, listO vs.toArray n)]) s' → (∀ q ∈ news, q.1 ≠ D) → StrsAre vs (pk (ws.zip bs)) → Q (.ref D) s') :
    wpAny (model pw w) A (eval (.ListComp (.Name (PySem.Str.ofString "word") q1) [⟨.Tuple [.Name (PySem.Str.ofString "word") q2, .Name (PySem.Str.ofString "bit") q3] d1 q4, .Call (.Name (PySem.Str.ofString "zip") q5) [.Name (PySem.Str.ofString "words") q6, .Name (PySem.Str.ofString "row") q7] [] q8, [.Compare (.Name (PySem.Str.ofString "bit") q9) [.Eq] [.Constant (.int 1) d2 q10] q11], 0⟩] scP q12) env) Q E s := by
  have lw := StrsAre.length sw
  have lb := IntsAre.length sb
  refine cmp R he (cl := []) (by simp [closureFor]) (by decide) rfl (by decide) (cB R he hs glob_zip (by boot_by_name) keeper_zip kz (args_cons (nmC he hs hc hd hl kw (args_cons (nm he hs mr (args_nil ⟨(hs.wd R).X, zipN R hs (hs.at_ _ hW).1 (hs.at_ _ hB).1 fun s4 z TI TO i1 i2 its dz hIt hs4 fz kz => ?_⟩) kr)))))
  refine iterZ hIt hs4 ?_
  have hna : ∀ q ∈ news, q.1 ∉ [z, TI, TO, i1, i2] := fun q hq hm => hs.sep (fz _ hm) q hq rfl
  have kx : ∀ C, (compEnvC scP [] C env).kindOf (PySem.Str.ofString "word") = some NameKind.local := fun C => kC rfl rfl
  have ky : ∀ C, (compEnvC scP [] C env).kindOf (PySem.Str.ofString "bit") = some NameKind.local := fun C => kC rfl rfl
  refine ⟨z, _, its ++ news, _, rfl, hs4, blockS (A := A) (its := its) (news := news) (n := ws.length) R hs4 hIt (fun C he' => src_zip (A := A) (st := news) (n := ws.length) R he' hh dz (Has.in hW) (Has.in hB) (kx C) (ky C) lw (by omega)) hna hIt.ads (fun i ys => StrsAre ys (pk ((ws.zip bs).take i))) ?_ ?_ ?_, fun D news' s6 hs6 hfin => ?_⟩
  · show StrsAre [] (pk ((ws.zip bs).take 0)); rw [List.take_zero]; exact .nil
  · rintro i ys hi hr
    have h1 := StrsAre.length hr
    have h2 := pk_len ((ws.zip bs).take i)
    rw [List.length_take] at h2
    have := hw.n
    omega
  · rintro C D i its m1 m2 ys n s E' he' hi ⟨va, vb', e1, e2, rfl⟩ hr hs5
    obtain ⟨x, tx, hx, rfl⟩ := strsAre_at sw i va e1
    obtain ⟨b, tb, hb, rfl⟩ := int_at sb i vb' e2
    have hz := zip_at hx hb
    refine wpAny_tests_one (wpAny_isTrue_Compare1 (nm he' hs5 (if_pos rfl) (wpAny_Constant_int (eq_int (wpAny_truthy_bool ?_))) (ky C)) rfl)
    have hs7 := hs5.toks (s.toks + 1)
    rw [pk_next hz]
    cases hb1 : b == 1
    · rw [if_neg Bool.false_ne_true, if_neg Bool.false_ne_true]
      exact ⟨_, hs7, by simpa using hr⟩
    · rw [if_pos rfl, if_pos rfl]
      exact nm he' hs7 ((if_neg (by decide)).trans (if_pos rfl)) ⟨_, hs7, StrsAre.append' hr (.cons _ _ .nil)⟩ (kx C)
  · obtain ⟨⟨ys, n, rfl, hr⟩, hD⟩ := hfin
    rw [List.take_of_length_le (by rw [List.length_zip]; omega)] at hr
    exact h s6 D ys n hs6 (fun q hq => hs4.sep hD q (List.mem_append.mpr (.inr hq))) hr
end
theorem RowsAre.at_ : ∀ {r : List (Addr × Obj)} {bss : List (List Int)}, RowsAre r bss → ∀ (i : Nat) v, (refs r)[i]? = some v → ∃ a vs n bs, v = .ref a ∧ (a, listO vs.toArray n) ∈ r ∧ bss[i]? = some bs ∧ IntsAre vs bs
  | _, _, .nil, _, _, h => by simp [refs] at h
  | _, _, .cons (a := a) (vs := vs) (n := n) (bs := bs) hi _, 0, v, h => ⟨a, vs, n, bs, (Option.some.inj h).symm, .head _, rfl, hi⟩
  | _, _, .cons _ r, i + 1, v, h => let ⟨a, vs, n, bs, e, hm, hb, hi⟩ := RowsAre.at_ r i v h; ⟨a, vs, n, bs, e, .tail _ hm, hb, hi⟩
theorem refs_len (r : List (Addr × Obj)) : (refs r).length = r.length := by unfold refs; rw [List.length_map]
theorem take_snoc {α : Type} {l : List α} {i : Nat} {x : α} (h : l[i]? = some x) : l.take (i + 1) = l.take i ++ [x] := by rw [List.take_add_one, h]; rfl
/-- the lines of the rows -/
noncomputable def linesOf (ws : List PySem.Str) (bss : List (List Int)) : List PySem.Str := bss.map fun bs => lineOf (pk (ws.zip bs))
theorem Wordy.pk {ws : List PySem.Str} (h : Wordy ws) {bs : List Int} (hl : bs.length = ws.length) : Wordy (pk (ws.zip bs)) := ⟨Nat.le_trans (pk_len _) (by rw [List.length_zip]; have := h.n; omega), fun x hx => by
  obtain ⟨q, hq, rfl⟩ := List.mem_map.mp hx
  exact h.z _ (List.of_mem_zip (List.mem_filter.mp hq).1).1⟩
section
variable {w : World} {mg mb : PySem.Str → Option Value} {A A₀ : Around} {p : FP2} {nss : Nss} {news ext : List (Addr × Obj)} {s : Shared} {env : Env} {a cw Wd Rw : Addr} {m : PySem.Str → Option Value} {oc : Obj} {vw : List Value} {kW kR : Nat} {ws : List PySem.Str} {bss : List (List Int)}
noncomputable abbrev scL : Scope := { kind := .function, names := [(PySem.Str.ofString ".0", NameKind.local), (PySem.Str.ofString "row", NameKind.local), (PySem.Str.ofString "join_shlex", NameKind.globalImplicit), (PySem.Str.ofString "zip", NameKind.globalImplicit), (PySem.Str.ofString "words", NameKind.free)], isGenerator := false, isCoroutine := false }
theorem linesC (R : Fk2 w mg mb A₀ p) (he : En env a p.L) (hh : A.handled = none) (ar : Ar A p 6) {q1 q2 q3 q4 q5 q6 q7 q8 q9 q10 q11 q12 q13 q14 q15 q16 q17 q18 q19 : Pos} {d1 d2 : Nat} {Q : Flow → Shared → Prop} {E : Value → Shared → Prop} (hs : FS p ((a, m) :: nss) news s) (hc : (cw, oc) ∈ news) (hd : oc.data = .cell (some (.ref Wd))) (hl : env.cells.lookup (PySem.Str.ofString "words") = some cw) (kw : env.kindOf (PySem.Str.ofString "words") = some .cell) (kr : env.kindOf (PySem.Str.ofString "rows") = some .local) (ky : env.kindOf (PySem.Str.ofString "lines") = some .local)
    (mr : m (PySem.Str.ofString "rows") = some (.ref Rw)) (hW : (Wd, listO vw.toArray kW) ∈ news) (hR : (Rw, listO (refs ext).toArray kR) ∈ news) (hE : ∀ q ∈ ext, q ∈ news) (sw : StrsAre vw ws) (hr : RowsAre ext bss) (hw : Wordy ws) (hlen : ∀ bs ∈ bss, bs.length = ws.length) (hn : bss.length < 1000)
    (hsw : (q17.line == q19.line) = true)
    (h : ∀ s' D vs n, FS p ((a, upd1 m (PySem.Str.ofString "lines") (.ref D)) :: nss) (news ++ [(D, listO vs.toArray n)]) s' → (∀ q ∈ news, q.1 ≠ D) → StrsAre vs (linesOf ws bss) → Q .next s') :
    wpAny (model pw w) A (exec (.Assign [.Name (PySem.Str.ofString "lines") q17] (.ListComp (.Call (.Name (PySem.Str.ofString "join_shlex") q13) [.ListComp (.Name (PySem.Str.ofString "word") q1) [⟨.Tuple [.Name (PySem.Str.ofString "word") q2, .Name (PySem.Str.ofString "bit") q3] d1 q4, .Call (.Name (PySem.Str.ofString "zip") q5) [.Name (PySem.Str.ofString "words") q6, .Name (PySem.Str.ofString "row") q7] [] q8, [.Compare (.Name (PySem.Str.ofString "bit") q9) [.Eq] [.Constant (.int 1) d2 q10] q11], 0⟩] scP q12] [] q16)
      [⟨.Name (PySem.Str.ofString "row") q14, .Name (PySem.Str.ofString "rows") q15, [], 0⟩] scL q19) q18) env) Q E s := by
  have lr := hr.len
  refine cmpA R he (cl := [(PySem.Str.ofString "words", cw)]) (sw_true he.kf ky hsw (by decide)) ky (by simp [closureFor, cellOf, hl]) (by decide) rfl (by decide) (nm he hs mr (iterL R hs (hs.at_ _ hR).1 fun s4 I hs4 hI => ?_) kr)
  have hna : ∀ q ∈ news, q.1 ∉ [I] := fun q hq hm => hs.sep hI q hq (List.mem_singleton.mp hm)
  have hRI : Rw ≠ I := hs.sep hI _ hR
  have kx : ∀ C, (compEnvC scL [(PySem.Str.ofString "words", cw)] C env).kindOf (PySem.Str.ofString "row") = some NameKind.local := fun C => kC rfl rfl
  have kj : ∀ C, (compEnvC scL [(PySem.Str.ofString "words", cw)] C env).kindOf (PySem.Str.ofString "join_shlex") = some NameKind.globalImplicit := fun C => kC rfl rfl
  have kz : ∀ C, (compEnvC scL [(PySem.Str.ofString "words", cw)] C env).kindOf (PySem.Str.ofString "zip") = some NameKind.globalImplicit := fun C => kC rfl rfl
  have kw' : ∀ C, (compEnvC scL [(PySem.Str.ofString "words", cw)] C env).kindOf (PySem.Str.ofString "words") = some NameKind.cell := fun C => kF rfl he.kf kw
  refine ⟨I, m, nss, [(I, itO Rw 0)] ++ news, _, rfl, hs4, blockS (A := A) (its := [(I, itO Rw 0)]) (news := news) R hs4 ⟨_, rfl, rfl, rfl⟩ (fun C he' => src_list (A := A) (st := news) R he' hh (Has.in hR) hRI (kx C)) hna rfl (fun i ys => StrsAre ys (linesOf ws (bss.take i))) .nil ?_ ?_, fun D news' s6 hs6 hfin => ?_⟩
  · rintro i ys hi hr
    have h1 := StrsAre.length hr
    unfold linesOf at h1
    rw [List.length_map, List.length_take] at h1
    omega
  · rintro C D i its m1 m2 ys n s E' he' hi ⟨v, hv, rfl⟩ hys hs5
    obtain ⟨ra, rvs, rn, bs, rfl, hin, hbs, hir⟩ := hr.at_ i v hv
    have up : ∀ {q}, q ∈ news → q ∈ its ++ (news ++ [(D, listO ys.toArray n)]) := fun hq => List.mem_append.mpr (.inr (List.mem_append.mpr (.inl hq)))
    have hl1 := hlen bs (List.mem_of_getElem? hbs)
    refine wpAny_tests_nil ?_
    rw [if_pos rfl]
    refine cG R he' hs5 glob_join keep800 (kj C) (args_cons (pickC R he' hh hs5 (up hc) hd rfl (kw' C) (kx C) (kz C) (if_pos rfl) (up hW) (up (hE _ hin)) sw hir hl1 hw fun s6 D2 vs n2 hs6 hD2 hvs => args_nil ⟨(hs6.wd R).X, ?_⟩))
    have hm2 : (D2, listO vs.toArray n2) ∈ its ++ (news ++ [(D, listO ys.toArray n)]) ++ [(D2, listO vs.toArray n2)] := List.mem_append.mpr (.inr (.head _))
    refine sp (jn_spec (hw.pk hl1)) R ar hs6 ⟨⟨vs, n2, (hs6.at_ _ hm2).1, hvs⟩, hs6.offL R hm2⟩ ?_
    rintro s7 _ hs7 _ ⟨t, rfl⟩
    refine ⟨_, hs7.sub fun q hq => List.mem_append.mpr (.inl hq), ?_⟩
    unfold linesOf
    rw [take_snoc hbs, List.map_append]
    exact StrsAre.append' hys (.cons _ _ .nil)
  · obtain ⟨⟨ys, n, rfl, hys⟩, hD⟩ := hfin
    rw [List.take_of_length_le (by rw [refs_len]; omega)] at hys
    exact h s6 D ys n hs6 (fun q hq => hs4.sep hD q (.tail _ hq)) hys
end
end Mine
end

section
open PySem PySem.W PyProof.Rows PySem.Calls PySem.Spec
namespace Mine
/-! ## zip drawn by another than a loop: its first tuple stays alive -/
noncomputable abbrev zkO (TI TO T0 : Addr) (b : Bool) : Obj := { cls := .type "zip", dict := none, data := .fields #[rawInt T0, .bool b, .bool false, .ref TI, .ref TO], slots := #[] }
theorem wpAny_alive {M : Model} {A : Around} {E : Value → Shared → Prop} {s : Shared} {a : Addr} {Q : Option Obj → Shared → Prop} (h : Q (s.heap.get? a) s) : wpAny M A (loadIfAlive a) Q E s := fun Γ p hΓ => by
  unfold loadIfAlive
  rw [Sem.wp_loadIfAlive]
  exact h
section
variable {w : World} {A : Around} {s : Shared} {z TI TO i1 i2 l1 l2 T0 : Addr} {k1 k2 : Nat} {xs ys : Array Value} {x y : Value}
theorem kept_free {Q : Bool → Shared → Prop} {E : Value → Shared → Prop} {b : Bool} {oT : Obj} (hz : s.heap.get? z = some (zkO TI TO T0 b)) (hT : s.heap.get? T0 = some oT)
    (h : ∀ h', h'.get? z = some (zkO TI TO T0 true) → h'.objs.size = s.heap.objs.size → (∀ c o, c ≠ z → s.heap.get? c = some o → h'.get? c = some o) → Q false { s with heap := h' }) : wpAny (model pw w) A (Builtin.SmallTypes.ownedTupleIsFree (.ref z)) Q E s := by
  unfold Builtin.SmallTypes.ownedTupleIsFree
  refine wpAny_bind (wpAny_field hz rfl (x := rawInt T0) rfl ?_)
  show wpAny _ _ (loadIfAlive (((T0 : Nat) : Int).toNat) >>= _) _ _ _
  rw [Int.toNat_natCast]
  refine wpAny_bind (wpAny_alive ?_)
  rw [hT]
  show wpAny _ _ (field (.ref z) 1 >>= _) _ _ _
  refine wpAny_bind (wpAny_field hz rfl (x := .bool b) rfl ?_)
  cases b with
  | true => exact wpAny_pure (h s.heap hz rfl fun c o _ e => e)
  | false => exact wpAny_bind (wpAny_setField_rec hz (by simp) fun h' e k => wpAny_pure (h h' e k.1 fun c o hc e => (k.2 c hc).trans e))
theorem kept_next {Q E : Value → Shared → Prop} {b : Bool} {oT : Obj} (hh : A.handled = none) (D : ZipApart z TI TO i1 i2 l1 l2) (hz : s.heap.get? z = some (zkO TI TO T0 b)) (hT : s.heap.get? T0 = some oT) (hTz : T0 ≠ z) (hTI : IsPair s.heap TI (.ref i1) (.ref i2)) (h1 : s.heap.IsListIter i1 l1 k1) (h2 : s.heap.IsListIter i2 l2 k2) (hl1 : s.heap.IsList l1 xs) (hl2 : s.heap.IsList l2 ys)
    (hQ : ∀ x y h', xs[k1]? = some x → ys[k2]? = some y → h'.get? z = some (zkO TI TO T0 true) → h'.IsListIter i1 l1 (k1 + 1) → h'.IsListIter i2 l2 (k2 + 1) → IsPair h' s.heap.objs.size x y → (∀ c o, c ≠ z → c ≠ i1 → c ≠ i2 → s.heap.get? c = some o → h'.get? c = some o) → Q (.ref s.heap.objs.size) { s with heap := h' })
    (hE : xs[k1]? = none → ∀ h' e, (∀ c o, c ≠ z → c ≠ i1 → s.heap.get? c = some o → h'.get? c = some o) → (∃ o, h'.get? e = some o ∧ o.cls = .type "StopIteration") → E (.ref e) { s with heap := h' }) (hsame : xs[k1]? = none ∨ ∃ x, ys[k2]? = some x) :
    wpAny (model pw w) A (Builtin.«zip.__next__» ⟨[.ref z], []⟩) (fun fin s' => ∃ v, fin = .done (.ret v) ∧ Q v s') E s := by
  show wpAny _ _ (field (.ref z) 2 >>= _) _ _ _
  refine wpAny_bind (wpAny_field hz rfl (x := .bool false) rfl ?_)
  show wpAny _ _ (field (.ref z) 3 >>= _) _ _ _
  refine wpAny_bind (wpAny_field hz rfl (x := .ref TI) rfl ?_)
  refine wpAny_bind (wpAny_seqItems hTI rfl ?_)
  show wpAny _ _ (Builtin.SmallTypes.ownedTupleIsFree (.ref z) >>= _) _ _ _
  refine wpAny_bind (kept_free hz hT fun h₁ hz₁ z₁ k₁ => ?_)
  simp only [Bool.false_eq_true, if_false]
  refine wpAny_bind ?_
  have kz : ∀ c o, c ≠ z → s.heap.get? c = some o → h₁.get? c = some o := k₁
  have g1 : h₁.IsListIter i1 l1 k1 := h1.at fun o e => kz _ _ D.i1z e
  have g2 : h₁.IsListIter i2 l2 k2 := h2.at fun o e => kz _ _ D.i2z e
  have gl1 : h₁.IsList l1 xs := hl1.at fun o e => kz _ _ D.l1z e
  have gl2 : h₁.IsList l2 ys := hl2.at fun o e => kz _ _ D.l2z e
  refine forIn_array_ _ (fun rest b s' =>
    (rest = [.ref i1, .ref i2] ∧ b = (none, #[]) ∧ s' = { s with heap := h₁ }) ∨
    (rest = [.ref i2] ∧ ∃ x h₂, b = (none, #[x]) ∧ xs[k1]? = some x ∧ s' = { s with heap := h₂ } ∧ h₂.IsListIter i1 l1 (k1 + 1) ∧ Heap.SameBut i1 h₁ h₂) ∨
    (rest = [] ∧ ∃ x y h₃, b = (none, #[x, y]) ∧ xs[k1]? = some x ∧ ys[k2]? = some y ∧ s' = { s with heap := h₃ } ∧ h₃.IsListIter i1 l1 (k1 + 1) ∧ h₃.IsListIter i2 l2 (k2 + 1) ∧ h₃.objs.size = h₁.objs.size ∧ ∀ c o, c ≠ i1 → c ≠ i2 → h₁.get? c = some o → h₃.get? c = some o))
    _ ?_ ?_ _ _ (.inl ⟨rfl, rfl, rfl⟩)
  · rintro it rest b s' (⟨e1, rfl, rfl⟩ | ⟨e1, x, h₂, rfl, hx, rfl, u1, u2⟩ | ⟨e1, _⟩)
    · cases e1
      refine wpAny_bind (wpAny_holding ?_)
      show wpAny _ _ (Builtin.SmallTypes.nextOf (.ref i1) >>= fun v => pure (some v)) _ _ _
      refine wpAny_bind ?_
      cases hx : xs[k1]? with
      | some x => exact wpAny_nextOf_list_item g1 gl1 hx fun h₂ u1 u2 => wpAny_pure (wpAny_pure (.inr (.inl ⟨rfl, x, h₂, rfl, rfl, rfl, u1, u2⟩)))
      | none => exact wpAny_nextOf_list_end hh g1 gl1 hx fun h' e u1 u2 => hE hx h' e (fun c o hc1 hc2 ec => u1 _ _ hc2 (kz _ _ hc1 ec)) u2
    · cases e1
      refine wpAny_bind (wpAny_holding ?_)
      show wpAny _ _ (Builtin.SmallTypes.nextOf (.ref i2) >>= fun v => pure (some v)) _ _ _
      refine wpAny_bind ?_
      obtain ⟨y, hy⟩ : ∃ y, ys[k2]? = some y := hsame.resolve_left (by rw [hx]; intro z; cases z)
      refine wpAny_nextOf_list_item (g2.extBut u2.extBut D.i12.symm) (gl2.extBut u2.extBut D.l2i1) hy fun h₃ v1 v2 => wpAny_pure (wpAny_pure (.inr (.inr ⟨rfl, x, y, h₃, rfl, hx, hy, rfl, u1.extBut v2.extBut D.i12, v1, v2.1.trans u2.1, fun c o hc1 hc2 ec => (v2.2 _ hc2).trans ((u2.2 _ hc1).trans ec)⟩)))
    · cases e1
  · rintro b s' (⟨e1, _⟩ | ⟨e1, _⟩ | ⟨_, x, y, h₃, rfl, hx, hy, rfl, u1, u2, u3, u4⟩)
    · cases e1
    · cases e1
    · show wpAny _ _ (newTuple [x, y] >>= fun t => ret t) _ _ _
      refine wpAny_bind (wpAny_newTuple ?_)
      refine wpAny_pure ⟨_, rfl, ?_⟩
      have hsz : h₃.objs.size = s.heap.objs.size := u3.trans z₁
      rw [hsz]
      have up : ∀ c o, c ≠ z → c ≠ i1 → c ≠ i2 → s.heap.get? c = some o → (h₃.push { cls := .type "tuple", data := .seq #[x, y] }).get? c = some o := fun c o c1 c2 c3 e => Heap.get?_push_of_some _ (u4 c o c2 c3 (kz c o c1 e))
      refine hQ x y _ hx hy (Heap.get?_push_of_some _ (u4 _ _ D.i1z.symm D.i2z.symm hz₁)) (u1.at fun o e => Heap.get?_push_of_some _ e) (u2.at fun o e => Heap.get?_push_of_some _ e) (hsz ▸ Heap.get?_push_size _ rfl) up
theorem kept_py {Q : Option Value → Shared → Prop} {E : Value → Shared → Prop} {b : Bool} {oT : Obj} (hh : A.handled = none) (D : ZipApart z TI TO i1 i2 l1 l2) (hz : s.heap.get? z = some (zkO TI TO T0 b)) (hT0 : s.heap.get? T0 = some oT) (hTz : T0 ≠ z) (hTI : IsPair s.heap TI (.ref i1) (.ref i2)) (h1 : s.heap.IsListIter i1 l1 k1) (h2 : s.heap.IsListIter i2 l2 k2) (hl1 : s.heap.IsList l1 xs) (hl2 : s.heap.IsList l2 ys)
    (hQ : ∀ x y h', xs[k1]? = some x → ys[k2]? = some y → h'.get? z = some (zkO TI TO T0 true) → h'.IsListIter i1 l1 (k1 + 1) → h'.IsListIter i2 l2 (k2 + 1) → IsPair h' s.heap.objs.size x y → (∀ c o, c ≠ z → c ≠ i1 → c ≠ i2 → s.heap.get? c = some o → h'.get? c = some o) → Q (some (.ref s.heap.objs.size)) { s with heap := h' })
    (hE : xs[k1]? = none → ∀ h', (∀ c o, c ≠ z → c ≠ i1 → s.heap.get? c = some o → h'.get? c = some o) → Q none { s with heap := h' }) (hsame : xs[k1]? = none ∨ ∃ x, ys[k2]? = some x) : wpAny (model pw w) A (pyNext (.ref z)) Q E s := by
  have hT : s.TypeIs (.ref z) "zip" := ⟨_, hz, rfl⟩
  unfold pyNext
  refine wpAny_bind (wpAny_attempt (wpAny_callSpecial?_slot (name := PySem.Str.ofString "__next__") hT F.slot_zip_next
    (wpAny_call_entry F.slot_zip_next hT F.entry_zip_next (kept_next (A := A.in1) hh D hz hT0 hTz hTI h1 h2 hl1 hl2 (fun x y h' a1 a2 a3 a4 a5 a6 a7 => wpAny_pure (hQ x y h' a1 a2 a3 a4 a5 a6 a7)) (fun hx h' e k he => ?_) hsame) (F.args_zip_next_1 _))))
  exact wpAny_bind (wpAny_isInstance (T := "StopIteration") (b := true) he isSubtype_stop (wpAny_pure (hE hx h' k)))
end
end Mine
end

section
open PySem PySem.W PyProof.Rows PySem.Calls PySem.Spec
namespace Mine
/-! ## list(zip(two lists)) -/
theorem nolen_zip : typeLookup (.type "zip") (PySem.Str.ofString "__len__") = pure none := by rw [typeLookup_type, builtinLookup_eq_fast]; kernel_rfl
theorem nohint_zip : typeLookup (.type "zip") (PySem.Str.ofString "__length_hint__") = pure none := by rw [typeLookup_type, builtinLookup_eq_fast]; kernel_rfl
/-- a list of what is chosen for each place -/
theorem chosen {β : Type} : ∀ (vs : List Value) (P : Nat → Value → β → Prop), (∀ j v, vs[j]? = some v → ∃ q, P j v q) → ∃ tl : List β, (∀ q ∈ tl, ∃ j v, vs[j]? = some v ∧ P j v q) ∧ ∀ j v, vs[j]? = some v → ∃ q ∈ tl, P j v q
  | [], _, _ => ⟨[], fun q hq => (by cases hq), fun j v h => (by simp at h)⟩
  | x :: r, P, h => by
    obtain ⟨q0, h0⟩ := h 0 x rfl
    obtain ⟨tl, h1, h2⟩ := chosen r (fun j => P (j + 1)) fun j v hv => h (j + 1) v hv
    refine ⟨q0 :: tl, fun q hq => ?_, fun j v hv => ?_⟩
    · rcases List.mem_cons.mp hq with rfl | hq
      · exact ⟨0, x, rfl, h0⟩
      · obtain ⟨j, v, a, b⟩ := h1 q hq
        exact ⟨j + 1, v, a, b⟩
    · cases j with
      | zero => cases hv; exact ⟨q0, .head _, h0⟩
      | succ j =>
        obtain ⟨q, a, b⟩ := h2 j v hv
        exact ⟨q, .tail _ a, b⟩
structure ZAt (s : Shared) (z TI TO i1 i2 l1 l2 S : Addr) (xs ys : List Value) (vs : List Value) (s' : Shared) : Prop where
  ph : (vs = [] ∧ s'.heap.get? z = some (zipO TI TO .none)) ∨ ∃ T0 b oT, s'.heap.get? z = some (zkO TI TO T0 b) ∧ s'.heap.get? T0 = some oT ∧ s.heap.get? T0 = none ∧ T0 ≠ S
  tI : IsPair s'.heap TI (.ref i1) (.ref i2)
  tO : ∃ a b, IsPair s'.heap TO a b
  h1 : s'.heap.IsListIter i1 l1 vs.length
  h2 : s'.heap.IsListIter i2 l2 vs.length
  g1 : s'.heap.IsList l1 xs.toArray
  g2 : s'.heap.IsList l2 ys.toArray
  ps : ∀ (j : Nat) (v : Value), vs[j]? = some v → ∃ T a b, v = .ref T ∧ xs[j]? = some a ∧ ys[j]? = some b ∧ s'.heap.get? T = some (pairO a b) ∧ s.heap.get? T = none ∧ T ≠ S
  ext : ∃ h tk, s' = { s with heap := h, toks := tk } ∧ ∀ c o, c ∉ [z, TI, TO, i1, i2] → c ≠ S → s.heap.get? c = some o → h.get? c = some o
theorem snoc_at {α : Type} {l : List α} {x v : α} {j : Nat} (h : (l ++ [x])[j]? = some v) : l[j]? = some v ∨ (j = l.length ∧ v = x) := by
  rcases Nat.lt_trichotomy j l.length with hj | hj | hj
  · exact .inl (by rwa [List.getElem?_append_left hj] at h)
  · subst hj
    rw [List.getElem?_append_right (Nat.le_refl _), Nat.sub_self] at h
    exact .inr ⟨rfl, (Option.some.inj h).symm⟩
  · rw [List.getElem?_eq_none (by rw [List.length_append, List.length_singleton]; omega)] at h; cases h
theorem list_zip {w : World} {A : Around} {s : Shared} {z TI TO i1 i2 l1 l2 : Addr} {xs ys : List Value} {Q E : Value → Shared → Prop} (hh : A.handled = none) (D : ZipApart z TI TO i1 i2 l1 l2)
    (hz : s.heap.get? z = some (zipO TI TO .none)) (hTI : IsPair s.heap TI (.ref i1) (.ref i2)) (hTO : ∃ a b, IsPair s.heap TO a b) (h1 : s.heap.IsListIter i1 l1 0) (h2 : s.heap.IsListIter i2 l2 0) (g1 : s.heap.IsList l1 xs.toArray) (g2 : s.heap.IsList l2 ys.toArray) (hlen : xs.length = ys.length) (hzz : xs.length < 1000)
    (h : ∀ (h' : Heap) (tk : Nat) (vs : List Value) (n : Nat), (∀ c o, c ∉ [z, TI, TO, i1, i2] → s.heap.get? c = some o → h'.get? c = some o) → h'.get? s.heap.objs.size = some (listO vs.toArray n) → vs.length = xs.length →
      (∀ (j : Nat) (v : Value), vs[j]? = some v → ∃ T a b, v = .ref T ∧ xs[j]? = some a ∧ ys[j]? = some b ∧ h'.get? T = some (pairO a b) ∧ s.heap.get? T = none) → Q (.ref s.heap.objs.size) { s with heap := h', toks := tk }) :
    wpAny (model pw w) A (call (.type "list") [.ref z]) Q E s := by
  have top : ∀ {c o}, s.heap.get? c = some o → s.heap.objs.size ≠ c := fun e => Nat.ne_of_gt (Heap.lt_size e)
  obtain ⟨ta, tb, hTO⟩ := hTO
  have Sz : z ≠ s.heap.objs.size := (top hz).symm
  have STI : TI ≠ s.heap.objs.size := (top hTI).symm
  have STO : TO ≠ s.heap.objs.size := (top hTO).symm
  have Si1 : i1 ≠ s.heap.objs.size := let ⟨_, e, _⟩ := h1; (top e).symm
  have Si2 : i2 ≠ s.heap.objs.size := let ⟨_, e, _⟩ := h2; (top e).symm
  have Sl1 : l1 ≠ s.heap.objs.size := let ⟨_, e, _⟩ := g1; (top e).symm
  have Sl2 : l2 ≠ s.heap.objs.size := let ⟨_, e, _⟩ := g2; (top e).symm
  obtain ⟨oi1, ei1, _⟩ := id h1
  obtain ⟨oi2, ei2, _⟩ := id h2
  generalize hS : s.heap.objs.size = S at Sz STI STO Si1 Si2 Sl1 Sl2 h
  have nw : ∀ {c : Addr}, s.heap.get? c = none → c ∉ [z, TI, TO, i1, i2] := fun hc hm => by
    simp only [List.mem_cons, List.not_mem_nil, or_false] at hm
    rcases hm with rfl | rfl | rfl | rfl | rfl
    · rw [hz] at hc; cases hc
    · rw [hTI] at hc; cases hc
    · rw [hTO] at hc; cases hc
    · rw [ei1] at hc; cases hc
    · rw [ei2] at hc; cases hc
  -- a tuple handed out is new
  have fresh : ∀ {vs : List Value} {s' : Shared}, ZAt s z TI TO i1 i2 l1 l2 S xs ys vs s' → (∃ o, s'.heap.get? S = some o) → s.heap.get? s'.heap.objs.size = none ∧ s'.heap.objs.size ≠ S := fun {vs s'} x ⟨oS, eS⟩ => by
    refine ⟨?_, Nat.ne_of_gt (Heap.lt_size eS)⟩
    cases e : s.heap.get? s'.heap.objs.size with
    | none => rfl
    | some o =>
      have l1 := Heap.lt_size e
      have l2 := Heap.lt_size eS
      rw [hS] at l1
      exact absurd (Nat.lt_trans l1 l2) (Nat.lt_irrefl _)
  have hS' : S = s.heap.objs.size := hS.symm
  subst hS'
  refine list_feed (l := xs) (St := fun vs r s' => ZAt s z TI TO i1 i2 l1 l2 s.heap.objs.size xs ys vs s' ∧ vs.length ≤ xs.length ∧ r.length = xs.length - vs.length)
    (Fin := fun vs s' => vs.length = xs.length ∧ (∀ (j : Nat) (v : Value), vs[j]? = some v → ∃ T a b, v = .ref T ∧ xs[j]? = some a ∧ ys[j]? = some b ∧ s'.heap.get? T = some (pairO a b) ∧ s.heap.get? T = none) ∧ ∃ h tk, s' = { s with heap := h, toks := tk } ∧ ∀ c o, c ∉ [z, TI, TO, i1, i2] → c ≠ s.heap.objs.size → s.heap.get? c = some o → h.get? c = some o) ⟨?_, ?_, ?_⟩ Sz (by rw [sizeLine_eq]; omega) ?_ ?_ ?_
  · rintro vs r s' h' tk ⟨⟨ph, tI, ⟨a, b, tO⟩, k1, k2, f1, f2, ps, h0, tk0, rfl, ex⟩, e1, e2⟩ k
    refine ⟨⟨?_, k _ _ STI tI, ⟨a, b, k _ _ STO tO⟩, k1.at fun o e => k _ _ Si1 e, k2.at fun o e => k _ _ Si2 e, f1.at fun o e => k _ _ Sl1 e, f2.at fun o e => k _ _ Sl2 e, fun j v hv => ?_, h', tk, rfl, fun c o hc hcS e => k _ _ hcS (ex c o hc hcS e)⟩, e1, e2⟩
    · rcases ph with ⟨a, b⟩ | ⟨T0, b, oT, a1, a2, a3, a4⟩
      · exact .inl ⟨a, k _ _ Sz b⟩
      · exact .inr ⟨T0, b, oT, k _ _ Sz a1, k _ _ a4 a2, a3, a4⟩
    · obtain ⟨T, a, b, b1, b2, b3, b4, b5, b6⟩ := ps j v hv
      exact ⟨T, a, b, b1, b2, b3, k _ _ b6 b4, b5, b6⟩
  · rintro vs r0 r s' Q E ⟨x, e1, e2⟩ hSx hQ
    obtain ⟨nT, nS⟩ := fresh x hSx
    rw [List.length_cons] at e2
    have hi : vs.length < xs.length := by omega
    have ex1 : xs.toArray[vs.length]? = some xs[vs.length] := by rw [List.getElem?_toArray]; exact List.getElem?_eq_getElem hi
    have ex2 : ys.toArray[vs.length]? = some (ys[vs.length]'(by omega)) := by rw [List.getElem?_toArray]; exact List.getElem?_eq_getElem _
    obtain ⟨ph, tI, ⟨a, b, tO⟩, k1, k2, f1, f2, ps, h0, tk0, rfl, ex⟩ := x
    dsimp only at ph tI tO k1 k2 f1 f2 ps hSx nT nS ⊢
    obtain ⟨oS, eS⟩ := hSx
    -- the new state
    have fin : ∀ (h' : Heap) a b, xs[vs.length]? = some a → ys[vs.length]? = some b → (∃ T0 b oT, h'.get? z = some (zkO TI TO T0 b) ∧ h'.get? T0 = some oT ∧ s.heap.get? T0 = none ∧ T0 ≠ s.heap.objs.size) → IsPair h' TI (.ref i1) (.ref i2) → (∃ a b, IsPair h' TO a b) → h'.IsListIter i1 l1 (vs.length + 1) → h'.IsListIter i2 l2 (vs.length + 1) → IsPair h' h0.objs.size a b → (∀ c o, c ∉ [z, TI, TO, i1, i2] → h0.get? c = some o → h'.get? c = some o) → Q (some (.ref h0.objs.size)) { s with heap := h', toks := tk0 } := by
      intro h' a b ha hb ph' tI' tO' k1' k2' hp kk
      refine hQ (.ref h0.objs.size) _ ⟨⟨.inr ph', tI', tO', by rw [List.length_append]; exact k1', by rw [List.length_append]; exact k2', ?_, ?_, fun j v hv => ?_, h', tk0, rfl, fun c o hc hcS e => kk _ _ hc (ex c o hc hcS e)⟩, by rw [List.length_append, List.length_singleton]; omega, by rw [List.length_append, List.length_singleton]; omega⟩ fun o e => kk _ _ (fun hm => ?_) e
      · refine f1.at fun o e => kk _ _ (fun hm => ?_) e
        simp only [List.mem_cons, List.not_mem_nil, or_false] at hm
        rcases hm with z1 | z1 | z1 | z1 | z1
        · exact D.l1z z1
        · obtain ⟨_, q, q2, _⟩ := f1; rw [z1, tI] at q; cases q; simp at q2
        · exact D.l1TO z1
        · exact D.l1i1 z1
        · exact D.l1i2 z1
      · refine f2.at fun o e => kk _ _ (fun hm => ?_) e
        simp only [List.mem_cons, List.not_mem_nil, or_false] at hm
        rcases hm with z1 | z1 | z1 | z1 | z1
        · exact D.l2z z1
        · obtain ⟨_, q, q2, _⟩ := f2; rw [z1, tI] at q; cases q; simp at q2
        · exact D.l2TO z1
        · exact D.l2i1 z1
        · exact D.l2i2 z1
      · rcases snoc_at hv with hv | ⟨rfl, rfl⟩
        · obtain ⟨T, a, b, b1, b2, b3, b4, b5, b6⟩ := ps j v hv
          exact ⟨T, a, b, b1, b2, b3, kk _ _ (nw b5) b4, b5, b6⟩
        · exact ⟨_, a, b, rfl, ha, hb, hp, nT, nS⟩
      · simp only [List.mem_cons, List.not_mem_nil, or_false] at hm
        rcases hm with z1 | z1 | z1 | z1 | z1
        · exact Sz z1.symm
        · exact STI z1.symm
        · exact STO z1.symm
        · exact Si1 z1.symm
        · exact Si2 z1.symm
    have mem : ∀ {c : Addr}, c ∉ [z, TI, TO, i1, i2] → c ≠ z ∧ c ≠ TO ∧ c ≠ i1 ∧ c ≠ i2 := fun hc => ⟨fun q => hc (by simp [q]), fun q => hc (by simp [q]), fun q => hc (by simp [q]), fun q => hc (by simp [q])⟩
    rcases ph with ⟨rfl, hz'⟩ | ⟨T0, bb, oT, a1, a2, a3, a4⟩
    · refine wpAny_pyNext_zip_item D hz' tI tO k1 k2 f1 f2 ex1 ex2 fun h' b1 b2 b3 b4 b5 b6 hk => ?_
      have lt : ∀ {c o}, h0.get? c = some o → c ≠ h0.objs.size := fun e => Nat.ne_of_lt (Heap.lt_size e)
      exact fin h' _ _ (by rwa [List.getElem?_toArray] at ex1) (by rwa [List.getElem?_toArray] at ex2) ⟨_, false, _, b1, b5, nT, nS⟩ (hk _ _ D.TIz D.TITO D.TIi1 D.TIi2 tI) ⟨_, _, b2⟩ b3 b4 b5 fun c o hc e => let ⟨m1, m2, m3, m4⟩ := mem hc; hk c o m1 m2 m3 m4 e
    · refine kept_py (xs := xs.toArray) (ys := ys.toArray) hh D a1 a2 (fun q => by rw [q, hz] at a3; cases a3) tI k1 k2 f1 f2 (fun x y h' b1 b2 b3 b4 b5 b6 hk => ?_) (fun hn => by rw [ex1] at hn; cases hn) (.inr ⟨_, ex2⟩)
      have hT0 := mem (nw a3)
      exact fin h' x y (by rwa [List.getElem?_toArray] at b1) (by rwa [List.getElem?_toArray] at b2) ⟨T0, true, oT, b3, hk _ _ hT0.1 hT0.2.2.1 hT0.2.2.2 a2, a3, a4⟩ (hk _ _ D.TIz D.TIi1 D.TIi2 tI) ⟨a, b, hk _ _ D.TOz D.TOi1 D.TOi2 tO⟩ b4 b5 b6 fun c o hc e => let ⟨m1, m2, m3, m4⟩ := mem hc; hk c o m1 m3 m4 e
  · rintro vs s' Q E ⟨x, e1, e2⟩ hQ
    have hi : vs.length = xs.length := by simp only [List.length_nil] at e2; omega
    obtain ⟨ph, tI, ⟨a, b, tO⟩, k1, k2, f1, f2, ps, h0, tk0, rfl, ex⟩ := x
    dsimp only at ph tI tO k1 k2 f1 f2 ps ⊢
    have ex1 : xs.toArray[vs.length]? = none := by rw [List.getElem?_toArray]; exact List.getElem?_eq_none (by omega)
    have mem : ∀ {c : Addr}, c ∉ [z, TI, TO, i1, i2] → c ≠ z ∧ c ≠ TO ∧ c ≠ i1 ∧ c ≠ i2 := fun hc => ⟨fun q => hc (by simp [q]), fun q => hc (by simp [q]), fun q => hc (by simp [q]), fun q => hc (by simp [q])⟩
    have fin : ∀ h' : Heap, (∀ c o, c ∉ [z, TI, TO, i1, i2] → h0.get? c = some o → h'.get? c = some o) → Q none { s with heap := h', toks := tk0 } := fun h' kk =>
      hQ _ ⟨hi, fun j v hv => let ⟨T, a, b, b1, b2, b3, b4, b5, b6⟩ := ps j v hv; ⟨T, a, b, b1, b2, b3, kk _ _ (nw b5) b4, b5⟩, h', tk0, rfl, fun c o hc hcS e => kk _ _ hc (ex c o hc hcS e)⟩ fun o e => kk _ _ (fun hm => by
        simp only [List.mem_cons, List.not_mem_nil, or_false] at hm
        rcases hm with z1 | z1 | z1 | z1 | z1
        · exact Sz z1.symm
        · exact STI z1.symm
        · exact STO z1.symm
        · exact Si1 z1.symm
        · exact Si2 z1.symm) e
    rcases ph with ⟨rfl, hz'⟩ | ⟨T0, bb, oT, a1, a2, a3, a4⟩
    · exact wpAny_pyNext_zip_end hh D hz' tI tO k1 k2 f1 f2 (.inl ex1) fun h' hk => fin h' fun c o hc e => let ⟨m1, m2, m3, m4⟩ := mem hc; hk c o m1 m2 m3 m4 e
    · exact kept_py (xs := xs.toArray) (ys := ys.toArray) hh D a1 a2 (fun q => by rw [q, hz] at a3; cases a3) tI k1 k2 f1 f2 (fun x y h' b1 => by rw [ex1] at b1; cases b1) (fun _ h' hk => fin h' fun c o hc e => let ⟨m1, m2, m3, m4⟩ := mem hc; hk c o m1 m3 e) (.inl ex1)
  · intro h' tk k
    have hT : Shared.TypeIs { s with heap := h', toks := tk } (.ref z) "zip" := ⟨_, k _ _ hz, rfl⟩
    exact ⟨fun Q E hq => wpAny_typeOf hT (hq _ (by decide) (by decide))⟩
  · rintro s₁ Q E ⟨h', tk, rfl, k⟩ hq
    have hT : Shared.TypeIs { s with heap := h', toks := tk } (.ref z) "zip" := ⟨_, k _ _ hz, rfl⟩
    refine wpAny_pyIter_zip (k _ _ hz) (hq _ ⟨⟨.inl ⟨rfl, k _ _ hz⟩, k _ _ hTI, ⟨ta, tb, k _ _ hTO⟩, h1.at fun o e => k _ _ e, h2.at fun o e => k _ _ e, g1.at fun o e => k _ _ e, g2.at fun o e => k _ _ e, fun j v hv => by simp at hv, h', tk, rfl, fun c o _ _ e => k c o e⟩, Nat.zero_le _, rfl⟩ (fun o e => e) fun Q E hq => ?_)
    exact wpAny_bind (m := specialOf (.ref z) "__len__") (wpAny_specialOf hT nolen_zip (wpAny_bind (m := specialOf (.ref z) "__length_hint__") (wpAny_specialOf hT nohint_zip (wpAny_pure hq))))
  · rintro s' vs' n' ⟨h1', h2', hx, tk, rfl, k⟩ e
    exact h hx tk vs' n' (fun c o hc ec => k c o hc (Ne.symm (top ec)) ec) e h1' h2'
end Mine
end

section
open PySem PySem.W PyProof.Rows PySem.Calls PySem.Spec
namespace Mine
/-! ## law: pairs, and the row made of them -/
section
variable {w : World} {mg mb : PySem.Str → Option Value} {A A₀ : Around} {p : FP2} {nss : Nss} {news its : List (Addr × Obj)} {s : Shared} {env : Env} {a : Addr} {m : PySem.Str → Option Value}
theorem listZ (R : Fk2 w mg mb A₀ p) (hh : A.handled = none) {z TI TO i1 i2 l1 l2 : Addr} {xs ys : List Value} {k1 k2 : Nat} {Q E : Value → Shared → Prop} (D : ZipApart z TI TO i1 i2 l1 l2) (hIt : ItZ z TI TO i1 i2 l1 l2 0 its) (hs : FS p nss (its ++ news) s) (hna : ∀ q ∈ news, q.1 ∉ [z, TI, TO, i1, i2]) (g1 : s.heap.get? l1 = some (listO xs.toArray k1)) (g2 : s.heap.get? l2 = some (listO ys.toArray k2)) (hlen : xs.length = ys.length) (hz : xs.length < 1000)
    (h : ∀ (s' : Shared) (S : Addr) (vs : List Value) (n : Nat) (tl : List (Addr × Obj)), FS p nss (tl ++ (S, listO vs.toArray n) :: news) s' → vs.length = xs.length → (∀ (j : Nat) (v : Value), vs[j]? = some v → ∃ T a b, v = .ref T ∧ xs[j]? = some a ∧ ys[j]? = some b ∧ (T, pairO a b) ∈ tl) → (∀ q ∈ news, q.1 ≠ S) → (∀ t ∈ tl, ∀ q ∈ news, q.1 ≠ t.1) → Q (.ref S) s') : wpAny (model pw w) A (call (.type "list") [.ref z]) Q E s := by
  have had := hIt.ads
  obtain ⟨ta, tb, o1, o2, rfl, c1, c2⟩ := hIt
  refine list_zip hh D (hs.at_ _ (.head _)).1 (hs.at_ _ (.tail _ (.head _))).1 ⟨_, _, (hs.at_ _ (.tail _ (.tail _ (.head _)))).1⟩ ⟨o1, (hs.at_ _ (.tail _ (.tail _ (.tail _ (.head _))))).1, c1⟩ ⟨o2, (hs.at_ _ (.tail _ (.tail _ (.tail _ (.tail _ (.head _)))))).1, c2⟩ ⟨_, g1, rfl, _, rfl⟩ ⟨_, g2, rfl, _, rfl⟩ hlen hz fun h' tk vs n kk eS hl hps => ?_
  obtain ⟨tl, t1, t2⟩ := chosen vs (fun j v (q : Addr × Obj) => ∃ T a b, v = .ref T ∧ xs[j]? = some a ∧ ys[j]? = some b ∧ q = (T, pairO a b) ∧ h'.get? T = some (pairO a b) ∧ s.heap.get? T = none) fun j v hv => let ⟨T, a, b, b1, b2, b3, b4, b5⟩ := hps j v hv; ⟨(T, pairO a b), T, a, b, b1, b2, b3, rfl, b4, b5⟩
  have f0 := hs.turn R (its' := []) (h' := h') (tk := tk) (fun b o hb e => kk b o (by rw [← had]; exact hb) e) (fun q hq => by cases hq) (by rw [had]; exact hna)
  have sS := hs.sep (get_top s.heap)
  refine h _ s.heap.objs.size vs n tl ⟨f0.mv, f0.ns, f0.nd, f0.hL, fun q hq => ?_⟩ hl (fun j v hv => ?_) (fun q hq => sS q (List.mem_append.mpr (.inr hq))) fun t ht q hq => by obtain ⟨j, v, hv, T, a, b, _, _, _, rfl, e1, e2⟩ := t1 t ht; exact hs.sep e2 q (List.mem_append.mpr (.inr hq))
  · rcases List.mem_append.mp hq with hq | hq
    · obtain ⟨j, v, hv, T, a, b, _, _, _, rfl, e1, e2⟩ := t1 q hq
      exact ⟨e1, hs.none0 R e2⟩
    rcases List.mem_cons.mp hq with rfl | hq
    · exact ⟨eS, hs.none0 R (get_top s.heap)⟩
    · exact f0.at_ q hq
  · obtain ⟨q, hq, T, a, b, b1, b2, b3, rfl, _⟩ := t2 j v hv
    exact ⟨T, a, b, b1, b2, b3, hq⟩
noncomputable abbrev scA : Scope := { kind := .function, names := [(PySem.Str.ofString ".0", NameKind.local), (PySem.Str.ofString "a", NameKind.local), (PySem.Str.ofString "b", NameKind.local)], isGenerator := false, isCoroutine := false }
theorem rowNew (R : Fk2 w mg mb A₀ p) (he : En env a p.L) (hh : A.handled = none) {elt : PySem.Expr} {f : Int → Int → Int} {q1 q2 q3 q4 q5 : Pos} {d1 : Nat} {S : Addr} {vs xs ys : List Value} {n : Nat} {as bs : List Int} {Q E : Value → Shared → Prop} (hs : FS p ((a, m) :: nss) news s) (mp : m (PySem.Str.ofString "pairs") = some (.ref S)) (kp : env.kindOf (PySem.Str.ofString "pairs") = some .local) (hS : (S, listO vs.toArray n) ∈ news) (hl : vs.length = xs.length)
    (hps : ∀ (j : Nat) (v : Value), vs[j]? = some v → ∃ T a b, v = .ref T ∧ xs[j]? = some a ∧ ys[j]? = some b ∧ (T, pairO a b) ∈ news) (ix : IntsAre xs as) (iy : IntsAre ys bs) (hlen : as.length = bs.length) (hz : as.length < 1000)
    (helt : ∀ C m' s' news' (x y : Int) t u (Q E : Value → Shared → Prop), En (compEnvC scA [] C env) C p.L → FS p ((C, m') :: (a, m) :: nss) news' s' → m' (PySem.Str.ofString "a") = some (.int x t) → m' (PySem.Str.ofString "b") = some (.int y u) → x ∈ as → y ∈ bs → (∀ v tk, (∃ t, v = .int (f x y) t) → Q v { s' with toks := tk }) → wpAny (model pw w) A (eval elt (compEnvC scA [] C env)) Q E s')
    (h : ∀ (s' : Shared) (D : Addr) (vs : List Value) (n : Nat), FS p ((a, m) :: nss) (news ++ [(D, listO vs.toArray n)]) s' → (∀ q ∈ news, q.1 ≠ D) → IntsAre vs (List.zipWith f as bs) → Q (.ref D) s') :
    wpAny (model pw w) A (eval (.ListComp elt [⟨.Tuple [.Name (PySem.Str.ofString "a") q1, .Name (PySem.Str.ofString "b") q2] d1 q3, .Name (PySem.Str.ofString "pairs") q4, [], 0⟩] scA q5) env) Q E s := by
  have lx := IntsAre.length ix
  refine cmp R he (cl := []) (by simp [closureFor]) (by decide) rfl (by decide) (nm he hs mp (iterL R hs (hs.at_ _ hS).1 fun s4 I hs4 hI => ?_) kp)
  have hna : ∀ q ∈ news, q.1 ∉ [I] := fun q hq hm => hs.sep hI q hq (List.mem_singleton.mp hm)
  have kx : ∀ C, (compEnvC scA [] C env).kindOf (PySem.Str.ofString "a") = some NameKind.local := fun C => kC rfl rfl
  have ky : ∀ C, (compEnvC scA [] C env).kindOf (PySem.Str.ofString "b") = some NameKind.local := fun C => kC rfl rfl
  have hzw : (List.zipWith f as bs).length = vs.length := by rw [List.length_zipWith]; omega
  refine ⟨I, _, [(I, itO S 0)] ++ news, _, rfl, hs4, blockS (A := A) (its := [(I, itO S 0)]) (news := news) R hs4 ⟨_, rfl, rfl, rfl⟩ (fun C he' => src_pairs (A := A) (st := news) (P := fun i x y => ∃ c d t u, as[i]? = some c ∧ bs[i]? = some d ∧ x = .int c t ∧ y = .int d u) R he' hh (Has.in hS) (hs.sep hI _ hS) (kx C) (ky C) fun i v hv => ?_) hna rfl (fun i us => IntsAre us ((List.zipWith f as bs).take i)) ?_ ?_ ?_, fun D news' s6 hs6 hfin => ?_⟩
  · obtain ⟨T, x, y, rfl, hx, hy, hm⟩ := hps i v hv
    obtain ⟨c, t, hc, rfl⟩ := int_at ix i x hx
    obtain ⟨d, u, hd, rfl⟩ := int_at iy i y hy
    exact ⟨T, _, _, 0, rfl, hs.sep hI _ hm, ⟨c, d, t, u, hc, hd, rfl, rfl⟩, Has.in hm⟩
  · show IntsAre [] (List.take 0 _); rw [List.take_zero]; exact .nil
  · rintro i us hi hr
    have := IntsAre.length hr
    rw [List.length_take] at this
    omega
  · rintro C D i its m1 m2 us k s E' he' hi ⟨x, y, ⟨c, d, t, u, hc, hd, rfl, rfl⟩, rfl⟩ hr hs5
    refine wpAny_tests_nil ?_
    rw [if_pos rfl]
    refine helt C _ s _ c d t u _ _ he' hs5 ((if_neg (by decide)).trans (if_pos rfl)) (if_pos rfl) (List.mem_of_getElem? hc) (List.mem_of_getElem? hd) fun v tk ⟨t', hv⟩ => ⟨_, hs5.toks tk, ?_⟩
    rw [take_snoc (zw_at hc hd), hv]
    exact IntsAre.append hr (.cons _ _ .nil)
  · obtain ⟨⟨us, k, rfl, hr⟩, hD⟩ := hfin
    rw [List.take_of_length_le (by omega)] at hr
    exact h s6 D us k hs6 (fun q hq => hs4.sep hD q (.tail _ hq)) hr
/-- a * b; (a + b) % 2 -/
theorem el_and {env : Env} {q1 q2 q3 : Pos} (C : Addr) (m' : PySem.Str → Option Value) (s' : Shared) (nss' : Nss) (news' : List (Addr × Obj)) (x y : Int) (t u : Tok) (Q E : Value → Shared → Prop) (he' : En (compEnvC scA [] C env) C p.L) (hs : FS p ((C, m') :: nss') news' s') (ma : m' (PySem.Str.ofString "a") = some (.int x t)) (mb' : m' (PySem.Str.ofString "b") = some (.int y u)) (hm : IntMulOk x y) (hq : ∀ v tk, (∃ t, v = .int (x * y) t) → Q v { s' with toks := tk }) : wpAny (model pw w) A (eval (.BinOp (.Name (PySem.Str.ofString "a") q1) .Mult (.Name (PySem.Str.ofString "b") q2) q3) (compEnvC scA [] C env)) Q E s' :=
  wpAny_BinOp (nm he' hs ma (nm he' hs mb' (mul_int (hq _ _ ⟨_, rfl⟩) hm) (kC rfl rfl)) (kC rfl rfl))
theorem el_xor {env : Env} {q1 q2 q3 q4 q5 : Pos} {d1 : Nat} (C : Addr) (m' : PySem.Str → Option Value) (s' : Shared) (nss' : Nss) (news' : List (Addr × Obj)) (x y : Int) (t u : Tok) (Q E : Value → Shared → Prop) (he' : En (compEnvC scA [] C env) C p.L) (hs : FS p ((C, m') :: nss') news' s') (ma : m' (PySem.Str.ofString "a") = some (.int x t)) (mb' : m' (PySem.Str.ofString "b") = some (.int y u)) (hq : ∀ v tk, (∃ t, v = .int ((x + y).fmod 2) t) → Q v { s' with toks := tk }) : wpAny (model pw w) A (eval (.BinOp (.BinOp (.Name (PySem.Str.ofString "a") q1) .Add (.Name (PySem.Str.ofString "b") q2) q3) .Mod (.Constant (.int 2) d1 q4) q5) (compEnvC scA [] C env)) Q E s' :=
  wpAny_BinOp (wpAny_BinOp (nm he' hs ma (nm he' hs mb' (add_int (wpAny_Constant_int (mod_int (by decide) (hq _ _ ⟨_, rfl⟩)))) (kC rfl rfl)) (kC rfl rfl)))
end
end Mine
end

section
open PySem PySem.W PyProof.Rows PySem.Calls PySem.Spec
namespace Mine
/-! ## law: its words; slices; what is told -/
theorem signed_nodup {ws : List PySem.Str} (h : Signed ws) : ws.Nodup := by
  refine List.pairwise_iff_getElem.mpr fun i j hi hj hij e => ?_
  obtain ⟨c, e1⟩ := h i ws[i] (List.getElem?_eq_getElem hi)
  obtain ⟨d, e2⟩ := h j ws[j] (List.getElem?_eq_getElem hj)
  rw [e1, e2] at e
  have e4 := congrArg (fun s : PySem.Str => s.cps.toList) e
  simp at e4
  omega
structure Words7 (ws : List PySem.Str) : Prop where
  w : Wordy ws
  n : ws.length = 7
  r : Rising ws
theorem words7 {ss ws : List PySem.Str} (hp : ss.Perm (base4 ++ ws)) (h3 : ws.length = 3) (hs : Signed ws) (ho : sortedS ss = true) : Words7 ss := by
  have hlen : ss.length = 7 := by rw [hp.length_eq, List.length_append, h3]; rfl
  have two : ∀ x ∈ ws, x.cps.size = 2 := fun x hx => by
    obtain ⟨i, hi⟩ := List.mem_iff_getElem?.mp hx
    obtain ⟨c, rfl⟩ := hs i x hi
    rfl
  have four : ∀ x ∈ base4, x.cps.size ≤ 1 := by decide +kernel
  have hn : ss.Nodup := hp.nodup_iff.mpr (List.nodup_append.mpr ⟨by decide +kernel, signed_nodup hs, fun a ha b hb e => by
    have h1 := four a ha
    have h2 := two b hb
    rw [e] at h1; omega⟩)
  refine ⟨⟨by omega, fun x hx => ?_⟩, hlen, rising_of ho hn⟩
  rcases List.mem_append.mp (hp.mem_iff.mp hx) with h | h
  · have := four x h; show x.cps.size < 100; omega
  · have := two x h; show x.cps.size < 100; omega
section
variable {w : World} {mg mb : PySem.Str → Option Value} {A A₀ : Around} {p : FP2} {nss : Nss} {news : List (Addr × Obj)} {s : Shared} {env : Env} {a l : Addr} {m : PySem.Str → Option Value} {vs : List Value} {n : Nat}
/-- two new objects of a slice: its bounds, its list -/
theorem FS.two (R : Fk2 w mg mb A₀ p) (hs : FS p nss news s) (o1 o2 : Obj) (h1 : o1.isFreed = false) (h2 : o2.isFreed = false) {tk : Nat} : FS p nss ((s.heap.objs.size + 1, o2) :: news) { s with heap := (s.heap.push o1).push o2, toks := tk } := by
  have a1 := (hs.new R o1 h1 (tk := tk)).new R o2 h2 (tk := tk)
  have e2 : (s.heap.push o1).objs.size = s.heap.objs.size + 1 := Heap.size_push ..
  have a2 := a1.sub (news' := ((s.heap.push o1).objs.size, o2) :: news) fun q hq => by
    rcases List.mem_cons.mp hq with rfl | hq
    · exact .head _
    · exact .tail _ (.tail _ hq)
  rw [e2] at a2
  exact a2
/-- x[:b] and x[a:b], x a local list of ints -/
theorem upto (R : Fk2 w mg mb A₀ p) (he : En env a p.L) {x : PySem.Str} {b : Nat} {d : Nat} {q1 q2 q3 q4 : Pos} {ns : List Int} {Q E : Value → Shared → Prop} (hs : FS p ((a, m) :: nss) news s) (mx : m x = some (.ref l)) (kx : env.kindOf x = some .local) (hl : s.heap.IsList l vs.toArray) (hi : IntsAre vs ns) (hz : vs.length < 1000000)
    (h : ∀ (s' : Shared) (S : Addr) (us : List Value), FS p ((a, m) :: nss) ((S, listO us.toArray 0) :: news) s' → IntsAre us (ns.take b) → (∀ q ∈ news, q.1 ≠ S) → Q (.ref S) s') (d1 : (x == PySem.Str.ofString "__debug__") = false := by decide) :
    wpAny (model pw w) A (eval (.Subscript (.Name x q1) (.Slice none (some (.Constant (.int (b : Int)) d q2)) none q3) q4) env) Q E s := by
  refine wpAny_Subscript_list_slice (nm he hs mx (wpAny_evalPart_none (wpAny_evalPart_some (wpAny_Constant_int ?_))) kx d1) (fun _ _ => rfl)
  refine ⟨l, vs.toArray, none, some (b : Int), rfl, hl, by rw [List.size_toArray, sizeLine_eq]; omega, .none, .int _ _, ?_⟩
  rw [slicePick_upto', List.toList_toArray]
  have sS := hs.sep (D := s.heap.objs.size + 1) (Heap.get?_none_of_le (Nat.le_succ _))
  exact h _ _ _ (FS.two (s := { s with toks := s.toks + 1 }) R (hs.toks _) _ (listO (vs.take b).toArray 0) rfl rfl) (IntsAre.take hi b) sS
theorem part (R : Fk2 w mg mb A₀ p) (he : En env a p.L) {x : PySem.Str} {c b : Nat} {d d' : Nat} {q1 q2 q3 q4 q5 : Pos} {ns : List Int} {Q E : Value → Shared → Prop} (hs : FS p ((a, m) :: nss) news s) (mx : m x = some (.ref l)) (kx : env.kindOf x = some .local) (hl : s.heap.IsList l vs.toArray) (hi : IntsAre vs ns) (hz : vs.length < 1000000)
    (h : ∀ (s' : Shared) (S : Addr) (us : List Value) (ms : List Int), FS p ((a, m) :: nss) ((S, listO us.toArray 0) :: news) s' → IntsAre us ms → us.length ≤ b - c → (∀ q ∈ news, q.1 ≠ S) → Q (.ref S) s') (d1 : (x == PySem.Str.ofString "__debug__") = false := by decide) :
    wpAny (model pw w) A (eval (.Subscript (.Name x q1) (.Slice (some (.Constant (.int (c : Int)) d' q5)) (some (.Constant (.int (b : Int)) d q2)) none q3) q4) env) Q E s := by
  refine wpAny_Subscript_list_slice (nm he hs mx (wpAny_evalPart_some (wpAny_Constant_int (wpAny_evalPart_some (wpAny_Constant_int ?_)))) kx d1) (fun _ _ => rfl)
  refine ⟨l, vs.toArray, some (c : Int), some (b : Int), rfl, hl, by rw [List.size_toArray, sizeLine_eq]; omega, .int _ _, .int _ _, ?_⟩
  rw [slicePick_plain, List.toList_toArray]
  simp only [Option.elim, clipAt_nat]
  have sS := hs.sep (D := s.heap.objs.size + 1) (Heap.get?_none_of_le (Nat.le_succ _))
  refine h _ _ _ ((ns.drop _).take _) (FS.two (s := { s with toks := s.toks + 1 + 1 }) R (hs.toks _) _ (listO _ 0) rfl rfl) (IntsAre.take (IntsAre.drop hi _) _) ?_ sS
  rw [List.length_take, List.length_drop]
  omega
end
theorem glob_told (P : Params) : nsIn (K P) mainGlobals (PySem.Str.ofString "_law_told") = some (some (.ref 832)) := by kernel_rfl
theorem keep832 (P : Params) : keepIn (K P) (.ref 832) = true := by kernel_rfl
section
variable {w : World} {mg mb : PySem.Str → Option Value} {A A₀ : Around} {p : FP2} {nss : Nss} {news ext : List (Addr × Obj)} {s : Shared} {env : Env} {a cw Wd Rw : Addr} {m : PySem.Str → Option Value} {oc : Obj} {vw : List Value} {kW kR : Nat} {ws : List PySem.Str} {bss : List (List Int)}
noncomputable abbrev scT : Scope := { kind := .function, names := [(PySem.Str.ofString ".0", NameKind.local), (PySem.Str.ofString "row", NameKind.local), (PySem.Str.ofString "_law_told", NameKind.globalImplicit), (PySem.Str.ofString "words", NameKind.free)], isGenerator := false, isCoroutine := false }
theorem toldC (R : Fk2 w mg mb A₀ p) (he : En env a p.L) (hh : A.handled = none) (ar : Ar A p 6) {q1 q2 q3 q4 q5 q6 q7 : Pos} {Q E : Value → Shared → Prop} (hs : FS p ((a, m) :: nss) news s) (hc : (cw, oc) ∈ news) (hd : oc.data = .cell (some (.ref Wd))) (hl : env.cells.lookup (PySem.Str.ofString "words") = some cw) (kw : env.kindOf (PySem.Str.ofString "words") = some .cell) (kr : env.kindOf (PySem.Str.ofString "rows") = some .local)
    (mr : m (PySem.Str.ofString "rows") = some (.ref Rw)) (hW : (Wd, listO vw.toArray kW) ∈ news) (hR : (Rw, listO (refs ext).toArray kR) ∈ news) (hE : ∀ q ∈ ext, q ∈ news) (sw : StrsAre vw ws) (hr : RowsAre ext bss) (hw : Wordy ws) (hlen : ∀ bs ∈ bss, bs.length = ws.length) (hn : bss.length < 1000)
    (h : ∀ (s' : Shared) (D : Addr) (vs : List Value) (n : Nat), FS p ((a, m) :: nss) (news ++ [(D, listO vs.toArray n)]) s' → (∀ q ∈ news, q.1 ≠ D) → StrsAre vs (linesOf ws bss) → Q (.ref D) s') :
    wpAny (model pw w) A (eval (.ListComp (.Call (.Name (PySem.Str.ofString "_law_told") q1) [.Name (PySem.Str.ofString "words") q2, .Name (PySem.Str.ofString "row") q3] [] q4) [⟨.Name (PySem.Str.ofString "row") q5, .Name (PySem.Str.ofString "rows") q6, [], 0⟩] scT q7) env) Q E s := by
  have lr := hr.len
  refine cmp R he (cl := [(PySem.Str.ofString "words", cw)]) (by simp [closureFor, cellOf, hl]) (by decide) rfl (by decide) (nm he hs mr (iterL R hs (hs.at_ _ hR).1 fun s4 I hs4 hI => ?_) kr)
  have hna : ∀ q ∈ news, q.1 ∉ [I] := fun q hq hm => hs.sep hI q hq (List.mem_singleton.mp hm)
  have hRI : Rw ≠ I := hs.sep hI _ hR
  have kx : ∀ C, (compEnvC scT [(PySem.Str.ofString "words", cw)] C env).kindOf (PySem.Str.ofString "row") = some NameKind.local := fun C => kC rfl rfl
  have kj : ∀ C, (compEnvC scT [(PySem.Str.ofString "words", cw)] C env).kindOf (PySem.Str.ofString "_law_told") = some NameKind.globalImplicit := fun C => kC rfl rfl
  have kw' : ∀ C, (compEnvC scT [(PySem.Str.ofString "words", cw)] C env).kindOf (PySem.Str.ofString "words") = some NameKind.cell := fun C => kF rfl he.kf kw
  refine ⟨I, _, [(I, itO Rw 0)] ++ news, _, rfl, hs4, blockS (A := A) (its := [(I, itO Rw 0)]) (news := news) R hs4 ⟨_, rfl, rfl, rfl⟩ (fun C he' => src_list (A := A) (st := news) R he' hh (Has.in hR) hRI (kx C)) hna rfl (fun i ys => StrsAre ys (linesOf ws (bss.take i))) .nil ?_ ?_, fun D news' s6 hs6 hfin => ?_⟩
  · rintro i ys hi hr
    have h1 := StrsAre.length hr
    unfold linesOf at h1
    rw [List.length_map, List.length_take] at h1
    omega
  · rintro C D i its m1 m2 ys n s E' he' hi ⟨v, hv, rfl⟩ hys hs5
    obtain ⟨ra, rvs, rn, bs, rfl, hin, hbs, hir⟩ := hr.at_ i v hv
    have up : ∀ {q}, q ∈ news → q ∈ its ++ (news ++ [(D, listO ys.toArray n)]) := fun hq => List.mem_append.mpr (.inr (List.mem_append.mpr (.inl hq)))
    have hl1 := hlen bs (List.mem_of_getElem? hbs)
    refine wpAny_tests_nil ?_
    rw [if_pos rfl]
    refine cG R he' hs5 glob_told keep832 (kj C) (args_cons (nmC he' hs5 (up hc) hd rfl (kw' C) (args_cons (nm he' hs5 (if_pos rfl) (args_nil ⟨(hs5.wd R).X, ?_⟩) (kx C)))))
    refine sp (lt_spec hw hl1) R (ar.le (by decide)) hs5 ⟨⟨⟨vw, kW, (hs5.at_ _ (up hW)).1, sw⟩, hs5.offL R (up hW)⟩, ⟨⟨rvs, rn, (hs5.at_ _ (up (hE _ hin))).1, hir⟩, hs5.offL R (up (hE _ hin))⟩⟩ ?_
    rintro s7 _ hs7 _ ⟨t, rfl⟩
    refine ⟨_, hs7, ?_⟩
    unfold linesOf
    rw [take_snoc hbs, List.map_append]
    exact StrsAre.append' hys (.cons _ _ .nil)
  · obtain ⟨⟨ys, n, rfl, hys⟩, hD⟩ := hfin
    rw [List.take_of_length_le (by rw [refs_len]; omega)] at hys
    exact h s6 D ys n hs6 (fun q hq => hs4.sep hD q (.tail _ hq)) hys
end
end Mine
end

section
open PySem PySem.W PyProof.Rows PySem.Calls PySem.Spec
namespace Mine
/-! ## law: a line and a row more -/
/-- the loop's state: the ledger's changing part -/
structure LawI (st : List (Addr × Obj)) (ws : List PySem.Str) (Rw Ln : Addr) (len : Nat) (m : PySem.Str → Option Value) (ext : List (Addr × Obj)) : Prop where
  mr : m (PySem.Str.ofString "rows") = some (.ref Rw)
  ml : m (PySem.Str.ofString "lines") = some (.ref Ln)
  ex : ∃ re bss kR vl kL, ext = (Rw, listO (refs re).toArray kR) :: (Ln, listO vl.toArray kL) :: re ∧ RowsAre re bss ∧ StrsAre vl (linesOf ws bss) ∧ (∀ bs ∈ bss, Bits bs ∧ bs.length = ws.length) ∧ bss.length = len ∧ (∀ q ∈ st ++ re, q.1 ≠ Rw ∧ q.1 ≠ Ln) ∧ Rw ≠ Ln
section
variable {w : World} {mg mb : PySem.Str → Option Value} {A A₀ : Around} {p : FP2} {nss : Nss} {st P its re : List (Addr × Obj)} {s : Shared} {env : Env} {a Rw Ln : Addr} {m : PySem.Str → Option Value} {ads : List Addr} {ws : List PySem.Str} {bss : List (List Int)} {kR kL : Nat} {vl : List Value} {b' : List Int} {e1 e2 : PySem.Expr}
theorem twoApp (R : Fk2 w mg mb A₀ p) (he : En env a p.L) (hin : interactive env = false) {q1 q2 q3 q4 q5 q6 q7 q8 : Pos} {E : Value → Shared → Prop} (kr : env.kindOf (PySem.Str.ofString "rows") = some .local) (kl : env.kindOf (PySem.Str.ofString "lines") = some .local)
    (mr : m (PySem.Str.ofString "rows") = some (.ref Rw)) (ml : m (PySem.Str.ofString "lines") = some (.ref Ln)) (hre : RowsAre re bss) (hvl : StrsAre vl (linesOf ws bss)) (hbb : ∀ bs ∈ bss, Bits bs ∧ bs.length = ws.length) (hst : ∀ q ∈ st ++ re, q.1 ≠ Rw ∧ q.1 ≠ Ln) (hRL : Rw ≠ Ln) (hits : ∀ q ∈ its, q.1 ≠ Rw ∧ q.1 ≠ Ln) (hP : ∀ q ∈ P, q.1 ≠ Rw ∧ q.1 ≠ Ln) (had : its.map (·.1) = ads) (hra : ∀ q ∈ re, q.1 ∉ ads) (hRa : Rw ∉ ads) (hLa : Ln ∉ ads) (hb' : Bits b' ∧ b'.length = ws.length) (hlen : bss.length < 1000)
    (hs : FS p ((a, m) :: nss) (P ++ (its ++ (st ++ (Rw, listO (refs re).toArray kR) :: (Ln, listO vl.toArray kL) :: re))) s)
    (h1 : ∀ (Q E : Value → Shared → Prop), (∀ s' t, FS p ((a, m) :: nss) (P ++ (its ++ (st ++ (Rw, listO (refs re).toArray kR) :: (Ln, listO vl.toArray kL) :: re))) s' → Q (.str (lineOf (pk (ws.zip b'))) t) s') → wpAny (model pw w) A (eval e1 env) Q E s)
    (h2 : ∀ s₁ N (Q E : Value → Shared → Prop), (∀ q ∈ P ++ (its ++ (st ++ (Rw, listO (refs re).toArray kR) :: re)), q ∈ N) → FS p ((a, m) :: nss) N s₁ → (∀ (s' : Shared) (D : Addr) (vs : List Value) (n : Nat), FS p ((a, m) :: nss) (N ++ [(D, listO vs.toArray n)]) s' → (∀ q ∈ N, q.1 ≠ D) → IntsAre vs b' → Q (.ref D) s') → wpAny (model pw w) A (eval e2 env) Q E s₁)
    (hst1 : starEach [e1] env = (false, eval e1 env) :: starEach [] env := by rfl) (hst2 : starEach [e2] env = (false, eval e2 env) :: starEach [] env := by rfl)
    (hm1 : eval (.Call (.Attribute (.Name (PySem.Str.ofString "lines") q1) (PySem.Str.ofString "append") q2) [e1] [] q3) env = (do
        let ov ← eval (.Name (PySem.Str.ofString "lines") q1) env
        standAt (Pos.atName q2)
        let __x ← holding [ov] (getMethod ov (PySem.Str.ofString "append") (do let __do_lift ← importBound (.Name (PySem.Str.ofString "lines") q1) env; pure (__do_lift.getD true)))
        match __x with
        | (f, first) => callWith q3 f first (backTo q3 (starEach [e1] env)) []) := by rfl)
    (hm2 : eval (.Call (.Attribute (.Name (PySem.Str.ofString "rows") q5) (PySem.Str.ofString "append") q6) [e2] [] q7) env = (do
        let ov ← eval (.Name (PySem.Str.ofString "rows") q5) env
        standAt (Pos.atName q6)
        let __x ← holding [ov] (getMethod ov (PySem.Str.ofString "append") (do let __do_lift ← importBound (.Name (PySem.Str.ofString "rows") q5) env; pure (__do_lift.getD true)))
        match __x with
        | (f, first) => callWith q7 f first (backTo q7 (starEach [e2] env)) []) := by rfl) :
    wpAny (model pw w) A (execs [.Expr (.Call (.Attribute (.Name (PySem.Str.ofString "lines") q1) (PySem.Str.ofString "append") q2) [e1] [] q3) q4, .Expr (.Call (.Attribute (.Name (PySem.Str.ofString "rows") q5) (PySem.Str.ofString "append") q6) [e2] [] q7) q8] env)
      (fun f s₁ => f = .next ∧ ∃ ext₂, FS p ((a, m) :: nss) (its ++ (st ++ ext₂)) s₁ ∧ LawI st ws Rw Ln (bss.length + 1) m ext₂ ∧ ∀ q ∈ ext₂, q.1 ∉ ads) E s := by
  have iL : (Ln, listO vl.toArray kL) ∈ P ++ (its ++ (st ++ (Rw, listO (refs re).toArray kR) :: (Ln, listO vl.toArray kL) :: re)) := by simp
  have l1 := StrsAre.length hvl
  have l2 := hre.len
  unfold linesOf at l1
  rw [List.length_map] at l1
  have all : ∀ q ∈ P ++ (its ++ (st ++ (Rw, listO (refs re).toArray kR) :: re)), q ∈ P ++ (its ++ (st ++ (Rw, listO (refs re).toArray kR) :: (Ln, listO vl.toArray kL) :: re)) ∧ q.1 ≠ Ln := fun q hq => by
    simp only [List.mem_append, List.mem_cons] at hq ⊢
    rcases hq with h | h | h | h | h
    · exact ⟨.inl h, (hP q h).2⟩
    · exact ⟨.inr (.inl h), (hits q h).2⟩
    · exact ⟨.inr (.inr (.inl h)), (hst q (List.mem_append.mpr (.inl h))).2⟩
    · exact ⟨.inr (.inr (.inr (.inl h))), by rw [h]; exact hRL⟩
    · exact ⟨.inr (.inr (.inr (.inr (.inr h)))), (hst q (List.mem_append.mpr (.inr h))).2⟩
  refine wpAny_execs_cons (wpAny_Expr (MethodCall_ (nm he hs ml (appE R (hs.at_ _ iL).1 (by omega) (h1 _ _ fun s2 t hs2 => ⟨_, P ++ (its ++ (st ++ (Rw, listO (refs re).toArray kR) :: re)), _, _, hs2, iL, all, fun s3 k3 hs3 => ?_⟩) hst1) kl) hm1) hin rfl)
  have iR : (Rw, listO (refs re).toArray kR) ∈ (Ln, listO (vl ++ [Value.str (lineOf (pk (ws.zip b'))) t]).toArray k3) :: (P ++ (its ++ (st ++ (Rw, listO (refs re).toArray kR) :: re))) := by simp
  refine execs_one (wpAny_Expr (MethodCall_ (nm he hs3 mr (appE R (hs3.at_ _ iR).1 (by rw [refs_len]; omega) (h2 s3 _ _ _ (fun q hq => .tail _ hq) hs3 fun s4 D vs n hs4 hD hvs => ⟨_, (Ln, listO (vl ++ [Value.str (lineOf (pk (ws.zip b'))) t]).toArray k3) :: (P ++ (its ++ (st ++ (re ++ [(D, listO vs.toArray n)])))), _, _, hs4, List.mem_append.mpr (.inl iR), fun q hq => ?_, fun s5 k5 hs5 => ?_⟩) hst2) kr) hm2) hin rfl)
  · simp only [List.mem_append, List.mem_cons, List.not_mem_nil, or_false] at hq ⊢
    rcases hq with h | h | h | h | h | h
    · exact ⟨.inl (.inl h), by rw [h]; exact hRL.symm⟩
    · exact ⟨.inl (.inr (.inl h)), (hP q h).1⟩
    · exact ⟨.inl (.inr (.inr (.inl h))), (hits q h).1⟩
    · exact ⟨.inl (.inr (.inr (.inr (.inl h)))), (hst q (List.mem_append.mpr (.inl h))).1⟩
    · exact ⟨.inl (.inr (.inr (.inr (.inr (.inr h))))), (hst q (List.mem_append.mpr (.inr h))).1⟩
    · exact ⟨.inr h, fun z => by rw [h] at z; exact hD _ iR z.symm⟩
  · have er : refs re ++ [Value.ref D] = refs (re ++ [(D, listO vs.toArray n)]) := by unfold refs; rw [List.map_append]; rfl
    rw [er] at hs5
    have nD : D ∉ ads := fun hm => by
      rw [← had] at hm
      obtain ⟨q, hq, e⟩ := List.mem_map.mp hm
      exact hD q (.tail _ (List.mem_append.mpr (.inr (List.mem_append.mpr (.inl hq))))) e
    refine ⟨rfl, (Rw, listO (refs (re ++ [(D, listO vs.toArray n)])).toArray k5) :: (Ln, listO (vl ++ [Value.str (lineOf (pk (ws.zip b'))) t]).toArray k3) :: (re ++ [(D, listO vs.toArray n)]), hs5.sub fun q hq => ?_, ⟨mr, ml, _, bss ++ [b'], _, _, _, rfl, hre.app hvs, ?_, ?_, ?_, ?_, hRL⟩, ?_⟩
    · simp only [List.mem_append, List.mem_cons, List.not_mem_nil, or_false] at hq ⊢
      rcases hq with h | h | h | h | h | h
      · exact .inr (.inr (.inr (.inl h)))
      · exact .inr (.inr (.inr (.inr (.inl h))))
      · exact .inl h
      · exact .inr (.inl h)
      · exact .inr (.inr (.inr (.inr (.inr (.inl h)))))
      · exact .inr (.inr (.inr (.inr (.inr (.inr h)))))
    · unfold linesOf
      rw [List.map_append]
      exact StrsAre.append' hvl (.cons _ _ .nil)
    · intro bs hm
      rcases List.mem_append.mp hm with hm | hm
      · exact hbb bs hm
      · rw [List.mem_singleton.mp hm]; exact hb'
    · rw [List.length_append]; rfl
    · intro q hq
      simp only [List.mem_append, List.mem_cons, List.not_mem_nil, or_false] at hq
      rcases hq with h | h | h
      · exact hst q (List.mem_append.mpr (.inl h))
      · exact hst q (List.mem_append.mpr (.inr h))
      · rw [h]
        exact ⟨fun z => hD _ iR z.symm, fun z => hD _ (.head _) z.symm⟩
    · intro q hq
      simp only [List.mem_append, List.mem_cons, List.not_mem_nil, or_false] at hq
      rcases hq with h | h | h | h
      · rw [h]; exact hRa
      · rw [h]; exact hLa
      · exact hra q h
      · rw [h]; exact nD
end
end Mine
end

section
open PySem PySem.W PyProof.Rows PySem.Calls PySem.Spec
namespace Mine
local macro_rules | `(tactic| walk_at "mlk") => `(tactic| repeat (first | with_reducible assumption | exact if_pos rfl | refine (if_neg (by decide)).trans ?_))
/-! ## law -/
theorem glob_both (P : Params) : nsIn (K P) mainGlobals (PySem.Str.ofString "_law_in_both") = some (some (.ref 846)) := by kernel_rfl
theorem keep846 (P : Params) : keepIn (K P) (.ref 846) = true := by kernel_rfl
theorem glob_alone (P : Params) : nsIn (K P) mainGlobals (PySem.Str.ofString "_law_in_one_alone") = some (some (.ref 853)) := by kernel_rfl
theorem keep853 (P : Params) : keepIn (K P) (.ref 853) = true := by kernel_rfl
theorem row_bits : ∀ bs ∈ [rowOf 0, rowOf 1, rowOf 2], Bits bs ∧ bs.length = 7 := by
  intro bs hb
  have h : ∀ bs ∈ [rowOf 0, rowOf 1, rowOf 2], (bs.all fun b => b == 0 || b == 1) = true ∧ bs.length = 7 := by decide +kernel
  obtain ⟨h1, h2⟩ := h bs hb
  refine ⟨fun b hbb => ?_, h2⟩
  have := List.all_eq_true.mp h1 b hbb
  simpa using this
theorem subI {w : World} {A : Around} {p : FP2} {nss : Nss} {news : List (Addr × Obj)} {s : Shared} {env : Env} {a l : Addr} {m : PySem.Str → Option Value} {xl xi : PySem.Str} {k : Int} {t : Tok} {vs : List Value} {n : Nat} {v : Value} {q1 q2 q3 : Pos} {Q E : Value → Shared → Prop} (he : En env a p.L) (hs : FS p ((a, m) :: nss) news s) (ml : m xl = some (.ref l)) (mi : m xi = some (.int k t)) (kl : env.kindOf xl = some .local) (ki : env.kindOf xi = some .local) (hl : s.heap.get? l = some (listO vs.toArray n)) (h0 : 0 ≤ k) (hz : vs.length < 1000000) (hv : vs[k.toNat]? = some v) (h : Q v s)
    (d1 : (xl == PySem.Str.ofString "__debug__") = false := by decide) (d2 : (xi == PySem.Str.ofString "__debug__") = false := by decide) : wpAny (model pw w) A (eval (.Subscript (.Name xl q1) (.Name xi q2) q3) env) Q E s := by
  have hi := (List.getElem?_eq_some_iff.mp hv).1
  refine wpAny_Subscript_Name slot_list_getitem.lookup (nm he hs ml (nm he hs mi ⟨⟨_, hl, rfl⟩, ?_⟩ ki d2) kl d1)
  exact wpAny_getItem_list (items := vs.toArray) ⟨_, hl, rfl, _, rfl⟩ h0 (by omega) (by rw [List.getElem?_toArray]; exact hv) h
set_option maxHeartbeats 8000000 in
theorem law_spec {l : Addr} {ns : List Int} (hn : ns.length < 1000) : Spec 858 [.ref l] 20 (fun fr h => (∃ vs, h.IsList l vs.toArray ∧ IntsAre vs ns) ∧ l ∉ 795 :: fr) (fun _ v _ => v = .bool true) := by
  intro w A mg mb outer s Q E W hh hd hu hF ⟨⟨vn, ⟨on, hl, hlr⟩, hi⟩, hoff⟩ h
  refine wpAny_call ?_
  k_dflt (refine' enterC (cx := PySem.Str.ofString "words") (binds := [(PySem.Str.ofString "script", .ref l)]) W hF ?k6 ?k7 ?k8 ?k9 ?kB ?kc ?_ ?c2 ?c3 ?c4; (case k6 => k_is); (case k7 => k_is); (case k8 => omega); (case k9 => exact rfl); (case kc => exact fun _ => rfl); (case kB => exact locs rfl); (case c2 => exact rfl); (case c3 => exact rfl); (case c4 => exact rfl); k_whole; rintro p s1 oc rfl rfl R hoc hs)
  obtain ⟨m, ms, hs⟩ : ∃ m : PySem.Str → Option Value, m (PySem.Str.ofString "script") = some (.ref l) ∧ FS p [(p.L, m)] [(p.L + 1, oc)] s1 := ⟨_, rfl, hs⟩
  refine with_envC (P := fun env => wpAny (model pw w) (A.deeper env) (execs _ env) _ _ _) (EnC.of p.L 858 rfl rfl rfl) fun env he hk hcl => ?_
  have hcl : env.cells = [(PySem.Str.ofString "words", p.L + 1)] := hcl
  have lk : env.cells.lookup (PySem.Str.ofString "words") = some (p.L + 1) := by rw [hcl]; rfl
  have ar : Ar (A.deeper env) p 19 := .of hh hF hd hu (by decide) he.frame he.kf
  have hhd : (A.deeper env).handled = none := hh
  have hin : interactive env = false := by unfold interactive; rw [he.kf]; rfl
  have ks := (hk (PySem.Str.ofString "script")).trans (rfl : _ = some NameKind.local)
  have kw := (hk (PySem.Str.ofString "words")).trans (rfl : _ = some NameKind.cell)
  have kr := (hk (PySem.Str.ofString "rows")).trans (rfl : _ = some NameKind.local)
  have kl := (hk (PySem.Str.ofString "lines")).trans (rfl : _ = some NameKind.local)
  have kx := (hk (PySem.Str.ofString "x")).trans (rfl : _ = some NameKind.local)
  have kf := (hk (PySem.Str.ofString "first")).trans (rfl : _ = some NameKind.local)
  have kd := (hk (PySem.Str.ofString "second")).trans (rfl : _ = some NameKind.local)
  have kp := (hk (PySem.Str.ofString "pairs")).trans (rfl : _ = some NameKind.local)
  have kg := (hk (PySem.Str.ofString "range")).trans (rfl : _ = some NameKind.globalImplicit)
  have kn' := (hk (PySem.Str.ofString "len")).trans (rfl : _ = some NameKind.globalImplicit)
  have lv := IntsAre.length hi
  -- the words
  refine wpAny_execs_cons (wpAny_Assign_Name (cG R he hs glob_words keep822 ((hk _).trans rfl) (args_cons (upto R he (b := 3) hs ms ks ⟨on, hs.old hoff hl, hlr⟩ hi (by omega) fun s2 S us hs2 hus hS => args_nil ⟨(hs2.wd R).X, ?_⟩))) rfl)
  refine sp (wd_spec (ns := ns.take 3) (by rw [List.length_take]; omega)) R (ar.le (by decide)) hs2 ⟨⟨us, 0, (hs2.at_ _ (.head _)).1, hus⟩, hs2.offL R (.head _)⟩ ?_
  rintro s3 _ hs3 _ ⟨Wd, vw, kW, ws, w3, rfl, hW0, eW, sw, hperm, h3, hsg, hso⟩
  have w7 := words7 hperm h3 hsg hso
  have t3 := hs2.none0 R hW0
  have sW := hs2.sep hW0
  have hs3' := (hs3.cons eW t3.1 t3.2).sub (news' := [(p.L + 1, oc), (Wd, listO vw.toArray kW)]) fun q hq => by
    rcases List.mem_cons.mp hq with rfl | hq
    · exact .tail _ (.tail _ (.head _))
    rcases List.mem_cons.mp hq with rfl | hq
    · exact .head _
    cases hq
  have hcW : p.L + 1 ≠ Wd := sW _ (.tail _ (.head _))
  refine stC R he (news' := [(Wd, listO vw.toArray kW)]) hs3' (.head _) hoc lk kw (fun q hq => ?_) fun s4 oc4 d4 hs4 => ?_
  · rcases List.mem_cons.mp hq with rfl | hq
    · exact ⟨.tail _ (.head _), hcW.symm⟩
    cases hq
  -- the first rows
  refine wpAny_execs_cons (rowsC R he hhd hs4 kg kr rfl fun s5 Rw re kR hs5 hre hqR => ?_)
  -- the first lines
  have len3 : ∀ bs ∈ [rowOf 0, rowOf 1, rowOf 2], bs.length = ws.length := fun bs hb => by rw [w7.n]; exact (row_bits bs hb).2
  refine wpAny_execs_cons (linesC R he hhd (ar.le (by decide)) hs5 (.head _) d4 lk kw kr kl (if_pos rfl) (.tail _ (.head _)) (List.mem_append.mpr (.inr (.head _))) (fun q hq => List.mem_append.mpr (.inr (.tail _ hq))) sw hre w7.w len3 (by decide) rfl fun s6 Ln vl kL hs6 hqL hvl => ?_)
  -- what is run over
  refine wpAny_execs_cons (wpAny_For (wpAny_BinOp (wpAny_List (args_cons (wpAny_Constant_int (args_cons (wpAny_Constant_int (args_nil ⟨by rw [sizeLine_eq]; show 2 ≤ _; decide, ?_⟩))))))) fun _ => rfl)
  have hs7 := (hs6.toks (s6.toks + 1 + 1)).new R (listO ([.int 6 s6.toks, .int 29 (s6.toks + 1)] : List Value).toArray 0) rfl (tk := s6.toks + 1 + 1)
  have sA := hs6.sep (D := s6.heap.objs.size) (get_top _)
  generalize hLA : s6.heap.objs.size = LA at hs7 sA
  refine part R he (c := 3) (b := 9) hs7 (by walk_at "mlk") ks ⟨on, hs7.old hoff hl, hlr⟩ hi (by omega) fun s8 LB us mz hs8 hus hul hsB => ?_
  refine PySem.P.add_list (hs8.at_ _ (.tail _ (.head _))).1 (hs8.at_ _ (.head _)).1 ?_ (by rw [sizeLine_eq, List.size_toArray, List.size_toArray]; show 2 + us.length ≤ _; omega)
  have exv : (([.int 6 s6.toks, .int 29 (s6.toks + 1)] : List Value).toArray ++ us.toArray) = (([.int 6 s6.toks, .int 29 (s6.toks + 1)] : List Value) ++ us).toArray := by simp
  have hxv : IntsAre (([.int 6 s6.toks, .int 29 (s6.toks + 1)] : List Value) ++ us) ([6, 29] ++ mz) := IntsAre.append (.cons _ _ (.cons _ _ .nil)) hus
  have hxl : (([.int 6 s6.toks, .int 29 (s6.toks + 1)] : List Value) ++ us).length ≤ 8 := by rw [List.length_append]; show 2 + us.length ≤ 8; omega
  rw [exv]
  generalize ([.int 6 s6.toks, .int 29 (s6.toks + 1)] : List Value) ++ us = xv at hxv hxl
  generalize [6, 29] ++ mz = xn at hxv
  have hs9 := (hs8.new R (listO xv.toArray 0) rfl (tk := s8.toks))
  have sC := hs8.sep (D := s8.heap.objs.size) (get_top _)
  generalize s8.heap.objs.size = LC at hs9 sC
  refine iterL R hs9 (hs9.at_ _ (.head _)).1 fun s10 I hs10 hI => ?_
  have sI := hs9.sep hI
  have memst : ∀ q ∈ [(p.L + 1, oc4), (Wd, listO vw.toArray kW)] ++ (Rw, listO (refs re).toArray kR) :: re, q ∈ [(p.L + 1, oc4), (Wd, listO vw.toArray kW)] ++ (Rw, listO (refs re).toArray kR) :: re ++ [(Ln, listO vl.toArray kL)] := fun q hq => List.mem_append.mpr (.inl hq)
  have hs11 := hs10.sub (news' := [(I, itO LC 0)] ++ ([(LC, listO xv.toArray 0), (p.L + 1, oc4), (Wd, listO vw.toArray kW)] ++ (Rw, listO (refs re).toArray kR) :: (Ln, listO vl.toArray kL) :: re)) fun q hq => by
    simp only [List.mem_append, List.mem_cons, List.not_mem_nil, or_false] at hq ⊢
    rcases hq with h | (h | h | h) | h | h | h
    · exact .inl h
    · exact .inr (.inl h)
    · exact .inr (.inr (.inr (.inr (.inl (.inl (.inl h))))))
    · exact .inr (.inr (.inr (.inr (.inl (.inl (.inr h))))))
    · exact .inr (.inr (.inr (.inr (.inl (.inr (.inl h))))))
    · exact .inr (.inr (.inr (.inr (.inr h))))
    · exact .inr (.inr (.inr (.inr (.inl (.inr (.inr h))))))
  have stI : ∀ q ∈ [(LC, listO xv.toArray 0), (p.L + 1, oc4), (Wd, listO vw.toArray kW)], q.1 ∉ [I] := fun q hq hm => by
    have hz := List.mem_singleton.mp hm
    simp only [List.mem_cons, List.not_mem_nil, or_false] at hq
    rcases hq with h | h | h
    · exact sI (LC, _) (.head _) (by rw [← hz, h])
    · exact sI (p.L + 1, oc4) (.tail _ (.tail _ (.tail _ (List.mem_append.mpr (.inl (.head _)))))) (by rw [← hz, h])
    · exact sI (Wd, _) (.tail _ (.tail _ (.tail _ (List.mem_append.mpr (.inl (.tail _ (.head _))))))) (by rw [← hz, h])
  refine forGo (A := A.deeper env) (a := p.L) (nss := []) (st := [(LC, listO xv.toArray 0), (p.L + 1, oc4), (Wd, listO vw.toArray kW)]) (its := [(I, itO LC 0)]) (ext := (Rw, listO (refs re).toArray kR) :: (Ln, listO vl.toArray kL) :: re) (src_list (A := A.deeper env) R he hhd (Has.in (.head _)) (sI _ (.head _)) kx)
    (fun i m ext => LawI [(LC, listO xv.toArray 0), (p.L + 1, oc4), (Wd, listO vw.toArray kW)] ws Rw Ln (3 + i) m ext ∧ ∀ q ∈ ext, q.1 ∉ [I]) ?_ ?_ stI (fun i m ext h => h.2) ⟨_, rfl, rfl, rfl⟩ hs11 ⟨⟨?_, ?_, re, _, kR, vl, kL, rfl, hre, hvl, ?_, rfl, ?_, ?_⟩, ?_⟩
  · rintro i its m1 m2 ext s E' hi8 ⟨o, rfl, _, _⟩ ⟨⟨mr, ml, re, bss, kR, vl, kL, rfl, hre, hvl, hbb, hlb, hq, hRL⟩, hna⟩ ⟨v, hv, rfl⟩ hs
    obtain ⟨x, t, _, rfl⟩ := int_at hxv i v hv
    have lvl := StrsAre.length hvl
    unfold linesOf at lvl
    rw [List.length_map] at lvl
    have lre := hre.len
    have lrf := refs_len re
    have hsz : (vl.toArray.size : Int) = (bss.length : Int) := by rw [List.size_toArray]; omega
    have iL : ∀ {P : List (Addr × Obj)}, (Ln, listO vl.toArray kL) ∈ P ++ ([(I, o)] ++ ([(LC, listO xv.toArray 0), (p.L + 1, oc4), (Wd, listO vw.toArray kW)] ++ (Rw, listO (refs re).toArray kR) :: (Ln, listO vl.toArray kL) :: re)) := fun {P} => by simp
    have iR : ∀ {P : List (Addr × Obj)}, (Rw, listO (refs re).toArray kR) ∈ P ++ ([(I, o)] ++ ([(LC, listO xv.toArray 0), (p.L + 1, oc4), (Wd, listO vw.toArray kW)] ++ (Rw, listO (refs re).toArray kR) :: (Ln, listO vl.toArray kL) :: re)) := fun {P} => by simp
    have iE : ∀ {P : List (Addr × Obj)}, ∀ q ∈ re, q ∈ P ++ ([(I, o)] ++ ([(LC, listO xv.toArray 0), (p.L + 1, oc4), (Wd, listO vw.toArray kW)] ++ (Rw, listO (refs re).toArray kR) :: (Ln, listO vl.toArray kL) :: re)) := fun {P} q hq => by simp [hq]
    generalize hB : [(I, o)] ++ ([(LC, listO xv.toArray 0), (p.L + 1, oc4), (Wd, listO vw.toArray kW)] ++ (Rw, listO (refs re).toArray kR) :: (Ln, listO vl.toArray kL) :: re) = B at hs iL iR iE
    have jL := iL (P := [])
    have jR := iR (P := [])
    have jE := iE (P := [])
    rw [List.nil_append] at jL jR
    simp only [List.nil_append] at jE
    -- first
    refine wpAny_execs_cons (asg R he rfl (wpAny_BinOp (wpAny_BinOp (nm (v := .int x t) he hs (by walk_at "mlk") (wpAny_Constant_int (floordiv_int (by decide) ?_ (.inl (PyProof.noPylong_small (by decide))))) kx))) kf)
    have hsA := hs.toks (s.toks + 1 + 1)
    refine cB R he hsA glob_len (by boot_by_name) keeper_len kn' (args_cons (nm (v := .ref Ln) he hsA (by walk_at "mlk") (args_nil ⟨(hsA.wd R).X, ?_⟩) kl))
    refine call_len_list (items := vl.toArray) ⟨_, (hsA.at_ _ jL).1, rfl, _, rfl⟩ (by rw [hsz]; omega) ?_
    rw [hsz]
    refine mod_int (by omega) ⟨_, _, _, hsA.toks _, fun s2 hs2 => ?_⟩
    have f0 := Int.fmod_nonneg_of_pos (x.fdiv 2) (b := (bss.length : Int)) (by omega)
    have f1 := Int.fmod_lt_of_pos (x.fdiv 2) (b := (bss.length : Int)) (by omega)
    generalize (x.fdiv 2).fmod (bss.length : Int) = K1 at hs2 f0 f1
    -- second
    refine wpAny_execs_cons (asg R he rfl (wpAny_BinOp (wpAny_BinOp (wpAny_BinOp (nm (v := .int x t) he hs2 (by walk_at "mlk") (wpAny_Constant_int (floordiv_int (by decide) ?_ (.inl (PyProof.noPylong_small (by decide))))) kx)))) kd)
    have hsB := hs2.toks (s2.toks + 1 + 1)
    refine cB R he hsB glob_len (by boot_by_name) keeper_len kn' (args_cons (nm (v := .ref Ln) he hsB (by walk_at "mlk") (args_nil ⟨(hsB.wd R).X, ?_⟩) kl))
    refine call_len_list (items := vl.toArray) ⟨_, (hsB.at_ _ jL).1, rfl, _, rfl⟩ (by rw [hsz]; omega) ?_
    rw [hsz]
    refine floordiv_int (by omega) ?_ (.inl (PyProof.noPylong_small (by omega)))
    have hsC := hsB.toks (s2.toks + 1 + 1 + 1 + 1 + 1)
    refine cB R he hsC glob_len (by boot_by_name) keeper_len kn' (args_cons (nm (v := .ref Ln) he hsC (by walk_at "mlk") (args_nil ⟨(hsC.wd R).X, ?_⟩) kl))
    refine call_len_list (items := vl.toArray) ⟨_, (hsC.at_ _ jL).1, rfl, _, rfl⟩ (by rw [hsz]; omega) ?_
    rw [hsz]
    refine mod_int (by omega) ⟨_, _, _, hsC.toks _, fun s3 hs3 => ?_⟩
    have g0 := Int.fmod_nonneg_of_pos ((x.fdiv 2).fdiv (bss.length : Int)) (b := (bss.length : Int)) (by omega)
    have g1 := Int.fmod_lt_of_pos ((x.fdiv 2).fdiv (bss.length : Int)) (b := (bss.length : Int)) (by omega)
    generalize ((x.fdiv 2).fdiv (bss.length : Int)).fmod (bss.length : Int) = K2 at hs3 g0 g1
    -- the two rows and lines
    obtain ⟨r1, hr1⟩ : ∃ r1, (refs re)[K1.toNat]? = some r1 := ⟨(refs re)[K1.toNat]'(by omega), List.getElem?_eq_getElem _⟩
    obtain ⟨r2, hr2⟩ : ∃ r2, (refs re)[K2.toNat]? = some r2 := ⟨(refs re)[K2.toNat]'(by omega), List.getElem?_eq_getElem _⟩
    obtain ⟨a1, v1, n1, b1, rfl, hm1, hb1, hi1⟩ := hre.at_ _ _ hr1
    obtain ⟨a2, v2, n2, b2, rfl, hm2, hb2, hi2⟩ := hre.at_ _ _ hr2
    obtain ⟨z1, hz1⟩ : ∃ z1, vl[K1.toNat]? = some z1 := ⟨vl[K1.toNat]'(by omega), List.getElem?_eq_getElem _⟩
    obtain ⟨z2, hz2⟩ : ∃ z2, vl[K2.toNat]? = some z2 := ⟨vl[K2.toNat]'(by omega), List.getElem?_eq_getElem _⟩
    obtain ⟨y1, t1, hy1, rfl⟩ := strsAre_at hvl _ _ hz1
    obtain ⟨y2, t2, hy2, rfl⟩ := strsAre_at hvl _ _ hz2
    have ey1 : y1 = lineOf (pk (ws.zip b1)) := by
      unfold linesOf at hy1
      rw [List.getElem?_map, hb1] at hy1
      exact (Option.some.inj hy1).symm
    have ey2 : y2 = lineOf (pk (ws.zip b2)) := by
      unfold linesOf at hy2
      rw [List.getElem?_map, hb2] at hy2
      exact (Option.some.inj hy2).symm
    subst ey1 ey2
    obtain ⟨B1, L1⟩ := hbb b1 (List.mem_of_getElem? hb1)
    obtain ⟨B2, L2⟩ := hbb b2 (List.mem_of_getElem? hb2)
    have li1 := IntsAre.length hi1
    have li2 := IntsAre.length hi2
    have hw7 := w7.n
    -- pairs
    have sub3 : ∀ {q : Addr × Obj}, q ∈ re → s3.heap.get? q.1 = some q.2 := fun hq => (hs3.at_ _ (jE _ hq)).1
    refine wpAny_execs_cons (asg R he rfl (cB R he hs3 glob_lst (by boot_by_name) keeper_lst ((hk _).trans rfl) (args_cons (cB R he hs3 glob_zip (by boot_by_name) keeper_zip ((hk _).trans rfl) (args_cons (subI he hs3 (l := Rw) (k := K1) (by walk_at "mlk") (by walk_at "mlk") kr kf (hs3.at_ _ jR).1 f0 (by omega) hr1 (args_cons (subI he hs3 (l := Rw) (k := K2) (by walk_at "mlk") (by walk_at "mlk") kr kd (hs3.at_ _ jR).1 g0 (by omega) hr2 (args_nil ⟨(hs3.wd R).X, zipN R hs3 (sub3 hm1) (sub3 hm2) fun s4 z TI TO i1 i2 itz dz hIt hs4 fz kz => ?_⟩)))))))) kp)
    refine args_nil ⟨(hs4.wd R).X, listZ R hhd dz hIt hs4 (fun q hq hm => hs3.sep (fz _ hm) q hq rfl) (kz _ _ (sub3 hm1)) (kz _ _ (sub3 hm2)) (by omega) (by omega) fun s5 S pv np tl hs5 hpl hps hSn htn => ?_⟩
    have eP : tl ++ (S, listO pv.toArray np) :: B = (tl ++ [(S, listO pv.toArray np)]) ++ B := by simp
    rw [eP] at hs5
    refine ⟨_, _, _, hs5, fun s6 hs6 => ?_⟩
    subst hB
    have hits : ∀ q ∈ [(I, o)], q.1 ≠ Rw ∧ q.1 ≠ Ln := fun q hq => by
      rw [List.mem_singleton.mp hq]
      exact ⟨fun z => hna (Rw, _) (.head _) (List.mem_singleton.mpr z.symm), fun z => hna (Ln, _) (.tail _ (.head _)) (List.mem_singleton.mpr z.symm)⟩
    have hP : ∀ q ∈ tl ++ [(S, listO pv.toArray np)], q.1 ≠ Rw ∧ q.1 ≠ Ln := fun q hq => by
      rcases List.mem_append.mp hq with hq | hq
      · exact ⟨fun z => htn q hq _ jR z.symm, fun z => htn q hq _ jL z.symm⟩
      · rw [List.mem_singleton.mp hq]
        exact ⟨fun z => hSn _ jR z.symm, fun z => hSn _ jL z.symm⟩
    refine execs_one (wpAny_If (wpAny_isTrue_Compare1 (wpAny_BinOp (nm (v := .int x t) he hs6 (by walk_at "mlk") (wpAny_Constant_int (mod_int (by decide) (wpAny_Constant_int (eq_int (wpAny_truthy_bool ?_))))) kx)) rfl))
    have hs7 := hs6.toks (s6.toks + 1 + 1 + 1)
    have fin : ∀ (f : Flow) s₁ m₂, (f = .next ∧ ∃ ext₂, FS p [(p.L, m₂)] ([(I, o)] ++ ([(LC, listO xv.toArray 0), (p.L + 1, oc4), (Wd, listO vw.toArray kW)] ++ ext₂)) s₁ ∧ LawI [(LC, listO xv.toArray 0), (p.L + 1, oc4), (Wd, listO vw.toArray kW)] ws Rw Ln (bss.length + 1) m₂ ext₂ ∧ ∀ q ∈ ext₂, q.1 ∉ [I]) →
        f = .next ∧ ∃ m₂ ext₂, FS p [(p.L, m₂)] ([(I, o)] ++ ([(LC, listO xv.toArray 0), (p.L + 1, oc4), (Wd, listO vw.toArray kW)] ++ ext₂)) s₁ ∧ LawI [(LC, listO xv.toArray 0), (p.L + 1, oc4), (Wd, listO vw.toArray kW)] ws Rw Ln (3 + (i + 1)) m₂ ext₂ ∧ ∀ q ∈ ext₂, q.1 ∉ [I] := fun f s₁ m₂ ⟨e, ext₂, a, b, c⟩ => ⟨e, m₂, ext₂, a, by rw [show 3 + (i + 1) = bss.length + 1 by omega]; exact b, c⟩
    have at7 : ∀ {s7 : Shared} {m₂ : PySem.Str → Option Value}, FS p [(p.L, m₂)] ((tl ++ [(S, listO pv.toArray np)]) ++ ([(I, o)] ++ ([(LC, listO xv.toArray 0), (p.L + 1, oc4), (Wd, listO vw.toArray kW)] ++ (Rw, listO (refs re).toArray kR) :: (Ln, listO vl.toArray kL) :: re))) s7 → s7.heap.get? Ln = some (listO vl.toArray kL) := fun f => (f.at_ (Ln, listO vl.toArray kL) iL).1
    have ka := (hk (PySem.Str.ofString "_law_in_both")).trans (rfl : _ = some NameKind.globalImplicit)
    have kb := (hk (PySem.Str.ofString "_law_in_one_alone")).trans (rfl : _ = some NameKind.globalImplicit)
    by_cases hb : (x.fmod 2 == 0) = true
    · rw [hb, if_pos rfl]
      refine wpAny_mono (twoApp (b' := andB b1 b2) R he hin kr kl (by walk_at "mlk") (by walk_at "mlk") hre hvl hbb hq hRL hits hP rfl (fun q hq => hna q (.tail _ (.tail _ hq))) (hna (Rw, _) (.head _)) (hna (Ln, _) (.tail _ (.head _))) ⟨bits_and B1 B2, by unfold andB; rw [List.length_zipWith]; omega⟩ (by omega) hs7 (fun Q E hQ => ?_) (fun s₁ N Q E hN hsN hQ => ?_)) (fun f s₁ hf => fin f s₁ _ hf) fun _ _ e => e
      · refine cG R he hs7 glob_both keep846 ka (args_cons (subI he hs7 (l := Ln) (k := K1) (by walk_at "mlk") (by walk_at "mlk") kl kf (at7 hs7) f0 (by omega) hz1 (args_cons (subI he hs7 (l := Ln) (k := K2) (by walk_at "mlk") (by walk_at "mlk") kl kd (at7 hs7) g0 (by omega) hz2 (args_nil ⟨(hs7.wd R).X, ?_⟩)))))
        refine sp (ib_spec (w7.w.pk L1) (w7.w.pk L2)) R (ar.le (by decide)) hs7 trivial ?_
        rintro s8 _ hs8 _ ⟨t8, rfl⟩
        rw [and_law w7.r B1 B2 L1 L2]
        exact hQ s8 t8 hs8
      · have hpN : ∀ (j : Nat) (v : Value), pv[j]? = some v → ∃ T a b, v = .ref T ∧ v1[j]? = some a ∧ v2[j]? = some b ∧ (T, pairO a b) ∈ N := fun j v hv => let ⟨T, a, b, c1, c2, c3, c4⟩ := hps j v hv; ⟨T, a, b, c1, c2, c3, hN _ (List.mem_append.mpr (.inl (List.mem_append.mpr (.inl c4))))⟩
        exact rowNew (A := A.deeper env) (f := fun x y => x * y) R he hhd hsN (by walk_at "mlk") kp (hN (S, listO pv.toArray np) (List.mem_append.mpr (.inl (List.mem_append.mpr (.inr (.head _)))))) hpl hpN hi1 hi2 (by omega) (by omega) (fun C m' s' news' x y t u Q E he' hs ma mb' hx hy hq => el_and C m' s' _ _ x y t u Q E he' hs ma mb' (by rcases B1 x hx with rfl | rfl <;> exact IntMulOk.of_left (by decide +kernel)) hq) hQ
    · have hb' : (x.fmod 2 == 0) = false := by simpa using hb
      rw [hb', if_neg Bool.false_ne_true]
      refine wpAny_mono (twoApp (b' := xorB b1 b2) R he hin kr kl (by walk_at "mlk") (by walk_at "mlk") hre hvl hbb hq hRL hits hP rfl (fun q hq => hna q (.tail _ (.tail _ hq))) (hna (Rw, _) (.head _)) (hna (Ln, _) (.tail _ (.head _))) ⟨bits_xor B1 B2, by unfold xorB; rw [List.length_zipWith]; omega⟩ (by omega) hs7 (fun Q E hQ => ?_) (fun s₁ N Q E hN hsN hQ => ?_)) (fun f s₁ hf => fin f s₁ _ hf) fun _ _ e => e
      · refine cG R he hs7 glob_alone keep853 kb (args_cons (subI he hs7 (l := Ln) (k := K1) (by walk_at "mlk") (by walk_at "mlk") kl kf (at7 hs7) f0 (by omega) hz1 (args_cons (subI he hs7 (l := Ln) (k := K2) (by walk_at "mlk") (by walk_at "mlk") kl kd (at7 hs7) g0 (by omega) hz2 (args_nil ⟨(hs7.wd R).X, ?_⟩)))))
        have p1 := pk_len (ws.zip b1)
        have p2 := pk_len (ws.zip b2)
        rw [List.length_zip] at p1 p2
        refine sp (ia_spec (w7.w.pk L1) (w7.w.pk L2) (pk_rising w7.r L1).nodup (pk_rising w7.r L2).nodup (by omega)) R (ar.le (by decide)) hs7 trivial ?_
        rintro s8 _ hs8 _ ⟨zs, t8, rfl, hpz, hsz⟩
        rw [xor_law w7.r B1 B2 L1 L2 hpz hsz]
        exact hQ s8 t8 hs8
      · have hpN : ∀ (j : Nat) (v : Value), pv[j]? = some v → ∃ T a b, v = .ref T ∧ v1[j]? = some a ∧ v2[j]? = some b ∧ (T, pairO a b) ∈ N := fun j v hv => let ⟨T, a, b, c1, c2, c3, c4⟩ := hps j v hv; ⟨T, a, b, c1, c2, c3, hN _ (List.mem_append.mpr (.inl (List.mem_append.mpr (.inl c4))))⟩
        exact rowNew (A := A.deeper env) (f := fun x y => (x + y).fmod 2) R he hhd hsN (by walk_at "mlk") kp (hN (S, listO pv.toArray np) (List.mem_append.mpr (.inl (List.mem_append.mpr (.inr (.head _)))))) hpl hpN hi1 hi2 (by omega) (by omega) (fun C m' s' news' x y t u Q E he' hs ma mb' hx hy hq => el_xor C m' s' _ _ x y t u Q E he' hs ma mb' hq) hQ
  · rintro m9 ext s ⟨⟨mr, ml, re, bss, kR, vl, kL, rfl, hre, hvl, hbb, hlb, hq, hRL⟩, _⟩ hs
    refine execs_one (wpAny_Return_some (wpAny_Compare1 (nm he hs ml (toldC R he hhd (ar.le (by decide)) hs (.tail _ (.head _)) d4 lk kw kr mr (.tail _ (.tail _ (.head _))) (.tail _ (.tail _ (.tail _ (.head _)))) (fun q hq => .tail _ (.tail _ (.tail _ (.tail _ (.tail _ hq))))) sw hre w7.w (fun bs hb => (hbb bs hb).2) (by omega) fun s' D us n hs' hD hus => ?_) kl)))
    have e1 := (hs'.at_ (Ln, listO vl.toArray kL) (List.mem_append.mpr (.inl (.tail _ (.tail _ (.tail _ (.tail _ (.head _)))))))).1
    have e2 := (hs'.at_ (D, listO us.toArray n) (List.mem_append.mpr (.inr (.head _)))).1
    have lv1 := StrsAre.length hvl
    have lv2 := StrsAre.length hus
    refine SeqAt.eq_listAt (e := fun _ => true) (items := vl.toArray) (items2 := us.toArray) ⟨_, e1, rfl, _, rfl⟩ ⟨_, e2, rfl, _, rfl⟩ (by rw [List.size_toArray, List.size_toArray]; omega) (by rw [units_deeper]; omega) (fun j h1 h2 => ?_) ?_
    · rw [List.size_toArray] at h1 h2
      obtain ⟨x, t, hx, ex⟩ := strsAre_at hvl j _ (List.getElem?_eq_getElem h1)
      obtain ⟨y, u, hy, ey⟩ := strsAre_at hus j _ (List.getElem?_eq_getElem h2)
      rw [hx] at hy; cases hy
      simp only [List.getElem_toArray]
      rw [ex, ey]
      have := (SeqRoads2.EqGives.str x x t u).at (A.deeper env).in1 s'
      rwa [show (x.cps.toList == x.cps.toList) = true from beq_self_eq_true _] at this
    · have : (List.range vl.toArray.size).all (fun _ => true) = true := by simp
      rw [this]
      exact h _ _ hs'.mv rfl
  · walk_at "mlk"
  · walk_at "mlk"
  · intro bs hb
    rw [w7.n]
    exact row_bits bs hb
  · intro q hq
    simp only [List.mem_append, List.mem_cons, List.not_mem_nil, or_false] at hq
    rcases hq with (h | h | h) | h
    · rw [h]
      exact ⟨fun z => sC (Rw, _) (.tail _ (.tail _ (List.mem_append.mpr (.inl (List.mem_append.mpr (.inr (.head _))))))) z.symm, fun z => sC (Ln, _) (.tail _ (.tail _ (List.mem_append.mpr (.inr (.head _))))) z.symm⟩
    · exact ⟨hqR q (by simp [h]), hqL q (by simp [h])⟩
    · exact ⟨hqR q (by simp [h]), hqL q (by simp [h])⟩
    · exact ⟨hqR q (by simp [h]), hqL q (by simp [h])⟩
  · exact hqL (Rw, listO (refs re).toArray kR) (by simp)
  · intro q hq hm
    have hz := List.mem_singleton.mp hm
    have hmem : q ∈ [(p.L + 1, oc4), (Wd, listO vw.toArray kW)] ++ (Rw, listO (refs re).toArray kR) :: re ++ [(Ln, listO vl.toArray kL)] := by
      simp only [List.mem_append, List.mem_cons, List.not_mem_nil, or_false] at hq ⊢
      rcases hq with h | h | h
      · exact .inl (.inr (.inl h))
      · exact .inr h
      · exact .inl (.inr (.inr h))
    exact sI q (.tail _ (.tail _ (.tail _ hmem))) hz
end Mine
end

section
open PySem PySem.W PyProof.Rows PySem.Calls PySem.Spec
namespace Mine
theorem glob_law (P : Params) : nsIn (K P) mainGlobals (PySem.Str.ofString "law") = some (some (.ref 858)) := by kernel_rfl
theorem walk : Walk := by
  intro w s₀ s₁ mg mb G Y a o pm cd doc dV kV ho hd hcd hD hmg hg args vals as hpre hlay hrd hwl hlo
  refine Ground.open G ?_
  intro T B D TE TW
  obtain ⟨_, _, M⟩ := bmod_of_top T
  have X : (K w.params).In s₁.heap := fun b o e => Y b o (by show (List.lookup b (_ :: K w.params)) = _; rw [List.lookup_cons]; have : (b == 795) = false := by { cases hb : b == 795; rfl; have := (beq_iff_eq.mp hb); subst this; rw [K795] at e; cases e }; rw [this]; exact e)
  wrow_args hpre hlay hrd hwl hlo
  have hl0 : mg (PySem.Str.ofString "law") = some (.ref 858) := mg_of X T.g (glob_law _)
  have ha : mg (PySem.Str.ofString "law") = some (.ref a) := hmg
  rw [hl0] at ha
  cases ha
  rename IntsAre _ _ => hInts
  rename Heap.IsList _ _ _ => hList
  have hlen := IntsAre.length hInts
  have e795 : s₁.heap.get? 795 = some ⟨.none, none, .fields #[], #[]⟩ := Y 795 _ rfl
  have hT : TopQ mg mb s₁.heap := topRead_of T
  obtain ⟨o9, e9⟩ := K799 w.params
  have hTab : s₁.heap.TableAt 799 795 #[] := ⟨⟨_, _, X 799 _ rfl, rfl, rfl, rfl⟩, e795⟩
  have hJ : TabJ s₁.heap := ⟨#[], ⟨_, _, _, _, _, _, _, _, _, _, X 799 _ rfl, rfl, rfl, rfl, rfl, rfl, rfl, e795, rfl, trivial, by decide⟩, hTab, .inl rfl⟩
  have W : Wd w mg mb s₁ := ⟨X, hT, ⟨_, _, M⟩, hJ, .of_eq hg⟩

  refine law_spec (by omega) w callerA mg mb [] s₁ _ _ W rfl (by decide +kernel) (by decide +kernel) ⟨rfl, fun e he => by cases he⟩ ⟨⟨_, hList, hInts⟩, ?_⟩ ?_
  · intro hm
    rcases List.mem_cons.mp hm with z | hm
    · obtain ⟨ol, g1, g2, _⟩ := hList
      rw [z, e795] at g1; cases g1; cases g2
    · cases hm
  · rintro s' v mv rfl
    have old : OldK s₁.heap s'.heap := by
      refine ⟨fun b o e => ?_, fun b o e => ?_⟩
      · by_cases hb : b = 795
        · subst hb
          rw [e795] at e; cases e
          obtain ⟨ps, _, ⟨_, e2⟩, _⟩ := mv.tab hJ
          exact .inr (.inl ⟨hTab.isCodeTable, rfl, #[], ps, rfl, by rw [e2]; simp⟩)
        · exact .inl (mv.kp b o (fun hm => by rcases List.mem_cons.mp hm with z | hm; exact hb z; cases hm) e)
      · by_cases hb : b = 795
        · subst hb
          obtain ⟨ps, _, ⟨_, e2⟩, _⟩ := mv.tab hJ
          exact ⟨_, e2⟩
        · exact ⟨o, mv.kp b o (fun hm => by rcases List.mem_cons.mp hm with z | hm; exact hb z; cases hm) e⟩
    refine ⟨.inl ⟨.bool true, .bool true, [], rfl, fun cls => by rfl, .bool _, ?_, fun _ => ⟨.nil, fun a ha => by cases ha⟩⟩, old, mv.os, mv.bare (.of_eq hg)⟩
    wrow_post
theorem holds : PySem.Challenge.rw_ny0395_01.Holds := head walk
end Mine
end

theorem PySem.Challenge.cw_ny0395_01_holds : PySem.Challenge.rw_ny0395_01.Holds :=
  Mine.holds
