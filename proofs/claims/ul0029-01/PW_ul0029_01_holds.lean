import PyProof.Rows.All
import Wide.All
import OpenK.AllK
import Wide.FinOn
import PySem.Challenge.RW_ul0029_01
open PySem PySem.W PyProof.Rows
set_option Elab.async false
set_option linter.all false
set_option maxRecDepth 100000
set_option maxHeartbeats 0
set_option compiler.extract_closed false
namespace Mine
/-- the program -/
abbrev PP : Program := PySem.Challenge.rw_ul0029_01.row.prog
/-- a def of the text's top, its made function: what the text says is taken from the text -/
@[reducible] def fnO (i : Nat) {nm : PySem.Str} {ps : Arguments} {bd : List Stmt} {ds : List PySem.Expr} {rt : Option PySem.Expr} {tp : List TypeParam} {sc : Scope} {ts : Option Scope} {bi : PySem.Str} {po : Pos}
    (_ : PySem.Challenge.pw_ul0029_01.main.body[i]? = some (Stmt.FunctionDef nm ps bd ds rt tp sc ts bi po)) (q : PySem.Str) (g : Addr) (cl : List (PySem.Str × Addr)) (df kd dc md : Value) (an : Option Addr) (cd ct : Value) (bl : Addr) : Obj :=
  Obj.mk (.type "function") none (.func (FuncData.mk nm q ps (.stmts bd) sc g cl df kd dc md an cd ct bl)) #[]
def inCls : Option Stmt → Nat → Option Stmt
  | some (.ClassDef _ _ _ b _ _ _ _ _ _ _), j => b[j]?
  | _, _ => none
/-- a method -/
@[reducible] def mtO (i j : Nat) {nm : PySem.Str} {ps : Arguments} {bd : List Stmt} {ds : List PySem.Expr} {rt : Option PySem.Expr} {tp : List TypeParam} {sc : Scope} {ts : Option Scope} {bi : PySem.Str} {po : Pos}
    (_ : inCls PySem.Challenge.pw_ul0029_01.main.body[i]? j = some (Stmt.FunctionDef nm ps bd ds rt tp sc ts bi po)) (q : PySem.Str) (g : Addr) (cl : List (PySem.Str × Addr)) (df kd dc md : Value) (an : Option Addr) (cd ct : Value) (bl : Addr) : Obj :=
  Obj.mk (.type "function") none (.func (FuncData.mk nm q ps (.stmts bd) sc g cl df kd dc md an cd ct bl)) #[]
/-- the objects that the text's top leaves behind, as far as the law comes to them -/
noncomputable def K0 : Params → Frag := fun P =>
  (nat_lit 2, (Obj.mk .none none (.dict #[(DictEntry.mk (PyData.keyHash P (Str.ofString "\x69mport.loaded._sre")) (.str (Str.ofString "\x69mport.loaded._sre") 183) (.bool true)), (DictEntry.mk (PyData.keyHash P (Str.ofString "class._frozen_importlib.BuiltinImporter")) (.str (Str.ofString "class._frozen_importlib.BuiltinImporter") 185) (.ref 14)), (DictEntry.mk (PyData.keyHash P (Str.ofString "watched.\x69mport")) (.str (Str.ofString "watched.\x69mport") 206) (.ref 18)), (DictEntry.mk (PyData.keyHash P (Str.ofString "class._frozen_importlib.ModuleSpec")) (.str (Str.ofString "class._frozen_importlib.ModuleSpec") 216) (.ref 22)), (DictEntry.mk (PyData.keyHash P (Str.ofString "sys.modules.booked-epoch")) (.str (Str.ofString "sys.modules.booked-epoch") 245) (.int 3 0)), (DictEntry.mk (PyData.keyHash P (Str.ofString "\x69mport.later-laid._sre")) (.str (Str.ofString "\x69mport.later-laid._sre") 270) (.bool true)), (DictEntry.mk (PyData.keyHash P (Str.ofString "watched.library")) (.str (Str.ofString "watched.library") 272) (.ref 27)), (DictEntry.mk (PyData.keyHash P (Str.ofString "watched.library-objects")) (.str (Str.ofString "watched.library-objects") 0) (.str (Str.ofString "\x0c") 0)), (DictEntry.mk (PyData.keyHash P (Str.ofString "watched.library-deep._sre")) (.str (Str.ofString "watched.library-deep._sre") 273) (.str (Str.ofString "\x04\x00\x00\x0b\x04\x00\x00\x0b\x04\x00\x00\x03\x04\x00\x00\x0b\x08\x04dict\x02") 0))] 9) #[])) ::
  (nat_lit 3, (Obj.mk (.type "dict") none (.dict #[(DictEntry.mk (PyData.keyHash P (Str.ofString "__name__")) (.str (Str.ofString "__name__") 165) (.str (Str.ofString "law_ul0029_01") 684)), (DictEntry.mk (PyData.keyHash P (Str.ofString "__doc__")) (.str (Str.ofString "__doc__") 166) .none), (DictEntry.mk (PyData.keyHash P (Str.ofString "__package__")) (.str (Str.ofString "__package__") 167) .none), (DictEntry.mk (PyData.keyHash P (Str.ofString "__loader__")) (.str (Str.ofString "__loader__") 168) (.builtin "__main__.__loader__#opaque")), (DictEntry.mk (PyData.keyHash P (Str.ofString "__spec__")) (.str (Str.ofString "__spec__") 169) .none), (DictEntry.mk (PyData.keyHash P (Str.ofString "__annotations__")) (.str (Str.ofString "__annotations__") 170) (.ref 6)), (DictEntry.mk (PyData.keyHash P (Str.ofString "__builtins__")) (.str (Str.ofString "__builtins__") 171) (.ref 4)), (DictEntry.mk (PyData.keyHash P (Str.ofString "__file__")) (.str (Str.ofString "__file__") 173) (.str (Str.ofString "/claim/cut.py") 172)), (DictEntry.mk (PyData.keyHash P (Str.ofString "__cached__")) (.str (Str.ofString "__cached__") 174) .none), (DictEntry.mk (PyData.keyHash P (Str.ofString "_sre")) (.str (Str.ofString "_sre") 275) (.ref 12)), (DictEntry.mk (PyData.keyHash P (Str.ofString "_wall")) (.str (Str.ofString "_wall") 288) (.ref 38)), (DictEntry.mk (PyData.keyHash P (Str.ofString "tspecials")) (.str (Str.ofString "tspecials") 324) (.ref 43)), (DictEntry.mk (PyData.keyHash P (Str.ofString "_name_disallowed_re")) (.str (Str.ofString "_name_disallowed_re") 350) (.ref 48)), (DictEntry.mk (PyData.keyHash P (Str.ofString "_value_disallowed_re")) (.str (Str.ofString "_value_disallowed_re") 384) (.ref 53)), (DictEntry.mk (PyData.keyHash P (Str.ofString "_formatparam")) (.str (Str.ofString "_formatparam") 394) (.ref 61)), (DictEntry.mk (PyData.keyHash P (Str.ofString "Headers")) (.str (Str.ofString "Headers") 551) (.ref 182)), (DictEntry.mk (PyData.keyHash P (Str.ofString "compute_powers")) (.str (Str.ofString "compute_powers") 573) (.ref 194)), (DictEntry.mk (PyData.keyHash P (Str.ofString "_str_to_int_inner")) (.str (Str.ofString "_str_to_int_inner") 584) (.ref 201)), (DictEntry.mk (PyData.keyHash P (Str.ofString "int_from_string")) (.str (Str.ofString "int_from_string") 591) (.ref 208)), (DictEntry.mk (PyData.keyHash P (Str.ofString "_DIV_LIMIT")) (.str (Str.ofString "_DIV_LIMIT") 593) (.int 4000 592)), (DictEntry.mk (PyData.keyHash P (Str.ofString "_div2n1n")) (.str (Str.ofString "_div2n1n") 610) (.ref 215)), (DictEntry.mk (PyData.keyHash P (Str.ofString "_div3n2n")) (.str (Str.ofString "_div3n2n") 624) (.ref 222)), (DictEntry.mk (PyData.keyHash P (Str.ofString "_int2digits")) (.str (Str.ofString "_int2digits") 635) (.ref 229)), (DictEntry.mk (PyData.keyHash P (Str.ofString "_digits2int")) (.str (Str.ofString "_digits2int") 646) (.ref 236)), (DictEntry.mk (PyData.keyHash P (Str.ofString "_divmod_pos")) (.str (Str.ofString "_divmod_pos") 661) (.ref 243)), (DictEntry.mk (PyData.keyHash P (Str.ofString "int_divmod")) (.str (Str.ofString "int_divmod") 671) (.ref 250)), (DictEntry.mk (PyData.keyHash P (Str.ofString "Int2AP")) (.str (Str.ofString "Int2AP") 683) (.ref 257)), (DictEntry.mk (PyData.keyHash P (Str.ofString "_law_lay")) (.str (Str.ofString "_law_lay") 691) (.ref 262)), (DictEntry.mk (PyData.keyHash P (Str.ofString "_law_bag")) (.str (Str.ofString "_law_bag") 697) (.ref 267)), (DictEntry.mk (PyData.keyHash P (Str.ofString "_law_forth")) (.str (Str.ofString "_law_forth") 711) (.ref 274)), (DictEntry.mk (PyData.keyHash P (Str.ofString "_law_back")) (.str (Str.ofString "_law_back") 726) (.ref 281)), (DictEntry.mk (PyData.keyHash P (Str.ofString "_law_plain")) (.str (Str.ofString "_law_plain") 736) (.ref 288)), (DictEntry.mk (PyData.keyHash P (Str.ofString "_law_due")) (.str (Str.ofString "_law_due") 747) (.ref 295)), (DictEntry.mk (PyData.keyHash P (Str.ofString "law")) (.str (Str.ofString "law") 753) (.ref 300))] 34) #[])) ::
  (nat_lit 32, (Obj.mk (.type "tuple") none (.seq #[] 0) #[])) ::
  (nat_lit 34, (Obj.mk (.type "tuple") none (.seq #[(.str (Str.ofString "k") 285)] 0) #[])) ::
  (nat_lit 35, (Obj.mk (.type "tuple") none (.seq #[] 0) #[])) ::
  (nat_lit 37, (Obj.mk (.type "code") none (.fields #[(.str (Str.ofString "_wall") 282), (.str (Str.ofString "_wall") 283), (.str (Str.ofString "/claim/cut.py") 284), (.int 2 0), (.int 1 0), (.int 0 0), (.int 0 0), (.int 3 0), (.ref 32), (.bool true), (.int 276 0), (.ref 33), .none, (.ref 34), (.ref 35), (.ref 36), (.int 286 0), (.int 2 0), (.str (Str.ofString "/claim/cut.py") 287)]) #[])) ::
  (nat_lit 38, fnO 1 (by with_unfolding_all rfl) (Str.ofString "_wall") 3 [] .none .none .none (.str (Str.ofString "__main__") 164) none (.ref 37) .none 0) ::
  (nat_lit 42, (Obj.mk (.type "tuple") none (.seq #[(.int 14 0), (.int 14 0), (.int 4 0), (.int 1 0), (.int 1 0), (.int 9 0), (.int 0 0), (.int 4227896069 0), (.int 939524097 0), (.int 0 0), (.int 0 0), (.int 0 0), (.int 0 0), (.int 0 0), (.int 0 0), (.int 13 0), (.int 11 0), (.int 9 0), (.int 0 0), (.int 4227896069 0), (.int 939524097 0), (.int 0 0), (.int 0 0), (.int 0 0), (.int 0 0), (.int 0 0), (.int 0 0), (.int 1 0)] 0) #[])) ::
  (nat_lit 43, (Obj.mk (.type "re.Pattern") none (.fields #[(.str (Str.ofString "[ \\(\\)<>@,;:\\\\\"/\\[\\]\\?=]") 292), (.int 32 323), (.int 0 0), .none, .none, (.ref 42), (.int 0 0)]) #[])) ::
  (nat_lit 47, (Obj.mk (.type "tuple") none (.seq #[(.int 14 0), (.int 10 0), (.int 4 0), (.int 1 0), (.int 1 0), (.int 22 0), (.int 0 0), (.int 31 0), (.int 16 0), (.int 127 0), (.int 0 0), (.int 13 0), (.int 7 0), (.int 22 0), (.int 0 0), (.int 31 0), (.int 16 0), (.int 127 0), (.int 0 0), (.int 1 0)] 0) #[])) ::
  (nat_lit 48, (Obj.mk (.type "re.Pattern") none (.fields #[(.str (Str.ofString "[\\x00-\\x1F\\x7F]") 326), (.int 32 349), (.int 0 0), .none, .none, (.ref 47), (.int 0 0)]) #[])) ::
  (nat_lit 52, (Obj.mk (.type "tuple") none (.seq #[(.int 14 0), (.int 14 0), (.int 4 0), (.int 1 0), (.int 1 0), (.int 9 0), (.int 4294966783 0), (.int 0 0), (.int 0 0), (.int 2147483648 0), (.int 0 0), (.int 0 0), (.int 0 0), (.int 0 0), (.int 0 0), (.int 13 0), (.int 11 0), (.int 9 0), (.int 4294966783 0), (.int 0 0), (.int 0 0), (.int 2147483648 0), (.int 0 0), (.int 0 0), (.int 0 0), (.int 0 0), (.int 0 0), (.int 1 0)] 0) #[])) ::
  (nat_lit 53, (Obj.mk (.type "re.Pattern") none (.fields #[(.str (Str.ofString "[\\x00-\\x08\\x0A-\\x1F\\x7F]") 352), (.int 32 383), (.int 0 0), .none, .none, (.ref 52), (.int 0 0)]) #[])) ::
  (nat_lit 54, (Obj.mk (.type "tuple") none (.seq #[.none, (.int 1 385)] 0) #[])) ::
  (nat_lit 55, (Obj.mk (.type "tuple") none (.seq #[] 0) #[])) ::
  (nat_lit 57, (Obj.mk (.type "tuple") none (.seq #[(.str (Str.ofString "param") 389), (.str (Str.ofString "value") 390), (.str (Str.ofString "quote") 391)] 0) #[])) ::
  (nat_lit 58, (Obj.mk (.type "tuple") none (.seq #[] 0) #[])) ::
  (nat_lit 60, (Obj.mk (.type "code") none (.fields #[(.str (Str.ofString "_formatparam") 386), (.str (Str.ofString "_formatparam") 387), (.str (Str.ofString "/claim/cut.py") 388), (.int 9 0), (.int 3 0), (.int 0 0), (.int 0 0), (.int 3 0), (.ref 55), (.bool true), (.int 276 0), (.ref 56), .none, (.ref 57), (.ref 58), (.ref 59), (.int 392 0), (.int 9 0), (.str (Str.ofString "/claim/cut.py") 393)]) #[])) ::
  (nat_lit 61, fnO 6 (by with_unfolding_all rfl) (Str.ofString "_formatparam") 3 [] (.ref 54) .none .none (.str (Str.ofString "cpy313.wsgiref.headers") 289) none (.ref 60) .none 0) ::
  (nat_lit 69, (Obj.mk (.type "tuple") none (.seq #[.none] 0) #[])) ::
  (nat_lit 70, (Obj.mk (.type "tuple") none (.seq #[] 0) #[])) ::
  (nat_lit 72, (Obj.mk (.type "tuple") none (.seq #[(.str (Str.ofString "self") 410), (.str (Str.ofString "headers") 411), (.str (Str.ofString "k") 412), (.str (Str.ofString "v") 413)] 0) #[])) ::
  (nat_lit 73, (Obj.mk (.type "tuple") none (.seq #[] 0) #[])) ::
  (nat_lit 75, (Obj.mk (.type "code") none (.fields #[(.str (Str.ofString "__init__") 407), (.str (Str.ofString "Headers.__init__") 408), (.str (Str.ofString "/claim/cut.py") 409), (.int 20 0), (.int 2 0), (.int 0 0), (.int 0 0), (.int 3 0), (.ref 70), (.bool true), (.int 276 0), (.ref 71), .none, (.ref 72), (.ref 73), (.ref 74), (.int 414 0), (.int 20 0), (.str (Str.ofString "/claim/cut.py") 415)]) #[])) ::
  (nat_lit 76, mtO 7 0 (by with_unfolding_all rfl) (Str.ofString "Headers.__init__") 3 [] (.ref 69) .none .none (.str (Str.ofString "cpy313.wsgiref.headers") 289) none (.ref 75) .none 0) ::
  (nat_lit 77, (Obj.mk (.type "tuple") none (.seq #[] 0) #[])) ::
  (nat_lit 79, (Obj.mk (.type "tuple") none (.seq #[(.str (Str.ofString "self") 420), (.str (Str.ofString "value") 421), (.str (Str.ofString "name") 422), (.str (Str.ofString "regex") 423)] 0) #[])) ::
  (nat_lit 80, (Obj.mk (.type "tuple") none (.seq #[] 0) #[])) ::
  (nat_lit 82, (Obj.mk (.type "code") none (.fields #[(.str (Str.ofString "_convert_string_type") 417), (.str (Str.ofString "Headers._convert_string_type") 418), (.str (Str.ofString "/claim/cut.py") 419), (.int 30 0), (.int 2 0), (.int 0 0), (.int 1 0), (.int 3 0), (.ref 77), (.bool true), (.int 276 0), (.ref 78), .none, (.ref 79), (.ref 80), (.ref 81), (.int 424 0), (.int 30 0), (.str (Str.ofString "/claim/cut.py") 425)]) #[])) ::
  (nat_lit 83, mtO 7 1 (by with_unfolding_all rfl) (Str.ofString "Headers._convert_string_type") 3 [] .none .none .none (.str (Str.ofString "cpy313.wsgiref.headers") 289) none (.ref 82) .none 0) ::
  (nat_lit 84, (Obj.mk (.type "tuple") none (.seq #[] 0) #[])) ::
  (nat_lit 86, (Obj.mk (.type "tuple") none (.seq #[(.str (Str.ofString "self") 430)] 0) #[])) ::
  (nat_lit 87, (Obj.mk (.type "tuple") none (.seq #[] 0) #[])) ::
  (nat_lit 89, (Obj.mk (.type "code") none (.fields #[(.str (Str.ofString "__len__") 427), (.str (Str.ofString "Headers.__len__") 428), (.str (Str.ofString "/claim/cut.py") 429), (.int 38 0), (.int 1 0), (.int 0 0), (.int 0 0), (.int 3 0), (.ref 84), (.bool true), (.int 276 0), (.ref 85), .none, (.ref 86), (.ref 87), (.ref 88), (.int 431 0), (.int 38 0), (.str (Str.ofString "/claim/cut.py") 432)]) #[])) ::
  (nat_lit 90, mtO 7 2 (by with_unfolding_all rfl) (Str.ofString "Headers.__len__") 3 [] .none .none .none (.str (Str.ofString "cpy313.wsgiref.headers") 289) none (.ref 89) .none 0) ::
  (nat_lit 91, (Obj.mk (.type "tuple") none (.seq #[] 0) #[])) ::
  (nat_lit 93, (Obj.mk (.type "tuple") none (.seq #[(.str (Str.ofString "self") 437), (.str (Str.ofString "name") 438), (.str (Str.ofString "val") 439)] 0) #[])) ::
  (nat_lit 94, (Obj.mk (.type "tuple") none (.seq #[] 0) #[])) ::
  (nat_lit 96, (Obj.mk (.type "code") none (.fields #[(.str (Str.ofString "__setitem__") 434), (.str (Str.ofString "Headers.__setitem__") 435), (.str (Str.ofString "/claim/cut.py") 436), (.int 41 0), (.int 3 0), (.int 0 0), (.int 0 0), (.int 3 0), (.ref 91), (.bool true), (.int 276 0), (.ref 92), .none, (.ref 93), (.ref 94), (.ref 95), (.int 440 0), (.int 41 0), (.str (Str.ofString "/claim/cut.py") 441)]) #[])) ::
  (nat_lit 97, mtO 7 3 (by with_unfolding_all rfl) (Str.ofString "Headers.__setitem__") 3 [] .none .none .none (.str (Str.ofString "cpy313.wsgiref.headers") 289) none (.ref 96) .none 0) ::
  (nat_lit 98, (Obj.mk (.type "tuple") none (.seq #[] 0) #[])) ::
  (nat_lit 101, (Obj.mk (.type "code") none (.fields #[(.str (Str.ofString "__delitem__") 443), (.str (Str.ofString "Headers.__delitem__") 444), (.str (Str.ofString "/claim/cut.py") 445), (.int 45 0), (.int 2 0), (.int 0 0), (.int 0 0), (.int 3 0), (.ref 98), (.bool true), (.int 276 0), (.ref 99), .none, .none, .none, (.ref 100), (.int 446 0), (.int 45 0), (.str (Str.ofString "/claim/cut.py") 447)]) #[])) ::
  (nat_lit 102, mtO 7 4 (by with_unfolding_all rfl) (Str.ofString "Headers.__delitem__") 3 [] .none .none .none (.str (Str.ofString "cpy313.wsgiref.headers") 289) none (.ref 101) .none 0) ::
  (nat_lit 103, (Obj.mk (.type "tuple") none (.seq #[] 0) #[])) ::
  (nat_lit 105, (Obj.mk (.type "tuple") none (.seq #[(.str (Str.ofString "self") 452), (.str (Str.ofString "name") 453)] 0) #[])) ::
  (nat_lit 106, (Obj.mk (.type "tuple") none (.seq #[] 0) #[])) ::
  (nat_lit 108, (Obj.mk (.type "code") none (.fields #[(.str (Str.ofString "__getitem__") 449), (.str (Str.ofString "Headers.__getitem__") 450), (.str (Str.ofString "/claim/cut.py") 451), (.int 49 0), (.int 2 0), (.int 0 0), (.int 0 0), (.int 3 0), (.ref 103), (.bool true), (.int 276 0), (.ref 104), .none, (.ref 105), (.ref 106), (.ref 107), (.int 454 0), (.int 49 0), (.str (Str.ofString "/claim/cut.py") 455)]) #[])) ::
  (nat_lit 109, mtO 7 5 (by with_unfolding_all rfl) (Str.ofString "Headers.__getitem__") 3 [] .none .none .none (.str (Str.ofString "cpy313.wsgiref.headers") 289) none (.ref 108) .none 0) ::
  (nat_lit 110, (Obj.mk (.type "tuple") none (.seq #[] 0) #[])) ::
  (nat_lit 112, (Obj.mk (.type "tuple") none (.seq #[(.str (Str.ofString "self") 460), (.str (Str.ofString "name") 461)] 0) #[])) ::
  (nat_lit 113, (Obj.mk (.type "tuple") none (.seq #[] 0) #[])) ::
  (nat_lit 115, (Obj.mk (.type "code") none (.fields #[(.str (Str.ofString "__contains__") 457), (.str (Str.ofString "Headers.__contains__") 458), (.str (Str.ofString "/claim/cut.py") 459), (.int 52 0), (.int 2 0), (.int 0 0), (.int 0 0), (.int 3 0), (.ref 110), (.bool true), (.int 276 0), (.ref 111), .none, (.ref 112), (.ref 113), (.ref 114), (.int 462 0), (.int 52 0), (.str (Str.ofString "/claim/cut.py") 463)]) #[])) ::
  (nat_lit 116, mtO 7 6 (by with_unfolding_all rfl) (Str.ofString "Headers.__contains__") 3 [] .none .none .none (.str (Str.ofString "cpy313.wsgiref.headers") 289) none (.ref 115) .none 0) ::
  (nat_lit 117, (Obj.mk (.type "tuple") none (.seq #[] 0) #[])) ::
  (nat_lit 120, (Obj.mk (.type "code") none (.fields #[(.str (Str.ofString "get_all") 465), (.str (Str.ofString "Headers.get_all") 466), (.str (Str.ofString "/claim/cut.py") 467), (.int 55 0), (.int 2 0), (.int 0 0), (.int 0 0), (.int 3 0), (.ref 117), (.bool true), (.int 276 0), (.ref 118), .none, .none, .none, (.ref 119), (.int 468 0), (.int 55 0), (.str (Str.ofString "/claim/cut.py") 469)]) #[])) ::
  (nat_lit 121, mtO 7 7 (by with_unfolding_all rfl) (Str.ofString "Headers.get_all") 3 [] .none .none .none (.str (Str.ofString "cpy313.wsgiref.headers") 289) none (.ref 120) .none 0) ::
  (nat_lit 122, (Obj.mk (.type "tuple") none (.seq #[.none] 0) #[])) ::
  (nat_lit 123, (Obj.mk (.type "tuple") none (.seq #[] 0) #[])) ::
  (nat_lit 125, (Obj.mk (.type "tuple") none (.seq #[(.str (Str.ofString "self") 474), (.str (Str.ofString "name") 475), (.str (Str.ofString "default") 476), (.str (Str.ofString "k") 477), (.str (Str.ofString "v") 478)] 0) #[])) ::
  (nat_lit 126, (Obj.mk (.type "tuple") none (.seq #[] 0) #[])) ::
  (nat_lit 128, (Obj.mk (.type "code") none (.fields #[(.str (Str.ofString "get") 471), (.str (Str.ofString "Headers.get") 472), (.str (Str.ofString "/claim/cut.py") 473), (.int 59 0), (.int 3 0), (.int 0 0), (.int 0 0), (.int 3 0), (.ref 123), (.bool true), (.int 276 0), (.ref 124), .none, (.ref 125), (.ref 126), (.ref 127), (.int 479 0), (.int 59 0), (.str (Str.ofString "/claim/cut.py") 480)]) #[])) ::
  (nat_lit 129, mtO 7 8 (by with_unfolding_all rfl) (Str.ofString "Headers.get") 3 [] (.ref 122) .none .none (.str (Str.ofString "cpy313.wsgiref.headers") 289) none (.ref 128) .none 0) ::
  (nat_lit 130, (Obj.mk (.type "tuple") none (.seq #[] 0) #[])) ::
  (nat_lit 133, (Obj.mk (.type "code") none (.fields #[(.str (Str.ofString "keys") 482), (.str (Str.ofString "Headers.keys") 483), (.str (Str.ofString "/claim/cut.py") 484), (.int 66 0), (.int 1 0), (.int 0 0), (.int 0 0), (.int 3 0), (.ref 130), (.bool true), (.int 276 0), (.ref 131), .none, .none, .none, (.ref 132), (.int 485 0), (.int 66 0), (.str (Str.ofString "/claim/cut.py") 486)]) #[])) ::
  (nat_lit 134, mtO 7 9 (by with_unfolding_all rfl) (Str.ofString "Headers.keys") 3 [] .none .none .none (.str (Str.ofString "cpy313.wsgiref.headers") 289) none (.ref 133) .none 0) ::
  (nat_lit 135, (Obj.mk (.type "tuple") none (.seq #[] 0) #[])) ::
  (nat_lit 138, (Obj.mk (.type "code") none (.fields #[(.str (Str.ofString "values") 488), (.str (Str.ofString "Headers.values") 489), (.str (Str.ofString "/claim/cut.py") 490), (.int 69 0), (.int 1 0), (.int 0 0), (.int 0 0), (.int 3 0), (.ref 135), (.bool true), (.int 276 0), (.ref 136), .none, .none, .none, (.ref 137), (.int 491 0), (.int 69 0), (.str (Str.ofString "/claim/cut.py") 492)]) #[])) ::
  (nat_lit 139, mtO 7 10 (by with_unfolding_all rfl) (Str.ofString "Headers.values") 3 [] .none .none .none (.str (Str.ofString "cpy313.wsgiref.headers") 289) none (.ref 138) .none 0) ::
  (nat_lit 140, (Obj.mk (.type "tuple") none (.seq #[] 0) #[])) ::
  (nat_lit 142, (Obj.mk (.type "tuple") none (.seq #[(.str (Str.ofString "self") 497)] 0) #[])) ::
  (nat_lit 143, (Obj.mk (.type "tuple") none (.seq #[] 0) #[])) ::
  (nat_lit 145, (Obj.mk (.type "code") none (.fields #[(.str (Str.ofString "items") 494), (.str (Str.ofString "Headers.items") 495), (.str (Str.ofString "/claim/cut.py") 496), (.int 72 0), (.int 1 0), (.int 0 0), (.int 0 0), (.int 3 0), (.ref 140), (.bool true), (.int 276 0), (.ref 141), .none, (.ref 142), (.ref 143), (.ref 144), (.int 498 0), (.int 72 0), (.str (Str.ofString "/claim/cut.py") 499)]) #[])) ::
  (nat_lit 146, mtO 7 11 (by with_unfolding_all rfl) (Str.ofString "Headers.items") 3 [] .none .none .none (.str (Str.ofString "cpy313.wsgiref.headers") 289) none (.ref 145) .none 0) ::
  (nat_lit 147, (Obj.mk (.type "tuple") none (.seq #[] 0) #[])) ::
  (nat_lit 149, (Obj.mk (.type "tuple") none (.seq #[(.str (Str.ofString "self") 504)] 0) #[])) ::
  (nat_lit 150, (Obj.mk (.type "tuple") none (.seq #[] 0) #[])) ::
  (nat_lit 152, (Obj.mk (.type "code") none (.fields #[(.str (Str.ofString "__repr__") 501), (.str (Str.ofString "Headers.__repr__") 502), (.str (Str.ofString "/claim/cut.py") 503), (.int 75 0), (.int 1 0), (.int 0 0), (.int 0 0), (.int 3 0), (.ref 147), (.bool true), (.int 276 0), (.ref 148), .none, (.ref 149), (.ref 150), (.ref 151), (.int 505 0), (.int 75 0), (.str (Str.ofString "/claim/cut.py") 506)]) #[])) ::
  (nat_lit 153, mtO 7 12 (by with_unfolding_all rfl) (Str.ofString "Headers.__repr__") 3 [] .none .none .none (.str (Str.ofString "cpy313.wsgiref.headers") 289) none (.ref 152) .none 0) ::
  (nat_lit 154, (Obj.mk (.type "tuple") none (.seq #[] 0) #[])) ::
  (nat_lit 157, (Obj.mk (.type "code") none (.fields #[(.str (Str.ofString "__str__") 508), (.str (Str.ofString "Headers.__str__") 509), (.str (Str.ofString "/claim/cut.py") 510), (.int 78 0), (.int 1 0), (.int 0 0), (.int 0 0), (.int 3 0), (.ref 154), (.bool true), (.int 276 0), (.ref 155), .none, .none, .none, (.ref 156), (.int 511 0), (.int 78 0), (.str (Str.ofString "/claim/cut.py") 512)]) #[])) ::
  (nat_lit 158, mtO 7 13 (by with_unfolding_all rfl) (Str.ofString "Headers.__str__") 3 [] .none .none .none (.str (Str.ofString "cpy313.wsgiref.headers") 289) none (.ref 157) .none 0) ::
  (nat_lit 159, (Obj.mk (.type "tuple") none (.seq #[] 0) #[])) ::
  (nat_lit 161, (Obj.mk (.type "tuple") none (.seq #[(.str (Str.ofString "self") 517)] 0) #[])) ::
  (nat_lit 162, (Obj.mk (.type "tuple") none (.seq #[] 0) #[])) ::
  (nat_lit 164, (Obj.mk (.type "code") none (.fields #[(.str (Str.ofString "__bytes__") 514), (.str (Str.ofString "Headers.__bytes__") 515), (.str (Str.ofString "/claim/cut.py") 516), (.int 81 0), (.int 1 0), (.int 0 0), (.int 0 0), (.int 3 0), (.ref 159), (.bool true), (.int 276 0), (.ref 160), .none, (.ref 161), (.ref 162), (.ref 163), (.int 518 0), (.int 81 0), (.str (Str.ofString "/claim/cut.py") 519)]) #[])) ::
  (nat_lit 165, mtO 7 14 (by with_unfolding_all rfl) (Str.ofString "Headers.__bytes__") 3 [] .none .none .none (.str (Str.ofString "cpy313.wsgiref.headers") 289) none (.ref 164) .none 0) ::
  (nat_lit 166, (Obj.mk (.type "tuple") none (.seq #[] 0) #[])) ::
  (nat_lit 168, (Obj.mk (.type "tuple") none (.seq #[(.str (Str.ofString "self") 524), (.str (Str.ofString "name") 525), (.str (Str.ofString "value") 526)] 0) #[])) ::
  (nat_lit 169, (Obj.mk (.type "tuple") none (.seq #[] 0) #[])) ::
  (nat_lit 171, (Obj.mk (.type "code") none (.fields #[(.str (Str.ofString "setdefault") 521), (.str (Str.ofString "Headers.setdefault") 522), (.str (Str.ofString "/claim/cut.py") 523), (.int 84 0), (.int 3 0), (.int 0 0), (.int 0 0), (.int 3 0), (.ref 166), (.bool true), (.int 276 0), (.ref 167), .none, (.ref 168), (.ref 169), (.ref 170), (.int 527 0), (.int 84 0), (.str (Str.ofString "/claim/cut.py") 528)]) #[])) ::
  (nat_lit 172, mtO 7 15 (by with_unfolding_all rfl) (Str.ofString "Headers.setdefault") 3 [] .none .none .none (.str (Str.ofString "cpy313.wsgiref.headers") 289) none (.ref 171) .none 0) ::
  (nat_lit 173, (Obj.mk (.type "tuple") none (.seq #[] 0) #[])) ::
  (nat_lit 175, (Obj.mk (.type "tuple") none (.seq #[(.str (Str.ofString "self") 533), (.str (Str.ofString "_name") 534), (.str (Str.ofString "_value") 535), (.str (Str.ofString "_params") 536), (.str (Str.ofString "parts") 537), (.str (Str.ofString "k") 538), (.str (Str.ofString "v") 539)] 0) #[])) ::
  (nat_lit 176, (Obj.mk (.type "tuple") none (.seq #[] 0) #[])) ::
  (nat_lit 178, (Obj.mk (.type "code") none (.fields #[(.str (Str.ofString "add_header") 530), (.str (Str.ofString "Headers.add_header") 531), (.str (Str.ofString "/claim/cut.py") 532), (.int 87 0), (.int 3 0), (.int 0 0), (.int 0 0), (.int 11 0), (.ref 173), (.bool true), (.int 276 0), (.ref 174), .none, (.ref 175), (.ref 176), (.ref 177), (.int 540 0), (.int 87 0), (.str (Str.ofString "/claim/cut.py") 541)]) #[])) ::
  (nat_lit 179, mtO 7 16 (by with_unfolding_all rfl) (Str.ofString "Headers.add_header") 3 [] .none .none .none (.str (Str.ofString "cpy313.wsgiref.headers") 289) none (.ref 178) .none 0) ::
  (nat_lit 180, (Obj.mk (.type "tuple") none (.seq #[(.str (Str.ofString "_headers") 543)] 0) #[])) ::
  (nat_lit 181, (Obj.mk (.type "dict") none (.dict #[(DictEntry.mk (PyData.keyHash P (Str.ofString "__module__")) (.str (Str.ofString "__module__") 402) (.str (Str.ofString "cpy313.wsgiref.headers") 289)), (DictEntry.mk (PyData.keyHash P (Str.ofString "__firstlineno__")) (.str (Str.ofString "__firstlineno__") 406) (.int 18 405)), (DictEntry.mk (PyData.keyHash P (Str.ofString "__init__")) (.str (Str.ofString "__init__") 416) (.ref 76)), (DictEntry.mk (PyData.keyHash P (Str.ofString "_convert_string_type")) (.str (Str.ofString "_convert_string_type") 426) (.ref 83)), (DictEntry.mk (PyData.keyHash P (Str.ofString "__len__")) (.str (Str.ofString "__len__") 433) (.ref 90)), (DictEntry.mk (PyData.keyHash P (Str.ofString "__setitem__")) (.str (Str.ofString "__setitem__") 442) (.ref 97)), (DictEntry.mk (PyData.keyHash P (Str.ofString "__delitem__")) (.str (Str.ofString "__delitem__") 448) (.ref 102)), (DictEntry.mk (PyData.keyHash P (Str.ofString "__getitem__")) (.str (Str.ofString "__getitem__") 456) (.ref 109)), (DictEntry.mk (PyData.keyHash P (Str.ofString "__contains__")) (.str (Str.ofString "__contains__") 464) (.ref 116)), (DictEntry.mk (PyData.keyHash P (Str.ofString "get_all")) (.str (Str.ofString "get_all") 470) (.ref 121)), (DictEntry.mk (PyData.keyHash P (Str.ofString "get")) (.str (Str.ofString "get") 481) (.ref 129)), (DictEntry.mk (PyData.keyHash P (Str.ofString "keys")) (.str (Str.ofString "keys") 487) (.ref 134)), (DictEntry.mk (PyData.keyHash P (Str.ofString "values")) (.str (Str.ofString "values") 493) (.ref 139)), (DictEntry.mk (PyData.keyHash P (Str.ofString "items")) (.str (Str.ofString "items") 500) (.ref 146)), (DictEntry.mk (PyData.keyHash P (Str.ofString "__repr__")) (.str (Str.ofString "__repr__") 507) (.ref 153)), (DictEntry.mk (PyData.keyHash P (Str.ofString "__str__")) (.str (Str.ofString "__str__") 513) (.ref 158)), (DictEntry.mk (PyData.keyHash P (Str.ofString "__bytes__")) (.str (Str.ofString "__bytes__") 520) (.ref 165)), (DictEntry.mk (PyData.keyHash P (Str.ofString "setdefault")) (.str (Str.ofString "setdefault") 529) (.ref 172)), (DictEntry.mk (PyData.keyHash P (Str.ofString "add_header")) (.str (Str.ofString "add_header") 542) (.ref 179)), (DictEntry.mk (PyData.keyHash P (Str.ofString "__static_attributes__")) (.str (Str.ofString "__static_attributes__") 544) (.ref 180)), (DictEntry.mk (PyData.keyHash P (Str.ofString "__dict__")) (.str (Str.ofString "__dict__") 546) (.ref 183)), (DictEntry.mk (PyData.keyHash P (Str.ofString "__weakref__")) (.str (Str.ofString "__weakref__") 548) (.ref 184)), (DictEntry.mk (PyData.keyHash P (Str.ofString "__doc__")) (.str (Str.ofString "__doc__") 549) .none)] 4) #[])) ::
  (nat_lit 182, (Obj.mk (.type "type") none (.cls (ClassData.mk (Str.ofString "Headers") [(.type "object")] [(.ref 182), (.type "object")] 181 (Str.ofString "Headers") true [] [] false none false)) #[none, none, (some (.str (Str.ofString "Headers") 395)), (some (.str (Str.ofString "Headers") 403)), (some (.builtin "object.__new__")), (some (.bool true))])) ::
  (nat_lit 183, (Obj.mk (.type "getset_descriptor") none (.fields #[(.str (Str.ofString "__dict__") 545), (.ref 182), (.builtin "function.__dict__"), (.builtin "function.__dict__#set")]) #[])) ::
  (nat_lit 184, (Obj.mk (.type "getset_descriptor") none (.fields #[(.str (Str.ofString "__weakref__") 547), (.ref 182), (.builtin "ExceptionGroup.__weakref__"), .none]) #[])) ::
  (nat_lit 187, (Obj.mk (.type "tuple") none (.seq #[(.bool false)] 0) #[])) ::
  (nat_lit 188, (Obj.mk (.type "tuple") none (.seq #[] 0) #[])) ::
  (nat_lit 190, (Obj.mk (.type "tuple") none (.seq #[(.str (Str.ofString "w") 557), (.str (Str.ofString "base") 558), (.str (Str.ofString "more_than") 559), (.str (Str.ofString "show") 560), (.str (Str.ofString "seen") 561), (.str (Str.ofString "need") 562), (.str (Str.ofString "ws") 563), (.str (Str.ofString "lo") 564), (.str (Str.ofString "d") 565), (.str (Str.ofString "it") 566), (.str (Str.ofString "first") 567), (.str (Str.ofString "this") 568), (.str (Str.ofString "hi") 569), (.str (Str.ofString "sq") 570)] 0) #[])) ::
  (nat_lit 191, (Obj.mk (.type "tuple") none (.seq #[] 0) #[])) ::
  (nat_lit 193, (Obj.mk (.type "code") none (.fields #[(.str (Str.ofString "compute_powers") 554), (.str (Str.ofString "compute_powers") 555), (.str (Str.ofString "/claim/cut.py") 556), (.int 101 0), (.int 4 0), (.int 0 0), (.int 0 0), (.int 3 0), (.ref 188), (.bool true), (.int 276 0), (.ref 189), .none, (.ref 190), (.ref 191), (.ref 192), (.int 571 0), (.int 101 0), (.str (Str.ofString "/claim/cut.py") 572)]) #[])) ::
  (nat_lit 194, fnO 9 (by with_unfolding_all rfl) (Str.ofString "compute_powers") 3 [] (.ref 187) .none .none (.str (Str.ofString "cpy313._pylong") 552) none (.ref 193) .none 0) ::
  (nat_lit 195, (Obj.mk (.type "tuple") none (.seq #[] 0) #[])) ::
  (nat_lit 197, (Obj.mk (.type "tuple") none (.seq #[(.str (Str.ofString "s") 577)] 0) #[])) ::
  (nat_lit 198, (Obj.mk (.type "tuple") none (.seq #[(.str (Str.ofString "s") 578), (.str (Str.ofString "DIGLIM") 579), (.str (Str.ofString "inner") 580), (.str (Str.ofString "w5pow") 581)] 0) #[])) ::
  (nat_lit 200, (Obj.mk (.type "code") none (.fields #[(.str (Str.ofString "_str_to_int_inner") 574), (.str (Str.ofString "_str_to_int_inner") 575), (.str (Str.ofString "/claim/cut.py") 576), (.int 142 0), (.int 1 0), (.int 0 0), (.int 0 0), (.int 3 0), (.ref 195), (.bool true), (.int 276 0), (.ref 196), .none, (.ref 197), (.ref 198), (.ref 199), (.int 582 0), (.int 142 0), (.str (Str.ofString "/claim/cut.py") 583)]) #[])) ::
  (nat_lit 201, fnO 10 (by with_unfolding_all rfl) (Str.ofString "_str_to_int_inner") 3 [] .none .none .none (.str (Str.ofString "cpy313._pylong") 552) none (.ref 200) .none 0) ::
  (nat_lit 202, (Obj.mk (.type "tuple") none (.seq #[] 0) #[])) ::
  (nat_lit 204, (Obj.mk (.type "tuple") none (.seq #[(.str (Str.ofString "s") 588)] 0) #[])) ::
  (nat_lit 205, (Obj.mk (.type "tuple") none (.seq #[] 0) #[])) ::
  (nat_lit 207, (Obj.mk (.type "code") none (.fields #[(.str (Str.ofString "int_from_string") 585), (.str (Str.ofString "int_from_string") 586), (.str (Str.ofString "/claim/cut.py") 587), (.int 152 0), (.int 1 0), (.int 0 0), (.int 0 0), (.int 3 0), (.ref 202), (.bool true), (.int 276 0), (.ref 203), .none, (.ref 204), (.ref 205), (.ref 206), (.int 589 0), (.int 152 0), (.str (Str.ofString "/claim/cut.py") 590)]) #[])) ::
  (nat_lit 208, fnO 11 (by with_unfolding_all rfl) (Str.ofString "int_from_string") 3 [] .none .none .none (.str (Str.ofString "cpy313._pylong") 552) none (.ref 207) .none 0) ::
  (nat_lit 209, (Obj.mk (.type "tuple") none (.seq #[] 0) #[])) ::
  (nat_lit 211, (Obj.mk (.type "tuple") none (.seq #[(.str (Str.ofString "a") 597), (.str (Str.ofString "b") 598), (.str (Str.ofString "n") 599), (.str (Str.ofString "pad") 600), (.str (Str.ofString "half_n") 601), (.str (Str.ofString "mask") 602), (.str (Str.ofString "b1") 603), (.str (Str.ofString "b2") 604), (.str (Str.ofString "q1") 605), (.str (Str.ofString "r") 606), (.str (Str.ofString "q2") 607)] 0) #[])) ::
  (nat_lit 212, (Obj.mk (.type "tuple") none (.seq #[] 0) #[])) ::
  (nat_lit 214, (Obj.mk (.type "code") none (.fields #[(.str (Str.ofString "_div2n1n") 594), (.str (Str.ofString "_div2n1n") 595), (.str (Str.ofString "/claim/cut.py") 596), (.int 156 0), (.int 3 0), (.int 0 0), (.int 0 0), (.int 3 0), (.ref 209), (.bool true), (.int 276 0), (.ref 210), .none, (.ref 211), (.ref 212), (.ref 213), (.int 608 0), (.int 156 0), (.str (Str.ofString "/claim/cut.py") 609)]) #[])) ::
  (nat_lit 215, fnO 13 (by with_unfolding_all rfl) (Str.ofString "_div2n1n") 3 [] .none .none .none (.str (Str.ofString "cpy313._pylong") 552) none (.ref 214) .none 0) ::
  (nat_lit 216, (Obj.mk (.type "tuple") none (.seq #[] 0) #[])) ::
  (nat_lit 218, (Obj.mk (.type "tuple") none (.seq #[(.str (Str.ofString "a12") 614), (.str (Str.ofString "a3") 615), (.str (Str.ofString "b") 616), (.str (Str.ofString "b1") 617), (.str (Str.ofString "b2") 618), (.str (Str.ofString "n") 619), (.str (Str.ofString "q") 620), (.str (Str.ofString "r") 621)] 0) #[])) ::
  (nat_lit 219, (Obj.mk (.type "tuple") none (.seq #[] 0) #[])) ::
  (nat_lit 221, (Obj.mk (.type "code") none (.fields #[(.str (Str.ofString "_div3n2n") 611), (.str (Str.ofString "_div3n2n") 612), (.str (Str.ofString "/claim/cut.py") 613), (.int 172 0), (.int 6 0), (.int 0 0), (.int 0 0), (.int 3 0), (.ref 216), (.bool true), (.int 276 0), (.ref 217), .none, (.ref 218), (.ref 219), (.ref 220), (.int 622 0), (.int 172 0), (.str (Str.ofString "/claim/cut.py") 623)]) #[])) ::
  (nat_lit 222, fnO 14 (by with_unfolding_all rfl) (Str.ofString "_div3n2n") 3 [] .none .none .none (.str (Str.ofString "cpy313._pylong") 552) none (.ref 221) .none 0) ::
  (nat_lit 223, (Obj.mk (.type "tuple") none (.seq #[] 0) #[])) ::
  (nat_lit 225, (Obj.mk (.type "tuple") none (.seq #[(.str (Str.ofString "a") 628), (.str (Str.ofString "n") 629)] 0) #[])) ::
  (nat_lit 226, (Obj.mk (.type "tuple") none (.seq #[(.str (Str.ofString "n") 630), (.str (Str.ofString "a_digits") 631), (.str (Str.ofString "inner") 632)] 0) #[])) ::
  (nat_lit 228, (Obj.mk (.type "code") none (.fields #[(.str (Str.ofString "_int2digits") 625), (.str (Str.ofString "_int2digits") 626), (.str (Str.ofString "/claim/cut.py") 627), (.int 182 0), (.int 2 0), (.int 0 0), (.int 0 0), (.int 3 0), (.ref 223), (.bool true), (.int 276 0), (.ref 224), .none, (.ref 225), (.ref 226), (.ref 227), (.int 633 0), (.int 182 0), (.str (Str.ofString "/claim/cut.py") 634)]) #[])) ::
  (nat_lit 229, fnO 15 (by with_unfolding_all rfl) (Str.ofString "_int2digits") 3 [] .none .none .none (.str (Str.ofString "cpy313._pylong") 552) none (.ref 228) .none 0) ::
  (nat_lit 230, (Obj.mk (.type "tuple") none (.seq #[] 0) #[])) ::
  (nat_lit 232, (Obj.mk (.type "tuple") none (.seq #[(.str (Str.ofString "digits") 639), (.str (Str.ofString "n") 640)] 0) #[])) ::
  (nat_lit 233, (Obj.mk (.type "tuple") none (.seq #[(.str (Str.ofString "digits") 641), (.str (Str.ofString "n") 642), (.str (Str.ofString "inner") 643)] 0) #[])) ::
  (nat_lit 235, (Obj.mk (.type "code") none (.fields #[(.str (Str.ofString "_digits2int") 636), (.str (Str.ofString "_digits2int") 637), (.str (Str.ofString "/claim/cut.py") 638), (.int 198 0), (.int 2 0), (.int 0 0), (.int 0 0), (.int 3 0), (.ref 230), (.bool true), (.int 276 0), (.ref 231), .none, (.ref 232), (.ref 233), (.ref 234), (.int 644 0), (.int 198 0), (.str (Str.ofString "/claim/cut.py") 645)]) #[])) ::
  (nat_lit 236, fnO 16 (by with_unfolding_all rfl) (Str.ofString "_digits2int") 3 [] .none .none .none (.str (Str.ofString "cpy313._pylong") 552) none (.ref 235) .none 0) ::
  (nat_lit 237, (Obj.mk (.type "tuple") none (.seq #[] 0) #[])) ::
  (nat_lit 239, (Obj.mk (.type "tuple") none (.seq #[(.str (Str.ofString "a") 650), (.str (Str.ofString "b") 651), (.str (Str.ofString "n") 652), (.str (Str.ofString "a_digits") 653), (.str (Str.ofString "r") 654), (.str (Str.ofString "q_digits") 655), (.str (Str.ofString "a_digit") 656), (.str (Str.ofString "q_digit") 657), (.str (Str.ofString "q") 658)] 0) #[])) ::
  (nat_lit 240, (Obj.mk (.type "tuple") none (.seq #[] 0) #[])) ::
  (nat_lit 242, (Obj.mk (.type "code") none (.fields #[(.str (Str.ofString "_divmod_pos") 647), (.str (Str.ofString "_divmod_pos") 648), (.str (Str.ofString "/claim/cut.py") 649), (.int 207 0), (.int 2 0), (.int 0 0), (.int 0 0), (.int 3 0), (.ref 237), (.bool true), (.int 276 0), (.ref 238), .none, (.ref 239), (.ref 240), (.ref 241), (.int 659 0), (.int 207 0), (.str (Str.ofString "/claim/cut.py") 660)]) #[])) ::
  (nat_lit 243, fnO 17 (by with_unfolding_all rfl) (Str.ofString "_divmod_pos") 3 [] .none .none .none (.str (Str.ofString "cpy313._pylong") 552) none (.ref 242) .none 0) ::
  (nat_lit 244, (Obj.mk (.type "tuple") none (.seq #[] 0) #[])) ::
  (nat_lit 246, (Obj.mk (.type "tuple") none (.seq #[(.str (Str.ofString "a") 665), (.str (Str.ofString "b") 666), (.str (Str.ofString "q") 667), (.str (Str.ofString "r") 668)] 0) #[])) ::
  (nat_lit 247, (Obj.mk (.type "tuple") none (.seq #[] 0) #[])) ::
  (nat_lit 249, (Obj.mk (.type "code") none (.fields #[(.str (Str.ofString "int_divmod") 662), (.str (Str.ofString "int_divmod") 663), (.str (Str.ofString "/claim/cut.py") 664), (.int 218 0), (.int 2 0), (.int 0 0), (.int 0 0), (.int 3 0), (.ref 244), (.bool true), (.int 276 0), (.ref 245), .none, (.ref 246), (.ref 247), (.ref 248), (.int 669 0), (.int 218 0), (.str (Str.ofString "/claim/cut.py") 670)]) #[])) ::
  (nat_lit 250, fnO 18 (by with_unfolding_all rfl) (Str.ofString "int_divmod") 3 [] .none .none .none (.str (Str.ofString "cpy313._pylong") 552) none (.ref 249) .none 0) ::
  (nat_lit 251, (Obj.mk (.type "tuple") none (.seq #[] 0) #[])) ::
  (nat_lit 253, (Obj.mk (.type "tuple") none (.seq #[(.str (Str.ofString "num") 677), (.str (Str.ofString "val") 678), (.str (Str.ofString "AP") 679), (.str (Str.ofString "mod") 680)] 0) #[])) ::
  (nat_lit 254, (Obj.mk (.type "tuple") none (.seq #[] 0) #[])) ::
  (nat_lit 256, (Obj.mk (.type "code") none (.fields #[(.str (Str.ofString "Int2AP") 674), (.str (Str.ofString "Int2AP") 675), (.str (Str.ofString "/claim/cut.py") 676), (.int 230 0), (.int 1 0), (.int 0 0), (.int 0 0), (.int 3 0), (.ref 251), (.bool true), (.int 276 0), (.ref 252), .none, (.ref 253), (.ref 254), (.ref 255), (.int 681 0), (.int 230 0), (.str (Str.ofString "/claim/cut.py") 682)]) #[])) ::
  (nat_lit 257, fnO 20 (by with_unfolding_all rfl) (Str.ofString "Int2AP") 3 [] .none .none .none (.str (Str.ofString "cpy313.imaplib") 672) none (.ref 256) .none 0) ::
  (nat_lit 258, (Obj.mk (.type "tuple") none (.seq #[] 0) #[])) ::
  (nat_lit 261, (Obj.mk (.type "code") none (.fields #[(.str (Str.ofString "_law_lay") 686), (.str (Str.ofString "_law_lay") 687), (.str (Str.ofString "/claim/cut.py") 688), (.int 239 0), (.int 3 0), (.int 0 0), (.int 0 0), (.int 3 0), (.ref 258), (.bool true), (.int 276 0), (.ref 259), .none, .none, .none, (.ref 260), (.int 689 0), (.int 239 0), (.str (Str.ofString "/claim/cut.py") 690)]) #[])) ::
  (nat_lit 262, fnO 22 (by with_unfolding_all rfl) (Str.ofString "_law_lay") 3 [] .none .none .none (.str (Str.ofString "law_ul0029_01") 684) none (.ref 261) .none 0) ::
  (nat_lit 263, (Obj.mk (.type "tuple") none (.seq #[] 0) #[])) ::
  (nat_lit 266, (Obj.mk (.type "code") none (.fields #[(.str (Str.ofString "_law_bag") 692), (.str (Str.ofString "_law_bag") 693), (.str (Str.ofString "/claim/cut.py") 694), (.int 242 0), (.int 1 0), (.int 0 0), (.int 0 0), (.int 3 0), (.ref 263), (.bool true), (.int 276 0), (.ref 264), .none, .none, .none, (.ref 265), (.int 695 0), (.int 242 0), (.str (Str.ofString "/claim/cut.py") 696)]) #[])) ::
  (nat_lit 267, fnO 23 (by with_unfolding_all rfl) (Str.ofString "_law_bag") 3 [] .none .none .none (.str (Str.ofString "law_ul0029_01") 684) none (.ref 266) .none 0) ::
  (nat_lit 268, (Obj.mk (.type "tuple") none (.seq #[] 0) #[])) ::
  (nat_lit 270, (Obj.mk (.type "tuple") none (.seq #[(.str (Str.ofString "bag") 701), (.str (Str.ofString "k") 702), (.str (Str.ofString "table") 703), (.str (Str.ofString "size") 704), (.str (Str.ofString "count") 705), (.str (Str.ofString "part") 706), (.str (Str.ofString "rest") 707), (.str (Str.ofString "figure") 708)] 0) #[])) ::
  (nat_lit 271, (Obj.mk (.type "tuple") none (.seq #[] 0) #[])) ::
  (nat_lit 273, (Obj.mk (.type "code") none (.fields #[(.str (Str.ofString "_law_forth") 698), (.str (Str.ofString "_law_forth") 699), (.str (Str.ofString "/claim/cut.py") 700), (.int 251 0), (.int 2 0), (.int 0 0), (.int 0 0), (.int 3 0), (.ref 268), (.bool true), (.int 276 0), (.ref 269), .none, (.ref 270), (.ref 271), (.ref 272), (.int 709 0), (.int 251 0), (.str (Str.ofString "/claim/cut.py") 710)]) #[])) ::
  (nat_lit 274, fnO 24 (by with_unfolding_all rfl) (Str.ofString "_law_forth") 3 [] .none .none .none (.str (Str.ofString "law_ul0029_01") 684) none (.ref 273) .none 0) ::
  (nat_lit 275, (Obj.mk (.type "tuple") none (.seq #[] 0) #[])) ::
  (nat_lit 277, (Obj.mk (.type "tuple") none (.seq #[(.str (Str.ofString "bag") 715), (.str (Str.ofString "k") 716), (.str (Str.ofString "table") 717), (.str (Str.ofString "size") 718), (.str (Str.ofString "count") 719), (.str (Str.ofString "groups") 720), (.str (Str.ofString "left") 721), (.str (Str.ofString "part") 722), (.str (Str.ofString "rest") 723)] 0) #[])) ::
  (nat_lit 278, (Obj.mk (.type "tuple") none (.seq #[] 0) #[])) ::
  (nat_lit 280, (Obj.mk (.type "code") none (.fields #[(.str (Str.ofString "_law_back") 712), (.str (Str.ofString "_law_back") 713), (.str (Str.ofString "/claim/cut.py") 714), (.int 264 0), (.int 2 0), (.int 0 0), (.int 0 0), (.int 3 0), (.ref 275), (.bool true), (.int 276 0), (.ref 276), .none, (.ref 277), (.ref 278), (.ref 279), (.int 724 0), (.int 264 0), (.str (Str.ofString "/claim/cut.py") 725)]) #[])) ::
  (nat_lit 281, fnO 25 (by with_unfolding_all rfl) (Str.ofString "_law_back") 3 [] .none .none .none (.str (Str.ofString "law_ul0029_01") 684) none (.ref 280) .none 0) ::
  (nat_lit 282, (Obj.mk (.type "tuple") none (.seq #[] 0) #[])) ::
  (nat_lit 284, (Obj.mk (.type "tuple") none (.seq #[(.str (Str.ofString "parts") 730), (.str (Str.ofString "plain") 731), (.str (Str.ofString "size") 732), (.str (Str.ofString "count") 733)] 0) #[])) ::
  (nat_lit 285, (Obj.mk (.type "tuple") none (.seq #[] 0) #[])) ::
  (nat_lit 287, (Obj.mk (.type "code") none (.fields #[(.str (Str.ofString "_law_plain") 727), (.str (Str.ofString "_law_plain") 728), (.str (Str.ofString "/claim/cut.py") 729), (.int 277 0), (.int 1 0), (.int 0 0), (.int 0 0), (.int 3 0), (.ref 282), (.bool true), (.int 276 0), (.ref 283), .none, (.ref 284), (.ref 285), (.ref 286), (.int 734 0), (.int 277 0), (.str (Str.ofString "/claim/cut.py") 735)]) #[])) ::
  (nat_lit 288, fnO 26 (by with_unfolding_all rfl) (Str.ofString "_law_plain") 3 [] .none .none .none (.str (Str.ofString "law_ul0029_01") 684) none (.ref 287) .none 0) ::
  (nat_lit 289, (Obj.mk (.type "tuple") none (.seq #[] 0) #[])) ::
  (nat_lit 291, (Obj.mk (.type "tuple") none (.seq #[(.str (Str.ofString "plain") 740), (.str (Str.ofString "size") 741), (.str (Str.ofString "k") 742), (.str (Str.ofString "stem") 743), (.str (Str.ofString "power") 744)] 0) #[])) ::
  (nat_lit 292, (Obj.mk (.type "tuple") none (.seq #[] 0) #[])) ::
  (nat_lit 294, (Obj.mk (.type "code") none (.fields #[(.str (Str.ofString "_law_due") 737), (.str (Str.ofString "_law_due") 738), (.str (Str.ofString "/claim/cut.py") 739), (.int 282 0), (.int 3 0), (.int 0 0), (.int 0 0), (.int 3 0), (.ref 289), (.bool true), (.int 276 0), (.ref 290), .none, (.ref 291), (.ref 292), (.ref 293), (.int 745 0), (.int 282 0), (.str (Str.ofString "/claim/cut.py") 746)]) #[])) ::
  (nat_lit 295, fnO 27 (by with_unfolding_all rfl) (Str.ofString "_law_due") 3 [] .none .none .none (.str (Str.ofString "law_ul0029_01") 684) none (.ref 294) .none 0) ::
  (nat_lit 296, (Obj.mk (.type "tuple") none (.seq #[] 0) #[])) ::
  (nat_lit 299, (Obj.mk (.type "code") none (.fields #[(.str (Str.ofString "law") 748), (.str (Str.ofString "law") 749), (.str (Str.ofString "/claim/cut.py") 750), (.int 289 0), (.int 1 0), (.int 0 0), (.int 0 0), (.int 3 0), (.ref 296), (.bool true), (.int 276 0), (.ref 297), .none, .none, .none, (.ref 298), (.int 751 0), (.int 289 0), (.str (Str.ofString "/claim/cut.py") 752)]) #[])) ::
  (nat_lit 300, fnO 28 (by with_unfolding_all rfl) (Str.ofString "law") 3 [] .none .none .none (.str (Str.ofString "law_ul0029_01") 684) none (.ref 299) .none 0) :: []
def as0 : List Addr := [2, 3, 32, 34, 35, 37, 38, 42, 43, 47, 48, 52, 53, 54, 55, 57, 58, 60, 61, 69, 70, 72, 73, 75, 76, 77, 79, 80, 82, 83, 84, 86, 87, 89, 90, 91, 93, 94, 96, 97, 98, 101, 102, 103, 105, 106, 108, 109, 110, 112, 113, 115, 116, 117, 120, 121, 122, 123, 125, 126, 128, 129, 130, 133, 134, 135, 138, 139, 140, 142, 143, 145, 146, 147, 149, 150, 152, 153, 154, 157, 158, 159, 161, 162, 164, 165, 166, 168, 169, 171, 172, 173, 175, 176, 178, 179, 180, 181, 182, 183, 184, 187, 188, 190, 191, 193, 194, 195, 197, 198, 200, 201, 202, 204, 205, 207, 208, 209, 211, 212, 214, 215, 216, 218, 219, 221, 222, 223, 225, 226, 228, 229, 230, 232, 233, 235, 236, 237, 239, 240, 242, 243, 244, 246, 247, 249, 250, 251, 253, 254, 256, 257, 258, 261, 262, 263, 266, 267, 268, 270, 271, 273, 274, 275, 277, 278, 280, 281, 282, 284, 285, 287, 288, 289, 291, 292, 294, 295, 296, 299, 300]
theorem as_eq : ∀ P, as0 = (K0 P).map (·.1) := fun P => by kernel_rfl

noncomputable def view0 : Program := view PP [0, 1, 3, 4, 5, 7, 10, 11, 12, 13, 14, 15, 16, 17, 18, 20, 22, 23, 24, 25, 26, 27, 28]
/-- the heap as a tree, grown object by object -/
noncomputable def treeOf : List Obj → Nat → BT → Option BT
  | [], _, t => some t
  | o :: l, n, t => match ((t.ins n o).get n).isSome with
    | true => treeOf l (n + 1) (t.ins n o)
    | false => none
theorem treeOf_abs {life : Life} : ∀ {l : List Obj} {n : Nat} {t t' : BT}, treeOf l n t = some t' → absHeap t' (n + l.length) life = ⟨((absHeap t n life).objs.toList ++ l).toArray, life⟩
  | [], n, t, t', h => by
    cases h
    exact congrArg (fun a => Heap.mk a life) (by rw [List.append_nil]; rfl)
  | o :: l, n, t, t', h => by
    unfold treeOf at h
    cases e : ((t.ins n o).get n).isSome with
    | false => rw [e] at h; cases h
    | true =>
      rw [e] at h
      have := treeOf_abs (life := life) h
      rw [absHeap_ins e] at this
      rw [List.length_cons, show n + (l.length + 1) = n + 1 + l.length by omega, this]
      exact congrArg (fun a : List Obj => Heap.mk a.toArray life) (by
        show ((absHeap t n life).objs.push o).toList ++ l = _
        rw [Array.toList_push, List.append_assoc]
        rfl)
noncomputable def toT (s : Shared) : Option SharedT :=
  (treeOf s.heap.objs.toList 0 .nil).map fun t => ⟨t, s.heap.objs.toList.length, s.heap.life, s.gens, s.drawn, s.toks, s.os⟩
theorem toT_abs {s : Shared} {z : SharedT} (h : toT s = some z) : z.abs = s := by
  obtain ⟨t, e, rfl⟩ := Option.map_eq_some_iff.mp h
  have := treeOf_abs (life := s.heap.life) e
  rw [Nat.zero_add] at this
  exact congrArg (fun a => Shared.mk a s.gens s.drawn s.toks s.os) this
noncomputable def runTop (stp : SharedT → Thread → Option (SharedT × Thread)) (ok : Thread → Bool) : Nat → SharedT → Thread → Option SharedT
  | 0, _, _ => none
  | n + 1, s, t => match through t with
    | true => some s
    | false => match ok t with
      | false => none
      | true => match stp s t with
        | some x => runTop stp ok n x.1 x.2
        | none => none
theorem runTop_of {tb : String → Option Builtin} {p : Program} {w : World} {n₀ : Nat} {ann : Option Value} : ∀ {n : Nat} {s r : SharedT} {t : Thread}, runTop (stepT (denote tb) p w) (stepOk n₀ ann) n s t = some r → topRun tb p w n₀ ann n s.abs t = some r.abs
  | 0, _, _, _, h => by cases h
  | n + 1, s, r, t, h => by
    unfold runTop at h
    unfold topRun
    cases ht : through t with
    | true => rw [ht] at h; cases h; rfl
    | false =>
      rw [ht] at h
      cases hk : stepOk n₀ ann t with
      | false => rw [hk] at h; cases h
      | true =>
        rw [hk] at h
        cases hs : stepT (denote tb) p w s t with
        | none => rw [hs] at h; cases h
        | some x =>
          rw [hs] at h
          dsimp only
          rw [stepT_spec (s' := x.1) (t' := x.2) hs]
          exact runTop_of h
noncomputable def runImp (stp : SharedT → Thread → Option (SharedT × Thread)) (ex : Thread → Option (List Value)) : Nat → SharedT → Thread → Option SharedT
  | 0, _, _ => none
  | n + 1, s, t => match ex t with
    | some [] => some s
    | some (_ :: _) => none
    | none => match stp s t with
      | some x => runImp stp ex n x.1 x.2
      | none => none
theorem runImp_of {tb : String → Option Builtin} {p : Program} {w : World} : ∀ {n : Nat} {s r : SharedT} {t : Thread}, runImp (stepT (denote tb) p w) Thread.atExitBegin n s t = some r → importEnds tb p w n s.abs t = some r.abs
  | 0, _, _, _, h => by cases h
  | n + 1, s, r, t, h => by
    unfold runImp at h
    unfold importEnds
    cases ht : t.atExitBegin with
    | some l =>
      rw [ht] at h
      cases l with
      | nil => cases h; rfl
      | cons a l => cases h
    | none =>
      rw [ht] at h
      cases hs : stepT (denote tb) p w s t with
      | none => rw [hs] at h; cases h
      | some x =>
        rw [hs] at h
        dsimp only
        rw [stepT_spec (s' := x.1) (t' := x.2) hs]
        exact runImp_of h
/-- the whole top, over trees; the model's own functions come in as letters, so that their twins may stand for them -/
noncomputable def runsG (stp : (Code → Sem Fin) → Program → World → SharedT → Thread → Option (SharedT × Thread)) (den : Code → Sem Fin) (ok : Nat → Option Value → Thread → Bool) (ex : Thread → Option (List Value)) (p : Program) (w : World) (N : Nat) : Option (Shared × SharedT) :=
  (toT (start (opening p)).1).bind fun z => (runImp (stp den (opening p) w) ex N z (start (opening p)).2).bind fun s => (fenceModules? p s.abs).bind fun s₀ => (toT s₀).bind fun y =>
    (runTop (stp den p w) (ok s₀.heap.objs.size (s₀.heap.nsMap mainGlobals "__annotations__")) N y (topStub p)).map fun r => (s₀, r)
theorem runs_of {p : Program} {w : World} {N : Nat} {x : Shared × SharedT} (h : runsG stepT (denote treeTable) stepOk Thread.atExitBegin p w N = some x)
    (a : (x.1.heap.isNs mainGlobals && x.1.gens.size == 0) = true)
    (b : (staticsOk (importedModules p.main.body) x.1.heap x.2.abs.heap && namesBound p x.2.abs.heap && gensDone x.2.abs && laidKept x.1.heap x.2.abs.heap) = true) :
    openEnds treeTable p w N = some x.2.abs := by
  obtain ⟨z, hz, h⟩ := Option.bind_eq_some_iff.mp h
  obtain ⟨s, hs, h⟩ := Option.bind_eq_some_iff.mp h
  obtain ⟨s₀, h0, h⟩ := Option.bind_eq_some_iff.mp h
  obtain ⟨y, hy, h⟩ := Option.bind_eq_some_iff.mp h
  obtain ⟨r, hr, rfl⟩ := Option.map_eq_some_iff.mp h
  have h1 := runImp_of hs
  rw [toT_abs hz] at h1
  have h2 := runTop_of hr
  rw [toT_abs hy] at h2
  unfold openEnds fencedOpening
  rw [h1]
  show Option.bind (fenceModules? p s.abs) _ = _
  rw [h0]
  show topFrom treeTable p w N s₀ = _
  unfold topFrom
  dsimp only at a b
  rw [a]
  show Option.bind (topRun _ _ _ _ _ _ _ _) _ = _
  rw [h2]
  show (match (staticsOk (importedModules p.main.body) s₀.heap r.abs.heap && namesBound p r.abs.heap && gensDone r.abs && laidKept s₀.heap r.abs.heap) with
    | true => some r.abs
    | false => none) = _
  rw [b]
section
variable {A B C D E : Type}
def frontOf (x : A × B × C × D × E) : A × B × C × D := (x.1, x.2.1, x.2.2.1, x.2.2.2.1)
def frontOf' : A × B × C × D × E → A × B × C × D
  | (a, b, c, d, _) => (a, b, c, d)
def backOf' : A × B × C × D × E → E
  | (_, _, _, _, e) => e
def bothOf (x : A × B × C × D) (e : E) : A × B × C × D × E := (x.1, x.2.1, x.2.2.1, x.2.2.2, e)
theorem front_back {a b : A × B × C × D × E} (h : frontOf a = frontOf' b) (k : a.2.2.2.2 = backOf' b) : a = b :=
  show bothOf (frontOf a) a.2.2.2.2 = bothOf (frontOf' b) (backOf' b) by rw [h, k]
end
theorem left_of {p q : Program} {loose : List Str} {Xt : Shared → Bool} {α : Type} {Yf : Shared → α} {Ya : World → α} {N : Nat} {g0 : Bool} (R : World → Option (Shared × SharedT)) (S)
    (hR : ∀ w, runsG stepT (denote treeTable) stepOk Thread.atExitBegin p w N = R w)
    (hS : openSeen q loose (importedModules p.main.body) Xt g0 = S)
    (h1 : ∀ w, (R w).map (fun x => frontOf (S x.2.abs)) = some (frontOf' (openGood q loose)))
    (h2 : ∀ w, (R w).map (fun x => (S x.2.abs).2.2.2.2) = some (backOf' (openGood q loose)))
    (h3 : ∀ w, (R w).map (fun x => ((x.1.heap.isNs mainGlobals && x.1.gens.size == 0, staticsOk (importedModules p.main.body) x.1.heap x.2.abs.heap && namesBound p x.2.abs.heap && gensDone x.2.abs && laidKept x.1.heap x.2.abs.heap), Yf x.2.abs)) = some ((true, true), Ya w)) :
    LeftO p q loose Xt Yf Ya N g0 := fun w => by
  obtain ⟨x, hx, e3⟩ := Option.map_eq_some_iff.mp (h3 w)
  have e1 := h1 w
  rw [hx] at e1
  have e2 := h2 w
  rw [hx] at e2
  have a := congrArg (fun z => z.1.1) e3
  have b := congrArg (fun z => z.1.2) e3
  have c := congrArg (fun z => z.2) e3
  rw [runs_of ((hR w).trans hx) a b, hS]
  exact congrArg some (Prod.ext (front_back (Option.some.inj e1) (Option.some.inj e2)) c)
noncomputable def RQ (w : World) := runsG PySem.W.Fast.tw10156331382660048174 (PySem.W.Fast.tw11892475500146522536 PySem.W.Fast.tw14364793385576792824) PySem.W.Fast.tw6613529449190102663 PySem.W.Fast.tw3805553451399329143 PP w 3364
theorem rq_eq (w : World) : runsG stepT (denote treeTable) stepOk Thread.atExitBegin PP w 3364 = RQ w := by
  unfold RQ
  rw [PySem.W.Fast.te10156331382660048174, PySem.W.Fast.te11892475500146522536, PySem.W.Fast.te6613529449190102663, PySem.W.Fast.te3805553451399329143, PySem.W.Fast.te14364793385576792824]
abbrev loose0 : List PySem.Str := [Str.ofString "tspecials", Str.ofString "_name_disallowed_re", Str.ofString "_value_disallowed_re", Str.ofString "_formatparam", Str.ofString "compute_powers"]
noncomputable abbrev Xt0 : Shared → Bool := fun s => xlAt view0 [] s && recOk (RowW.records PySem.Challenge.rw_ul0029_01.row.toRowW) s
noncomputable abbrev SQ := PySem.W.Fast.tw4187177175401517315 view0 loose0 (importedModules PP.main.body) Xt0 true
theorem run1 : ∀ w, (RQ w).map (fun x => frontOf (SQ x.2.abs)) = some (frontOf' (openGood view0 loose0)) := fun w => by kernel_rfl
theorem run2 : ∀ w, (RQ w).map (fun x => (SQ x.2.abs).2.2.2.2) = some (backOf' (openGood view0 loose0)) := fun w => by kernel_rfl
theorem run3 : ∀ w, (RQ w).map (fun x => ((x.1.heap.isNs mainGlobals && x.1.gens.size == 0, staticsOk (importedModules PP.main.body) x.1.heap x.2.abs.heap && namesBound PP x.2.abs.heap && gensDone x.2.abs && laidKept x.1.heap x.2.abs.heap), (Hook.obs (kmHook K0 as0 as_eq [224, 231, 196])) x.2.abs)) = some ((true, true), (Hook.val (kmHook K0 as0 as_eq [224, 231, 196])) w) := fun w => by kernel_rfl
theorem left0 : LeftO PP view0 loose0 Xt0 (Hook.obs (kmHook K0 as0 as_eq [224, 231, 196])) (Hook.val (kmHook K0 as0 as_eq [224, 231, 196])) 3364 :=
  left_of RQ SQ rq_eq (by unfold SQ; rw [PySem.W.Fast.te4187177175401517315]) run1 run2 run3
theorem and_t {a b : Bool} (x : a = true) (y : b = true) : (a && b) = true := by rw [x, y]; rfl
theorem said0 : OpenLaw.wellSaid PySem.Challenge.rw_ul0029_01 = true := by
  unfold OpenLaw.wellSaid OpenRow.wellSaid OpenRow.partSaid looksOpen
  repeat' with_reducible apply and_t
  all_goals
    ((try simp only [PySem.W.Fast.named_eq, PySem.W.Fast.te8326940854005059898, PySem.W.Fast.te17119622794617984870, PySem.W.Fast.te8179353310426384613, PySem.W.Fast.te9558739934217749035, PySem.W.Fast.te16286561074155671207, PySem.W.Fast.te10501279942588096481, PySem.W.Fast.te10792542408131684335, PySem.W.Fast.te6984425678791042302, PySem.W.Fast.te797321630700447069, PySem.W.Fast.te13343964577679436407, PySem.W.Fast.te14412699480532031325, PySem.W.Fast.te11788848310118352699, PySem.W.Fast.te8377067652309620493, PySem.W.Fast.te17868728402115742887, PySem.W.Fast.te5318747976498570220, PySem.W.Fast.te12749700546528644094, PySem.W.Fast.te12862048085361865435, PySem.W.Fast.te2357444279172408678, PySem.W.Fast.te18344453789297297638, PySem.W.Fast.te5923862056798008813, PySem.W.Fast.te13582783067957832011, PySem.W.Fast.te9807087744658564304, PySem.W.Fast.te17691160309236699985])
     decide +kernel)
local macro_rules | `(tactic| walk_at $s:str) => `(tactic| k_extra $s)
abbrev PG : Program := PySem.Challenge.rw_ul0029_01.row.prog
noncomputable abbrev KK (w : World) : Frag := K0 w.params
theorem fill_it (P : Params) : K0 P = K0 P ∧ PySem.Challenge.rw_ul0029_01 = PySem.Challenge.rw_ul0029_01 := by
  k_fill
  exact ⟨rfl, rfl⟩

abbrev Led := List (Addr × Obj)

def Con (w : World) (d u : Nat) (news : Led) (f : Addr) (vs : List Value) (kw : List (Str × Value)) (Post : Value → Led → Prop) : Prop :=
  ∀ (p : Program) (loose : List Str) (mean : ExcName → Option Value) (mg mb : Str → Option Value) (dp un : Nat) (gd : Option (List Code)) (cn : Str) (cs : Scope) (a : Addr) (ccd : Value) (cl : List (Str × Addr)) (outer : List Env) (A₀ : Around) (base h₀ : Heap) (L : Addr) (m : Str → Option Value) (s : Shared)
    (Q E : Value → Shared → Prop),
    Below A₀ base outer h₀ → Fr h₀ L s.heap m → (KK w).In h₀ → News h₀ L s.heap news → Top p loose mean mg mb h₀ → cs.kind = .function → dp + d < recursionLimit → un + u < cLine →
    (∀ r news' h' tk', Fr h₀ L h' m → News h₀ L h' news' → Post r news' → Q r { s with heap := h', toks := tk' }) →
    wpAny (model PG w) (ktrTop dp un gd cn cs L a ccd cl outer) (call (.ref f) vs kw) Q E s

theorem Con.use {w : World} {d u : Nat} {news : Led} {f : Addr} {vs : List Value} {kw : List (Str × Value)} {Post : Value → Led → Prop} (C : Con w d u news f vs kw Post)
    {p : Program} {loose : List Str} {mean : ExcName → Option Value} {mg mb : Str → Option Value} {A : Around} {cn : Str} {cs : Scope} {a : Addr} {ccd : Value} {cl : List (Str × Addr)} {outer : List Env} {A₀ : Around} {base h₀ : Heap} {L : Addr} {m : Str → Option Value} {s : Shared}
    {Q E : Value → Shared → Prop} (B : Below A₀ base outer h₀) (F : Fr h₀ L s.heap m) (X : (KK w).In h₀) (N : News h₀ L s.heap news) (T : Top p loose mean mg mb h₀) (hh : A.handled = none) (hf : A.frames = some (envX cn cs L a ccd cl :: outer)) (hk : cs.kind = .function)
    (hd : A.depth + d < recursionLimit) (hu : A.units + u < cLine)
    (ret : ∀ r news' h' tk', Fr h₀ L h' m → News h₀ L h' news' → Post r news' → Q r { s with heap := h', toks := tk' }) :
    wpAny (model PG w) A (call (.ref f) vs kw) Q E s := by
  obtain ⟨hd1, dp, fr, gs, un⟩ := A
  cases hh
  cases hf
  exact C p loose mean mg mb dp un gs cn cs a ccd cl outer A₀ base h₀ L m s Q E B F X N T hk hd hu ret

theorem Con.mono {w : World} {d u d' u' : Nat} {news : Led} {f : Addr} {vs : List Value} {kw : List (Str × Value)} {Post Post' : Value → Led → Prop} (C : Con w d u news f vs kw Post) (hd : d ≤ d') (hu : u ≤ u') (hp : ∀ r n, Post r n → Post' r n) :
    Con w d' u' news f vs kw Post' := by
  intro p loose mean mg mb dp un gd cn cs a ccd cl outer A₀ base h₀ L m s Q E B F X N T hk hD hU ret
  exact C p loose mean mg mb dp un gd cn cs a ccd cl outer A₀ base h₀ L m s Q E B F X N T hk (by omega) (by omega) fun r n h t F' N' P => ret r n h t F' N' (hp r n P)

def Stop (P : Prop) : Prop := P
theorem stop {P : Prop} (h : Stop P) : P := h

def kn (x : Str) (v : Value) (m : Str → Option Value) : Str → Option Value := fun y => if y = x then some v else m y
theorem kn_eq {x : Str} {v : Value} {m : Str → Option Value} (h : m x = some v) : kn x v m = m := by
  funext y
  unfold kn
  by_cases e : y = x
  · subst e; simp [h]
  · simp [e]
section
variable {h₀ h : Heap} {L : Addr} {m : Str → Option Value}
theorem know1 {x1 : Str} {v1 : Value} (F : Fr h₀ L h m) (h1 : m x1 = some v1) : Fr h₀ L h (fun y => if y = x1 then some v1 else m y) := by
  show Fr h₀ L h (kn x1 v1 m)
  rw [kn_eq h1]; exact F
theorem know2 {x1 x2 : Str} {v1 v2 : Value} (F : Fr h₀ L h m) (h1 : m x1 = some v1) (h2 : m x2 = some v2) : Fr h₀ L h (fun y => if y = x2 then some v2 else if y = x1 then some v1 else m y) := by
  show Fr h₀ L h (kn x2 v2 (kn x1 v1 m))
  rw [kn_eq h1, kn_eq h2]; exact F
theorem know3 {x1 x2 x3 : Str} {v1 v2 v3 : Value} (F : Fr h₀ L h m) (h1 : m x1 = some v1) (h2 : m x2 = some v2) (h3 : m x3 = some v3) : Fr h₀ L h (fun y => if y = x3 then some v3 else if y = x2 then some v2 else if y = x1 then some v1 else m y) := by
  show Fr h₀ L h (kn x3 v3 (kn x2 v2 (kn x1 v1 m)))
  rw [kn_eq h1, kn_eq h2, kn_eq h3]; exact F
theorem know4 {x1 x2 x3 x4 : Str} {v1 v2 v3 v4 : Value} (F : Fr h₀ L h m) (h1 : m x1 = some v1) (h2 : m x2 = some v2) (h3 : m x3 = some v3) (h4 : m x4 = some v4) : Fr h₀ L h (fun y => if y = x4 then some v4 else if y = x3 then some v3 else if y = x2 then some v2 else if y = x1 then some v1 else m y) := by
  show Fr h₀ L h (kn x4 v4 (kn x3 v3 (kn x2 v2 (kn x1 v1 m))))
  rw [kn_eq h1, kn_eq h2, kn_eq h3, kn_eq h4]; exact F
theorem know5 {x1 x2 x3 x4 x5 : Str} {v1 v2 v3 v4 v5 : Value} (F : Fr h₀ L h m) (h1 : m x1 = some v1) (h2 : m x2 = some v2) (h3 : m x3 = some v3) (h4 : m x4 = some v4) (h5 : m x5 = some v5) : Fr h₀ L h (fun y => if y = x5 then some v5 else if y = x4 then some v4 else if y = x3 then some v3 else if y = x2 then some v2 else if y = x1 then some v1 else m y) := by
  show Fr h₀ L h (kn x5 v5 (kn x4 v4 (kn x3 v3 (kn x2 v2 (kn x1 v1 m)))))
  rw [kn_eq h1, kn_eq h2, kn_eq h3, kn_eq h4, kn_eq h5]; exact F
theorem know6 {x1 x2 x3 x4 x5 x6 : Str} {v1 v2 v3 v4 v5 v6 : Value} (F : Fr h₀ L h m) (h1 : m x1 = some v1) (h2 : m x2 = some v2) (h3 : m x3 = some v3) (h4 : m x4 = some v4) (h5 : m x5 = some v5) (h6 : m x6 = some v6) : Fr h₀ L h (fun y => if y = x6 then some v6 else if y = x5 then some v5 else if y = x4 then some v4 else if y = x3 then some v3 else if y = x2 then some v2 else if y = x1 then some v1 else m y) := by
  show Fr h₀ L h (kn x6 v6 (kn x5 v5 (kn x4 v4 (kn x3 v3 (kn x2 v2 (kn x1 v1 m))))))
  rw [kn_eq h1, kn_eq h2, kn_eq h3, kn_eq h4, kn_eq h5, kn_eq h6]; exact F
theorem know7 {x1 x2 x3 x4 x5 x6 x7 : Str} {v1 v2 v3 v4 v5 v6 v7 : Value} (F : Fr h₀ L h m) (h1 : m x1 = some v1) (h2 : m x2 = some v2) (h3 : m x3 = some v3) (h4 : m x4 = some v4) (h5 : m x5 = some v5) (h6 : m x6 = some v6) (h7 : m x7 = some v7) : Fr h₀ L h (fun y => if y = x7 then some v7 else if y = x6 then some v6 else if y = x5 then some v5 else if y = x4 then some v4 else if y = x3 then some v3 else if y = x2 then some v2 else if y = x1 then some v1 else m y) := by
  show Fr h₀ L h (kn x7 v7 (kn x6 v6 (kn x5 v5 (kn x4 v4 (kn x3 v3 (kn x2 v2 (kn x1 v1 m)))))))
  rw [kn_eq h1, kn_eq h2, kn_eq h3, kn_eq h4, kn_eq h5, kn_eq h6, kn_eq h7]; exact F
end

theorem with_led {h₀ h : Heap} {L : Addr} {led : Led} {P : Prop} (N : News h₀ L h led) (k : ∀ nx, nx = led → News h₀ L h nx → P) : P := k led rfl N

theorem with_led2 {h₀ h : Heap} {L : Addr} {q : Addr × Obj} {led : Led} {P : Prop} (N : News h₀ L h (q :: led)) (k : ∀ nx, nx = led → News h₀ L h (q :: nx) → P) : P := k led rfl N
theorem news_swap {h₀ h : Heap} {L : Addr} {p q : Addr × Obj} {l : Led} (N : News h₀ L h (p :: q :: l)) : News h₀ L h (q :: p :: l) := fun r hr => N r (by
  rcases List.mem_cons.mp hr with rfl | hr
  · exact .tail _ (.head _)
  · rcases List.mem_cons.mp hr with rfl | hr
    · exact .head _
    · exact .tail _ (.tail _ hr))

section
variable {prog : Program} {w : World} {A : Around} {E : Value → Shared → Prop} {s : Shared} {h₀ : Heap} {L l : Addr} {news : Led} {vs : List Value} {n : Nat}
theorem led_list {h : Heap} (N : News h₀ L h news) (hm : (l, listOf vs.toArray n) ∈ news) : h.IsList l vs.toArray := ⟨_, (N _ hm).1, rfl, n, rfl⟩
theorem led_truthy {Q : Bool → Shared → Prop} (N : News h₀ L s.heap news) (hm : (l, listOf vs.toArray n) ∈ news) (hz : vs.length ≤ sizeLine) (h : ∀ tk, Q (!vs.isEmpty) { s with toks := tk }) :
    wpAny (model prog w) A (truthy (.ref l)) Q E s :=
  wpAny_truthy_list (led_list N hm) (by rw [sizeLine_eq] at hz; rw [List.size_toArray]; omega) (by
    have e : (!vs.toArray.isEmpty) = !vs.isEmpty := by simp
    rw [e]; exact h _)
theorem led_len {Q : Value → Shared → Prop} (N : News h₀ L s.heap news) (hm : (l, listOf vs.toArray n) ∈ news) (hz : vs.length ≤ sizeLine) (h : ∀ t tk, Q (.int vs.length t) { s with toks := tk }) :
    wpAny (model prog w) A (call (.builtin "len") [.ref l]) Q E s :=
  Calls.call_len_list (led_list N hm) (by rw [sizeLine_eq] at hz; rw [List.size_toArray]; omega) (by
    have e : vs.toArray.size = vs.length := List.size_toArray
    rw [e]; exact h _ _)
end

/-- what no code table is -/
def Usr (o : Obj) : Prop := o.cls ≠ .none ∨ (∃ (vs : Array Value) (q : Str) (t : Tok), o.data = .fields vs ∧ vs[1]? = some (.str q t)) ∨ (∃ es ep, o.data = .dict es ep) ∨ ∃ v, o.data = .cell v
def KeepU (news news' : Led) : Prop := ∀ p ∈ news, Usr p.2 → p ∈ news'
theorem KeepU.refl {news : Led} : KeepU news news := fun _ h _ => h
theorem KeepU.trans {a b c : Led} (h : KeepU a b) (k : KeepU b c) : KeepU a c := fun p hp hu => k p (h p hp hu) hu
theorem KeepU.cls {news news' : Led} (h : KeepU news news') {a : Addr} {o : Obj} (hm : (a, o) ∈ news) (hc : o.cls ≠ .none) : (a, o) ∈ news' := h _ hm (.inl hc)
/-- a code table: empty, or it holds the code of the one def that is nested there -/
def TabOk (pos : Pos) (qual : Str) (o : Obj) (news : Led) : Prop :=
  o = tabObj #[] ∨ ∃ (c : Addr) (oc : Obj) (vs : Array Value) (t : Tok), o = tabObj #[rawInt pos.line, rawInt pos.col, .ref c] ∧ (c, oc) ∈ news ∧ oc.data = .fields vs ∧ vs[1]? = some (.str qual t)
theorem TabOk.not_usr {pos : Pos} {qual : Str} {o : Obj} {news : Led} (h : TabOk pos qual o news) : ¬ Usr o := by
  rintro (hc | ⟨vs, q, t, hd, hv⟩ | ⟨es, ep, hd⟩ | ⟨v, hd⟩)
  · rcases h with rfl | ⟨_, _, _, _, rfl, _⟩ <;> exact hc rfl
  · rcases h with rfl | ⟨_, _, _, _, rfl, _⟩
    · cases hd; simp at hv
    · cases hd; simp [rawInt] at hv
  · rcases h with rfl | ⟨_, _, _, _, rfl, _⟩ <;> cases hd
  · rcases h with rfl | ⟨_, _, _, _, rfl, _⟩ <;> cases hd
theorem TabOk.mono {pos : Pos} {qual : Str} {o : Obj} {news news' : Led} (h : TabOk pos qual o news) (hs : KeepU news news') : TabOk pos qual o news' := by
  rcases h with rfl | ⟨c, oc, vs, t, rfl, hm, h1, h2⟩
  · exact .inl rfl
  · exact .inr ⟨c, oc, vs, t, rfl, hs _ hm (.inr (.inl ⟨vs, qual, t, h1, h2⟩)), h1, h2⟩
theorem updF_append {P : Addr} {o : Obj} {news : Led} (hn : ∀ p ∈ news, p.1 ≠ P) : ∀ {pre : Led}, (∀ p ∈ pre, p.1 ≠ P) → UpdF P o (pre ++ (P, o) :: news) (fun o' => pre ++ (P, o') :: news)
  | [], _ => UpdF.head hn
  | q :: pre, hp => UpdF.tail (hp q (.head _)) (updF_append hn fun p h => hp p (.tail _ h))

section
variable {M : Model} {A : Around} {E : Value → Shared → Prop} {s : Shared} {h₀ : Heap} {L a c P : Addr} {m mg mb : Str → Option Value} {cn : Str} {cs : Scope} {ccd : Value} {cl : List (Str × Addr)} {news pre : Led}
  {p : Program} {loose : List Str} {mean : ExcName → Option Value} {name qual : Str} {params : Arguments} {body : List Stmt} {scope : Scope} {o : Obj} {pos : Pos} {firstLine : Nat} {clos : List (Str × Addr)}
theorem nestAny_K {Q : Value → Shared → Prop} (F : Fr h₀ L s.heap m) (N : News h₀ L s.heap (pre ++ (P, o) :: news)) (T : Top p loose mean mg mb h₀) (C : CodeHd h₀ c P) (hcd : ccd = .ref c) (hpre : ∀ p ∈ pre, p.1 ≠ P) (hnews : ∀ p ∈ news, p.1 ≠ P) {qual0 : Str} (hT : TabOk pos qual0 o news) (hq : qual = qual0)
    (hcl : closureFor scope (envX cn cs L a ccd cl) = pure clos)
    (h : ∀ f c' oc vs t ctv doc h' tk o' news2, Fr h₀ L h' m → News h₀ L h' ((f, fnMade name qual params body scope clos doc ((mg "__name__").getD .none) c' ctv) :: (pre ++ (P, o') :: news2)) →
      (c', oc) ∈ news2 → oc.data = .fields vs → vs[1]? = some (.str qual t) → TabOk pos qual0 o' news2 → (∀ p ∈ news, p ∈ news2) → (∀ p ∈ news2, p.1 ≠ P) → (∀ p ∈ pre ++ (P, o) :: news, p.1 < f) → (∀ p ∈ news2, p.1 < f) → (∀ p ∈ news2, p ∈ news ∨ ∀ q ∈ pre ++ (P, o) :: news, q.1 < p.1) → Q (.ref f) { s with heap := h', toks := tk }) :
    wpAny M A (makeFunction name qual params (.stmts body) scope (envX cn cs L a ccd cl) [] [] [] pos firstLine) Q E s := by
  subst hq
  have hmP : (P, o) ∈ pre ++ (P, o) :: news := List.mem_append_right _ (.head _)
  rcases hT with rfl | ⟨c', oc, vs, t, rfl, hm, h1, h2⟩
  · refine nest_K F N T C hcd (updF_append hnews hpre) trivial rfl hcl fun f c' oc vs t ctv doc h' tk F' N' hd hv hlt hcf => ?_
    refine h f c' oc vs t ctv doc h' tk _ ((c', oc) :: news) F' (fun p hp => N' p ?_) (.head _) hd hv (.inr ⟨c', oc, vs, t, rfl, .head _, hd, hv⟩) (fun p hp => .tail _ hp) (fun p hp => ?_) (fun p hp => Nat.lt_trans (hlt p hp) hcf) (fun p hp => ?_) (fun p hp => ?_)
    · rcases List.mem_cons.mp hp with rfl | hp
      · exact .head _
      · rcases List.mem_append.mp hp with hp | hp
        · exact .tail _ (.tail _ (List.mem_append_left _ hp))
        · rcases List.mem_cons.mp hp with rfl | hp
          · exact .tail _ (.tail _ (List.mem_append_right _ (.head _)))
          · rcases List.mem_cons.mp hp with rfl | hp
            · exact .tail _ (.head _)
            · exact .tail _ (.tail _ (List.mem_append_right _ (.tail _ hp)))
    · rcases List.mem_cons.mp hp with rfl | hp
      · exact Nat.ne_of_gt (hlt _ hmP)
      · exact hnews p hp
    · rcases List.mem_cons.mp hp with rfl | hp
      · exact hcf
      · exact Nat.lt_trans (hlt p (List.mem_append_right _ (.tail _ hp))) hcf
    · rcases List.mem_cons.mp hp with rfl | hp
      · exact .inr hlt
      · exact .inl hp
  · refine nestHit_K (c' := c') F N T C hcd hmP (by simp [TriplesOk, rawInt]) (by simp [codeAmong, rawInt]) hcl fun f ctv doc h' tk F' N' hlt => ?_
    exact h f c' oc vs t ctv doc h' tk _ news F' N' hm h1 h2 (.inr ⟨c', oc, vs, t, rfl, hm, h1, h2⟩) (fun p hp => hp) hnews hlt (fun p hp => hlt p (List.mem_append_right _ (.tail _ hp))) fun p hp => .inl hp
end

theorem ne_of_allLt {d : Addr} {l : List (Addr × Obj)} (h : AllLt d l) : ∀ p ∈ l, p.1 ≠ d := fun p hp => Nat.ne_of_lt (ktn_ltOf h p hp)
theorem allLt_mono {d e : Nat} {l : List (Addr × Obj)} (h : AllLt d l) (k : d ≤ e) : AllLt e l := by
  induction l with
  | nil => trivial
  | cons p r ih => exact ⟨Nat.lt_of_lt_of_le h.1 k, ih h.2⟩
theorem ne_of_allLt' {d e : Nat} {l : List (Addr × Obj)} (h : AllLt d l) (k : d ≤ e) : ∀ p ∈ l, p.1 ≠ e := ne_of_allLt (allLt_mono h k)
/-- the three tables in a ledger -/
def pos1 : Pos := ⟨145, 4, 149, 74⟩
def pos2 : Pos := ⟨185, 4, 193, 29⟩
def pos3 : Pos := ⟨200, 4, 205, 55⟩
def Tb (news : Led) : Prop := ∃ o1 o2 o3, (196, o1) ∈ news ∧ TabOk pos1 (Str.ofString "_str_to_int_inner.<locals>.inner") o1 news ∧ (224, o2) ∈ news ∧ TabOk pos2 (Str.ofString "_int2digits.<locals>.inner") o2 news ∧ (231, o3) ∈ news ∧ TabOk pos3 (Str.ofString "_digits2int.<locals>.inner") o3 news

theorem Tb.mono {news news' : Led} (h : Tb news) (hs : ∀ p ∈ news, True → p ∈ news') : Tb news' := by
  obtain ⟨o1, o2, o3, a1, b1, a2, b2, a3, b3⟩ := h
  exact ⟨o1, o2, o3, hs _ a1 trivial, b1.mono fun p hp _ => hs p hp trivial, hs _ a2 trivial, b2.mono fun p hp _ => hs p hp trivial, hs _ a3 trivial, b3.mono fun p hp _ => hs p hp trivial⟩
theorem news_fun {h₀ h : Heap} {L a : Addr} {o o' : Obj} {news : Led} (N : News h₀ L h news) (h1 : (a, o) ∈ news) (h2 : (a, o') ∈ news) : o = o' := by
  have e1 := (N _ h1).1
  have e2 := (N _ h2).1
  exact Option.some.inj (e1.symm.trans e2)
def off (P : Addr) (news : Led) : Led := news.filter fun p => !(p.1 == P)
theorem mem_off {P : Addr} {news : Led} {p : Addr × Obj} : p ∈ off P news ↔ p ∈ news ∧ p.1 ≠ P := by
  unfold off
  rw [List.mem_filter]
  simp
theorem news_off {h₀ h : Heap} {L P : Addr} {o : Obj} {news : Led} (N : News h₀ L h news) (hm : (P, o) ∈ news) : News h₀ L h ((P, o) :: off P news) := fun p hp => by
  rcases List.mem_cons.mp hp with rfl | hp
  · exact N _ hm
  · exact N p (mem_off.mp hp).1
theorem tab_off {h₀ h : Heap} {L P : Addr} {o o' : Obj} {news : Led} {pos : Pos} {qual : Str} (N : News h₀ L h news) (hm : (P, o) ∈ news) (hn : ¬ Usr o) (hT : TabOk pos qual o' news) : TabOk pos qual o' (off P news) :=
  hT.mono fun p hp hu => mem_off.mpr ⟨hp, fun e => hn (by obtain ⟨a, ob⟩ := p; cases e; rw [news_fun N hm hp]; exact hu)⟩
theorem keepU_off {h₀ h : Heap} {L P : Addr} {o : Obj} {news : Led} (N : News h₀ L h news) (hm : (P, o) ∈ news) (hn : ¬ Usr o) : KeepU news (off P news) := fun p hp hu =>
  mem_off.mpr ⟨hp, fun e => hn (by obtain ⟨a, ob⟩ := p; cases e; rw [news_fun N hm hp]; exact hu)⟩

/-- the tuple object -/
abbrev tupO (vs : Array Value) (n : Nat := 0) : Obj := { cls := .type "tuple", data := .seq vs n }
theorem c_div2n1n (w : World) (news : Led) (a b n : Int) (ta tb tn : Tok) (ha : 0 ≤ a) (ha2 : a < 2 ^ 40) (hb : 0 < b) (hb2 : b < 2 ^ 20) (hn : 0 ≤ n) : Con w 2 20 news 215 [.int a ta, .int b tb, .int n tn] []
   (fun r news' => ∃ q t1 t2, r = .ref q ∧ news' = (q, tupO #[.int (a / b) t1, .int (a % b) t2]) :: news ∧ (∀ p ∈ news, p.1 < q)) := by
  unfold Con
  intro p loose mean mg mb dp un gd cn cs ad ccd cl outer A₀ base h₀ L m s Q E B F X N T hk hd hu hret
  dsimp only [KK] at X
  have hbits := intBits_le_64 (k := a) (by omega) (by omega)
  refine wpAny_call ?_
  k_dflt ktr_enter
  k_steps
  (rename News _ _ _ news => N1)
  (rename News h₀ L _ (_ :: news) => N2)
  rw [Int.fdiv_eq_ediv_of_nonneg _ (Int.le_of_lt hb), Int.fmod_eq_emod_of_nonneg _ (Int.le_of_lt hb)] at N2
  exact hret _ _ _ _ (by assumption) (by assumption) ⟨_, _, _, rfl, rfl, fun p hp => Heap.lt_size (N1 p hp).1⟩
theorem clean_M2 : True := by
  w_top off
  k_with "my call" => (refine stop ?_)
  trivial
section
local macro_rules | `(tactic| walk_at "exec While Name cons nil") => `(tactic| refine stop ?_)
def hexd (n : Nat) : List Nat := if n = 0 then [] else hexd (n / 16) ++ [n % 16]
termination_by n
decreasing_by omega
def up65 (ds : List Nat) : List Int := ds.map fun (d : Nat) => 65 + (d : Int)
theorem hexd_zero : hexd 0 = [] := by rw [hexd]; rfl
theorem hexd_pos {n : Nat} (h : n ≠ 0) : hexd n = hexd (n / 16) ++ [n % 16] := by rw [hexd, if_neg h]
theorem hexd_len : ∀ (k n : Nat), n < 16 ^ k → (hexd n).length ≤ k
  | 0, n, h => by
    have : n = 0 := by simpa using h
    subst this; rw [hexd_zero]; exact Nat.le_refl _
  | k + 1, n, h => by
    by_cases h0 : n = 0
    · subst h0; rw [hexd_zero]; exact Nat.zero_le _
    · rw [hexd_pos h0, List.length_append, List.length_singleton]
      have : n / 16 < 16 ^ k := by rw [Nat.pow_succ] at h; omega
      have := hexd_len k (n / 16) this
      omega
theorem hexd_lt : ∀ (n : Nat), ∀ d ∈ hexd n, d < 16 := by
  intro n
  induction n using Nat.strongRecOn with
  | ind n ih =>
    intro d hd
    by_cases h0 : n = 0
    · subst h0; rw [hexd_zero] at hd; cases hd
    · rw [hexd_pos h0, List.mem_append] at hd
      rcases hd with hd | hd
      · exact ih (n / 16) (by omega) d hd
      · rw [List.mem_singleton] at hd; omega
theorem pick_digit : ∀ r : Fin 16, List.take (clipAt (up65 (List.range 16)).length ((r.val : Int) + 1) - clipAt (up65 (List.range 16)).length (r.val : Int)) (List.drop (clipAt (up65 (List.range 16)).length (r.val : Int)) (up65 (List.range 16))) = [65 + (r.val : Int)] := by decide +kernel
theorem pick_digit' (k : Nat) : List.take (clipAt (up65 (List.range 16)).length ((k : Int).fmod 16 + 1) - clipAt (up65 (List.range 16)).length ((k : Int).fmod 16)) (List.drop (clipAt (up65 (List.range 16)).length ((k : Int).fmod 16)) (up65 (List.range 16))) = up65 [k % 16] := by
  have e : (k : Int).fmod 16 = ((k % 16 : Nat) : Int) := by rw [Int.fmod_eq_emod_of_nonneg _ (by decide)]; omega
  rw [e]
  exact pick_digit ⟨k % 16, Nat.mod_lt _ (by decide)⟩

theorem c_int2ap (w : World) (news : Led) (n : Int) (tn : Tok) (hn : 0 ≤ n) (hn2 : n < 2 ^ 20) : Con w 2 20 news 257 [.int n tn] []
   (fun r news' => ∃ b t, r = .bytes b t ∧ KBw.bInts b = up65 (hexd n.toNat) ∧ news' = news) := by
  unfold Con
  intro p loose mean mg mb dp un gd cn cs ad ccd cl outer A₀ base h₀ L m s Q E B F X N T hk hd hu hret
  dsimp only [KK] at X
  refine wpAny_call ?_
  k_dflt ktr_enter
  refine wpAny_noRaise ?_
  k_steps
  unfold Stop
  (rename Fr _ _ _ _ => F1)
  (rename News _ _ _ _ => N1)
  refine While_inv2 (n₀ := n.toNat) (fun k m nx => ∃ (x : Nat) (t t2 t3 : Tok) (bv ba : Array UInt8) (ds : List Nat), k = x ∧ nx = news ∧ m (Str.ofString "num") = some (.int x t) ∧ m (Str.ofString "val") = some (.bytes bv t2) ∧ m (Str.ofString "AP") = some (.bytes ba t3) ∧ KBw.bInts bv = up65 ds ∧ KBw.bInts ba = up65 (List.range 16) ∧ hexd x ++ ds = hexd n.toNat) F1 N1 ?_ ?_ ?_
  · rw [if_neg (by omega : ¬ n < 0)] at F1 ⊢
    exact ⟨n.toNat, _, _, _, _, _, [], rfl, rfl, (by rw [Int.toNat_of_nonneg hn]; rfl), rfl, rfl, rfl, (by decide +kernel), by simp⟩
  · rintro k m₁ nx h₁ tk₁ F2 N2 ⟨x, t, t2, t3, bv, ba, ds, rfl, rfl, e1, e2, e3, e4, e5, e6⟩
    replace F2 := know3 F2 e1 e2 e3
    clear F1 N1 e1 e2 e3
    have hl : (up65 ds).length ≤ 20 := by
      have h1 := hexd_len 5 n.toNat (by omega)
      rw [← e6, List.length_append] at h1
      rw [up65, List.length_map]; omega
    have hl2 : (up65 (List.range 16)).length ≤ 20 := by decide +kernel
    k_steps
    · rename_i hv _ F3 N3
      rw [pick_digit'] at hv
      have e1 : (k : Int).fdiv 16 = ((k / 16 : Nat) : Int) := by rw [Int.fdiv_eq_ediv_of_nonneg _ (by decide)]; omega
      rw [e1] at F3
      exact ⟨_, _, _, nx, k / 16, rfl, F3, fun p hp => N3 p (.tail _ hp), by omega, _, _, _, _, _, _, k % 16 :: ds, rfl, rfl, rfl, rfl, rfl, hv.trans (by simp [up65]), e5, by rw [← e6, hexd_pos (n := k) (by omega)]; simp⟩
    · rename_i h0 kF kN _ _
      have : k = 0 := by omega
      subst this
      rw [hexd_zero, List.nil_append] at e6
      exact hret _ _ _ _ kF kN ⟨_, _, rfl, e6 ▸ e4, rfl⟩
  · passes_own
end
local macro_rules | `(tactic| k_all) => `(tactic| first | assumption | exact ne_of_allLt (by assumption) | exact ne_of_allLt' (by assumption) (by omega))
local macro_rules | `(tactic| walk_at "truthy ref") => `(tactic| (k_here; (with_reducible show wpAny _ _ (truthy (Value.ref _)) _ _ _); (with_unfolding_all refine' led_truthy ?k1 ?k2 ?k3 ?_; (case k1 => k_asm); (case k2 => k_mem); (case k3 => walk_at "my_sz"); k_whole); intro tk'))
local macro_rules | `(tactic| walk_at "call builtin:len") => `(tactic| (k_here; (with_reducible show wpAny _ _ (call (Value.builtin "len") [Value.ref _]) _ _ _); (with_unfolding_all refine' led_len ?k1 ?k2 ?k3 ?_; (case k1 => k_asm); (case k2 => k_mem); (case k3 => walk_at "my_sz"); k_whole); intro t' tk'))
local macro_rules | `(tactic| k_mem) => `(tactic| assumption)
theorem clean_M3 : True := by
  w_top off
  k_with "my_enter" => ((refine' code_def ?k1z1 ?k2z1 ?k3z1 ?k4z1 ?k5z1 ?kAz1 ?kFz1 ?kKz1 ?k6z1 ?k7z1 ?k8z1 ?k9z1 ?kBz1 ?_ ?c2z1 ?c3z1 ?c4z1 ?c5z1; (case kAz1 => exact rfl); (case kFz1 => exact rfl); (case kKz1 => assumption); (case k1z1 => k_asm); (case k2z1 => k_asm); (case k3z1 => k_asm); (case k4z1 => k_asm); (case k5z1 => k_asm); (case k6z1 => k_is); (case k7z1 => k_is); (case k8z1 => ktr_room); (case k9z1 => first | exact BindsTo.of_eq rfl | exact binds_K (by k_in) rfl (by k_is) rfl rfl rfl); (case c5z1 => decide); (case kBz1 => exact locs rfl); (case c2z1 => exact rfl); (case c3z1 => exact rfl); (case c4z1 => exact rfl); k_whole; intro gE LE hE FG FE NE BE XE TE; (try dsimp only); refine wpAny_noRaise ?_))
  k_with "my_enterC" => ((refine' code_defC ?k1z2 ?k2z2 ?k3z2 ?k4z2 ?k5z2 ?kAz2 ?kFz2 ?kKz2 ?k6z2 ?k7z2 ?k8z2 ?k9z2 ?kBz2 ?kDz2 ?_ ?c2z2 ?c3z2 ?c4z2; (case kAz2 => exact rfl); (case kFz2 => exact rfl); (case kKz2 => assumption); (case k1z2 => k_asm); (case k2z2 => k_asm); (case k3z2 => k_asm); (case k4z2 => k_asm); (case k5z2 => k_asm); (case k6z2 => k_is); (case k7z2 => k_is); (case k8z2 => ktr_room); (case k9z2 => first | exact BindsTo.of_eq rfl | exact binds_K (by k_in) rfl (by k_is) rfl rfl rfl); (case kBz2 => exact rfl); (case kDz2 => decide +kernel); (case c2z2 => exact rfl); (case c3z2 => exact rfl); (case c4z2 => exact rfl); k_whole; intro gE LE hE tkE cellsE FG FE NE YE BE XE TE lE; (try k_lt lE); (try (have hT9 := And.right lE; (repeat (replace hT9 := And.right hT9)))); k_cells YE; (try simp only [List.cons_append, List.nil_append] at NE); (try dsimp only); refine wpAny_noRaise ?_))
  k_with "my_sz" => (first | assumption | (rw [sizeLine_eq]; omega) | size_fits)
  k_with "my_enterN" => ((refine' code_nest ?k1z4 ?k2z4 ?k3z4 ?k4z4 ?k5z4 ?kAz4 ?kFz4 ?kKz4 ?k6z4 ?k7z4 ?k8z4 ?k9z4 ?kBz4 ?_ ?c2z4 ?c3z4 ?c4z4 ?c5z4; (case kAz4 => exact rfl); (case kFz4 => exact rfl); (case kKz4 => assumption); (case k1z4 => k_asm); (case k2z4 => k_asm); (case k3z4 => k_asm); (case k4z4 => k_asm); (case k5z4 => k_asm); (case k6z4 => k_mem); (case k7z4 => exact codeRec_news (by k_asm) (by k_mem) (by assumption) (by assumption)); (case k8z4 => ktr_room); (case k9z4 => exact BindsTo.of_eq rfl); (case c5z4 => decide); (case kBz4 => exact locs rfl); (case c2z4 => exact rfl); (case c3z4 => exact rfl); (case c4z4 => exact rfl); k_whole; intro gE LE hE FG FE NE BE XE TE; (try dsimp only); refine wpAny_noRaise ?_))
  k_with "my_use" => (((case cB => k_asm); (case cF => k_asm); (case cX => k_asm); (case cN => k_asm); (case cT => k_asm); (case ch => exact rfl); (case cf => exact rfl); (case ck => first | exact rfl | assumption); (case cd => ((try simp only [depth_under_make, depth_under_kw, depth_in1, depth_deeper, depth_caller]); (try dsimp only [ktrTop]); omega)); (case cu => ((try simp only [units_in1, units_deeper, Around.mark_units, units_caller]); (try dsimp only [ktrTop]); omega))))
  k_with "call ref" => ((k_here; k_dflt (k_extra "my call")))
  k_with "exec FunctionDef" => (refine stop ?_)
  k_with "my call" => (refine stop ?_)
  trivial
def val2 (n : Int) (ds : List Int) : Int := ds.foldr (fun d acc => d + acc * 2 ^ n.toNat) 0
def valR (n : Int) (ds : List Int) (x y : Int) : Int := val2 n ((ds.drop x.toNat).take (y - x).toNat)
theorem val2_append (n : Int) : ∀ a b : List Int, val2 n (a ++ b) = val2 n a + val2 n b * 2 ^ (n.toNat * a.length)
  | [], b => by simp [val2]
  | d :: a, b => by
    have ih := val2_append n a b
    show d + val2 n (a ++ b) * 2 ^ n.toNat = d + val2 n a * 2 ^ n.toNat + val2 n b * 2 ^ (n.toNat * (a.length + 1))
    rw [ih, Int.add_mul, Int.mul_assoc, ← Int.pow_add, Nat.mul_add, Nat.mul_one, Int.add_assoc]
theorem val2_bound (n : Int) : ∀ ds : List Int, (∀ d ∈ ds, 0 ≤ d ∧ d < 2 ^ n.toNat) → 0 ≤ val2 n ds ∧ val2 n ds < 2 ^ (n.toNat * ds.length)
  | [], _ => by simp [val2]
  | d :: r, h => by
    obtain ⟨i1, i2⟩ := val2_bound n r fun e he => h e (.tail _ he)
    obtain ⟨h1, h2⟩ := h d (.head _)
    show 0 ≤ d + val2 n r * 2 ^ n.toNat ∧ d + val2 n r * 2 ^ n.toNat < 2 ^ (n.toNat * (r.length + 1))
    rw [Nat.mul_add, Nat.mul_one, Int.pow_add]
    generalize hP : (2 : Int) ^ n.toNat = P at *
    generalize hR : (2 : Int) ^ (n.toNat * r.length) = R at *
    have hp : 0 < P := by rw [← hP]; exact Int.pow_pos (by decide)
    have k1 : 0 ≤ val2 n r * P := Int.mul_nonneg i1 (by omega)
    have k2 : (val2 n r + 1) * P ≤ R * P := Int.mul_le_mul_of_nonneg_right (by omega) (by omega)
    rw [Int.add_mul, Int.one_mul] at k2
    omega
theorem valR_bound (n : Int) (ds : List Int) (hd : ∀ d ∈ ds, 0 ≤ d ∧ d < 2 ^ n.toNat) (hn5 : n ≤ 5) (hl : ds.length ≤ 10) (x y : Int) : 0 ≤ valR n ds x y ∧ valR n ds x y < 2 ^ 50 := by
  unfold valR
  have h := val2_bound n ((ds.drop x.toNat).take (y - x).toNat) fun d hd' => hd d (List.mem_of_mem_drop (List.mem_of_mem_take hd'))
  refine ⟨h.1, Int.lt_of_lt_of_le h.2 ?_⟩
  have hl2 : ((ds.drop x.toNat).take (y - x).toNat).length ≤ 10 := by rw [List.length_take, List.length_drop]; omega
  have : n.toNat * ((ds.drop x.toNat).take (y - x).toNat).length ≤ 50 := Nat.le_trans (Nat.mul_le_mul (show n.toNat ≤ 5 by omega) hl2) (by decide)
  have h2 := Nat.pow_le_pow_right (n := 2) (by decide) this
  exact_mod_cast h2
theorem valR_split (n : Int) (ds : List Int) (x z y : Int) (h0 : 0 ≤ x) (h1 : x ≤ z) (h2 : z ≤ y) (h3 : y ≤ ds.length) (hn : 0 ≤ n) :
    valR n ds z y * 2 ^ ((z - x) * n).toNat + valR n ds x z = valR n ds x y := by
  unfold valR
  have e : (ds.drop x.toNat).take (y - x).toNat = (ds.drop x.toNat).take (z - x).toNat ++ (ds.drop z.toNat).take (y - z).toNat := by
    have e1 : (y - x).toNat = (z - x).toNat + (y - z).toNat := by omega
    rw [e1, List.take_add, List.drop_drop]
    have e2 : x.toNat + (z - x).toNat = z.toNat := by omega
    rw [e2]
  have hl : ((ds.drop x.toNat).take (z - x).toNat).length = (z - x).toNat := by
    rw [List.length_take, List.length_drop]; omega
  have e3 : ((z - x) * n).toNat = n.toNat * (z - x).toNat := by
    obtain ⟨a, ha⟩ := Int.eq_ofNat_of_zero_le (show 0 ≤ z - x by omega)
    obtain ⟨b, hb⟩ := Int.eq_ofNat_of_zero_le hn
    rw [ha, hb, ← Int.natCast_mul, Int.toNat_natCast, Int.toNat_natCast, Int.toNat_natCast, Nat.mul_comm]
  rw [e, val2_append, hl, e3, Int.add_comm]
theorem valR_one (n : Int) (ds : List Int) (x : Int) (h0 : 0 ≤ x) (h1 : x < ds.length) : ds.getD x.toNat 0 = valR n ds x (x + 1) := by
  unfold valR
  have e : (x + 1 - x).toNat = 1 := by omega
  have hx : x.toNat < ds.length := by omega
  rw [e, List.drop_eq_getElem_cons hx, List.take_succ_cons, List.take_zero]
  simp [val2, hx]

theorem pos_of_ne {vs : List Value} (h : vs.isEmpty = false) : (0 : Int) < (vs.length : Int) := by
  cases vs with
  | nil => cases h
  | cons _ _ => simp only [List.length_cons]; omega

theorem c_d2i (w : World) (news : Led) (dl : Addr) (vs : List Value) (ds : List Int) (nn : Nat) (n : Int) (tn : Tok) (hn : 0 < n) (hn5 : n ≤ 5) (hv : IntsAre vs ds) (hlen : ds.length ≤ 10) (hdg : ∀ d ∈ ds, 0 ≤ d ∧ d < 2 ^ n.toNat) (hdl : (dl, listOf vs.toArray nn) ∈ news) (hTb : Tb news) :
    Con w 20 300 news 236 [.ref dl, .int n tn] []
   (fun r news' => (∃ t, r = .int (val2 n ds) t) ∧ Tb news' ∧ KeepU news news') := by
  have hz : vs.length ≤ sizeLine := by rw [hv.length, sizeLine_eq]; omega
  unfold Con
  intro p loose mean mg mb dp un gd cn cs ad ccd cl outer A₀ base h₀ L m s Q E B F X N T hk hd hu hret
  dsimp only [KK] at X
  refine Classical.byContradiction fun hG9 => ?_
  obtain ⟨o1, o2, o3, hm1, ht1, hm2, ht2, hm3, ht3⟩ := hTb
  refine hG9 ?_
  clear hG9
  have ht3' := tab_off N hm3 ht3.not_usr ht3
  have hku := keepU_off N hm3 ht3.not_usr
  have hof : ∀ p ∈ off 231 news, p.1 ≠ 231 := fun p hp => (mem_off.mp hp).2
  have hdl' := hku _ hdl (.inl (by nofun))
  replace N := news_off N hm3
  refine wpAny_call ?_
  k_dflt (walk_at "my_enterC")
  have hcode := codeHd_of_K (c := 235) (P := 231) XE (by kernel_rfl)
  k_steps
  unfold Stop
  refine nestDef_K rfl rfl rfl ?_
  refine nestAny_K (pre := [_, _, _]) FE NE TE hcode rfl (List.forall_mem_cons.mpr ⟨by k_ne, List.forall_mem_cons.mpr ⟨by k_ne, List.forall_mem_cons.mpr ⟨by k_ne, List.forall_mem_nil _⟩⟩⟩) hof ht3' (by kernel_rfl) rfl ?_
  intro f c oc cvs ct ctv dc h1 tk1 o3' news2 F2 N2 hc1 dd1 dd2 ht3n hsub2 hof2 hlt1 hlt2 hor
  have hne : ∀ p ∈ news2, p.1 ≠ LE + 1 + 1 + 1 := fun p hp => (hor p hp).elim (fun h => ne_of_allLt' hT9 (by omega) p h) fun h => Nat.ne_of_gt (h _ (.head _))
  replace hlt1 : ∀ p ∈ (_ :: _ :: _ :: (231, o3) :: off 231 news : Led), p.1 < f := hlt1
  k_lt hlt1
  replace N2 : News _ _ _ (_ :: _ :: _ :: _ :: (231, o3') :: news2) := N2
  replace hdl' := hsub2 _ hdl'
  clear FE NE hlt2 hor
  walk1
  rename_i hS oi FS NS dI
  refine with_led NS fun LED hLED NL => ?_
  have m1 : (_, _) ∈ LED := hLED ▸ List.Mem.head _
  have m3 : (_, _) ∈ LED := hLED ▸ List.Mem.tail _ (List.Mem.head _)
  have m4 : (_, _) ∈ LED := hLED ▸ List.Mem.tail _ (List.Mem.tail _ (List.Mem.head _))
  have m5 : (_, _) ∈ LED := hLED ▸ List.Mem.tail _ (List.Mem.tail _ (List.Mem.tail _ (List.Mem.head _)))
  have m2 : (c, oc) ∈ LED := by rw [hLED]; k_mem
  have m6 : (dl, listOf vs.toArray nn) ∈ LED := by rw [hLED]; k_mem
  have inner : ∀ (k : Nat) (x y : Int) (t1 t2 : Tok) (nx : Led), y - x ≤ k → 0 ≤ x → x < y → y ≤ ds.length → (∀ p ∈ LED, p ∈ nx) →
      Con w (k + 2) (20 * k + 20) nx f [.int x t1, .int y t2] [] (fun r news' => ∃ t, r = .int (valR n ds x y) t ∧ news' = nx) := by
    intro k
    induction k with
    | zero => intro x y t1 t2 nx h1 h2 h3 h4; omega
    | succ k ih =>
      intro x y t1 t2 nx h1 h2 h3 h4 hsub
      replace m1 := hsub _ m1
      replace m2 := hsub _ m2
      replace m3 := hsub _ m3
      replace m4 := hsub _ m4
      replace m5 := hsub _ m5
      replace m6 := hsub _ m6
      clear hret hLED NL NS FS B F X N T hk hd hu
      unfold Con
      intro p loose mean mg mb dp un gd cn cs ad ccd cl outer A₀ base h₀ L m s Q E B F X N T hk hd hu hret
      dsimp only [KK] at X
      refine wpAny_call ?_
      k_dflt (walk_at "my_enterN")
      have hm : (x + y).fdiv (2 ^ Int.toNat 1) = (x + y) / 2 := Int.fdiv_eq_ediv_of_nonneg _ (by decide)
      have hs : 0 ≤ ((x + y).fdiv (2 ^ Int.toNat 1) - x) * n ∧ ((x + y).fdiv (2 ^ Int.toNat 1) - x) * n ≤ 20 * 5 := by
        rw [hm]
        exact ⟨Int.mul_nonneg (by omega) (by omega), Int.mul_le_mul (by omega) hn5 (by omega) (by omega)⟩
      have hvb := valR_bound n ds hdg hn5 hlen ((x + y).fdiv (2 ^ Int.toNat 1)) y
      k_with "my call" => (refine stop ?_)
      k_with "my call" => (refine' Con.use (ih _ _ _ _ _ ?q1 ?q2 ?q3 ?q4 ?q5) ?cB ?cF ?cX ?cN ?cT ?ch ?cf ?ck ?cd ?cu ?_; walk_at "my_use"; (case q1 => omega); (case q2 => omega); (case q3 => omega); (case q4 => omega); (case q5 => exact hsub); intro r' news' h' tk' F' N' P'; obtain ⟨t', rfl, rfl⟩ := P')
      k_steps
      · rename_i kF kN _ _
        have e1 : y = x + 1 := by omega
        subst e1
        exact hret _ _ _ _ kF kN ⟨_, by rw [valR_one n ds x h2 (by omega)], rfl⟩
      · rename_i kF kN _ _
        rw [valR_split n ds x _ y h2 (by rw [hm]; omega) (by rw [hm]; omega) h4 (by omega)]
        exact hret _ _ _ _ kF kN ⟨_, rfl, rfl⟩
  have hvl := hv.length
  have hk2 : KeepU news ((231, o3') :: news2) := fun p hp hu => .tail _ (hsub2 _ (hku p hp hu))
  have hsL : ∀ p ∈ ((231, o3') :: news2 : Led), p ∈ LED := by
    intro p hp
    rw [hLED]
    exact .tail _ (.tail _ (.tail _ (.tail _ hp)))
  have hTb' : Tb ((231, o3') :: news2) := ⟨o1, o2, o3', .tail _ (hsub2 _ (mem_off.mpr ⟨hm1, show (196 : Nat) ≠ 231 by decide⟩)), ht1.mono hk2, .tail _ (hsub2 _ (mem_off.mpr ⟨hm2, show (224 : Nat) ≠ 231 by decide⟩)), ht2.mono hk2, .head _, ht3n.mono fun p hp _ => .tail _ hp⟩
  clear hLED
  have hfin : ∀ r h' tk', Fr h₀ L h' m → News h₀ L h' LED → (∃ t, r = .int (val2 n ds) t) → Q r { s with heap := h', toks := tk' } := fun r h' tk' F' N' hr =>
    hret r ((231, o3') :: news2) h' tk' F' (fun p hp => N' p (hsL p hp)) ⟨hr, hTb', hk2⟩
  k_with "my call" => (refine stop ?_)
  k_with "my call" => (refine' Con.use (inner 10 _ _ _ _ _ ?q1 ?q2 ?q3 ?q4 ?q5) ?cB ?cF ?cX ?cN ?cT ?ch ?cf ?ck ?cd ?cu ?_; walk_at "my_use"; (case q1 => omega); (case q2 => omega); (case q3 => exact pos_of_ne (by assumption)); (case q4 => omega); (case q5 => exact fun p hp => hp); intro r' news' h' tk' F' N' P'; obtain ⟨t', rfl, rfl⟩ := P')
  k_steps
  · rename_i kF kN _ _
    have he : vs.isEmpty = true := by assumption
    have h0 : ds = [] := by
      have : vs = [] := by simpa using he
      subst this
      exact List.eq_nil_of_length_eq_zero hvl.symm
    exact hfin _ _ _ kF kN ⟨_, by rw [h0]; rfl⟩
  · rename_i kF kN _ _
    have e : valR n ds 0 (vs.length : Int) = val2 n ds := by
      unfold valR
      rw [Int.sub_zero, Int.toNat_zero, List.drop_zero, Int.toNat_natCast, hvl, List.take_length]
    rw [e]
    exact hfin _ _ _ kF kN ⟨_, rfl⟩
theorem clean_M4 : True := by
  w_top off
  k_with "binaryOp Mult ref int" => (refine stop ?_)
  k_with "my call" => (refine stop ?_)
  trivial
def digs (n : Nat) : Nat → Nat → List Int
  | _, 0 => []
  | v, c + 1 => ((v % 2 ^ n : Nat) : Int) :: digs n (v / 2 ^ n) c
theorem digs_len (n : Nat) : ∀ c v, (digs n v c).length = c
  | 0, _ => rfl
  | c + 1, v => by show (digs n (v / 2 ^ n) c).length + 1 = c + 1; rw [digs_len n c]
theorem digs_split (n : Nat) : ∀ p q v, digs n v (p + q) = digs n (v % 2 ^ (n * p)) p ++ digs n (v / 2 ^ (n * p)) q
  | 0, q, v => by simp [digs]
  | p + 1, q, v => by
    rw [show p + 1 + q = (p + q) + 1 by omega]
    show ((v % 2 ^ n : Nat) : Int) :: digs n (v / 2 ^ n) (p + q) = ((v % 2 ^ (n * (p + 1)) % 2 ^ n : Nat) : Int) :: (digs n (v % 2 ^ (n * (p + 1)) / 2 ^ n) p ++ digs n (v / 2 ^ (n * (p + 1))) q)
    have e0 : 2 ^ (n * (p + 1)) = 2 ^ n * 2 ^ (n * p) := by rw [← Nat.pow_add]; congr 1; rw [Nat.mul_add, Nat.mul_one, Nat.add_comm]
    have e1 : v % 2 ^ (n * (p + 1)) % 2 ^ n = v % 2 ^ n := by rw [e0, Nat.mod_mul_right_mod]
    have e2 : v % 2 ^ (n * (p + 1)) / 2 ^ n = v / 2 ^ n % 2 ^ (n * p) := by rw [e0, Nat.mod_mul_right_div_self]
    have e3 : v / 2 ^ (n * (p + 1)) = v / 2 ^ n / 2 ^ (n * p) := by rw [e0, Nat.div_div_eq_div_mul]
    rw [e1, e2, e3, digs_split n p q (v / 2 ^ n)]
theorem digs_one (n v : Nat) (h : v < 2 ^ n) : digs n v 1 = [(v : Int)] := by
  show [((v % 2 ^ n : Nat) : Int)] = _
  rw [Nat.mod_eq_of_lt h]
theorem digs_lt (n : Nat) : ∀ c v, ∀ d ∈ digs n v c, 0 ≤ d ∧ d < 2 ^ n
  | 0, _, d, h => by cases h
  | c + 1, v, d, h => by
    rcases List.mem_cons.mp h with rfl | h
    · refine ⟨by omega, ?_⟩
      have := Nat.mod_lt v (show 2 ^ n > 0 from Nat.pow_pos (by decide))
      exact_mod_cast this
    · exact digs_lt n c _ d h
def setR (ds : List Int) (x : Nat) (new : List Int) : List Int := ds.take x ++ (new ++ ds.drop (x + new.length))
theorem setR_len {ds new : List Int} {x : Nat} (h : x + new.length ≤ ds.length) : (setR ds x new).length = ds.length := by
  unfold setR
  rw [List.length_append, List.length_append, List.length_take, List.length_drop]; omega
theorem setR_setR {ds A B : List Int} {x y : Nat} (hy : y = x + A.length) (h : y + B.length ≤ ds.length) : setR (setR ds x A) y B = setR ds x (A ++ B) := by
  subst hy
  unfold setR
  have hx : (ds.take x).length = x := by rw [List.length_take]; omega
  have e1 : (ds.take x ++ (A ++ ds.drop (x + A.length))).take (x + A.length) = ds.take x ++ A := by
    rw [← List.append_assoc, List.take_append_of_le_length (by rw [List.length_append, hx]; omega), List.take_of_length_le (by rw [List.length_append, hx]; omega)]
  have e2 : (ds.take x ++ (A ++ ds.drop (x + A.length))).drop (x + A.length + B.length) = ds.drop (x + (A ++ B).length) := by
    rw [← List.append_assoc, List.drop_append, List.drop_eq_nil_of_le (by rw [List.length_append, hx]; omega), List.nil_append, List.drop_drop, List.length_append, hx, List.length_append]
    congr 1; omega
  rw [e1, e2]
  simp only [List.append_assoc]
theorem setR_one {ds : List Int} {x : Nat} {v : Int} (h : x < ds.length) : ds.set x v = setR ds x [v] := by
  unfold setR
  rw [List.set_eq_take_append_cons_drop, if_pos h]
  rfl
theorem setR_all {ds new : List Int} (h : new.length = ds.length) : setR ds 0 new = new := by
  unfold setR
  rw [List.take_zero, List.nil_append, Nat.zero_add, h, List.drop_length, List.append_nil]
theorem lt_bits {a : Int} (h : 0 ≤ a) : a.toNat < 2 ^ Builtin.Int.intBits a := by
  unfold Builtin.Int.intBits
  by_cases h0 : a = 0
  · subst h0; decide
  · have e : (a == 0) = false := by simpa using h0
    rw [e]
    simp only [Bool.false_eq_true, if_false]
    have h1 : a.natAbs = a.toNat := by omega
    rw [h1]
    exact Nat.lt_log2_self
theorem bits_le_of {a : Int} {k : Nat} (h : 0 ≤ a) (hk : a < 2 ^ k) : Builtin.Int.intBits a ≤ k := by
  unfold Builtin.Int.intBits
  by_cases h0 : a = 0
  · subst h0; exact Nat.zero_le _
  · have e : (a == 0) = false := by simpa using h0
    rw [e]
    simp only [Bool.false_eq_true, if_false]
    have h1 : a.natAbs ≠ 0 := by omega
    have : a.natAbs < 2 ^ k := by
      have : (a.natAbs : Int) < 2 ^ k := by omega
      exact_mod_cast this
    have := (Nat.log2_lt h1).mpr this
    omega

theorem nat_and_high (x S : Nat) : x &&& (x / 2 ^ S * 2 ^ S) = x / 2 ^ S * 2 ^ S := by
  apply Nat.eq_of_testBit_eq
  intro i
  rw [Nat.testBit_and, Nat.testBit_mul_two_pow, Nat.testBit_div_two_pow]
  by_cases h : S ≤ i
  · have : i - S + S = i := by omega
    simp [h, this]
  · simp [h]
theorem nat_or_high (x S : Nat) : x ||| (x / 2 ^ S * 2 ^ S) = x := by
  apply Nat.eq_of_testBit_eq
  intro i
  rw [Nat.testBit_or, Nat.testBit_mul_two_pow, Nat.testBit_div_two_pow]
  by_cases h : S ≤ i
  · have : i - S + S = i := by omega
    simp [h, this]
  · simp [h]
theorem bitNot_not (x : Int) : Builtin.bitNot (Builtin.bitNot x) = x := by unfold Builtin.bitNot; omega
theorem int_xor_low (x : Int) (S : Nat) (h : 0 ≤ x) : Builtin.bitXor x (x.fdiv (2 ^ S) * 2 ^ S) = x % 2 ^ S := by
  obtain ⟨a, rfl⟩ := Int.eq_ofNat_of_zero_le h
  have e : ((a : Int).fdiv (2 ^ S) * 2 ^ S) = ((a / 2 ^ S * 2 ^ S : Nat) : Int) := by
    rw [Int.fdiv_eq_ediv_of_nonneg _ (Int.le_of_lt (Int.pow_pos (by decide)))]
    simp
  rw [e]
  generalize hb : a / 2 ^ S * 2 ^ S = b
  have h1 : Builtin.bitAnd (a : Int) (b : Int) = (b : Int) := by
    unfold Builtin.bitAnd
    rw [decide_eq_true (show (0 : Int) ≤ (a : Int) by omega), decide_eq_true (show (0 : Int) ≤ (b : Int) by omega)]
    show (((a : Int).toNat &&& (b : Int).toNat : Nat) : Int) = b
    rw [Int.toNat_natCast, Int.toNat_natCast, ← hb, nat_and_high]
  have h2 : Builtin.bitOr (a : Int) (b : Int) = (a : Int) := by
    unfold Builtin.bitOr Builtin.bitAnd
    rw [decide_eq_false (show ¬ (0 : Int) ≤ Builtin.bitNot (a : Int) by unfold Builtin.bitNot; omega), decide_eq_false (show ¬ (0 : Int) ≤ Builtin.bitNot (b : Int) by unfold Builtin.bitNot; omega)]
    show Builtin.bitNot (Builtin.bitNot (((Builtin.bitNot (Builtin.bitNot (a : Int))).toNat ||| (Builtin.bitNot (Builtin.bitNot (b : Int))).toNat : Nat) : Int)) = a
    rw [bitNot_not, bitNot_not, bitNot_not, Int.toNat_natCast, Int.toNat_natCast, ← hb, nat_or_high]
  unfold Builtin.bitXor
  rw [h1, h2, ← hb]
  have h3 := Nat.div_add_mod a (2 ^ S)
  rw [Nat.mul_comm] at h3
  have h4 : ((a / 2 ^ S * 2 ^ S : Nat) : Int) + ((a % 2 ^ S : Nat) : Int) = a := by exact_mod_cast h3
  have h5 : (a : Int) % 2 ^ S = ((a % 2 ^ S : Nat) : Int) := by simp
  rw [h5]; omega
theorem shift_exp {n d : Int} (hn : 0 ≤ n) (hd : 0 ≤ d) : (d * n).toNat = n.toNat * d.toNat := by
  obtain ⟨a, rfl⟩ := Int.eq_ofNat_of_zero_le hn
  obtain ⟨b, rfl⟩ := Int.eq_ofNat_of_zero_le hd
  rw [← Int.natCast_mul, Int.toNat_natCast, Int.toNat_natCast, Int.toNat_natCast, Nat.mul_comm]
theorem toNat_low {x : Int} {S : Nat} (h : 0 ≤ x) : (x % 2 ^ S).toNat = x.toNat % 2 ^ S := by
  obtain ⟨a, rfl⟩ := Int.eq_ofNat_of_zero_le h
  have : ((a : Int) % 2 ^ S) = ((a % 2 ^ S : Nat) : Int) := by simp
  rw [this, Int.toNat_natCast, Int.toNat_natCast]
theorem low_lt {x B : Int} {S : Nat} (h : 0 ≤ x) (hB : x < B) : x % 2 ^ S < B := by
  obtain ⟨a, rfl⟩ := Int.eq_ofNat_of_zero_le h
  have : ((a : Int) % 2 ^ S) = ((a % 2 ^ S : Nat) : Int) := by simp
  rw [this]
  have := Nat.mod_le a (2 ^ S)
  omega
theorem toNat_high {x : Int} {S : Nat} (h : 0 ≤ x) : (x.fdiv (2 ^ S)).toNat = x.toNat / 2 ^ S := by
  obtain ⟨a, rfl⟩ := Int.eq_ofNat_of_zero_le h
  rw [Int.fdiv_eq_ediv_of_nonneg _ (Int.le_of_lt (Int.pow_pos (by decide)))]
  have : ((a : Int) / 2 ^ S) = ((a / 2 ^ S : Nat) : Int) := by simp
  rw [this, Int.toNat_natCast, Int.toNat_natCast]
theorem digs_join {n x u z v : Int} {ds : List Int} (hn : 0 ≤ n) (hx : 0 ≤ x) (hu : 0 ≤ u) (h1 : u ≤ z) (h2 : z ≤ v) (h3 : v ≤ ds.length) :
    setR (setR ds u.toNat (digs n.toNat (Builtin.bitXor x (x.fdiv (2 ^ ((z - u) * n).toNat) * 2 ^ ((z - u) * n).toNat)).toNat (z - u).toNat)) z.toNat (digs n.toNat (x.fdiv (2 ^ ((z - u) * n).toNat)).toNat (v - z).toNat) = setR ds u.toNat (digs n.toNat x.toNat (v - u).toNat) := by
  rw [setR_setR (by rw [digs_len]; omega) (by rw [digs_len]; omega), int_xor_low _ _ hx, toNat_low hx, toNat_high hx, shift_exp hn (by omega), ← digs_split]
  congr 2; omega

theorem rep_flat {α : Type} (v : α) : ∀ c : Nat, (List.replicate c [v]).flatten = List.replicate c v
  | 0 => rfl
  | c + 1 => by rw [List.replicate_succ, List.flatten_cons, rep_flat v c]; rfl
theorem ints_rep (t : Tok) : ∀ c : Nat, IntsAre (List.replicate c (Value.int 0 t)) (List.replicate c 0)
  | 0 => .nil
  | c + 1 => .cons _ _ (ints_rep t c)
theorem digs_zero (n : Nat) : ∀ c, digs n 0 c = List.replicate c 0
  | 0 => rfl
  | c + 1 => by
    show ((0 % 2 ^ n : Nat) : Int) :: digs n (0 / 2 ^ n) c = _
    rw [Nat.zero_mod, Nat.zero_div, digs_zero n c]; rfl

theorem c_i2d (w : World) (news : Led) (a n : Int) (ta tn : Tok) (ha : 0 ≤ a) (ha2 : a < 2 ^ 20) (hn : 2 ≤ n) (hn5 : n ≤ 5) (hTb : Tb news) :
    Con w 20 300 news 229 [.int a ta, .int n tn] []
   (fun r news' => (∃ (dl : Addr) (vs : List Value) (c nn : Nat), r = .ref dl ∧ (dl, listOf vs.toArray nn) ∈ news' ∧ IntsAre vs (digs n.toNat a.toNat c) ∧ c ≤ 10 ∧ a.toNat < 2 ^ (n.toNat * c)) ∧ Tb news' ∧ KeepU news news') := by
  unfold Con
  intro p loose mean mg mb dp un gd cn cs ad ccd cl outer A₀ base h₀ L m s Q E B F X N T hk hd hu hret
  dsimp only [KK] at X
  refine Classical.byContradiction fun hG9 => ?_
  obtain ⟨o1, o2, o3, hm1, ht1, hm2, ht2, hm3, ht3⟩ := hTb
  refine hG9 ?_
  clear hG9
  have ht2' := tab_off N hm2 ht2.not_usr ht2
  have hku := keepU_off N hm2 ht2.not_usr
  have hof : ∀ p ∈ off 224 news, p.1 ≠ 224 := fun p hp => (mem_off.mp hp).2
  replace N := news_off N hm2
  have hb20 := bits_le_of (k := 20) ha ha2
  obtain ⟨c, hc⟩ : ∃ c : Nat, ((Builtin.Int.intBits a : Int) + n - 1).fdiv n = c := by
    rw [Int.fdiv_eq_ediv_of_nonneg _ (by omega)]
    exact ⟨(((Builtin.Int.intBits a : Int) + n - 1) / n).toNat, by rw [Int.toNat_of_nonneg (Int.ediv_nonneg (by omega) (by omega))]⟩
  have hc10 : c ≤ 10 := by
    rw [Int.fdiv_eq_ediv_of_nonneg _ (by omega)] at hc
    have : ((Builtin.Int.intBits a : Int) + n - 1) / n < 11 := by
      refine Int.ediv_lt_of_lt_mul (by omega) ?_
      omega
    omega
  have hcb : a.toNat < 2 ^ (n.toNat * c) := by
    refine Nat.lt_of_lt_of_le (lt_bits ha) (Nat.pow_le_pow_right (by decide) ?_)
    rw [Int.fdiv_eq_ediv_of_nonneg _ (by omega)] at hc
    have h1 := Int.emod_add_mul_ediv ((Builtin.Int.intBits a : Int) + n - 1) n
    have h2 := Int.emod_lt_of_pos ((Builtin.Int.intBits a : Int) + n - 1) (show 0 < n by omega)
    rw [hc] at h1
    have h3 : ((n.toNat * c : Nat) : Int) = n * c := by rw [Int.natCast_mul, Int.toNat_of_nonneg (by omega)]
    omega
  refine wpAny_call ?_
  k_dflt (walk_at "my_enterC")
  have hcode := codeHd_of_K (c := 228) (P := 224) XE (by kernel_rfl)
  have hbits := intBits_le_64 (k := a) (by omega) (by omega)
  k_steps
  unfold Stop
  rename_i l0 hl0 F1 N1 hlt
  rw [hc]
  refine KMa.mul F1 N1 (led_list N1 (.head _)) (by omega) (by omega) (by simp; omega) rfl ?_
  intro dl h1 F2 N2 hlt2
  replace N2 : News _ _ _ ((dl, _) :: (LE + 1 + 1 + 1, _) :: (LE + 1 + 1, _) :: (LE + 1, _) :: (224, o2) :: off 224 news) := fun p hp => N2 p ((List.mem_cons.mp hp).elim (fun e => e ▸ .head _) fun h => .tail _ (.tail _ h))
  k_lt hlt2
  clear N1 F1
  k_steps
  unfold Stop
  rename_i hB oa FB NB dA
  refine nestDef_K rfl rfl rfl ?_
  refine nestAny_K (pre := [_, _, _, _]) FB NB TE hcode rfl (List.forall_mem_cons.mpr ⟨by k_ne, List.forall_mem_cons.mpr ⟨by k_ne, List.forall_mem_cons.mpr ⟨by k_ne, List.forall_mem_cons.mpr ⟨by k_ne, List.forall_mem_nil _⟩⟩⟩⟩) hof ht2' (by kernel_rfl) rfl ?_
  intro f cc oc cvs ct ctv dc hf tkf o2' news2 Ff Nf hc1 dd1 dd2 ht2n hsub2 hof2 hlt1 hltn hor
  have hdT : AllLt dl (off 224 news) := by (have h9 := hlt2; (repeat (replace h9 := And.right h9)); exact h9)
  have hne : ∀ p ∈ news2, p.1 ≠ LE + 1 + 1 + 1 := fun p hp => (hor p hp).elim (fun h => ne_of_allLt' hT9 (by omega) p h) fun h => Nat.ne_of_gt (h _ (.tail _ (.head _)))
  have hned : ∀ p ∈ news2, p.1 ≠ dl := fun p hp => (hor p hp).elim (fun h => ne_of_allLt hdT p h) fun h => Nat.ne_of_gt (h _ (.head _))
  replace Nf : News _ _ _ (_ :: _ :: _ :: _ :: _ :: (224, o2') :: news2) := Nf
  replace hlt1 : ∀ p ∈ ((dl, _) :: (LE + 1 + 1 + 1, _) :: (LE + 1 + 1, _) :: (LE + 1, _) :: (224, o2) :: off 224 news : Led), p.1 < f := hlt1
  k_lt hlt1
  clear FB NB hltn hor
  walk1
  rename_i hS oi FS NS dI
  replace NS := news_swap NS
  refine with_led2 NS fun LED hLED NL => ?_
  have m1 : (_, _) ∈ LED := hLED ▸ List.Mem.head _
  have m3 : (_, _) ∈ LED := hLED ▸ List.Mem.tail _ (List.Mem.head _)
  have m4 : (_, _) ∈ LED := hLED ▸ List.Mem.tail _ (List.Mem.tail _ (List.Mem.head _))
  have m5 : (_, _) ∈ LED := hLED ▸ List.Mem.tail _ (List.Mem.tail _ (List.Mem.tail _ (List.Mem.head _)))
  have m2 : (cc, oc) ∈ LED := by rw [hLED]; k_mem
  have hnd : ∀ p ∈ LED, p.1 ≠ dl := by
    rw [hLED]
    refine List.forall_mem_cons.mpr ⟨by k_ne, List.forall_mem_cons.mpr ⟨by k_ne, List.forall_mem_cons.mpr ⟨by k_ne, List.forall_mem_cons.mpr ⟨by k_ne, List.forall_mem_cons.mpr ⟨by k_ne, hned⟩⟩⟩⟩⟩
  have inner : ∀ (k : Nat) (x u v : Int) (tx tX tY : Tok) (vs : List Value) (ds : List Int) (nn : Nat), v - u ≤ k → 0 ≤ u → u < v → v ≤ ds.length → ds.length ≤ 10 → IntsAre vs ds → 0 ≤ x → x < 2 ^ 20 → x.toNat < 2 ^ (n.toNat * (v - u).toNat) →
      Con w (k + 2) (20 * k + 20) ((dl, listOf vs.toArray nn) :: LED) f [.int x tx, .int u tX, .int v tY] [] (fun r news' => r = .none ∧ ∃ vs' nn', news' = (dl, listOf vs'.toArray nn') :: LED ∧ IntsAre vs' (setR ds u.toNat (digs n.toNat x.toNat (v - u).toNat))) := by
    intro k
    induction k with
    | zero => intros; omega
    | succ k ih =>
      intro x u v tx tX tY vs ds nn h1 h2 h3 h4 h5 hvd h6 h7 h8
      clear hret hLED NL NS FS B F X N T hk hd hu
      unfold Con
      intro p loose mean mg mb dp un gd cn cs ad ccd cl outer A₀ base h₀ L m s Q E B F XX N T hk hd hu hret
      dsimp only [KK] at XX
      refine wpAny_call ?_
      k_dflt (walk_at "my_enterN")
      have hm : (u + v).fdiv (2 ^ Int.toNat 1) = (u + v) / 2 := Int.fdiv_eq_ediv_of_nonneg _ (by decide)
      have hs : 0 ≤ ((u + v).fdiv (2 ^ Int.toNat 1) - u) * n ∧ ((u + v).fdiv (2 ^ Int.toNat 1) - u) * n ≤ 20 * 5 := by
        rw [hm]
        exact ⟨Int.mul_nonneg (by omega) (by omega), Int.mul_le_mul (by omega) hn5 (by omega) (by omega)⟩
      have hup : 0 ≤ x.fdiv (2 ^ (((u + v).fdiv (2 ^ Int.toNat 1) - u) * n).toNat) ∧ x.fdiv (2 ^ (((u + v).fdiv (2 ^ Int.toNat 1) - u) * n).toNat) < 2 ^ 20 := by
        have hp : (0 : Int) < 2 ^ (((u + v).fdiv (2 ^ Int.toNat 1) - u) * n).toNat := Int.pow_pos (by decide)
        rw [Int.fdiv_eq_ediv_of_nonneg _ (Int.le_of_lt hp)]
        exact ⟨Int.ediv_nonneg h6 (Int.le_of_lt hp), Int.lt_of_le_of_lt (Int.ediv_le_self _ h6) h7⟩
      have hS : (((u + v).fdiv (2 ^ Int.toNat 1) - u) * n).toNat = n.toNat * ((u + v).fdiv (2 ^ Int.toNat 1) - u).toNat := shift_exp (by omega) (by rw [hm]; omega)
      have hxl := int_xor_low x (((u + v).fdiv (2 ^ Int.toNat 1) - u) * n).toNat h6
      have hp : (0 : Int) < 2 ^ (((u + v).fdiv (2 ^ Int.toNat 1) - u) * n).toNat := Int.pow_pos (by decide)
      have hl0 : 0 ≤ x % 2 ^ (((u + v).fdiv (2 ^ Int.toNat 1) - u) * n).toNat := Int.emod_nonneg _ (Int.ne_of_gt hp)
      have hl1 : x % 2 ^ (((u + v).fdiv (2 ^ Int.toNat 1) - u) * n).toNat < 2 ^ 20 := low_lt h6 h7
      have hl9 : (x % 2 ^ (((u + v).fdiv (2 ^ Int.toNat 1) - u) * n).toNat).toNat < 2 ^ (n.toNat * ((u + v).fdiv (2 ^ Int.toNat 1) - u).toNat) := by
        rw [toNat_low h6, hS]
        exact Nat.mod_lt _ (Nat.pow_pos (by decide))
      have hu9 : (x.fdiv (2 ^ (((u + v).fdiv (2 ^ Int.toNat 1) - u) * n).toNat)).toNat < 2 ^ (n.toNat * (v - (u + v).fdiv (2 ^ Int.toNat 1)).toNat) := by
        rw [toNat_high h6, hS]
        refine Nat.div_lt_of_lt_mul ?_
        rw [← Nat.pow_add, ← Nat.mul_add]
        have e : ((u + v).fdiv (2 ^ Int.toNat 1) - u).toNat + (v - (u + v).fdiv (2 ^ Int.toNat 1)).toNat = (v - u).toNat := by rw [hm]; omega
        rw [e]; exact h8
      rw [← hxl] at hl0 hl1 hl9
      k_with "my call" => (refine stop ?_)
      k_with "my call" => (refine' Con.use (ih _ _ _ _ _ _ _ _ _ ?q1 ?q2 ?q3 ?q4 ?q5 ?q6 ?q7 ?q8 ?q9) ?cB ?cF ?cX ?cN ?cT ?ch ?cf ?ck ?cd ?cu ?_; walk_at "my_use"; (case q6 => assumption); (case q1 => omega); (case q2 => omega); (case q3 => omega); (case q4 => first | omega | (rw [setR_len (by rw [digs_len]; omega)]; omega)); (case q5 => first | omega | (rw [setR_len (by rw [digs_len]; omega)]; omega)); (case q7 => first | exact hl0 | exact hup.1); (case q8 => first | exact hl1 | exact hup.2); (case q9 => first | exact hl9 | exact hu9); intro r' news' h' tk' F' N' P'; refine Classical.byContradiction fun hG9 => ?_; obtain ⟨rfl, vs2, nn2, rfl, hv2⟩ := P'; refine hG9 ?_; clear hG9)
      k_steps
      · rename_i hvs _ _ kF kN _ _
        have e1 : (v - u).toNat = 1 := by omega
        rw [e1, Nat.mul_one] at h8
        refine hret _ _ _ _ kF kN ⟨rfl, _, _, rfl, ?_⟩
        rw [e1, digs_one _ _ h8, Int.toNat_of_nonneg h6, ← setR_one (by omega)]
        exact hvs
      · rename_i kF kN _ _
        refine hret _ _ _ _ kF kN ⟨rfl, _, _, rfl, ?_⟩
        rw [← digs_join (z := (u + v).fdiv (2 ^ Int.toNat 1)) (by omega) h6 h2 (by rw [hm]; omega) (by rw [hm]; omega) h4]
        exact hv2
  have hk2 : KeepU news ((224, o2') :: news2) := fun p hp hu => .tail _ (hsub2 _ (hku p hp hu))
  have hsL : ∀ p ∈ ((224, o2') :: news2 : Led), p ∈ LED := by
    intro p hp
    rw [hLED]
    exact .tail _ (.tail _ (.tail _ (.tail _ hp)))
  have hTb' : Tb ((224, o2') :: news2) := ⟨o1, o2', o3, .tail _ (hsub2 _ (mem_off.mpr ⟨hm1, show (196 : Nat) ≠ 224 by decide⟩)), ht1.mono hk2, .head _, ht2n.mono fun p hp _ => .tail _ hp, .tail _ (hsub2 _ (mem_off.mpr ⟨hm3, show (231 : Nat) ≠ 224 by decide⟩)), ht3.mono hk2⟩
  clear hLED
  have hrep : IntsAre (List.replicate c [Value.int 0 tkE]).flatten (List.replicate c 0) := by rw [rep_flat]; exact ints_rep _ _
  have hlc : (List.replicate c [Value.int 0 tkE]).flatten.length = c := by rw [rep_flat, List.length_replicate]
  have hlz : (List.replicate c (0 : Int)).length = c := List.length_replicate ..
  have hz : (List.replicate c [Value.int 0 tkE]).flatten.length ≤ sizeLine := by rw [hlc, sizeLine_eq]; omega
  have hpos : a ≠ 0 → 0 < c := fun h => by
    rcases Nat.eq_zero_or_pos c with h0 | h0
    · rw [h0, Nat.mul_zero, Nat.pow_zero] at hcb; omega
    · exact h0
  have hfin : ∀ h' tk' vs' nn', Fr h₀ L h' m → News h₀ L h' ((dl, listOf vs'.toArray nn') :: LED) → IntsAre vs' (digs n.toNat a.toNat c) → Q (.ref dl) { s with heap := h', toks := tk' } := fun h' tk' vs' nn' F' N' hi =>
    hret (.ref dl) ((dl, listOf vs'.toArray nn') :: (224, o2') :: news2) h' tk' F' (fun p hp => N' p ((List.mem_cons.mp hp).elim (fun e => e ▸ .head _) fun h => .tail _ (hsL p h)))
      ⟨⟨dl, vs', c, nn', rfl, .head _, hi, hc10, hcb⟩, hTb'.mono fun p hp _ => .tail _ hp, hk2.trans fun p hp _ => .tail _ hp⟩
  k_with "my call" => (refine stop ?_)
  k_with "my call" => (refine' Con.use (inner 10 _ _ _ _ _ _ _ _ _ ?q1 ?q2 ?q3 ?q4 ?q5 ?q6 ?q7 ?q8 ?q9) ?cB ?cF ?cX ?cN ?cT ?ch ?cf ?ck ?cd ?cu ?_; walk_at "my_use"; (case q6 => exact hrep); (case q1 => (show ((List.replicate c [Value.int 0 tkE]).flatten.length : Int) - 0 ≤ ((10 : Nat) : Int); rw [hlc]; omega)); (case q2 => omega); (case q3 => (show (0 : Int) < ((List.replicate c [Value.int 0 tkE]).flatten.length : Int); rw [hlc]; have := hpos (by assumption); omega)); (case q4 => (show ((List.replicate c [Value.int 0 tkE]).flatten.length : Int) ≤ _; rw [hlc, hlz]; omega)); (case q5 => (rw [hlz]; exact hc10)); (case q7 => exact ha); (case q8 => exact ha2); (case q9 => (show _ < 2 ^ (n.toNat * (((List.replicate c [Value.int 0 tkE]).flatten.length : Int) - 0).toNat); rw [hlc, Int.sub_zero, Int.toNat_natCast]; exact hcb)); intro r' news' h' tk' F' N' P'; refine Classical.byContradiction fun hG9 => ?_; obtain ⟨rfl, vs2, nn2, rfl, hv2⟩ := P'; refine hG9 ?_; clear hG9)
  k_steps
  · rename_i kF kN _ _
    refine hfin _ _ _ _ kF kN ?_
    replace hv2 : IntsAre vs2 (setR (List.replicate c 0) 0 (digs n.toNat a.toNat (((List.replicate c [Value.int 0 tkE]).flatten.length : Int) - 0).toNat)) := hv2
    rw [hlc, Int.sub_zero, Int.toNat_natCast, setR_all (by rw [digs_len, hlz])] at hv2
    exact hv2
  · rename_i kF kN _ _
    refine hfin _ _ _ _ kF kN ?_
    have h0 : a = 0 := by assumption
    rw [h0, Int.toNat_zero, digs_zero]
    exact hrep
section
variable {prog : Program} {w : World} {A : Around} {E : Value → Shared → Prop} {s : Shared} {env : Env} {h₀ : Heap} {Q : Flow → Shared → Prop}

def ForEnd (h₀ : Heap) (L : Addr) (s : Shared) (I : Addr) (oI : Obj) (J : (Str → Option Value) → Led → Prop) (Q : Flow → Shared → Prop) (f : Flow) (s₃ : Shared) : Prop :=
  match f with
  | .ret v => Q (.ret v) s₃
  | .brk => Q .next s₃
  | _ => ∃ h' tk' m' nx', s₃ = { s with heap := h', toks := tk' } ∧ Fr h₀ L h' m' ∧ News h₀ L h' nx' ∧ (I, oI) ∈ nx' ∧ ∀ nx2, (∀ p ∈ nx', p.1 ≠ I → p ∈ nx2) → J m' nx2

theorem letGo_any {target : Expr} {I : Addr} {v : Value} {o : Obj} {cn : String} {Q' : Unit → Shared → Prop} {s' : Shared} (ho : s'.heap.get? I = some o) (hc : o.cls = .type cn)
    (hC : ["enumerate", "zip", "dict_itemiterator", "dict_reverseitemiterator", "odict_iterator", "itertools.zip_longest", "itertools.pairwise"].contains cn = false) (h : Q' () s') :
    wpAny (model prog w) A (letOwnedTupleGo target (.ref I) v) Q' E s' := by
  unfold letOwnedTupleGo
  cases target <;> first
    | exact wpAny_pure h
    | (cases v <;> first
        | exact wpAny_pure h
        | (refine wpAny_bind (wpAny_load ho ?_)
           rw [hc]
           cases o.data <;> first
             | exact wpAny_pure h
             | (dsimp only
                rw [hC]
                exact wpAny_pure h)))
theorem for_core {target : Expr} {body : List Stmt} {I l : Addr} {n : Nat} {P : Nat → Value → Prop} {St : Nat → Heap → Prop} {m : Str → Option Value} {news : Led} {ol : Obj} {C : String} (hC : ["enumerate", "zip", "dict_itemiterator", "dict_reverseitemiterator", "odict_iterator", "itertools.zip_longest", "itertools.pairwise"].contains C = false)
    (W : Walks prog w A I [I, l] [I] n P St) (hcls : ∀ i h, St i h → ∃ o, h.get? I = some o ∧ o.cls = .type C)
    (hLI : env.locals ≠ I) (hI0 : h₀.get? I = none) (hst : St 0 s.heap) (F : Fr h₀ env.locals s.heap m) (N : News h₀ env.locals s.heap news) (hnI : ∀ p ∈ news, p.1 ≠ I)
    (J : Nat → (Str → Option Value) → Led → Prop) (hl : ∀ i m nx, J i m nx → (l, ol) ∈ nx) (h0 : J 0 m news)
    (turn : ∀ i v m₁ nx h tk oI, i < n → P i v → J i m₁ nx → (∀ p ∈ nx, p.1 ≠ I) → oI.cls = .type C → Fr h₀ env.locals h m₁ → News h₀ env.locals h ((I, oI) :: nx) →
      wpAny (model prog w) A (assign target env v) (fun _ s₂ => wpAny (model prog w) A (execs body env) (ForEnd h₀ env.locals s I oI (J (i + 1)) Q) E s₂) E { s with heap := h, toks := tk })
    (done : ∀ h tk m' nx, Fr h₀ env.locals h m' → News h₀ env.locals h nx → J n m' nx → Q .next { s with heap := h, toks := tk })
    (hE : PassesOwn (model prog w) A env E) :
    codeAny (model prog w) A (.forLoop target (.ref I) body [] env) (fun r s' => match r with | .ok f => Q f s' | .error e => cameBackBy (model prog w) A env E e s') s := by
  refine codeAny_forLoop_any
    (fun k s' => ∃ h' tk m' nx i, s' = { s with heap := h', toks := tk } ∧ St i h' ∧ Fr h₀ env.locals h' m' ∧ News h₀ env.locals h' nx ∧ (∀ p ∈ nx, p.1 ≠ I) ∧ J i m' nx ∧ i ≤ n ∧ k = n + 1 - i) ?_ (n + 1)
    ⟨s.heap, s.toks, m, news, 0, rfl, hst, F, N, hnI, h0, Nat.zero_le _, rfl⟩
  rintro k s' ⟨h', tk, m', nx, i, rfl, hst', F', N', hnI', hJ, hi, rfl⟩
  have next : ∀ h₁ : Heap, (∀ b o, b ∉ [I] → h'.get? b = some o → h₁.get? b = some o) → Fr h₀ env.locals h₁ m' ∧ News h₀ env.locals h₁ nx := fun h₁ hk₁ =>
    ⟨⟨F'.ns.at' fun o e => hk₁ _ o (by simpa using hLI) e, fun b o e => hk₁ b o (by
        intro hb
        rw [List.mem_singleton.mp hb, hI0] at e; cases e) (F'.keep b o e), F'.above⟩,
      fun p hp => ⟨hk₁ _ _ (by simpa using hnI' p hp) (N' p hp).1, (N' p hp).2⟩⟩
  by_cases hlt : i < n
  · refine W.item i _ _ _ hlt hst' fun v h₁ tk₁ hP hst₁ hk₁ => ?_
    refine Classical.byContradiction fun hG9 => ?_
    obtain ⟨F₁, N₁⟩ := next h₁ hk₁
    obtain ⟨oI, hoI, hcI⟩ := hcls _ _ hst₁
    refine hG9 ?_
    clear hG9
    have N₂ : News h₀ env.locals h₁ ((I, oI) :: nx) := fun p hp => by
      rcases List.mem_cons.mp hp with rfl | hp
      · exact ⟨hoI, Ne.symm hLI, hI0⟩
      · exact N₁ p hp
    refine letGo_any hoI hcI hC ?_
    refine wpAny_passesOwn hE (wpAny_mono (turn i v m' nx h₁ tk₁ oI hlt hP hJ hnI' hcI F₁ N₂) (fun _ s₂ h₂ => wpAny_passesOwn hE (wpAny_mono h₂ (fun f s₃ h₃ => ?_) fun _ _ e => e)) fun _ _ e => e)
    have fin : ForEnd h₀ env.locals s I oI (J (i + 1)) Q .next s₃ → ∃ m, m < n + 1 - i ∧ ∃ h' tk m' nx i, s₃ = { s with heap := h', toks := tk } ∧ St i h' ∧ Fr h₀ env.locals h' m' ∧ News h₀ env.locals h' nx ∧ (∀ p ∈ nx, p.1 ≠ I) ∧ J i m' nx ∧ i ≤ n ∧ m = n + 1 - i := by
      rintro ⟨h₃', tk₃, m₂, nx₂, rfl, F₃, N₃, hI₃, hJ₃⟩
      have hJ4 := hJ₃ (off I nx₂) fun p hp hne => mem_off.mpr ⟨hp, hne⟩
      refine ⟨n + 1 - (i + 1), by omega, h₃', tk₃, m₂, off I nx₂, i + 1, rfl, ?_, F₃, fun p hp => N₃ p (mem_off.mp hp).1, fun p hp => (mem_off.mp hp).2, hJ4, hlt, rfl⟩
      refine W.frame _ _ _ hst₁ fun b hb o e => ?_
      rcases List.mem_cons.mp hb with rfl | hb
      · rw [hoI] at e; cases e; exact (N₃ _ hI₃).1
      · rw [List.mem_singleton.mp hb] at e ⊢
        have e1 := (N₁ _ (hl _ _ _ hJ)).1
        have e2 := (N₃ _ (mem_off.mp (hl _ _ _ hJ4)).1).1
        simp only at e1 e2
        rw [e1] at e; rw [e2, ← e]
    cases f with
    | ret v => exact h₃
    | brk => exact h₃
    | cont => exact fin h₃
    | next => exact fin h₃
  · have hin : i = n := by omega
    subst hin
    refine W.done _ _ _ hst' fun h₁ tk₁ hk₁ => wpAny_execs_nil ?_
    obtain ⟨F₁, N₁⟩ := next h₁ hk₁
    exact done h₁ tk₁ m' nx F₁ N₁ hJ

theorem for_list {target : Expr} {body : List Stmt} {l : Addr} {vs : List Value} {nn : Nat} {m : Str → Option Value} {news : Led} (hh : A.handled = none) (hm : (l, listOf vs.toArray nn) ∈ news)
    (F : Fr h₀ env.locals s.heap m) (N : News h₀ env.locals s.heap news)
    (J : Nat → (Str → Option Value) → Led → Prop) (hl : ∀ i m nx, J i m nx → (l, listOf vs.toArray nn) ∈ nx) (h0 : J 0 m news)
    (turn : ∀ I i v m₁ nx h tk oI, (∀ p ∈ news, p.1 < I) → vs[i]? = some v → J i m₁ nx → (∀ p ∈ nx, p.1 ≠ I) → oI.cls = .type "list_iterator" → Fr h₀ env.locals h m₁ → News h₀ env.locals h ((I, oI) :: nx) →
      wpAny (model prog w) A (assign target env v) (fun _ s₂ => wpAny (model prog w) A (execs body env) (ForEnd h₀ env.locals s I oI (J (i + 1)) Q) E s₂) E { s with heap := h, toks := tk })
    (done : ∀ h tk m' nx, Fr h₀ env.locals h m' → News h₀ env.locals h nx → J vs.length m' nx → Q .next { s with heap := h, toks := tk })
    (hE : PassesOwn (model prog w) A env E) :
    wpAny (model prog w) A (pyIter (.ref l)) (fun it s₂ => codeAny (model prog w) A (.forLoop target it body [] env) (fun r s' => match r with | .ok f => Q f s' | .error e => cameBackBy (model prog w) A env E e s') s₂) E s := by
  have hol := (N _ hm).1
  have hne : l ≠ s.heap.objs.size := Nat.ne_of_lt (Heap.lt_size hol)
  have hls := led_list N hm
  refine wpAny_pyIter_list hls ?_
  have W := Walks.list (prog := prog) (w := w) hh s.heap.objs.size l hne vs.toArray
  have hlen : vs.toArray.size = vs.length := by simp
  rw [hlen] at W
  have hlt : ∀ p ∈ news, p.1 < s.heap.objs.size := fun p hp => Heap.lt_size (N p hp).1
  refine for_core (ol := listOf vs.toArray nn) (C := "list_iterator") (by decide) (s := { s with heap := s.heap.push _ }) W (fun i h st => let ⟨o, ho, hc, _⟩ := st.1; ⟨o, ho, hc⟩) (Nat.ne_of_lt F.ns.lt) (next_is_new F)
    ⟨⟨_, Heap.get?_push_size _ rfl, rfl, rfl⟩, hls.at fun o e => Heap.get?_push_of_some _ e⟩ (F.push _) (fun p hp => ⟨Heap.get?_push_of_some _ (N p hp).1, (N p hp).2⟩) (fun p hp => Nat.ne_of_lt (hlt p hp)) J hl h0 ?_ done hE
  intro i v m₁ nx h tk oI hi hP hJ hn hc F₁ N₁
  exact turn _ i v m₁ nx h tk oI hlt (by simpa using hP) hJ hn hc F₁ N₁

theorem for_rev {target : Expr} {body : List Stmt} {l I : Addr} {vs : List Value} {nn : Nat} {oR : Obj} {m : Str → Option Value} {news : Led} (hh : A.handled = none) (hm : (l, listOf vs.toArray nn) ∈ news) (hmR : (I, oR) ∈ news) (hcR : oR.cls = .type "list_reverseiterator") (hdR : oR.data = .fields #[.ref l, rawInt ((vs.length : Int) - 1)])
    (F : Fr h₀ env.locals s.heap m) (N : News h₀ env.locals s.heap news)
    (J : Nat → (Str → Option Value) → Led → Prop) (hl : ∀ i m nx, J i m nx → (l, listOf vs.toArray nn) ∈ nx) (h0 : J 0 m (off I news))
    (turn : ∀ i v m₁ nx h tk oI, vs.reverse[i]? = some v → J i m₁ nx → (∀ p ∈ nx, p.1 ≠ I) → oI.cls = .type "list_reverseiterator" → Fr h₀ env.locals h m₁ → News h₀ env.locals h ((I, oI) :: nx) →
      wpAny (model prog w) A (assign target env v) (fun _ s₂ => wpAny (model prog w) A (execs body env) (ForEnd h₀ env.locals s I oI (J (i + 1)) Q) E s₂) E { s with heap := h, toks := tk })
    (done : ∀ h tk m' nx, Fr h₀ env.locals h m' → News h₀ env.locals h nx → J vs.length m' nx → Q .next { s with heap := h, toks := tk })
    (hE : PassesOwn (model prog w) A env E) :
    wpAny (model prog w) A (pyIter (.ref I)) (fun it s₂ => codeAny (model prog w) A (.forLoop target it body [] env) (fun r s' => match r with | .ok f => Q f s' | .error e => cameBackBy (model prog w) A env E e s') s₂) E s := by
  have hls := led_list N hm
  have hne : l ≠ I := by
    intro e
    subst e
    have := news_fun N hm hmR
    rw [← this] at hcR
    simp [W.listOf] at hcR
  have W := Walks.listRev (prog := prog) (w := w) hh I l hne vs.toArray
  have hlen : vs.toArray.size = vs.length := by simp
  rw [hlen] at W
  have hR := N _ hmR
  refine wpAny_pyIter_revIter ⟨oR, hR.1, hcR, hdR⟩ ?_
  refine for_core (ol := listOf vs.toArray nn) (C := "list_reverseiterator") (by decide) (s := s) W (fun i h st => let ⟨o, ho, hc, _⟩ := st.2.1; ⟨o, ho, hc⟩) (Ne.symm hR.2.1) hR.2.2
    ⟨Nat.zero_le _, ⟨oR, hR.1, hcR, by simpa using hdR⟩, hls⟩ F (fun p hp => N p (mem_off.mp hp).1) (fun p hp => (mem_off.mp hp).2) J hl h0 ?_ done hE
  intro i v m₁ nx h tk oI hi hP hJ hn hc F₁ N₁
  refine turn i v m₁ nx h tk oI ?_ hJ hn hc F₁ N₁
  rw [List.getElem?_reverse hi]
  simpa using hP
end
theorem take_out {h₀ h : Heap} {L P : Addr} {o : Obj} {news : Led} {G : Prop} (N : News h₀ L h news) (hm : (P, o) ∈ news)
    (k : ∀ rest, News h₀ L h ((P, o) :: rest) → (∀ p ∈ rest, p.1 ≠ P) → (∀ p ∈ news, p.1 ≠ P → p ∈ rest) → (∀ p ∈ rest, p ∈ news) → G) : G :=
  k (off P news) (news_off N hm) (fun _ hp => (mem_off.mp hp).2) (fun _ hp hn => mem_off.mpr ⟨hp, hn⟩) fun _ hp => (mem_off.mp hp).1
section
variable {prog : Program} {w : World} {A : Around} {E : Value → Shared → Prop} {s : Shared} {h₀ : Heap} {L D : Addr} {m : Str → Option Value} {news : Led} {vs : List Value} {n : Nat} {x : Value}
theorem led_append {Q : Value → Shared → Prop} (F : Fr h₀ L s.heap m) (N : News h₀ L s.heap news) (hm : (D, listOf vs.toArray n) ∈ news) (hz : vs.length ≤ sizeLine)
    (h : ∀ h' rest, Fr h₀ L h' m → News h₀ L h' ((D, listOf (vs ++ [x]).toArray (n + 1)) :: rest) → (∀ p ∈ rest, p.1 ≠ D) → (∀ p ∈ news, p.1 ≠ D → p ∈ rest) → (∀ p ∈ rest, p ∈ news) → Q .none { s with heap := h' }) : wpAny (model prog w) A (call (.builtin "list.append") [.ref D, x]) Q E s :=
  take_out N hm fun rest N2 a b c => append_K F N2 (Upd.head a) (fun h' F' N' => h h' rest F' (by simpa using N') a b c) (by simpa using hz)
theorem led_reverse {Q : Value → Shared → Prop} (F : Fr h₀ L s.heap m) (N : News h₀ L s.heap news) (hm : (D, listOf vs.toArray n) ∈ news) (hz : vs.length ≤ sizeLine)
    (h : ∀ h' rest, Fr h₀ L h' m → News h₀ L h' ((D, listOf vs.reverse.toArray n) :: rest) → (∀ p ∈ rest, p.1 ≠ D) → (∀ p ∈ news, p.1 ≠ D → p ∈ rest) → (∀ p ∈ rest, p ∈ news) → Q .none { s with heap := h' }) : wpAny (model prog w) A (call (.builtin "list.reverse") [.ref D]) Q E s :=
  take_out N hm fun rest N2 a b c => kl_reverse F N2 rfl (Upd.head a) (by simpa using hz) (fun h' F' N' => h h' rest F' (by simpa using N') a b c)
end
theorem Tb.sub {news news' : Led} (h : Tb news) (hs : ∀ p ∈ news, p ∈ news') : Tb news' := h.mono fun p hp _ => hs p hp
section
variable {M : Model} {A : Around} {E : Value → Shared → Prop} {s : Shared}
/-- what is wanted behind a tree, as one letter: the proof's terms stay small -/
theorem gen_q {α : Type} {t : Sem α} {R : α → Shared → Prop} (h : ∀ R' : α → Shared → Prop, (∀ x s', R x s' → R' x s') → wpAny M A t R' E s) : wpAny M A t R E s := h R fun _ _ h => h
theorem gen_r {α β : Type} {t : Sem α} {u : Sem β} {R : β → Shared → Prop} (h : ∀ R' : β → Shared → Prop, (∀ x s', R x s' → R' x s') → wpAny M A t (fun _ s₂ => wpAny M A u R' E s₂) E s) : wpAny M A t (fun _ s₂ => wpAny M A u R E s₂) E s := h R fun _ _ h => h
theorem gen_w {β : Type} {t : Sem Bool} {u : Sem β} {R : β → Shared → Prop} {Z : Shared → Prop} (h : ∀ R' : β → Shared → Prop, (∀ x s', R x s' → R' x s') → wpAny M A t (fun b s₂ => if b = true then wpAny M A u R' E s₂ else Z s₂) E s) : wpAny M A t (fun b s₂ => if b = true then wpAny M A u R E s₂ else Z s₂) E s := h R fun _ _ h => h
theorem gen_c {β : Type} {t : Sem β} {u : Sem Bool} {el : Sem Value} {C : List Value → Shared → Prop} {vs : List Value} {E1 E2 : Value → Shared → Prop} (h : ∀ C' : List Value → Shared → Prop, (∀ us s', C us s' → C' us s') → wpAny M A t (fun _ s₂ => wpAny M A u (fun ok s₃ => if ok = true then wpAny M A el (fun x s₄ => C' (vs ++ [x]) s₄) E1 s₃ else C' vs s₃) E2 s₂) E s) :
    wpAny M A t (fun _ s₂ => wpAny M A u (fun ok s₃ => if ok = true then wpAny M A el (fun x s₄ => C (vs ++ [x]) s₄) E1 s₃ else C vs s₃) E2 s₂) E s := h C fun _ _ h => h
end
theorem clean_M5 : True := by
  w_top off
  k_with "exec For Name Call cons nil" => (refine stop ?_)
  k_with "exec For Tuple Name cons nil" => (refine stop ?_)
  k_with "exec For Tuple Name cons cons nil" => (refine stop ?_)
  k_with "exec For" => (refine stop ?_)
  k_with "pyIter ref" => (refine stop ?_)
  k_with "call type:reversed" => ((k_here; (with_reducible show wpAny _ _ (call (Value.type _) [Value.ref _]) _ _ _); k_dflt (refine' krv_reversed ?Fz13 ?Nz13 ?lz13 ?_; (case Fz13 => k_asm); (case Nz13 => k_asm); (case lz13 => exact led_list (by k_asm) (by k_mem))); intro D' h' F' N' l1))
  k_with "call builtin:list.append" => ((k_here; (with_reducible show wpAny _ _ (call (Value.builtin _) [Value.ref _, _]) _ _ _); k_dflt (refine' led_append ?Fz14 ?Nz14 ?lz14 ?zz14 ?_; (case Fz14 => k_asm); (case Nz14 => k_asm); (case lz14 => k_mem); (case zz14 => walk_at "my_sz")); intro hA rA FA NA aA bA cA))
  k_with "call builtin:list.reverse" => ((k_here; (with_reducible show wpAny _ _ (call (Value.builtin _) [Value.ref _]) _ _ _); k_dflt (refine' led_reverse ?Fz15 ?Nz15 ?lz15 ?zz15 ?_; (case Fz15 => k_asm); (case Nz15 => k_asm); (case lz15 => k_mem); (case zz15 => walk_at "my_sz")); intro hA rA FA NA aA bA cA))
  k_with "my call" => (refine stop ?_)
  trivial
theorem val2_digs {n : Nat} : ∀ {c v : Nat}, v < 2 ^ (n * c) → val2 n (digs n v c) = v
  | 0, v, h => by
    rw [Nat.mul_zero, Nat.pow_zero] at h
    have : v = 0 := by omega
    subst this; rfl
  | c + 1, v, h => by
    show ((v % 2 ^ n : Nat) : Int) + val2 n (digs n (v / 2 ^ n) c) * 2 ^ n = v
    have h2 : v / 2 ^ n < 2 ^ (n * c) := by
      refine Nat.div_lt_of_lt_mul ?_
      rw [← Nat.pow_add]
      rw [Nat.mul_add, Nat.mul_one, Nat.add_comm] at h
      exact h
    rw [val2_digs h2]
    have h3 := Nat.mod_add_div v (2 ^ n)
    rw [Nat.mul_comm] at h3
    exact_mod_cast h3
theorem dstep_bound {r b d : Int} {n : Nat} (hr0 : 0 ≤ r) (hrb : r < b) (hd0 : 0 ≤ d) (hdn : d < 2 ^ n) (hb2 : b < 2 ^ 5) (hn : n ≤ 5) : 0 ≤ r * 2 ^ (n : Int).toNat + d ∧ r * 2 ^ (n : Int).toNat + d < 2 ^ 40 := by
  rw [Int.toNat_natCast]
  have hB : (2 : Int) ^ n ≤ 32 := by exact_mod_cast Nat.pow_le_pow_right (n := 2) (by decide) hn
  have h1 : 0 ≤ r * 2 ^ n := Int.mul_nonneg hr0 (by omega)
  have h2 : r * 2 ^ n ≤ 32 * 32 := Int.mul_le_mul (by omega) hB (by omega) (by omega)
  omega
theorem dstep {r b d H Q : Int} {n : Nat} (hH : H = Q * b + r) (hr0 : 0 ≤ r) (hrb : r < b) (hd0 : 0 ≤ d) (hdn : d < 2 ^ n) :
    0 ≤ (r * 2 ^ (n : Int).toNat + d) / b ∧ (r * 2 ^ (n : Int).toNat + d) / b < 2 ^ n ∧ 0 ≤ (r * 2 ^ (n : Int).toNat + d) % b ∧ (r * 2 ^ (n : Int).toNat + d) % b < b ∧
      d + H * 2 ^ n = ((r * 2 ^ (n : Int).toNat + d) / b + Q * 2 ^ n) * b + (r * 2 ^ (n : Int).toNat + d) % b := by
  rw [Int.toNat_natCast]
  generalize (2 : Int) ^ n = B at *
  have h1 : 0 ≤ r * B := Int.mul_nonneg hr0 (by omega)
  have h2 : (r + 1) * B ≤ b * B := Int.mul_le_mul_of_nonneg_right (by omega) (by omega)
  rw [Int.add_mul, Int.one_mul] at h2
  refine ⟨Int.ediv_nonneg (by omega) (by omega), Int.ediv_lt_of_lt_mul (by omega) (by rw [Int.mul_comm B b]; omega), Int.emod_nonneg _ (by omega), Int.emod_lt_of_pos _ (by omega), ?_⟩
  have h3 := Int.emod_add_mul_ediv (r * B + d) b
  rw [hH, Int.add_mul, Int.add_mul, Int.mul_right_comm Q B b]
  rw [Int.mul_comm b _] at h3
  omega
theorem c_dmp (w : World) (news : Led) (a b : Int) (ta tb : Tok) (ha : 0 ≤ a) (ha2 : a < 2 ^ 20) (hb : 2 ≤ b) (hb2 : b < 2 ^ 5) (hTb : Tb news) :
    Con w 25 400 news 243 [.int a ta, .int b tb] []
   (fun r news' => (∃ (q : Addr) (t1 t2 : Tok), r = .ref q ∧ (q, tupO #[.int (a / b) t1, .int (a % b) t2]) ∈ news' ) ∧ Tb news' ∧ KeepU news news') := by
  unfold Con
  intro p loose mean mg mb dp un gd cn cs ad ccd cl outer A₀ base h₀ L m s Q E B F X N T hk hd hu hret
  dsimp only [KK] at X
  have hn5 := bits_le_of (a := b) (k := 5) (by omega) hb2
  have hnb := lt_bits (a := b) (by omega)
  have hn2 : 2 ≤ Builtin.Int.intBits b := by
    have : Builtin.Int.intBits b ≠ 0 ∧ Builtin.Int.intBits b ≠ 1 := ⟨fun e => by rw [e] at hnb; omega, fun e => by rw [e] at hnb; omega⟩
    omega
  generalize hnn : Builtin.Int.intBits b = n at *
  refine wpAny_call ?_
  k_dflt (walk_at "my_enter")
  k_with "my call" => (refine stop ?_)
  k_with "my call" => (refine' Con.use (c_i2d w _ _ _ _ _ ha ha2 ?q1 ?q2 ?q3) ?cB ?cF ?cX ?cN ?cT ?ch ?cf ?ck ?cd ?cu ?_; walk_at "my_use"; (case q3 => assumption); (case q1 => omega); (case q2 => omega); intro r' news' h' tk' F' N' P'; refine Classical.byContradiction fun hG9 => ?_; obtain ⟨⟨dl, dvs, c, nn, rfl, hdl, hdv, hc, hlt⟩, hTb', hK'⟩ := P'; refine hG9 ?_; clear hG9)
  k_steps
  unfold Stop
  rw [hnn, Int.toNat_natCast] at hdv hlt
  refine wpAny_For ?_
  k_steps
  unfold Stop
  rename_i ql _ hql _ _ _
  obtain ⟨ds, hds⟩ : ∃ ds, digs n a.toNat c = ds := ⟨_, rfl⟩
  have hdl0 : ds.length = c := by rw [← hds, digs_len]
  rw [hnn] at F'
  have hvl : dvs.length = c := by rw [hdv.length, hds, hdl0]
  refine for_rev (l := dl) (vs := dvs) (nn := nn) rfl (.tail _ (.tail _ hdl)) (.head _) rfl rfl F' N'
    (fun i m nx => ∃ (r : Int) (tr tn tbb : Tok) (qvs : List Value) (qs : List Int) (nq : Nat), (∀ p ∈ news', p ∈ nx) ∧ m (Str.ofString "b") = some (.int b tbb) ∧ m (Str.ofString "n") = some (.int n tn) ∧ m (Str.ofString "r") = some (.int r tr) ∧ m (Str.ofString "q_digits") = some (.ref ql) ∧
      (ql, listOf qvs.toArray nq) ∈ nx ∧ IntsAre qvs qs ∧ qs.length = i ∧ (∀ d ∈ qs, 0 ≤ d ∧ d < 2 ^ n) ∧ 0 ≤ r ∧ r < b ∧ val2 n (ds.drop (c - i)) = val2 n qs.reverse * b + r) (fun i m nx hJ => ?_) ?_ ?_ ?_ ?_
  · obtain ⟨r, tr, tn, tbb, qvs, qs, nq, hs, _⟩ := hJ
    exact hs _ hdl
  · refine ⟨0, _, _, _, [], [], 0, fun p hp => mem_off.mpr ⟨.tail _ (.tail _ hp), ?_⟩, rfl, rfl, rfl, rfl, ?_, .nil, rfl, ?_, Int.le_refl _, by omega, ?_⟩
    · exact Nat.ne_of_lt (l1 _ (.tail _ hp))
    · exact mem_off.mpr ⟨.tail _ (.head _), Nat.ne_of_lt (l1 _ (.head _))⟩
    · nofun
    · rw [Nat.sub_zero, ← hdl0, List.drop_length]; simp [val2]
  · intro i v m₁ nx h tk₁ oI hv hJ hI hcI F1 N1
    refine gen_r fun R9 hR9 => ?_
    refine Classical.byContradiction fun hG9 => ?_
    obtain ⟨r, tr, tn, tbb, qvs, qs, nq, hs, e1, e2, e3, e4, hq, hqv, hqi, hqs, hr0, hrb, hval⟩ := hJ
    refine hG9 ?_
    clear hG9
    replace F1 := know4 F1 e1 e2 e3 e4
    refine take_out N1 (.tail _ hq) fun rest N2 hof hin hout => ?_
    clear N1 F' N'
    have hqz : qvs.length ≤ 10 := by rw [hqv.length, hqi]; have := (List.getElem?_eq_some_iff.mp hv).1; rw [List.length_reverse] at this; omega
    have hic : i < c := by
      have := (List.getElem?_eq_some_iff.mp hv).1
      rw [List.length_reverse] at this; omega
    refine Classical.byContradiction fun hG9 => ?_
    obtain ⟨d, td, rfl, hd9⟩ := hdv.reverse.at i v hv
    refine hG9 ?_
    clear hG9
    rw [hds, List.getElem?_reverse (by omega), hdl0] at hd9
    obtain ⟨hd0, hdn⟩ : 0 ≤ d ∧ d < 2 ^ n := digs_lt n c a.toNat d (hds ▸ List.mem_of_getElem? hd9)
    have hX := dstep_bound hr0 hrb hd0 hdn hb2 (show n ≤ 5 by omega)
    have hst := dstep (Q := val2 n qs.reverse) hval hr0 hrb hd0 hdn
    have hdrop : ds.drop (c - (i + 1)) = d :: ds.drop (c - i) := by
      obtain ⟨h1, h2⟩ := List.getElem?_eq_some_iff.mp hd9
      have e1 : c - (i + 1) = c - 1 - i := by omega
      have e2 : c - i = c - 1 - i + 1 := by omega
      rw [e1, e2, List.drop_eq_getElem_cons h1, h2]
    k_with "my call" => (refine stop ?_)
    k_with "my call" => (refine' Con.use (c_div2n1n w _ _ _ _ _ _ _ hX.1 hX.2 ?q1 ?q2 ?q3) ?cB ?cF ?cX ?cN ?cT ?ch ?cf ?ck ?cd ?cu ?_; walk_at "my_use"; (case q1 => omega); (case q2 => omega); (case q3 => omega); intro r' news' h' tk' F' N' P'; refine Classical.byContradiction fun hG9 => ?_; obtain ⟨qt, t1, t2, rfl, rfl, hqt⟩ := P'; refine hG9 ?_; clear hG9)
    k_steps
    refine hR9 _ _ ?_
    refine ⟨hA, _, _, _, rfl, FA, NA, .tail _ (bA _ (.tail _ (.tail _ (hin _ (.head _) (Ne.symm (hI _ hq))))) (Ne.symm (hI _ hq))), fun nx2 h2 => ?_⟩
    refine ⟨_, _, _, _, _, qs ++ [_], _, fun p hp => h2 p (.tail _ (bA _ (.tail _ (.tail _ (hin p (.tail _ (hs p hp)) (Nat.ne_of_lt (hql p hp))))) (Nat.ne_of_lt (hql p hp)))) (hI p (hs p hp)), rfl, rfl, rfl, rfl, h2 _ (.head _) (show ql ≠ D' from hI _ hq), hqv.append (.cons _ _ .nil), by rw [List.length_append, hqi]; rfl, ?_, hst.2.2.1, hst.2.2.2.1, ?_⟩
    · intro e he
      rcases List.mem_append.mp he with he | he
      · exact hqs e he
      · rw [List.mem_singleton.mp he]; exact ⟨hst.1, hst.2.1⟩
    · rw [hdrop, List.reverse_append]; exact hst.2.2.2.2
  · intro h tk₁ m₁ nx F1 N1 hJ
    refine Classical.byContradiction fun hG9 => ?_
    obtain ⟨r, tr, tn, tbb, qvs, qs, nq, hs, e1, e2, e3, e4, hq, hqv, hqi, hqs, hr0, hrb, hval⟩ := hJ
    refine hG9 ?_
    clear hG9
    replace F1 := know4 F1 e1 e2 e3 e4
    clear F' N'
    rw [hvl, Nat.sub_self, List.drop_zero, ← hds, val2_digs hlt, Int.toNat_of_nonneg ha] at hval
    have hqz : qvs.length ≤ 10 := by rw [hqv.length, hqi]; omega
    have hqr : ∀ d ∈ qs.reverse, 0 ≤ d ∧ d < 2 ^ (n : Int).toNat := fun d hd => hqs d (List.mem_reverse.mp hd)
    have hdiv : val2 n qs.reverse = a / b := by
      rw [hval, Int.add_comm, Int.add_mul_ediv_right _ _ (by omega), Int.ediv_eq_zero_of_lt hr0 hrb, Int.zero_add]
    have hmod : r = a % b := by
      rw [hval, Int.add_comm, Int.add_mul_emod_self_right, Int.emod_eq_of_lt hr0 hrb]
    k_with "my call" => (refine stop ?_)
    k_with "my call" => (refine' Con.use (c_d2i w _ _ _ _ _ _ _ ?q1 ?q2 hqv.reverse ?q3 hqr (.head _) (hTb'.sub fun p hp => .tail _ (bA p (hs p hp) (Nat.ne_of_lt (hql p hp))))) ?cB ?cF ?cX ?cN ?cT ?ch ?cf ?ck ?cd ?cu ?_; walk_at "my_use"; (case q1 => omega); (case q2 => omega); (case q3 => (rw [List.length_reverse, hqi]; omega)); intro r' news' h' tk' F' N' P'; refine Classical.byContradiction fun hG9 => ?_; obtain ⟨⟨t', rfl⟩, hTb2, hK2⟩ := P'; refine hG9 ?_; clear hG9)
    k_steps
    rename_i kF kN _ _
    rw [hdiv, hmod] at kN
    exact hret _ _ _ _ kF kN ⟨⟨_, _, _, rfl, .head _⟩, hTb2.sub fun p hp => .tail _ hp, fun p hp hu => .tail _ (hK2 p (.tail _ (bA p (hs p (hK' p hp hu)) (Nat.ne_of_lt (hql p (hK' p hp hu))))) hu)⟩
  · passes_own
theorem c_idm (w : World) (news : Led) (a b : Int) (ta tb : Tok) (ha : 0 ≤ a) (ha2 : a < 2 ^ 20) (hb : 2 ≤ b) (hb2 : b < 2 ^ 5) (hTb : Tb news) :
    Con w 30 430 news 250 [.int a ta, .int b tb] []
   (fun r news' => (∃ (q : Addr) (t1 t2 : Tok), r = .ref q ∧ (q, tupO #[.int (a / b) t1, .int (a % b) t2]) ∈ news') ∧ Tb news' ∧ KeepU news news') := by
  unfold Con
  intro p loose mean mg mb dp un gd cn cs ad ccd cl outer A₀ base h₀ L m s Q E B F X N T hk hd hu hret
  dsimp only [KK] at X
  refine wpAny_call ?_
  k_dflt (walk_at "my_enter")
  k_with "my call" => (refine stop ?_)
  k_with "my call" => (refine' Con.use (c_dmp w _ _ _ _ _ ha ha2 hb hb2 hTb) ?cB ?cF ?cX ?cN ?cT ?ch ?cf ?ck ?cd ?cu ?_; walk_at "my_use"; intro r' news' h' tk' F' N' P')
  k_steps
  · exfalso; omega
  · rename_i kF kN _ _
    exact hret _ _ _ _ kF kN P'
section
variable {prog : Program} {w : World} {A : Around} {E : Value → Shared → Prop} {s : Shared} {env : Env} {h₀ : Heap} {Q : Flow → Shared → Prop}

def ForEndD (h₀ : Heap) (L : Addr) (s : Shared) (I : Addr) (oI : Obj) (J : (Str → Option Value) → Led → Prop) (Q : Flow → Shared → Prop) (f : Flow) (s₃ : Shared) : Prop :=
  match f with
  | .ret v => Q (.ret v) s₃
  | .brk => Q .next s₃
  | _ => ∃ h' tk' dr' m' nx', s₃ = { s with heap := h', toks := tk', drawn := dr' } ∧ Fr h₀ L h' m' ∧ News h₀ L h' nx' ∧ (I, oI) ∈ nx' ∧ ∀ nx2, (∀ p ∈ nx', p.1 ≠ I → p ∈ nx2) → J m' nx2

def WhileStepD (h₀ : Heap) (L : Addr) (s : Shared) (J : Nat → (Str → Option Value) → Led → Prop) (Q : Flow → Shared → Prop) (n : Nat) (f : Flow) (s₃ : Shared) : Prop :=
  match f with
  | .next | .cont => ∃ h' tk dr m₂ news₂ n', s₃ = { s with heap := h', toks := tk, drawn := dr } ∧ Fr h₀ L h' m₂ ∧ News h₀ L h' news₂ ∧ n' < n ∧ J n' m₂ news₂
  | .brk => Q .next s₃
  | .ret v => Q (.ret v) s₃
theorem While_invD {L : Addr} {test : Expr} {body : List Stmt} {pos : Pos} {m : Str → Option Value} {news : Led} (J : Nat → (Str → Option Value) → Led → Prop) {n₀ : Nat}
    (F : Fr h₀ L s.heap m) (N : News h₀ L s.heap news) (hJ : J n₀ m news)
    (turn : ∀ n m₁ news₁ h₁ tk₁ dr₁, Fr h₀ L h₁ m₁ → News h₀ L h₁ news₁ → J n m₁ news₁ →
      wpAny (model prog w) A (isTrue test env (eval test env)) (fun b s₂ =>
        if b = true then wpAny (model prog w) A (execs body env) (WhileStepD h₀ L s J Q n) E s₂ else Q .next s₂) E { s with heap := h₁, toks := tk₁, drawn := dr₁ })
    (hE : PassesOwn (model prog w) A env E) :
    wpAny (model prog w) A (exec (.While test body [] pos) env) Q E s := by
  refine wpAny_While (codeAny_whileLoop (fun n s' => ∃ h₁ tk₁ dr₁ m₁ news₁, s' = { s with heap := h₁, toks := tk₁, drawn := dr₁ } ∧ Fr h₀ L h₁ m₁ ∧ News h₀ L h₁ news₁ ∧ J n m₁ news₁) ?_ n₀ ⟨s.heap, s.toks, s.drawn, m, news, rfl, F, N, hJ⟩)
  rintro n s' ⟨h₁, tk₁, dr₁, m₁, news₁, rfl, F₁, N₁, J₁⟩
  refine wpAny_mono (turn n m₁ news₁ h₁ tk₁ dr₁ F₁ N₁ J₁) (fun b s₂ h₂ => ?_) hE
  cases b with
  | false =>
    simp only [Bool.false_eq_true, if_false] at h₂ ⊢
    exact wpAny_execs_nil h₂
  | true =>
    simp only [if_true] at h₂ ⊢
    refine wpAny_mono h₂ (fun f s₃ h₃ => ?_) hE
    cases f with
    | next =>
      refine Classical.byContradiction fun hG9 => ?_
      obtain ⟨h', tk, dr, m₂, news₂, n', rfl, F₂, N₂, hn, J₂⟩ := h₃
      refine hG9 ?_
      clear hG9
      exact ⟨n', hn, h', tk, dr, m₂, news₂, rfl, F₂, N₂, J₂⟩
    | cont =>
      refine Classical.byContradiction fun hG9 => ?_
      obtain ⟨h', tk, dr, m₂, news₂, n', rfl, F₂, N₂, hn, J₂⟩ := h₃
      refine hG9 ?_
      clear hG9
      exact ⟨n', hn, h', tk, dr, m₂, news₂, rfl, F₂, N₂, J₂⟩
    | brk => exact h₃
    | ret v => exact h₃
end
def ConD (w : World) (d u : Nat) (news : Led) (f : Addr) (vs : List Value) (kw : List (Str × Value)) (Post : Value → Led → Prop) : Prop :=
  ∀ (p : Program) (loose : List Str) (mean : ExcName → Option Value) (mg mb : Str → Option Value) (dp un : Nat) (gd : Option (List Code)) (cn : Str) (cs : Scope) (a : Addr) (ccd : Value) (cl : List (Str × Addr)) (outer : List Env) (A₀ : Around) (base h₀ : Heap) (L : Addr) (m : Str → Option Value) (s : Shared)
    (Q E : Value → Shared → Prop),
    Below A₀ base outer h₀ → Fr h₀ L s.heap m → (KK w).In h₀ → News h₀ L s.heap news → Top p loose mean mg mb h₀ → cs.kind = .function → dp + d < recursionLimit → un + u < cLine →
    (∀ r news' h' tk' dr', Fr h₀ L h' m → News h₀ L h' news' → Post r news' → Q r { s with heap := h', toks := tk', drawn := dr' }) →
    wpAny (model PG w) (ktrTop dp un gd cn cs L a ccd cl outer) (call (.ref f) vs kw) Q E s
theorem Con.toD {w : World} {d u : Nat} {news : Led} {f : Addr} {vs : List Value} {kw : List (Str × Value)} {Post : Value → Led → Prop} (C : Con w d u news f vs kw Post) : ConD w d u news f vs kw Post := by
  intro p loose mean mg mb dp un gd cn cs a ccd cl outer A₀ base h₀ L m s Q E B F X N T hk hd hu ret
  exact C p loose mean mg mb dp un gd cn cs a ccd cl outer A₀ base h₀ L m s Q E B F X N T hk hd hu fun r n h t F' N' P => ret r n h t s.drawn F' N' P
theorem ConD.use {w : World} {d u : Nat} {news : Led} {f : Addr} {vs : List Value} {kw : List (Str × Value)} {Post : Value → Led → Prop} (C : ConD w d u news f vs kw Post)
    {p : Program} {loose : List Str} {mean : ExcName → Option Value} {mg mb : Str → Option Value} {A : Around} {cn : Str} {cs : Scope} {a : Addr} {ccd : Value} {cl : List (Str × Addr)} {outer : List Env} {A₀ : Around} {base h₀ : Heap} {L : Addr} {m : Str → Option Value} {s : Shared}
    {Q E : Value → Shared → Prop} (B : Below A₀ base outer h₀) (F : Fr h₀ L s.heap m) (X : (KK w).In h₀) (N : News h₀ L s.heap news) (T : Top p loose mean mg mb h₀) (hh : A.handled = none) (hf : A.frames = some (envX cn cs L a ccd cl :: outer)) (hk : cs.kind = .function)
    (hd : A.depth + d < recursionLimit) (hu : A.units + u < cLine)
    (ret : ∀ r news' h' tk' dr', Fr h₀ L h' m → News h₀ L h' news' → Post r news' → Q r { s with heap := h', toks := tk', drawn := dr' }) :
    wpAny (model PG w) A (call (.ref f) vs kw) Q E s := by
  refine Classical.byContradiction fun hG9 => ?_
  obtain ⟨hd1, dp, fr, gs, un⟩ := A
  refine hG9 ?_
  clear hG9
  cases hh
  cases hf
  exact C p loose mean mg mb dp un gs cn cs a ccd cl outer A₀ base h₀ L m s Q E B F X N T hk hd hu ret
section
variable {M : Model} {A : Around} {E : Value → Shared → Prop} {s : Shared}
theorem wpAny_choose1 {src : Source} {Q : Nat → Shared → Prop} (h : Q 0 { s with drawn := s.drawn.bump src }) : wpAny M A (choose src 1) Q E s := by
  intro Γ p hΓ
  refine ⟨by decide, ?_⟩
  show Q (_ % 1) _
  rw [Nat.mod_one]; exact h
end
section
variable {prog : Program} {w : World} {A : Around} {E : Value → Shared → Prop} {s : Shared}
theorem wpAny_setPop1 {a : Addr} {o : Obj} {e : Int × Value} {ep : Nat} {t : SetTable} {Q : Option Value → Shared → Prop}
    (ho : s.heap.get? a = some o) (hd : o.data = .set #[e] ep t) (hf : t.fits 1 = true) (h : ∀ t' dr', t'.fits 0 = true → Q (some e.2) { s with heap := s.heap.update a (Obj.putSet #[] t'), drawn := dr' }) :
    wpAny (model prog w) A (setPop a) Q E s := by
  unfold setPop
  refine wpAny_bind (wpAny_setState_of ho hd (by simpa using hf) ?_)
  have hf' := hf
  simp only [SetTable.fits, Bool.and_eq_true, beq_iff_eq, decide_eq_true_eq] at hf'
  obtain ⟨hp1, hp2⟩ := hf'
  have hpp : t.popPlace = some 0 := by
    have he : t.place.isEmpty = false := by
      rw [Array.isEmpty_eq_false_iff]; intro h0; rw [h0] at hp1; cases hp1
    unfold SetTable.popPlace
    rw [he]
    simp only [Bool.false_eq_true, if_false]
    split
    · congr 1; omega
    · rfl
  dsimp only
  rw [hpp]
  dsimp only
  have hfit : (t.popped 0).fits 0 = true := by
    refine Classical.byContradiction fun hG9 => ?_
    obtain ⟨mask, place, dummies, finger, led, moves, plain⟩ := t
    refine hG9 ?_
    clear hG9
    obtain ⟨j, rfl⟩ : ∃ j, place = #[j] := Array.size_eq_one_iff.mp hp1
    have hsz : ∀ (xs : Array Nat) (p x : Nat), (SetTable.insertAt xs p x).size = xs.size + 1 := by
      intro xs p x
      unfold SetTable.insertAt
      simp only [Array.size_append, Array.size_push, Array.size_extract]
      omega
    simp only [SetTable.fill] at hp2
    show (SetTable.fits { mask := mask, place := #[], dummies := SetTable.insertAt dummies (SetTable.below dummies j) j, finger := j + 1, led := led, moves := moves, plain := plain } 0) = true
    simp only [SetTable.fits, SetTable.fill, Bool.and_eq_true, beq_iff_eq, decide_eq_true_eq, hsz]
    refine ⟨rfl, ?_⟩
    have : (#[j] : Array Nat).size = 1 := rfl
    have : (#[] : Array Nat).size = 0 := rfl
    omega
  have core : ∀ dr', wpAny (model prog w) A (do storeSet a (SetTable.eraseAt #[e] 0) (t.popped 0); return some e.2) Q E { s with drawn := dr' } := fun dr' =>
    wpAny_bind (wpAny_storeSet_of ho hd (wpAny_pure (h _ dr' hfit)) (Nat.zero_le _))
  unfold setsByText
  refine wpAny_bind (wpAny_bind (wpAny_askSetting (wpAny_pure ?_)))
  split
  · exact wpAny_bind (wpAny_choose1 (core _))
  · refine wpAny_bind ?_
    have hm : ∀ {Q' : Unit → Shared → Prop} (b : Bool), Q' () s → wpAny (model prog w) A (if (!b && decide ((#[e] : Array (Int × Value)).size > 1)) = true then unsupported "set:maker-not-led" else pure ()) Q' E s := by
      intro Q' b hq
      cases b <;> exact wpAny_pure hq
    refine hm t.led ?_
    exact wpAny_bind (wpAny_pure (core s.drawn))
theorem led_setPop {h₀ : Heap} {L d : Addr} {m : Str → Option Value} {news : Led} {o : Obj} {S : Int → Bool} {x : Int} {Q : Value → Shared → Prop}
    (F : Fr h₀ L s.heap m) (N : News h₀ L s.heap news) (hm : (d, o) ∈ news) (hs : o.SetObjOf (intKind prog w) S 1) (hx : S x = true)
    (h : ∀ t h' o' dr' rest, Fr h₀ L h' m → News h₀ L h' ((d, o') :: rest) → o'.SetObjOf (intKind prog w) (fun _ => false) 0 → (∀ p ∈ rest, p.1 ≠ d) → (∀ p ∈ news, p.1 ≠ d → p ∈ rest) → (∀ p ∈ rest, p ∈ news) → Q (.int x t) { s with heap := h', drawn := dr' }) :
    wpAny (model prog w) A (call (.builtin "set.pop") [.ref d]) Q E s := by
  refine Classical.byContradiction fun hG9 => ?_
  obtain ⟨hex, es, ep, t, hd, hel, hmem, hn, hf⟩ := hs
  refine hG9 ?_
  clear hG9
  obtain ⟨e, rfl⟩ : ∃ e, es = #[e] := Array.size_eq_one_iff.mp hn
  obtain ⟨e', he', hk⟩ := (hmem x).mp hx
  obtain rfl : e' = e := by simpa using he'
  obtain ⟨tx, hv⟩ := Value.isInt_shape hk
  have z := N _ hm
  refine wpAny_call_entry PySem.F.slot_set_pop ⟨_, z.1, hex.1⟩ PySem.F.entry_set_pop ?_ (PySem.F.args_set_pop_1 _)
  unfold Builtin.«set.pop»
  refine wpAny_bind (wpAny_of_eq (a := d) rfl (wpAny_bind (wpAny_setPop1 z.1 hd hf fun t' dr' hft => ?_)))
  dsimp only
  have hg : (s.heap.update d (Obj.putSet #[] t')).get? d = some { o with data := .set #[] (ep + 1) t' } := by
    have := Heap.get?_update_self (Obj.putSet #[] t') z.1 (by rw [putSet_of #[] t' hd]; rfl)
    rw [putSet_of #[] t' hd] at this; exact this
  have hsb : Heap.SameBut d s.heap (s.heap.update d (Obj.putSet #[] t')) := Heap.SameBut.update ..
  refine take_out N hm fun rest N2 a b c => ?_
  refine wpAny_pure ⟨_, rfl, ?_⟩
  rw [hv]
  refine h tx _ { o with data := .set #[] (ep + 1) t' } dr' rest (F.change hsb z.2.1 z.2.2) (fun p hp => ?_) ⟨⟨hex.1, hex.2.1, hex.2.2⟩, #[], ep + 1, t', rfl, fun e he => by simp at he, fun k => by simp, rfl, hft⟩ a b c
  rcases List.mem_cons.mp hp with rfl | hp
  · exact ⟨hg, z.2⟩
  · have := N2 p (.tail _ hp)
    exact ⟨(hsb.2 _ (a p hp)).trans this.1, this.2⟩
theorem noBool_set : typeLookup (.type "set") (Str.ofString "__bool__") = pure none := by rw [typeLookup_type, builtinLookup_eq_fast]; kernel_rfl
theorem wpAny_truthy_set {a : Addr} {o : Obj} {es : Array (Int × Value)} {ep : Nat} {t : SetTable} {Q : Bool → Shared → Prop}
    (ho : s.heap.get? a = some o) (hex : o.ExactSet) (hd : o.data = .set es ep t) (hf : t.fits es.size = true) (hfit : (es.size : Int) < 2 ^ 63)
    (h : Q (decide (es.size ≠ 0)) { s with toks := s.toks + 1 + 1 }) : wpAny (model prog w) A (truthy (.ref a)) Q E s := by
  have hT : s.TypeIs (.ref a) "set" := ⟨o, ho, hex.1⟩
  have hne : ((es.size : Int) != 0) = decide (es.size ≠ 0) := by
    by_cases e : es.size = 0
    · rw [e]; rfl
    · rw [decide_eq_true e]; exact bne_iff_ne.mpr (by omega)
  have key : wpAny (model prog w) A (runValue (.builtin "len" ⟨[.ref a], []⟩)) (fun r s' => r = .int es.size (s.toks + 1) ∧ Q (decide (es.size ≠ 0)) s') E s := by
    refine wpAny_runValue (codeAny_builtin entry_len ?_)
    rw [Around.under_plainId plain_len _]
    exact wpAny_mono (wpAny_len_body_set (Q := fun r s' => r = .int es.size (s.toks + 1) ∧ Q (decide (es.size ≠ 0)) s') ho hex hd hf hfit ⟨rfl, h⟩)
      (fun fin s' h' => by obtain ⟨r, rfl, hq⟩ := h'; exact hq) fun _ _ e => e
  unfold truthy
  first
    | refine wpAny_bind (wpAny_callSpecial?_none (name := Str.ofString "__bool__") hT noBool_set ?_)
    | refine wpAny_bind (wpAny_pure (wpAny_bind (wpAny_callSpecial?_none (name := Str.ofString "__bool__") hT noBool_set ?_)))
  first
    | refine wpAny_bind (wpAny_specialOf (name := Str.ofString "__len__") hT F.slot_set_len.lookup ?_)
    | refine wpAny_bind (wpAny_pure (wpAny_bind (wpAny_specialOf (name := Str.ofString "__len__") hT F.slot_set_len.lookup ?_)))
  first
    | exact wpAny_bind (wpAny_mono key (fun r s' h' => by obtain ⟨rfl, hq⟩ := h'; exact wpAny_pure (hne ▸ hq)) fun _ _ e => e)
    | exact wpAny_bind (wpAny_pure (wpAny_bind (wpAny_mono key (fun r s' h' => by obtain ⟨rfl, hq⟩ := h'; exact wpAny_pure (hne ▸ hq)) fun _ _ e => e)))
section
variable {h₀ : Heap} {L d : Addr} {m : Str → Option Value} {news : Led} {o : Obj} {S : Int → Bool} {n : Nat}
theorem led_truthySet {Q : Bool → Shared → Prop} (N : News h₀ L s.heap news) (hm : (d, o) ∈ news) (hs : o.SetObjOf (intKind prog w) S n) (hn : n ≤ 1) (h : ∀ tk, Q (decide (n ≠ 0)) { s with toks := tk }) :
    wpAny (model prog w) A (truthy (.ref d)) Q E s := by
  refine Classical.byContradiction fun hG9 => ?_
  obtain ⟨hex, es, ep, t, hd, hel, hmem, hn', hf⟩ := hs
  refine hG9 ?_
  clear hG9
  subst hn'
  exact wpAny_truthy_set (N _ hm).1 hex hd hf (by omega) (h _)
theorem led_setIn {Q : Value → Shared → Prop} {x : Int} {tx : Tok} (N : News h₀ L s.heap news) (hm : (d, o) ∈ news) (hs : o.SetObjOf (intKind prog w) S n) (hn : n ≤ 1) (h : ∀ tk, Q (.bool (S x)) { s with toks := tk }) :
    wpAny (model prog w) A (compareOp .In (.int x tx) (.ref d)) Q E s :=
  wpAny_inSet_of (knd := intKind prog w) (k := x) (intKind_is _ _ _ _) rfl (hs.setOf (N _ hm).1 (by have : scanBound = 4096 := rfl; omega)) (h _)
theorem led_setPopM {pl : Sem Bool} {Q : Value × List Value → Shared → Prop} (N : News h₀ L s.heap news) (hm : (d, o) ∈ news) (hs : o.SetObjOf (intKind prog w) S n) (h : Q (.builtin "set.pop", [.ref d]) s) :
    wpAny (model prog w) A (getMethod (.ref d) "pop" pl) Q E s :=
  getMethod_builtin ⟨_, (N _ hm).1, hs.1.1⟩ F.plainAttrs_set F.slot_set_pop F.type_set_pop (fun b e => by injection e with e; subst e; exact ⟨_, (N _ hm).1, hs.1.2.1⟩) h
end
end
local macro_rules | `(tactic| walk_at "truthy ref") => `(tactic| (k_here; (with_reducible show wpAny _ _ (truthy (Value.ref _)) _ _ _); (with_unfolding_all refine' led_truthySet ?k1 ?k2 ?k3 ?k4 ?_; (case k1 => k_asm); (case k2 => k_mem); (case k3 => assumption); (case k4 => decide); k_whole); intro tk'))
local macro_rules | `(tactic| walk_at "compareOp In int ref") => `(tactic| (k_here; (with_reducible show wpAny _ _ (compareOp CmpOp.In (Value.int _ _) (Value.ref _)) _ _ _); (with_unfolding_all refine' led_setIn ?k1 ?k2 ?k3 ?k4 ?_; (case k1 => k_asm); (case k2 => k_mem); (case k3 => assumption); (case k4 => decide); k_whole); intro tk'; try dsimp only))
theorem clean_M6 : True := by
  w_top off
  k_with "call builtin:set.pop" => ((k_here; (with_reducible show wpAny _ _ (call (Value.builtin _) [Value.ref _]) _ _ _); k_dflt (refine' led_setPop ?Fz16 ?Nz16 ?lz16 ?zz16 ?yz16 ?_; (case Fz16 => k_asm); (case Nz16 => k_asm); (case zz16 => assumption); (case lz16 => k_mem); (case yz16 => assumption)); intro tP hP oP drP rP FP NP sP aP bP cP))
  k_with "getMethod ref" => ((k_here; (with_reducible show wpAny _ _ (getMethod (Value.ref _) (Str.ofString "pop") _) _ _ _); (with_unfolding_all refine' led_setPopM ?k1z17 ?k2z17 ?k3z17 ?_; (case k1z17 => k_asm); (case k2z17 => k_mem); (case k3z17 => assumption); k_whole)))
  k_with "my call" => (refine stop ?_)
  trivial
section
local macro_rules | `(tactic| walk_at "exec While Name cons nil") => `(tactic| refine stop ?_)
theorem c_cp (w : World) (news : Led) (x : Int) (tx t5 tm : Tok) (hx : 0 ≤ x) (hx2 : x ≤ 100) :
    ConD w 5 100 news 194 [.int x tx, .int 5 t5, .int 2048 tm] []
   (fun r news' => (∃ (q : Addr), r = .ref q) ∧ news' = news) := by
  unfold ConD
  intro p loose mean mg mb dp un gd cn cs ad ccd cl outer A₀ base h₀ L m s Q E B F X N T hk hd hu hret
  dsimp only [KK] at X
  refine wpAny_call ?_
  k_dflt (walk_at "my_enter")
  k_steps
  unfold Stop
  rename_i dS _ _ lS hS _ _ dN _ _ hN _ lN _ dW _ _ _ _ lW _ oW hW hw FW NW
  refine While_invD (n₀ := 1) (fun k m nx => ∃ oW oN oS t2 Sf n, m (Str.ofString "ws") = some (.ref dW) ∧ m (Str.ofString "need") = some (.ref dN) ∧ m (Str.ofString "seen") = some (.ref dS) ∧ m (Str.ofString "more_than") = some (.int 2048 t2) ∧ (dW, oW) ∈ nx ∧ (dN, oN) ∈ nx ∧ (dS, oS) ∈ nx ∧ oN.SetObjOf (intKind PG w) (fun _ => false) 0 ∧ oS.SetObjOf (intKind PG w) (fun _ => false) 0 ∧ (∀ p ∈ news, p ∈ nx) ∧ oW.SetObjOf (intKind PG w) Sf n ∧ ((k = 1 ∧ n = 1 ∧ Sf x = true) ∨ (k = 0 ∧ n = 0))) FW NW ?_ ?_ ?_
  · exact ⟨_, _, _, _, _, _, rfl, rfl, rfl, rfl, .head _, .tail _ (.head _), .tail _ (.tail _ (.head _)), hN, hS, fun p hp => .tail _ (.tail _ (.tail _ hp)), hW, .inl ⟨rfl, rfl, by simp⟩⟩
  · rintro k m₁ nx h₁ tk₁ dr₁ F2 N2 ⟨oW2, oN, oS, t2, Sf, n, e1, e2, e3, e4, m1, m2, m3, hN', hS', hsub, hWf, (⟨rfl, rfl, hSx⟩ | ⟨rfl, rfl⟩)⟩
    · replace F2 := know4 F2 e1 e2 e3 e4
      clear FW NW
      k_steps
      rename_i NX
      have m3' : (dS, oS) ∈ (dW, oP) :: rP := .tail _ (bP _ m3 (Nat.ne_of_lt lW.2.1))
      have m2' : (dN, oN) ∈ (dW, oP) :: rP := .tail _ (bP _ m2 (Nat.ne_of_lt lW.1))
      k_steps
      refine ⟨_, _, _, _, _, 0, rfl, by assumption, by assumption, by omega, oP, oN, oS, _, _, 0, rfl, rfl, rfl, rfl, .head _, m2', m3', hN', hS', fun p hp => .tail _ (bP _ (hsub p hp) (Nat.ne_of_lt (ktn_ltOf lW.2.2 p hp))), sP, .inr ⟨rfl, rfl⟩⟩
    · replace F2 := know4 F2 e1 e2 e3 e4
      clear FW NW
      k_steps
      rename_i kF kN _ _
      exact hret _ news _ _ _ kF (fun p hp => kN p (.tail _ (hsub p hp))) ⟨⟨_, rfl⟩, rfl⟩
  · passes_own
end
section
open Builtin Builtin.Str
def Dig (x : PySem.Str) : Prop := ∀ c ∈ x.cps.toList, 48 ≤ c ∧ c ≤ 57
theorem dig_num {n : Int} (h0 : 0 ≤ n) : Dig (PySem.Str.ofString (toString n)) := by
  obtain ⟨m, rfl⟩ := Int.eq_ofNat_of_zero_le h0
  intro c hc
  rw [KIN.signs_num] at hc
  obtain ⟨ch, hch, e⟩ := List.mem_map.mp hc
  have r := digit_range (Nat.isDigit_of_mem_toDigits (by decide) (by decide) hch)
  rw [← e]
  exact r
theorem dig_space : ∀ c, c < 58 → 48 ≤ c → Unicode.isSpace c = false := by decide +kernel
theorem dig_rstrip {x : PySem.Str} (h : Dig x) : stripSame Unicode.isSpace false true x = true := by
  have e : ((x.cps.toList.drop (stripLo Unicode.isSpace false x)).reverse.takeWhile Unicode.isSpace) = [] := by
    have hall : ∀ c ∈ ((x.cps.toList.drop (stripLo Unicode.isSpace false x)).reverse), Unicode.isSpace c = false := fun c hc => by
      have := h _ (List.mem_of_mem_drop (List.mem_reverse.mp hc))
      exact dig_space _ (by omega) (by omega)
    generalize ((x.cps.toList.drop (stripLo Unicode.isSpace false x)).reverse) = l at hall
    cases l with
    | nil => rfl
    | cons a r => rw [List.takeWhile_cons, hall a (.head _)]; rfl
  unfold stripSame stripHi
  rw [e]
  simp [stripLo]
theorem dig_occ {x : PySem.Str} (h : Dig x) (L : Nat) (hL : 1 ≤ L) : occurrences x (PySem.Str.ofString "_") 0 x.length L = [] := by
  rcases StrLaws.occ_head x (PySem.Str.ofString "_") L hL with h1 | ⟨i, r, _, ha, _⟩
  · exact h1.1
  · have hf := (StrLaws.found_iff x (PySem.Str.ofString "_")).mpr ⟨i, ha.1, ha.2⟩
    have e : PySem.Str.ofString "_" = ⟨#[95]⟩ := by decide +kernel
    rw [e, StrLaws.found_one] at hf
    have := h 95 (of_decide_eq_true hf)
    omega
theorem slice_all (x : PySem.Str) : Txt.slice x (some 0) (some (x.length : Int)) = x := by
  have e : (strSliceIndices (some 0) (some (x.length : Int)) 1 x.length).length = x.length := by
    unfold strSliceIndices sliceRange
    simp only [show (1 : Int) > 0 by decide, if_true, List.length_map, List.length_range, if_neg (show ¬ (0 : Int) < 0 by decide)]
    have h1 : ¬ ((x.length : Int) < 0) := by omega
    rw [if_neg h1]
    have h2 : max 0 (min (0 : Int) (x.length : Int)) = 0 := by omega
    have h3 : max 0 (min (x.length : Int) (x.length : Int)) = x.length := by omega
    rw [h2, h3]
    split
    · rw [Int.ediv_one]; omega
    · omega
  unfold Txt.slice
  rw [e]
  simp
variable {prog : Program} {w : World} {A : Around} {E : Value → Shared → Prop} {s : Shared} {Q : Value → Shared → Prop} {x : PySem.Str} {t u v : Tok}
theorem call_rstrip_dig (h : Dig x) (hq : Q (.str x t) s) : wpAny (model prog w) A (call (.builtin "str.rstrip") [.str x t]) Q E s := by
  refine call_gives F.slot_str_rstrip (typeIs_str _ _ _) F.entry_str_rstrip (F.args_str_rstrip_1 _) (gives_str_rstrip x t) ?_
  rw [dig_rstrip h]
  exact hq
theorem call_replace_dig (h : Dig x) (hq : Q (.str x t) s) : wpAny (model prog w) A (call (.builtin "str.replace") [.str x t, .str (PySem.Str.ofString "_") u, .str (PySem.Str.ofString "") v]) Q E s := by
  have e := dig_occ h (x.length + 1) (by omega)
  refine call_gives F.slot_str_replace (typeIs_str _ _ _) F.entry_str_replace (F.args_str_replace_3 _ _ _) (gives_str_replace x _ _ t u v fun hf => ?_) ?_
  · rw [e] at hf; cases hf
  · rw [e]; exact hq
end
theorem clean_M7 : True := by
  w_top off
  k_with "my_enter" => ((refine' code_def ?k1z18 ?k2z18 ?k3z18 ?k4z18 ?k5z18 ?kAz18 ?kFz18 ?kKz18 ?k6z18 ?k7z18 ?k8z18 ?k9z18 ?kBz18 ?_ ?c2z18 ?c3z18 ?c4z18 ?c5z18; (case kAz18 => exact rfl); (case kFz18 => exact rfl); (case kKz18 => first | assumption | exact rfl); (case k1z18 => k_asm); (case k2z18 => k_asm); (case k3z18 => k_asm); (case k4z18 => k_asm); (case k5z18 => k_asm); (case k6z18 => k_is); (case k7z18 => k_is); (case k8z18 => ktr_room); (case k9z18 => first | exact BindsTo.of_eq rfl | exact binds_K (by k_in) rfl (by k_is) rfl rfl rfl); (case c5z18 => decide); (case kBz18 => exact locs rfl); (case c2z18 => exact rfl); (case c3z18 => exact rfl); (case c4z18 => exact rfl); k_whole; intro gE LE hE FG FE NE BE XE TE; (try dsimp only); refine wpAny_noRaise ?_))
  k_with "my_enterC" => ((refine' code_defC ?k1z19 ?k2z19 ?k3z19 ?k4z19 ?k5z19 ?kAz19 ?kFz19 ?kKz19 ?k6z19 ?k7z19 ?k8z19 ?k9z19 ?kBz19 ?kDz19 ?_ ?c2z19 ?c3z19 ?c4z19; (case kAz19 => exact rfl); (case kFz19 => exact rfl); (case kKz19 => first | assumption | exact rfl); (case k1z19 => k_asm); (case k2z19 => k_asm); (case k3z19 => k_asm); (case k4z19 => k_asm); (case k5z19 => k_asm); (case k6z19 => k_is); (case k7z19 => k_is); (case k8z19 => ktr_room); (case k9z19 => first | exact BindsTo.of_eq rfl | exact binds_K (by k_in) rfl (by k_is) rfl rfl rfl); (case kBz19 => exact rfl); (case kDz19 => decide +kernel); (case c2z19 => exact rfl); (case c3z19 => exact rfl); (case c4z19 => exact rfl); k_whole; intro gE LE hE tkE cellsE FG FE NE YE BE XE TE lE; (try k_lt lE); (try (have hT9 := And.right lE; (repeat (replace hT9 := And.right hT9)))); k_cells YE; (try simp only [List.cons_append, List.nil_append] at NE); (try dsimp only); refine wpAny_noRaise ?_))
  k_with "my_enterN" => ((refine' code_nest ?k1z20 ?k2z20 ?k3z20 ?k4z20 ?k5z20 ?kAz20 ?kFz20 ?kKz20 ?k6z20 ?k7z20 ?k8z20 ?k9z20 ?kBz20 ?_ ?c2z20 ?c3z20 ?c4z20 ?c5z20; (case kAz20 => exact rfl); (case kFz20 => exact rfl); (case kKz20 => first | assumption | exact rfl); (case k1z20 => k_asm); (case k2z20 => k_asm); (case k3z20 => k_asm); (case k4z20 => k_asm); (case k5z20 => k_asm); (case k6z20 => k_mem); (case k7z20 => exact codeRec_news (by k_asm) (by k_mem) (by assumption) (by assumption)); (case k8z20 => ktr_room); (case k9z20 => exact BindsTo.of_eq rfl); (case c5z20 => decide); (case kBz20 => exact locs rfl); (case c2z20 => exact rfl); (case c3z20 => exact rfl); (case c4z20 => exact rfl); k_whole; intro gE LE hE FG FE NE BE XE TE; (try dsimp only); refine wpAny_noRaise ?_))
  k_with "call builtin:str.rstrip" => ((k_here; (with_reducible show wpAny _ _ (call (Value.builtin _) [Value.str _ _]) _ _ _); k_dflt (refine' call_rstrip_dig ?zz21 ?_; (case zz21 => assumption))))
  k_with "call builtin:str.replace" => ((k_here; (with_reducible show wpAny _ _ (call (Value.builtin _) [Value.str _ _, Value.str _ _, Value.str _ _]) _ _ _); k_dflt (refine' call_replace_dig ?zz22 ?_; (case zz22 => assumption))))
  k_with "my call" => (refine stop ?_)
  trivial
section
local macro_rules | `(tactic| walk_at "exec While Name cons nil") => `(tactic| refine stop ?_)
theorem c_s2i (w : World) (news : Led) (n : Int) (tx : Tok) (hx : 0 ≤ n) (hx2 : n < 2 ^ 20) (hTb : Tb news) :
    ConD w 15 200 news 201 [.str (PySem.Str.ofString (toString n)) tx] []
   (fun r news' => (∃ t, r = .int n t) ∧ Tb news' ∧ KeepU news news') := by
  unfold ConD
  intro p loose mean mg mb dp un gd cn cs ad ccd cl outer A₀ base h₀ L m s Q E B F X N T hk hd hu hret
  dsimp only [KK] at X
  have hlen := KT.len_num (n := n) hx (by omega)
  refine Classical.byContradiction fun hG9 => ?_
  obtain ⟨o1, o2, o3, hm1, ht1, hm2, ht2, hm3, ht3⟩ := hTb
  refine hG9 ?_
  clear hG9
  have ht1' := tab_off N hm1 ht1.not_usr ht1
  have hku := keepU_off N hm1 ht1.not_usr
  have hof : ∀ p ∈ off 196 news, p.1 ≠ 196 := fun p hp => (mem_off.mp hp).2
  replace N := news_off N hm1
  refine wpAny_call ?_
  k_dflt (walk_at "my_enterC")
  have hcode := codeHd_of_K (c := 200) (P := 196) XE (by kernel_rfl)
  k_steps
  unfold Stop
  rename_i hA0 oA FA0 NA0 dA
  refine nestDef_K rfl rfl rfl ?_
  refine nestAny_K (pre := [_, _, _, _]) FA0 NA0 TE hcode rfl (List.forall_mem_cons.mpr ⟨by k_ne, List.forall_mem_cons.mpr ⟨by k_ne, List.forall_mem_cons.mpr ⟨by k_ne, List.forall_mem_cons.mpr ⟨by k_ne, List.forall_mem_nil _⟩⟩⟩⟩) hof ht1' (by kernel_rfl) rfl ?_
  intro f c oc cvs ct ctv dc h1 tk1 o1' news2 F2 N2 hc1 dd1 dd2 ht1n hsub2 hof2 hlt1 hlt2 hor
  have hne : ∀ p ∈ news2, p.1 ≠ LE + 1 + 1 + 1 + 1 := fun p hp => (hor p hp).elim (fun h => ne_of_allLt' hT9 (by omega) p h) fun h => Nat.ne_of_gt (h _ (.head _))
  have hne3 : ∀ p ∈ news2, p.1 ≠ LE + 1 + 1 + 1 := fun p hp => (hor p hp).elim (fun h => ne_of_allLt' hT9 (by omega) p h) fun h => Nat.ne_of_gt (h _ (.tail _ (.head _)))
  replace hlt1 : ∀ p ∈ (_ :: _ :: _ :: _ :: (196, o1) :: off 196 news : Led), p.1 < f := hlt1
  k_lt hlt1
  replace N2 : News _ _ _ (_ :: _ :: _ :: _ :: _ :: (196, o1') :: news2) := N2
  clear FA0 NA0 hlt2 hor
  k_with "my call" => (refine stop ?_)
  k_with "my call" => (refine' ConD.use (c_cp w _ _ _ _ _ ?q1 ?q2) ?cB ?cF ?cX ?cN ?cT ?ch ?cf ?ck ?cd ?cu ?_; walk_at "my_use"; (case q1 => omega); (case q2 => omega); intro r' news' h' tk' dr' F' N' P'; obtain ⟨⟨qd, rfl⟩, rfl⟩ := P')
  k_steps
  refine wpAny_call ?_
  k_dflt (walk_at "my_enterN")
  have hrd : PySem.intText? (Txt.slice (PySem.Str.ofString (toString n)) (some 0) (some ((PySem.Str.ofString (toString n)).length : Int))) = some n := by
    rw [slice_all]; exact KIN.num_reads hx (by omega)
  k_steps
  rename_i kF kN _ _
  have hk2 : KeepU news ((196, o1') :: news2) := fun p hp hu => .tail _ (hsub2 _ (hku p hp hu))
  have hTb' : Tb ((196, o1') :: news2) := ⟨o1', o2, o3, .head _, ht1n.mono fun p hp _ => .tail _ hp, .tail _ (hsub2 _ (mem_off.mpr ⟨hm2, show (224 : Nat) ≠ 196 by decide⟩)), ht2.mono hk2, .tail _ (hsub2 _ (mem_off.mpr ⟨hm3, show (231 : Nat) ≠ 196 by decide⟩)), ht3.mono hk2⟩
  exact hret _ ((196, o1') :: news2) _ _ _ kF (fun p hp => kN p (.tail _ (.tail _ (.tail _ (.tail _ (.tail _ hp)))))) ⟨⟨_, rfl⟩, hTb', hk2⟩
theorem c_ifs (w : World) (news : Led) (n : Int) (tx : Tok) (hx : 0 ≤ n) (hx2 : n < 2 ^ 20) (hTb : Tb news) :
    ConD w 20 250 news 208 [.str (PySem.Str.ofString (toString n)) tx] []
   (fun r news' => (∃ t, r = .int n t) ∧ Tb news' ∧ KeepU news news') := by
  unfold ConD
  intro p loose mean mg mb dp un gd cn cs ad ccd cl outer A₀ base h₀ L m s Q E B F X N T hk hd hu hret
  dsimp only [KK] at X
  have hdig := dig_num hx
  refine wpAny_call ?_
  k_dflt (walk_at "my_enter")
  k_with "my call" => (refine stop ?_)
  k_with "my call" => (refine' ConD.use (c_s2i w _ _ _ hx hx2 hTb) ?cB ?cF ?cX ?cN ?cT ?ch ?cf ?ck ?cd ?cu ?_; walk_at "my_use"; intro r' news' h' tk' dr' F' N' P')
  k_steps
  rename_i kF kN _ _
  exact hret _ _ _ _ _ kF kN P'
end
section
theorem plainAttrs_pat : PlainAttrs "re.Pattern" :=
  ⟨⟨"object.__getattribute__", by rw [typeLookup_type, builtinLookup_eq_fast]; kernel_rfl, by decide +kernel⟩, by rw [typeLookup_type, builtinLookup_eq_fast]; kernel_rfl⟩
theorem owner_pat : Manifest.owners.lookup (String.ofList "re.Pattern".toList.reverse.reverse) = some Manifest.sig_re_Pattern := by kernel_rfl
theorem slot_pat_search : Slot "re.Pattern" "search" "re.Pattern.search" :=
  .of (owner := "re.Pattern") (n := "search") (by rw [typeLookup_type, builtinLookup_eq_fast]; kernel_rfl) (by decide +kernel) (by decide +kernel) (by decide +kernel)
    (by first | exact .inl (by decide +kernel) | exact .inr (by decide +kernel)) (by rw [isSubtype_type]; kernel_rfl)
theorem type_pat_search : typeOf (.builtin "re.Pattern.search") = pure (.type "method_descriptor") := by show builtinType _ = _; rw [builtinType_eq_fast]; kernel_rfl
theorem entry_pat_search : entryFor table "re.Pattern.search" = some Builtin.«re.Pattern.search» := entryFor_of_tree (by kernel_rfl)
theorem args_pat_search (a b : Value) : argsOk "re.Pattern.search" ⟨[a, b], []⟩ := by
  unfold argsOk; rw [signature?_of (id := "re.Pattern.search") (n := "search".toList.reverse) (o := "re.Pattern".toList.reverse) (by kernel_rfl) owner_pat]; kernel_rfl
end
section
open Sre
def m0 (code text : Array Nat) (g : Nat) : Sre.M :=
  { code, text, lim := text.size, start := 0, pc := (Sre.header code).2, pos := 0, handed := 0, marks := Array.replicate (2 * g) none, mustAdvance := false,
    seen := if (Sre.header code).2 == 0 then {} else ({} : Sre.Seen).add 14 }
theorem fs_eq (code text : Array Nat) (g : Nat) : Sre.forSearch code text g 0 text.size false = (if (decide (0 > text.size) || decide (text.size - 0 < (Sre.header code).1)) = true then (m0 code text g).say false else ({ m0 code text g with lastStart := if ((Sre.header code).1 > 1 && !((Sre.header code).2 != 0 && code.getD 2 0 &&& 5 != 0)) = true then max 0 (text.size - ((Sre.header code).1 - 1)) else text.size } : Sre.M).attemptFrom 0 true) := by
  rfl
def SetMiss (code : Array Nat) (c : Nat) : Prop := ∀ seen, ∃ seen', Sre.inSet code c code.size 5 true seen = .ok (false, seen')
theorem admitted_none (m : Sre.M) (hl : m.lim = m.text.size) (hs : ∀ c ∈ m.text.toList, SetMiss m.code c) : ∀ fuel s seen, ∃ seen', Sre.M.admitted m fuel s seen = .ok (none, seen')
  | 0, s, seen => ⟨seen, rfl⟩
  | fuel + 1, s, seen => by
    unfold Sre.M.admitted
    by_cases h : s ≥ m.lim
    · rw [if_pos h]; exact ⟨seen, rfl⟩
    · rw [if_neg h]
      have hlt : s < m.text.size := by omega
      have hmem : m.text.getD s 0 ∈ m.text.toList := by
        rw [Array.getD_eq_getD_getElem?, Array.getElem?_eq_getElem hlt, Option.getD_some]
        exact Array.mem_toList_iff.mpr (Array.getElem_mem hlt)
      obtain ⟨seen1, h1⟩ := hs _ hmem seen
      rw [h1]
      exact admitted_none m hl hs fuel (s + 1) seen1
theorem search_none (code text : Array Nat) (g : Nat) (hop : Sre.ops[code.getD 0 0]? = some .INFO) (h4 : code.getD 2 0 = 4) (hs : ∀ c ∈ text.toList, SetMiss code c) :
    ∃ m, Sre.forSearch code text g 0 text.size false = m ∧ m.outcome = none ∧ m.answer = some false ∧ m.frames = [] := by
  refine ⟨_, rfl, ?_⟩
  rw [fs_eq]
  split
  · exact ⟨rfl, rfl, rfl⟩
  · unfold Sre.M.attemptFrom
    have hf : ∀ l, Sre.M.hasFirstSet { m0 code text g with lastStart := l } = true := by
      intro l
      show ((match Sre.ops[code.getD 0 0]? with | some .INFO => true | _ => false) && code.getD 2 0 == 4) = true
      rw [hop, h4]; rfl
    rw [hf]
    simp only [Bool.not_true, Bool.false_eq_true, if_false]
    obtain ⟨seen', h1⟩ := admitted_none { m0 code text g with lastStart := _ } rfl hs ((m0 code text g).lim + 1 - 0) 0 (m0 code text g).seen
    have h1' : Sre.M.admitted { m0 code text g with lastStart := _ } ((m0 code text g).lim + 1 - 0) 0 (m0 code text g).seen = _ := h1
    rw [h1']
    exact ⟨rfl, rfl, rfl⟩
def codeN : List Nat := [14, 10, 4, 1, 1, 22, 0, 31, 16, 127, 0, 13, 7, 22, 0, 31, 16, 127, 0, 1]
def codeV : List Nat := [14, 14, 4, 1, 1, 9, 4294966783, 0, 0, 2147483648, 0, 0, 0, 0, 0, 13, 11, 9, 4294966783, 0, 0, 2147483648, 0, 0, 0, 0, 0, 1]
theorem missN {c : Nat} (h1 : 32 ≤ c) (h2 : c ≤ 126) : SetMiss codeN.toArray c := by
  intro seen
  refine ⟨((seen.add 22).add 16).add 0, ?_⟩
  have e1 : ((0 : Nat) ≤ c && c ≤ 31) = false := by
    rw [decide_eq_false (show ¬ c ≤ 31 by omega), Bool.and_false]
  have e2 : (c == 127) = false := by simp; omega
  show (if ((0 : Nat) ≤ c && c ≤ 31) = true then _ else (if (c == 127) = true then _ else _)) = _
  rw [e1, e2]
  rfl
theorem charV : ∀ c, c < 127 → 32 ≤ c → (decide (c < 256) && (codeV.toArray.getD (5 + (1 + c / 32)) 0).testBit (c % 32)) = false := by decide +kernel
theorem missV {c : Nat} (h1 : 32 ≤ c) (h2 : c ≤ 126) : SetMiss codeV.toArray c := by
  intro seen
  refine ⟨(seen.add 9).add 0, ?_⟩
  have e1 := charV c (by omega) h1
  show (if (decide (c < 256) && (codeV.toArray.getD (5 + (1 + c / 32)) 0).testBit (c % 32)) = true then _ else _) = _
  rw [e1]
  rfl
end
section
open Builtin Builtin.Re
variable {prog : Program} {w : World} {A : Around} {E : Value → Shared → Prop} {s : Shared}
theorem wpAny_rules {M : Model} (f : Nat → Bool) (g : Nat → String) {Q : PUnit → Shared → Prop} (h : Q PUnit.unit s) : ∀ l : List Nat,
    wpAny M A (forIn l PUnit.unit fun i _ => if f i = true then (do rule (g i); pure (ForInStep.yield PUnit.unit)) else pure (ForInStep.yield PUnit.unit)) Q E s
  | [] => wpAny_pure h
  | i :: l => by
    rw [List.forIn_cons]
    refine wpAny_bind ?_
    by_cases hf : f i = true
    · rw [if_pos hf]
      exact wpAny_bind (wpAny_rule (wpAny_pure (wpAny_rules f g h l)))
    · rw [if_neg hf]
      exact wpAny_pure (wpAny_rules f g h l)
theorem call_search_none {a : Addr} {x : PySem.Str} {t : Tok} {r : Flt.PatRec} {Q : Value → Shared → Prop} (hp : Flt.IsPattern s.heap a r) (hk : r.kind = 0) (hx : x.length ≤ 1000) (hop : Sre.ops[r.code.toArray.getD 0 0]? = some .INFO) (h4 : r.code.toArray.getD 2 0 = 4)
    (hs : ∀ c ∈ x.cps.toList, SetMiss r.code.toArray c) (h : Q .none s) : wpAny (model prog w) A (call (.builtin "re.Pattern.search") [.ref a, .str x t]) Q E s := by
  refine Classical.byContradiction fun hG9 => ?_
  obtain ⟨fs, T, ws, n, ha, h5, hg, h6, hT, hc⟩ := hp
  refine hG9 ?_
  clear hG9
  refine wpAny_call_entry slot_pat_search ⟨_, ha, rfl⟩ entry_pat_search ?_ (args_pat_search _ _)
  unfold Builtin.«re.Pattern.search» reTarget
  refine wpAny_bind (wpAny_bind (wpAny_of_eq (a := [some (.str x t), none, none]) (by rfl) ?_))
  dsimp only
  refine wpAny_bind (wpAny_pure ?_)
  refine wpAny_bind (wpAny_pure ?_)
  refine wpAny_bind (wpAny_fieldsOf ha rfl ?_)
  refine wpAny_bind (wpAny_of_eq (a := (x.cps, 0)) (by rfl) ?_)
  dsimp only
  rw [h6, hk]
  refine wpAny_bind (wpAny_of_eq (a := ()) (by rfl) ?_)
  rw [h5]
  unfold reRawItems
  refine wpAny_bind (wpAny_bind (wpAny_seqItems hT rfl (wpAny_pure (wpAny_pure ?_))))
  have hcode : ((ws.map reRawOf).map fun i => i.toNat) = r.code.toArray := by rw [← hc, Array.toArray_toList]
  have hsz : x.cps.size ≤ 1000 := hx
  have key : ∀ (L P : Nat) (cd : Array Nat), cd = r.code.toArray → L = x.cps.size → P = 0 →
      wpAny (model prog w) A.in1 (reAnswer ⟨.ref a, .str x t, cd, x.cps, 0, reRawNat (fs.getD 2 Value.none), P, L⟩ (Sre.forSearch cd x.cps (reRawNat (fs.getD 2 Value.none)) P L false)) (fun fin s' => ∃ v, fin = .done (.ret v) ∧ Q v s') E s := by
    intro L P cd h1 h2 h3
    subst h1 h2 h3
    refine Classical.byContradiction fun hG9 => ?_
    obtain ⟨m, hm, ho, han, hfr⟩ := search_none r.code.toArray x.cps (reRawNat (fs.getD 2 Value.none)) hop h4 hs
    refine hG9 ?_
    clear hG9
    rw [hm]
    have hstep : m.step = { m with outcome := some .failed } := by
      unfold Sre.M.step
      rw [ho, han, hfr]; rfl
    have hrun : m.runFor 4 = { m with outcome := some .failed } := by
      show (if m.outcome.isSome = true then m else Sre.M.runFor 3 m.step) = _
      rw [ho, hstep]; rfl
    have hdrive : ∀ k, reDrive (k + 1) m = pure { m with outcome := some .failed } := by
      intro k
      unfold reDrive
      show (if (m.runFor 4).outcome.isSome = true then pure (m.runFor 4) else _) = _
      rw [hrun]; rfl
    have hd : reDrive (2 ^ 64) m = pure { m with outcome := some .failed } := hdrive 18446744073709551615
    unfold reAnswer reRunToEnd
    rw [hd]
    refine wpAny_bind (wpAny_bind (wpAny_pure ?_))
    refine wpAny_bind (wpAny_rules (fun i => ({ m with outcome := some .failed } : Sre.M).seen.has i) (fun i => Sre.names.getD i "") ?_ _)
    dsimp only
    exact wpAny_pure (wpAny_pure ⟨_, rfl, h⟩)
  refine key _ _ _ hcode ?_ ?_
  · exact Nat.min_eq_right (Nat.le_trans hsz (by decide))
  · exact Nat.zero_min _
theorem getMethod_pat {a : Addr} {r : Flt.PatRec} {pl : Sem Bool} {Q : Value × List Value → Shared → Prop} (hp : Flt.IsPattern s.heap a r) (h : Q (.builtin "re.Pattern.search", [.ref a]) s) :
    wpAny (model prog w) A (getMethod (.ref a) "search" pl) Q E s := by
  refine Classical.byContradiction fun hG9 => ?_
  obtain ⟨fs, T, ws, n, ha, _⟩ := hp
  refine hG9 ?_
  clear hG9
  exact getMethod_builtin ⟨_, ha, rfl⟩ plainAttrs_pat slot_pat_search type_pat_search (fun b e => by injection e with e; subst e; exact ⟨_, ha, rfl⟩) h
def Prn (x : PySem.Str) : Prop := x.length ≤ 1000 ∧ ∀ c ∈ x.cps.toList, 32 ≤ c ∧ c ≤ 126
def PatN (h : Heap) : Prop := Flt.IsPattern h 48 ⟨"", codeN, 0, 0⟩
def PatV (h : Heap) : Prop := Flt.IsPattern h 53 ⟨"", codeV, 0, 0⟩
theorem call_searchN {x : PySem.Str} {t : Tok} {Q : Value → Shared → Prop} (hp : PatN s.heap) (hx : Prn x) (h : Q .none s) : wpAny (model prog w) A (call (.builtin "re.Pattern.search") [.ref 48, .str x t]) Q E s :=
  call_search_none hp rfl hx.1 rfl rfl (fun c hc => missN (hx.2 c hc).1 (hx.2 c hc).2) h
theorem call_searchV {x : PySem.Str} {t : Tok} {Q : Value → Shared → Prop} (hp : PatV s.heap) (hx : Prn x) (h : Q .none s) : wpAny (model prog w) A (call (.builtin "re.Pattern.search") [.ref 53, .str x t]) Q E s :=
  call_search_none hp rfl hx.1 rfl rfl (fun c hc => missV (hx.2 c hc).1 (hx.2 c hc).2) h
def patIn (K : Frag) (a : Addr) (code : List Nat) : Bool :=
  match K.lookup a with
  | some ⟨.type c, none, .fields fs, sl⟩ => c == "re.Pattern" && sl.size == 0 && reRawNat (fs.getD 2 .none) == 0 && reRawNat (fs.getD 6 .none) == 0 && (match fs.getD 5 .none with
    | .ref T => (match K.lookup T with
      | some ⟨.type c2, none, .seq ws _, sl2⟩ => c2 == "tuple" && sl2.size == 0 && ((ws.map reRawOf).map (·.toNat)).toList == code
      | _ => false)
    | _ => false)
  | _ => false
theorem isPat_of_K {K : Frag} {h : Heap} {a : Addr} {code : List Nat} {nm : PySem.Str} (X : K.In h) (e : patIn K a code = true) : Flt.IsPattern h a ⟨nm, code, 0, 0⟩ := by
  unfold patIn at e
  split at e
  · rename_i c fs sl hk
    simp only [Bool.and_eq_true, beq_iff_eq] at e
    refine Classical.byContradiction fun hG9 => ?_
    obtain ⟨⟨⟨⟨rfl, e0⟩, e2⟩, e3⟩, e4⟩ := e
    refine hG9 ?_
    clear hG9
    obtain rfl := Array.eq_empty_of_size_eq_zero e0
    split at e4
    · rename_i T h5
      split at e4
      · rename_i c2 ws n sl2 hk2
        simp only [Bool.and_eq_true, beq_iff_eq] at e4
        obtain ⟨⟨rfl, e6⟩, e5⟩ := e4
        obtain rfl := Array.eq_empty_of_size_eq_zero e6
        exact ⟨fs, T, ws, n, X _ _ hk, h5, e2, e3, X _ _ hk2, e5⟩
      · cases e4
    · cases e4
  · cases e
end
theorem clean_M8 : True := by
  w_top off
  k_with "getMethod ref" => ((k_here; (with_reducible show wpAny _ _ (getMethod (Value.ref _) (Str.ofString "search") _) _ _ _); first
  | (refine getMethod_pat (Flt.IsPattern.keeps (r := ⟨"", codeN, 0, 0⟩) (by first | assumption) (by first | (rename Fr _ _ _ _ => fX; exact fX.keep))) ?_)
  | (refine getMethod_pat (Flt.IsPattern.keeps (r := ⟨"", codeV, 0, 0⟩) (by first | assumption) (by first | (rename Fr _ _ _ _ => fX; exact fX.keep))) ?_)))
  k_with "call builtin:re.Pattern.search" => ((k_here; first
  | (refine call_searchN (Flt.IsPattern.keeps (r := ⟨"", codeN, 0, 0⟩) (by first | assumption) (by first | (rename Fr _ _ _ _ => fX; exact fX.keep))) (by assumption) ?_)
  | (refine call_searchV (Flt.IsPattern.keeps (r := ⟨"", codeV, 0, 0⟩) (by first | assumption) (by first | (rename Fr _ _ _ _ => fX; exact fX.keep))) (by assumption) ?_)))
  k_with "my call" => (refine stop ?_)
  trivial
section
local macro_rules | `(tactic| walk_at "exec While Name cons nil") => `(tactic| refine stop ?_)
theorem c_cst (w : World) (news : Led) (x : PySem.Str) (tx : Tok) (slf : Addr) (nm : Bool) (hx : Prn x) :
    Con w 8 60 news 83 [.ref slf, .str x tx] [(PySem.Str.ofString "name", .bool nm)]
   (fun r news' => r = .str x tx ∧ news' = news) := by
  unfold Con
  intro p loose mean mg mb dp un gd cn cs ad ccd cl outer A₀ base h₀ L m s Q E B F X N T hk hd hu hret
  dsimp only [KK] at X
  refine wpAny_call ?_
  k_dflt (walk_at "my_enter")
  have hN : PatN gE := isPat_of_K XE (by kernel_rfl)
  have hV : PatV gE := isPat_of_K XE (by kernel_rfl)
  unfold PatN at hN
  unfold PatV at hV
  k_steps
  all_goals rename_i kF kN _ _
  all_goals exact hret _ _ _ _ kF kN ⟨rfl, rfl⟩
end
local macro_rules | `(tactic| walk_at "call ref") => `(tactic| (k_here; k_dflt (refine' call_cls ?k1 ?k2 ?k3 ?k4 ?k5 ?k6 ?_; (case k1 => k_asm); (case k2 => k_asm); (case k3 => k_asm); (case k4 => k_is); (case k5 => k_is); (case k6 => k_is); k_whole; intro x' d' h' F' N' l1 l2; (try k_lt l1); (try k_lt2 l2); walk_at "my_enter")))
theorem clean_M9 : True := by
  w_top off
  k_with "my call" => (refine stop ?_)
  trivial
section
local macro_rules | `(tactic| walk_at "exec While Name cons nil") => `(tactic| refine stop ?_)
def hdrDict (w : World) (t : Tok) (l : Addr) : Obj := dictOf (putL (PySem.Str.ofString "_headers") (PyData.keyHash w.params (PySem.Str.ofString "_headers")) (.str (PySem.Str.ofString "_headers") t) (.ref l) []) 1
theorem c_new (w : World) (news : Led)  :
    Con w 10 100 news 182 [] []
   (fun r news' => ∃ x dx l t, r = .ref x ∧ news' = (l, listOf ([] : List Value).toArray 0) :: (x, instObj 182 dx) :: (dx, hdrDict w t l) :: news ∧ (∀ p ∈ news, p.1 < dx) ∧ dx < x ∧ x < l) := by
  unfold Con
  intro p loose mean mg mb dp un gd cn cs ad ccd cl outer A₀ base h₀ L m s Q E B F X N T hk hd hu hret
  dsimp only [KK] at X
  refine' call_cls ?k1 ?k2 ?k3 ?k4 ?k5 ?k6 ?_; (case k1 => k_asm); (case k2 => k_asm); (case k3 => k_asm); (case k4 => k_is); (case k5 => k_is); (case k6 => k_is); k_whole; intro x' d' h' F' N' l1 l2
  have hne1 : ∀ p ∈ news, p.1 ≠ d' := fun p hp => Nat.ne_of_lt (l1 p hp)
  have hne2 : ∀ p ∈ news, p.1 ≠ x' := fun p hp => Nat.ne_of_lt (Nat.lt_trans (l1 p hp) l2)
  k_lt2 l2
  k_dflt (walk_at "my_enter")
  k_steps
  unfold Stop
  rename_i lH _ hlH _ _ hH FH NH
  refine wpAny_For ?_
  k_steps
  unfold Stop
  refine for_list (l := lH) (vs := []) (nn := 0) rfl (.head _) FH NH (fun i m nx => ∀ p ∈ ((lH, listOf ([] : List Value).toArray 0) :: (x', instObj 182 d') :: (d', hdrDict w _ lH) :: news : Led), p ∈ nx) (fun i m nx hJ => hJ _ (.head _)) (fun p hp => hp) ?_ ?_ ?_
  · intro I i v m₁ nx h tk oI hI hv
    simp at hv
  · intro h tk m' nx F1 N1 hJ
    replace N1 : News _ _ _ _ := fun p hp => N1 p (hJ p hp)
    clear FH NH
    k_steps
    rename_i kF kN _ _
    exact hret _ _ _ _ kF kN ⟨_, _, _, _, rfl, rfl, l1, l2, hlH.1⟩
  · passes_own
end
section
variable {prog : Program} {w : World} {A : Around} {E : Value → Shared → Prop} {s : Shared} {env : Env} {h₀ : Heap}
theorem For_items_empty {Q : Flow → Shared → Prop} {xk xv : PySem.Str} {pk pv pt pos apos cpos : Pos} {x1} {o : Expr} {body : List Stmt} {d : Addr} {ob : Obj} {m : PySem.Str → Option Value} {news : Led}
    (F : Fr h₀ env.locals s.heap m) (N : News h₀ env.locals s.heap news) (hd : (d, ob) ∈ news) (hdo : ob.IsDictOf (PySem.strKind prog w) []) (hdS : (d == sysModules) = false)
    (h : ∀ h' tk, Fr h₀ env.locals h' m → News h₀ env.locals h' news → Q .next { s with heap := h', toks := tk })
    (ho : ∀ Q', Q' (.ref d) s → wpAny (model prog w) A (eval o env) Q' E s) (hE : PassesOwn (model prog w) A env E)
    (hh : A.handled = none) (hxk : env.kindOf xk = some .local) (hxv : env.kindOf xv = some .local)
    (hp : (env.scope.kind == .class || (env.scope.kind == .module && env.locals != env.globals)) = false)
    (hbase : attributeBase o "items" env (eval o env) = eval o env) (hline : (apos.endLine == cpos.line) = true)
    (hs : ∀ x, foldedSetIterable (.Call (.Attribute o "items" apos) [] [] cpos) env x = pure x := by intro _; rfl) :
    wpAny (model prog w) A (exec (.For (.Tuple [.Name xk pk, .Name xv pv] x1 pt) (.Call (.Attribute o "items" apos) [] [] cpos) body [] pos) env) Q E s := by
  obtain ⟨es, ep, r⟩ := hdo
  have z := N _ hd
  refine wpAny_For_items_locals (knd := PySem.strKind prog w) (d := d) (kvs := []) (ep := ep) hh hxk hxv hp z.2.1 hdS ⟨ob, es, z.1, r⟩ F.ns hbase hline ho (fun _ m' => m' = m) rfl (fun i k v key m₁ s₁ hk => by simp at hk) ?_ hs hE
  rintro h' tk m' hn rfl hk
  refine h h' tk ⟨hn, fun b o e => hk b o ?_ (F.keep b o e), F.above⟩ fun p hp => ⟨hk _ _ (N p hp).2.1 (N p hp).1, (N p hp).2⟩
  intro e1
  subst e1
  exact absurd (Heap.lt_size e) (Nat.not_lt.mpr F.above)
theorem led_join {L D : Addr} {n : Nat} {vs : List Value} {ys : List PySem.Str} {x : PySem.Str} {t : Tok} {news : Led} {Q : Value → Shared → Prop} (N : News h₀ L s.heap news) (hm : (D, listOf vs.toArray n) ∈ news) (hi : StrsAre vs ys) (hsep : x.length ≤ 16) (hw : (ys.map (·.length)).sum + ys.length ≤ 1048576)
    (h : ∀ t' k, Q (.str (Txt.join x ys) t') { s with toks := k }) : wpAny (model prog w) A (call (.builtin "str.join") [.str x t, .ref D]) Q E s :=
  join_listW (led_list N hm) (by simpa using hi) hsep hw h
end
theorem ne_cls {h₀ h : Heap} {L a b : Addr} {o o' : Obj} {news : Led} (N : News h₀ L h news) (h1 : (a, o) ∈ news) (h2 : (b, o') ∈ news) (hc : o.cls ≠ o'.cls) : a ≠ b := by
  intro e
  subst e
  exact hc (congrArg Obj.cls (news_fun N h1 h2))
theorem tup_list : (Value.type "tuple") ≠ (Value.type "list") := by simp
theorem join1 (x y : PySem.Str) : Txt.join x [y] = y := rfl
theorem clean_M10 : True := by
  w_top off
  k_with "my_enterM" => ((refine' kp_more ?k1z25 ?k2z25 ?k3z25 ?k4z25 ?k5z25 ?kAz25 ?kFz25 ?kKz25 ?k6z25 ?k7z25 ?k8z25 ?kXz25 ?kMz25 ?kNz25 ?kDz25 ?kRz25 ?kPz25 ?kTz25 ?kBz25 ?_ ?c2z25 ?c3z25 ?c4z25 ?c5z25; (case kAz25 => exact rfl); (case kFz25 => exact rfl); (case kKz25 => first | assumption | exact rfl); (case k1z25 => k_asm); (case k2z25 => k_asm); (case k3z25 => k_asm); (case k4z25 => k_asm); (case k5z25 => k_asm); (case k6z25 => k_is); (case k7z25 => k_is); (case k8z25 => ktr_room); (case kXz25 => kp_lit); (case kMz25 => exact rfl); (case kNz25 => exact rfl); (case kDz25 => kp_flats); (case kRz25 => exact rfl); (case kPz25 => exact rfl); (case kTz25 => exact fun _ => rfl); (case kBz25 => exact fun _ => locs rfl); (case c5z25 => decide); (case c2z25 => exact rfl); (case c3z25 => exact rfl); (case c4z25 => exact rfl); k_whole; intro DE oE gE LE hE tkE lE loE hsE fsE FG FE NE BE XE TE; (try dsimp only); refine wpAny_noRaise ?_))
  k_with "call builtin:str.join" => ((k_here; (with_reducible show wpAny _ _ (call (Value.builtin _) [Value.str _ _, Value.ref _]) _ _ _); k_dflt (refine' led_join ?Nz26 ?lz26 ?iz26 ?xz26 ?wz26 ?_; (case Nz26 => k_asm); (case lz26 => k_mem); (case iz26 => first | assumption | exact StrsAre.cons _ _ StrsAre.nil); (case xz26 => decide); (case wz26 => assumption)); intro tJ kJ; try rw [join1]))
  k_with "my call" => (refine stop ?_)
  trivial
section
local macro_rules | `(tactic| walk_at "exec While Name cons nil") => `(tactic| refine stop ?_)
theorem c_addh (w : World) (news : Led) (x dx l : Addr) (t tn tv : Tok) (vs : List Value) (nn : Nat) (nm val : PySem.Str) (hm1 : (x, instObj 182 dx) ∈ news) (hm2 : (dx, hdrDict w t l) ∈ news) (hm3 : (l, listOf vs.toArray nn) ∈ news) (hz : vs.length ≤ 1000) (hn : Prn nm) (hv : Prn val) :
    Con w 15 200 news 179 [.ref x, .str nm tn, .str val tv] []
   (fun r news' => r = .none ∧ (∃ q t1 t2, (q, tupO #[.str nm t1, .str val t2]) ∈ news' ∧ (l, W.listOf (vs ++ [Value.ref q]).toArray (nn + 1)) ∈ news') ∧ (∀ p ∈ news, p.1 ≠ l → p ∈ news')) := by
  unfold Con
  intro p loose mean mg mb dp un gd cn cs ad ccd cl outer A₀ base h₀ L m s Q E B F X N T hk hd hu hret
  dsimp only [KK] at X
  have hjw : ([val].map (·.length)).sum + [val].length ≤ 1048576 := by have := hv.1; simp; omega
  refine wpAny_call ?_
  k_dflt (walk_at "my_enterM")
  k_with "my call" => (refine stop ?_)
  k_with "my call" => (refine' Con.use (c_cst w _ _ _ _ _ ?q1) ?cB ?cF ?cX ?cN ?cT ?ch ?cf ?ck ?cd ?cu ?_; walk_at "my_use"; (case q1 => assumption); intro r' news' h' tk' F' N' P'; obtain ⟨rfl, rfl⟩ := P')
  k_steps
  unfold Stop
  rename_i lp _ hlp _ _ _ _ _ _
  refine For_items_empty FA NA (.tail _ (bA _ (.tail _ (.head _)) (Nat.ne_of_lt hlp.1))) hsE loE ?_ ?_ ?_ rfl rfl rfl rfl rfl rfl
  · intro hB tkB FB NB
    have hs9 : ∀ p ∈ news, p ∈ rA := fun p hp => bA _ (.tail _ (.tail _ hp)) (Nat.ne_of_lt (ktn_ltOf hlp.2 _ hp))
    have m1 := hs9 _ hm1
    have m2 := hs9 _ hm2
    have m3 := hs9 _ hm3
    clear FA NA
    k_steps
    rename_i kF kN _ _
    rename News _ _ _ (_ :: (lp, _) :: _) => NQ
    have hql := ne_cls NQ (.head _) (.tail _ (.tail _ m3)) tup_list
    exact hret _ _ _ _ kF kN ⟨rfl, ⟨_, _, _, .tail _ (bA _ (.head _) hql), .head _⟩, fun p hp hn => .tail _ (bA p (.tail _ (.tail _ (hs9 p hp))) hn)⟩
  · intro Q' hq
    k_steps
    exact hq
  · passes_own
end
section
def NsO (o : Obj) (m : PySem.Str → Option Value) : Prop := ∃ es ep, o.data = .dict es ep ∧ StrKeys es ∧ ∀ name, nsFind es name = m name
theorem ns_obj {h : Heap} {a : Addr} {m : PySem.Str → Option Value} (x : h.Ns a m) : ∃ o, h.get? a = some o ∧ NsO o m := let ⟨o, es, ep, ho, r⟩ := x; ⟨o, ho, es, ep, r⟩
theorem obj_ns {h : Heap} {a : Addr} {o : Obj} {m : PySem.Str → Option Value} (ho : h.get? a = some o) (x : NsO o m) : h.Ns a m := let ⟨es, ep, r⟩ := x; ⟨o, es, ep, ho, r⟩
theorem NsO.usr {o : Obj} {m : PySem.Str → Option Value} (x : NsO o m) : Usr o := let ⟨es, ep, r, _⟩ := x; .inr (.inr (.inl ⟨es, ep, r⟩))
/-- the frame of a block and that of its function change places -/
theorem fr_swap {h₀ h : Heap} {L C : Addr} {m mC : PySem.Str → Option Value} {oC : Obj} {news : Led} {G : Prop} (F : Fr h₀ L h m) (N : News h₀ L h news) (hC : (C, oC) ∈ news) (hm : NsO oC mC) (ha : h₀.objs.size ≤ C)
    (k : ∀ oL nx, NsO oL m → Fr h₀ C h mC → News h₀ C h ((L, oL) :: nx) → (∀ p ∈ nx, p.1 ≠ C) → (∀ p ∈ nx, p.1 ≠ L) → (∀ p ∈ news, p.1 ≠ C → p ∈ nx) → (∀ p ∈ nx, p ∈ news) → G) : G := by
  obtain ⟨oL, hoL, hmL⟩ := ns_obj F.ns
  have zC := N _ hC
  refine k oL (off C news) hmL ⟨obj_ns zC.1 hm, F.keep, ha⟩ (fun p hp => ?_) (fun p hp => (mem_off.mp hp).2) (fun p hp => (N p (mem_off.mp hp).1).2.1) (fun p hp hn => mem_off.mpr ⟨hp, hn⟩) fun p hp => (mem_off.mp hp).1
  rcases List.mem_cons.mp hp with rfl | hp
  · refine ⟨hoL, Ne.symm zC.2.1, ?_⟩
    cases e : h₀.get? L with
    | none => rfl
    | some o' => exact absurd (Heap.lt_size e) (Nat.not_lt.mpr F.above)
  · have := N p (mem_off.mp hp).1
    exact ⟨this.1, (mem_off.mp hp).2, this.2.2⟩
end
section
variable {prog : Program} {w : World} {A : Around} {E : Value → Shared → Prop} {R : Result → Shared → Prop} {s : Shared}
theorem compLoop_any {elt target iter : Expr} {ifs : List Expr} {scope : Scope} {pos : Pos} {it acc : Value} {env : Env} (I : Nat → Shared → Prop)
    (turn : ∀ n s, I n s → wpAny (model prog w) A (pyNext it) (fun r s₁ => match r with
      | none => R (.ok .next) s₁
      | some v => wpAny (model prog w) A (letOwnedTupleGo target it v) (fun _ s₁' => wpAny (model prog w) A (assign target env v) (fun _ s₂ =>
          wpAny (model prog w) A (forIn ifs true fun c r => if r = true then do let ok ← isTrue c env (eval c env); pure (ForInStep.yield ok) else pure (ForInStep.yield r)) (fun ok s₃ =>
            if ok = true then wpAny (model prog w) A (eval elt env) (fun x s₄ =>
              wpAny (model prog w) A (call (.builtin "list.append") [acc, x]) (fun _ s₅ => ∃ m, m < n ∧ I m s₅) (fun _ _ => False) s₄) (fun _ _ => False) s₃
            else ∃ m, m < n ∧ I m s₃) (fun _ _ => False) s₂) (fun _ _ => False) s₁') (fun _ _ => False) s₁) (fun _ _ => False) s)
    (n : Nat) (h : I n s) :
    codeAny (model prog w) A (.compLoop (.ListComp elt [⟨target, iter, ifs, 0⟩] scope pos) 0 it acc env) R s := by
  refine codeAny_loop rfl I (fun n s hI => ?_) n h
  show wpAny _ A ((compTurn (.ListComp elt [⟨target, iter, ifs, 0⟩] scope pos) 0 it acc env).onRaise (fun x => do noteFrame x env; theTreesLotGoes x)) _ _ s
  refine wpAny_noted ?_
  rw [compTurn_list]
  refine wpAny_bind (wpAny_standAt (wpAny_bind (wpAny_mono (turn n s hI) (fun r s₁ h₁ => ?_) fun _ _ h' => h'.elim)))
  cases r with
  | none => exact wpAny_pure h₁
  | some v =>
    refine wpAny_bind (wpAny_mono h₁ (fun _ s₁' h₁' => ?_) fun _ _ h' => h'.elim)
    refine wpAny_bind (wpAny_mono h₁' (fun _ s₂ h₂ => wpAny_bind (wpAny_mono h₂ (fun ok s₃ h₃ => ?_) fun _ _ h' => h'.elim)) fun _ _ h' => h'.elim)
    cases ok with
    | false => exact wpAny_pure ⟨rfl, h₃⟩
    | true =>
      exact wpAny_bind (wpAny_bind (wpAny_mono h₃ (fun x s₄ h₄ => wpAny_bind (wpAny_mono h₄ (fun _ s₅ h₅ => wpAny_pure (wpAny_pure ⟨rfl, h₅⟩)) fun _ _ h' => h'.elim)) fun _ _ h' => h'.elim))

/-- where a turn of a comprehension ends -/
def CompEnd (h₀ : Heap) (C : Addr) (s : Shared) (must : Led) (hide : List Addr) (J : List Value → Led → Prop) (vs : List Value) (s₃ : Shared) : Prop :=
  ∃ h' tk dr mC nx', s₃ = { s with heap := h', toks := tk, drawn := dr } ∧ Fr h₀ C h' mC ∧ News h₀ C h' nx' ∧ (∀ p ∈ must, p ∈ nx') ∧ ∀ nx2, (∀ p ∈ nx', p.1 ∉ hide → p ∈ nx2) → J vs nx2

theorem comp_loop {h₀ : Heap} {target elt iter : Expr} {ifs : List Expr} {scope : Scope} {pos : Pos} {cenv : Env} {I D L : Addr} {oL : Obj} {fx : Led} {n : Nat} {P : Nat → Value → Prop} {St : Nat → Heap → Prop} {mC : PySem.Str → Option Value} {news : Led} {CN : String}
    (hC : ["enumerate", "zip", "dict_itemiterator", "dict_reverseitemiterator", "odict_iterator", "itertools.zip_longest", "itertools.pairwise"].contains CN = false)
    (W : Walks prog w A I (I :: fx.map (·.1)) [I] n P St) (hsz : n ≤ sizeLine) (hcls : ∀ i h, St i h → ∃ o, h.get? I = some o ∧ o.cls = .type CN)
    (hCI : cenv.locals ≠ I) (hI0 : h₀.get? I = none) (hID : I ≠ D) (hIL : I ≠ L) (hDL : D ≠ L) (hst : St 0 s.heap) (F : Fr h₀ cenv.locals s.heap mC) (N : News h₀ cenv.locals s.heap ((D, listOf ([] : List Value).toArray 0) :: (L, oL) :: news))
    (hn1 : ∀ p ∈ news, p.1 ≠ I ∧ p.1 ≠ D ∧ p.1 ≠ L)
    (J : Nat → List Value → Led → Prop) (hl : ∀ i vs nx, J i vs nx → ∀ p ∈ fx, p ∈ nx) (h0 : J 0 [] news)
    (turn : ∀ i v vs nD mC nx h tk dr oI, i < n → P i v → J i vs nx → (∀ p ∈ nx, p.1 ≠ I ∧ p.1 ≠ D ∧ p.1 ≠ L) → oI.cls = .type CN → Fr h₀ cenv.locals h mC → News h₀ cenv.locals h ((I, oI) :: (D, listOf vs.toArray nD) :: (L, oL) :: nx) →
      wpAny (model prog w) A (assign target cenv v) (fun _ s₂ =>
          wpAny (model prog w) A (forIn ifs true fun c r => if r = true then do let ok ← isTrue c cenv (eval c cenv); pure (ForInStep.yield ok) else pure (ForInStep.yield r)) (fun ok s₃ =>
            if ok = true then wpAny (model prog w) A (eval elt cenv) (fun x s₄ => CompEnd h₀ cenv.locals s [(I, oI), (D, listOf vs.toArray nD), (L, oL)] [I, D, L] (J (i + 1)) (vs ++ [x]) s₄) (fun _ _ => False) s₃
            else CompEnd h₀ cenv.locals s [(I, oI), (D, listOf vs.toArray nD), (L, oL)] [I, D, L] (J (i + 1)) vs s₃) (fun _ _ => False) s₂) (fun _ _ => False) { s with heap := h, toks := tk, drawn := dr })
    (done : ∀ h tk dr vs nD mC nx, Fr h₀ cenv.locals h mC → News h₀ cenv.locals h ((D, listOf vs.toArray nD) :: (L, oL) :: nx) → (∀ p ∈ nx, p.1 ≠ D ∧ p.1 ≠ L) → J n vs nx → R (.ok .next) { s with heap := h, toks := tk, drawn := dr }) :
    codeAny (model prog w) A (.compLoop (.ListComp elt [⟨target, iter, ifs, 0⟩] scope pos) 0 (.ref I) (.ref D) cenv) R s := by
  refine compLoop_any
    (fun k s' => ∃ h' tk dr mC nD vs nx i, s' = { s with heap := h', toks := tk, drawn := dr } ∧ St i h' ∧ Fr h₀ cenv.locals h' mC ∧ News h₀ cenv.locals h' ((D, listOf vs.toArray nD) :: (L, oL) :: nx) ∧ (∀ p ∈ nx, p.1 ≠ I ∧ p.1 ≠ D ∧ p.1 ≠ L) ∧ J i vs nx ∧ vs.length ≤ i ∧ i ≤ n ∧ k = n + 1 - i) ?_ (n + 1)
    ⟨s.heap, s.toks, s.drawn, mC, 0, [], news, 0, rfl, hst, F, N, hn1, h0, Nat.le_refl _, Nat.zero_le _, rfl⟩
  rintro k s' ⟨h', tk, dr, mC', nD, vs, nx, i, rfl, hst', F', N', hn', hJ, hvl, hi, rfl⟩
  have hof : ∀ p ∈ ((D, listOf vs.toArray nD) :: (L, oL) :: nx : Led), p.1 ≠ I := by
    refine List.forall_mem_cons.mpr ⟨Ne.symm hID, List.forall_mem_cons.mpr ⟨Ne.symm hIL, fun p hp => (hn' p hp).1⟩⟩
  have next : ∀ h₁ : Heap, (∀ b o, b ∉ [I] → h'.get? b = some o → h₁.get? b = some o) → Fr h₀ cenv.locals h₁ mC' ∧ News h₀ cenv.locals h₁ ((D, listOf vs.toArray nD) :: (L, oL) :: nx) := fun h₁ hk₁ =>
    ⟨⟨F'.ns.at' fun o e => hk₁ _ o (by simpa using hCI) e, fun b o e => hk₁ b o (by
        intro hb
        rw [List.mem_singleton.mp hb, hI0] at e; cases e) (F'.keep b o e), F'.above⟩,
      fun p hp => ⟨hk₁ _ _ (by simpa using hof p hp) (N' p hp).1, (N' p hp).2⟩⟩
  by_cases hlt : i < n
  · refine W.item i _ _ _ hlt hst' fun v h₁ tk₁ hP hst₁ hk₁ => ?_
    refine Classical.byContradiction fun hG9 => ?_
    obtain ⟨F₁, N₁⟩ := next h₁ hk₁
    obtain ⟨oI, hoI, hcI⟩ := hcls _ _ hst₁
    refine hG9 ?_
    clear hG9
    have N₂ : News h₀ cenv.locals h₁ ((I, oI) :: (D, listOf vs.toArray nD) :: (L, oL) :: nx) := fun p hp => by
      rcases List.mem_cons.mp hp with rfl | hp
      · exact ⟨hoI, Ne.symm hCI, hI0⟩
      · exact N₁ p hp
    refine letGo_any hoI hcI hC ?_
    have fin : ∀ vs' nD' (h₃ : Heap) tk₃ dr₃ m₃ nx₃, vs'.length ≤ i + 1 → Fr h₀ cenv.locals h₃ m₃ → News h₀ cenv.locals h₃ nx₃ → (I, oI) ∈ nx₃ → (D, listOf vs'.toArray nD') ∈ nx₃ → (L, oL) ∈ nx₃ → (∀ nx2, (∀ p ∈ nx₃, p.1 ∉ [I, D, L] → p ∈ nx2) → J (i + 1) vs' nx2) →
        ∃ m, m < n + 1 - i ∧ ∃ h' tk dr mC nD vs nx i, ({ s with heap := h₃, toks := tk₃, drawn := dr₃ } : Shared) = { s with heap := h', toks := tk, drawn := dr } ∧ St i h' ∧ Fr h₀ cenv.locals h' mC ∧ News h₀ cenv.locals h' ((D, listOf vs.toArray nD) :: (L, oL) :: nx) ∧ (∀ p ∈ nx, p.1 ≠ I ∧ p.1 ≠ D ∧ p.1 ≠ L) ∧ J i vs nx ∧ vs.length ≤ i ∧ i ≤ n ∧ m = n + 1 - i := by
      intro vs' nD' h₃ tk₃ dr₃ m₃ nx₃ hv' F₃ N₃ mI mD mL hJ₃
      have hJ4 := hJ₃ (off I (off D (off L nx₃))) fun p hp hne => by
        simp only [List.mem_cons, List.not_mem_nil, or_false, not_or] at hne
        exact mem_off.mpr ⟨mem_off.mpr ⟨mem_off.mpr ⟨hp, hne.2.2⟩, hne.2.1⟩, hne.1⟩
      have sub : ∀ p ∈ off I (off D (off L nx₃)), p ∈ nx₃ := fun p hp => (mem_off.mp (mem_off.mp (mem_off.mp hp).1).1).1
      refine ⟨n + 1 - (i + 1), by omega, h₃, tk₃, dr₃, m₃, nD', vs', off I (off D (off L nx₃)), i + 1, rfl, ?_, F₃, ?_, fun p hp => ?_, hJ4, hv', hlt, rfl⟩
      · refine W.frame _ _ _ hst₁ fun b hb o e => ?_
        rcases List.mem_cons.mp hb with rfl | hb
        · rw [hoI] at e; cases e; exact (N₃ _ mI).1
        · obtain ⟨p, hp, rfl⟩ := List.mem_map.mp hb
          have e1 := (N₁ _ (.tail _ (.tail _ (hl _ _ _ hJ p hp)))).1
          have e2 := (N₃ _ (sub _ (hl _ _ _ hJ4 p hp))).1
          rw [e1] at e; rw [e2, ← e]
      · intro p hp
        rcases List.mem_cons.mp hp with rfl | hp
        · exact N₃ _ mD
        · rcases List.mem_cons.mp hp with rfl | hp
          · exact N₃ _ mL
          · exact N₃ _ (sub p hp)
      · have h1 := mem_off.mp hp
        have h2 := mem_off.mp h1.1
        have h3 := mem_off.mp h2.1
        exact ⟨h1.2, h2.2, h3.2⟩
    refine wpAny_mono (turn i v vs nD mC' nx h₁ tk₁ dr oI hlt hP hJ hn' hcI F₁ N₂) (fun _ s₂ h₂ => wpAny_mono h₂ (fun ok s₃ h₃ => ?_) fun _ _ e => e) fun _ _ e => e
    cases ok with
    | false =>
      simp only [Bool.false_eq_true, if_false] at h₃ ⊢
      refine Classical.byContradiction fun hG9 => ?_
      obtain ⟨h₃', tk₃, dr₃, m₃, nx₃, rfl, F₃, N₃, hmust, hJ₃⟩ := h₃
      refine hG9 ?_
      clear hG9
      exact fin vs nD h₃' tk₃ dr₃ m₃ nx₃ (by omega) F₃ N₃ (hmust _ (.head _)) (hmust _ (.tail _ (.head _))) (hmust _ (.tail _ (.tail _ (.head _)))) hJ₃
    | true =>
      simp only [if_true] at h₃ ⊢
      refine wpAny_mono h₃ (fun x s₄ h₄ => ?_) fun _ _ e => e
      refine Classical.byContradiction fun hG9 => ?_
      obtain ⟨h₃', tk₃, dr₃, m₃, nx₃, rfl, F₃, N₃, hmust, hJ₃⟩ := h₄
      refine hG9 ?_
      clear hG9
      refine led_append F₃ N₃ (hmust _ (.tail _ (.head _))) (by omega) fun h₅ rest F₅ N₅ ha hb hc => ?_
      refine fin (vs ++ [x]) (nD + 1) h₅ tk₃ dr₃ m₃ _ (by rw [List.length_append]; simpa using hvl) F₅ N₅ (.tail _ (hb _ (hmust _ (.head _)) hID)) (.head _) (.tail _ (hb _ (hmust _ (.tail _ (.tail _ (.head _)))) (Ne.symm hDL))) fun nx2 h2 => hJ₃ nx2 fun p hp hne => h2 p (.tail _ (hb p hp fun e => hne (by rw [e]; simp))) hne
  · have hin : i = n := by omega
    subst hin
    refine W.done _ _ _ hst' fun h₁ tk₁ hk₁ => ?_
    obtain ⟨F₁, N₁⟩ := next h₁ hk₁
    exact done h₁ tk₁ dr vs nD mC' nx F₁ N₁ (fun p hp => (hn' p hp).2) hJ
theorem comp_after {h₀ : Heap} {target elt iter : Expr} {ifs : List Expr} {scope : Scope} {cl : List (PySem.Str × Addr)} {pos : Pos} {env : Env} {I : Addr} {fx : Led} {n : Nat} {P : Nat → Value → Prop} {St : Nat → Heap → Prop} {m : PySem.Str → Option Value} {news : Led} {CN : String} {Q : Value → Shared → Prop}
    (hC : ["enumerate", "zip", "dict_itemiterator", "dict_reverseitemiterator", "odict_iterator", "itertools.zip_longest", "itertools.pairwise"].contains CN = false)
    (W : Walks prog w A I (I :: fx.map (·.1)) [I] n P St) (hsz : n ≤ sizeLine) (hcls : ∀ i h, St i h → ∃ o, h.get? I = some o ∧ o.cls = .type CN)
    (hI0 : h₀.get? I = none) (hIL : I ≠ env.locals) (hnI : ∀ p ∈ news, p.1 ≠ I) (hst : St 0 s.heap) (F : Fr h₀ env.locals s.heap m) (N : News h₀ env.locals s.heap news)
    (hcell : ∀ y ∈ scope.names, y.2 ≠ .cell) (hkind : scope.kind = .function)
    (J : Nat → List Value → Led → Prop) (hl : ∀ i vs nx, J i vs nx → ∀ p ∈ fx, p ∈ nx) (h0 : J 0 [] news)
    (turn : ∀ C D oL, NsO oL m → env.locals ≠ C → h₀.objs.size ≤ env.locals → (∀ p ∈ news, p.1 < D) → ∀ i v vs nD mC nx h tk dr oI, i < n → P i v → J i vs nx → (∀ p ∈ nx, p.1 ≠ I ∧ p.1 ≠ D ∧ p.1 ≠ env.locals) → oI.cls = .type CN → Fr h₀ C h mC → News h₀ C h ((I, oI) :: (D, listOf vs.toArray nD) :: (env.locals, oL) :: nx) →
      wpAny (model prog w) A (assign target (compEnvC scope cl C env) v) (fun _ s₂ =>
          wpAny (model prog w) A (forIn ifs true fun c r => if r = true then do let ok ← isTrue c (compEnvC scope cl C env) (eval c (compEnvC scope cl C env)); pure (ForInStep.yield ok) else pure (ForInStep.yield r)) (fun ok s₃ =>
            if ok = true then wpAny (model prog w) A (eval elt (compEnvC scope cl C env)) (fun x s₄ => CompEnd h₀ C s [(I, oI), (D, listOf vs.toArray nD), (env.locals, oL)] [I, D, env.locals] (J (i + 1)) (vs ++ [x]) s₄) (fun _ _ => False) s₃
            else CompEnd h₀ C s [(I, oI), (D, listOf vs.toArray nD), (env.locals, oL)] [I, D, env.locals] (J (i + 1)) vs s₃) (fun _ _ => False) s₂) (fun _ _ => False) { s with heap := h, toks := tk, drawn := dr })
    (done : ∀ h tk dr D vs nD nx, Fr h₀ env.locals h m → News h₀ env.locals h ((D, listOf vs.toArray nD) :: nx) → (∀ p ∈ news, p.1 < D) → (∀ p ∈ nx, p.1 ≠ D) → J n vs nx → Q (.ref D) { s with heap := h, toks := tk, drawn := dr }) :
    wpAny (model prog w) A (newList []) (fun acc s₃ => wpAny (model prog w) A (newFunctionEnv scope env.globals cl [] env.qual none .none (some env)) (fun cenv s₄ =>
      codeAny (model prog w) A (.compStart (.ListComp elt [⟨target, iter, ifs, 0⟩] scope pos) 0 (.ref I) acc { cenv with scope := relabel scope env }) (compPost (model prog w) A E none Q acc cenv.locals) s₄) E s₃) E s := by
  refine wpAny_newObj_type (wpAny_newFunctionEnv hcell (by intro y hy; simp at hy) (fun h₁ hns₁ hsb₁ => ?_) hkind)
  dsimp only at hns₁ hsb₁ ⊢
  generalize hH2 : s.heap.push { cls := .type "list", dict := none, data := .seq ([] : List Value).toArray } = H2 at hns₁ hsb₁ ⊢
  have hC2 : H2.objs.size = s.heap.objs.size + 1 := by rw [← hH2, Heap.size_push]
  have hDC : s.heap.objs.size ≠ H2.objs.size := by rw [hC2]; exact Nat.ne_of_lt (Nat.lt_succ_self _)
  have old : ∀ b o, s.heap.get? b = some o → h₁.get? b = some o := fun b o e => hsb₁.extBut b o (by have := Heap.lt_size e; rw [hC2]; exact Nat.ne_of_lt (Nat.lt_succ_of_lt this)) (Heap.get?_push_of_some _ (hH2 ▸ Heap.get?_push_of_some _ e))
  have hDobj : h₁.get? s.heap.objs.size = some (listOf ([] : List Value).toArray 0) := hsb₁.extBut _ _ hDC (Heap.get?_push_of_some _ (hH2 ▸ Heap.get?_push_size _ rfl))
  have hlt : ∀ p ∈ news, p.1 < s.heap.objs.size := fun p hp => Heap.lt_size (N p hp).1
  have hLlt : env.locals < s.heap.objs.size := F.ns.lt
  have hIlt : I < s.heap.objs.size := by obtain ⟨o, ho, _⟩ := hcls _ _ hst; exact Heap.lt_size ho
  have none_of : ∀ a, s.heap.objs.size ≤ a → h₀.get? a = none := fun a ha => by
    cases e : h₀.get? a with
    | none => rfl
    | some o' => exact absurd (Heap.lt_size (F.keep _ _ e)) (Nat.not_lt.mpr ha)
  have hst₁ : St 0 h₁ := W.frame _ _ _ hst fun b _ o e => old b o e
  obtain ⟨oL, hoL, hmL⟩ := ns_obj F.ns
  have hL0 : h₀.get? env.locals = none := by
    cases e : h₀.get? env.locals with
    | none => rfl
    | some o' => exact absurd (Heap.lt_size e) (Nat.not_lt.mpr F.above)
  have hLC : env.locals ≠ H2.objs.size := by rw [hC2]; exact Nat.ne_of_lt (Nat.lt_succ_of_lt hLlt)
  have FC : Fr h₀ H2.objs.size h₁ (fun x => ([] : List (PySem.Str × Value)).reverse.lookup x) := ⟨hns₁, fun b o e => old b o (F.keep b o e), by rw [hC2]; exact Nat.le_trans F.above (Nat.le_of_lt (Nat.lt_succ_of_lt hLlt))⟩
  have NC : News h₀ H2.objs.size h₁ ((s.heap.objs.size, listOf ([] : List Value).toArray 0) :: (env.locals, oL) :: news) := fun p hp => by
    rcases List.mem_cons.mp hp with rfl | hp
    · exact ⟨hDobj, hDC, none_of _ (Nat.le_refl _)⟩
    · rcases List.mem_cons.mp hp with rfl | hp
      · exact ⟨old _ _ hoL, hLC, hL0⟩
      · exact ⟨old _ _ (N p hp).1, by rw [hC2]; exact Nat.ne_of_lt (Nat.lt_succ_of_lt (hlt p hp)), (N p hp).2.2⟩
  have loop : ∀ s₃ : Shared, s₃ = { s with heap := h₁, toks := s.toks + ([] : List (PySem.Str × Value)).length } →
      codeAny (model prog w) A (.compLoop (.ListComp elt [⟨target, iter, ifs, 0⟩] scope pos) 0 (.ref I) (.ref s.heap.objs.size) (compEnvC scope cl H2.objs.size env))
        (compPost (model prog w) A E none Q (.ref s.heap.objs.size) H2.objs.size) s₃ := by
    rintro s₃ rfl
    refine comp_loop (cenv := compEnvC scope cl H2.objs.size env) (L := env.locals) (oL := oL) hC W hsz hcls (show H2.objs.size ≠ I by rw [hC2]; exact Nat.ne_of_gt (Nat.lt_succ_of_lt hIlt)) hI0 (Nat.ne_of_lt hIlt) hIL (Nat.ne_of_gt hLlt) hst₁ FC NC
      (fun p hp => ⟨hnI p hp, Nat.ne_of_lt (hlt p hp), (N p hp).2.1⟩) J hl h0 ?_ ?_
    · intro i v vs nD mC nx h tk dr oI hi hP hJ hn hc F₁ N₁
      exact turn _ _ oL hmL hLC F.above hlt i v vs nD mC nx h tk dr oI hi hP hJ hn hc F₁ N₁
    · intro h tk dr vs nD mC nx F₁ N₁ hn hJ
      refine ⟨_, F₁.ns, fun h'' hs'' => ?_⟩
      have kp : ∀ b o, b ≠ H2.objs.size → h.get? b = some o → h''.get? b = some o := fun b o hb e => hs''.extBut b o hb e
      refine done h'' tk dr s.heap.objs.size vs nD nx ⟨obj_ns (kp _ _ hLC (N₁ _ (.tail _ (.head _))).1) hmL, fun b o e => kp b o (fun e1 => ?_) (F₁.keep b o e), F.above⟩ (fun p hp => ?_) hlt (fun p hp => (hn p hp).1) hJ
      · subst e1
        exact absurd (Heap.lt_size e) (Nat.not_lt.mpr F₁.above)
      · rcases List.mem_cons.mp hp with rfl | hp
        · have := N₁ _ (.head _)
          exact ⟨kp _ _ this.2.1 this.1, Nat.ne_of_gt hLlt, this.2.2⟩
        · have := N₁ _ (.tail _ (.tail _ hp))
          exact ⟨kp _ _ this.2.1 this.1, (hn p hp).2, this.2.2⟩
  exact codeAny_compStart_list (loop _ rfl) (W.self 0 _ _ _ hst₁ (loop _ rfl))
theorem comp_list {h₀ : Heap} {target elt iter : Expr} {ifs : List Expr} {scope : Scope} {cl : List (PySem.Str × Addr)} {pos : Pos} {env : Env} {m : PySem.Str → Option Value} {news : Led} {Q : Value → Shared → Prop} {l : Addr} {xs : List Value} {nn : Nat}
    (hh : A.handled = none) (hm : (l, listOf xs.toArray nn) ∈ news) (hsz : xs.length ≤ sizeLine) (F : Fr h₀ env.locals s.heap m) (N : News h₀ env.locals s.heap news) (hcell : ∀ y ∈ scope.names, y.2 ≠ .cell) (hkind : scope.kind = .function)
    (J : Nat → List Value → Led → Prop) (hl : ∀ i vs nx, J i vs nx → (l, listOf xs.toArray nn) ∈ nx) (h0 : J 0 [] news)
    (turn : ∀ I C D oL, NsO oL m → env.locals ≠ C → h₀.objs.size ≤ env.locals → (∀ p ∈ news, p.1 < D) → ∀ i v vs nD mC nx h tk dr oI, i < xs.length → xs[i]? = some v → J i vs nx → (∀ p ∈ nx, p.1 ≠ I ∧ p.1 ≠ D ∧ p.1 ≠ env.locals) → oI.cls = .type "list_iterator" → Fr h₀ C h mC → News h₀ C h ((I, oI) :: (D, listOf vs.toArray nD) :: (env.locals, oL) :: nx) →
      wpAny (model prog w) A (assign target (compEnvC scope cl C env) v) (fun _ s₂ =>
          wpAny (model prog w) A (forIn ifs true fun c r => if r = true then do let ok ← isTrue c (compEnvC scope cl C env) (eval c (compEnvC scope cl C env)); pure (ForInStep.yield ok) else pure (ForInStep.yield r)) (fun ok s₃ =>
            if ok = true then wpAny (model prog w) A (eval elt (compEnvC scope cl C env)) (fun x s₄ => CompEnd h₀ C s [(I, oI), (D, listOf vs.toArray nD), (env.locals, oL)] [I, D, env.locals] (J (i + 1)) (vs ++ [x]) s₄) (fun _ _ => False) s₃
            else CompEnd h₀ C s [(I, oI), (D, listOf vs.toArray nD), (env.locals, oL)] [I, D, env.locals] (J (i + 1)) vs s₃) (fun _ _ => False) s₂) (fun _ _ => False) { s with heap := h, toks := tk, drawn := dr })
    (done : ∀ h tk dr D vs nD nx, Fr h₀ env.locals h m → News h₀ env.locals h ((D, listOf vs.toArray nD) :: nx) → (∀ p ∈ news, p.1 < D) → (∀ p ∈ nx, p.1 ≠ D) → J xs.length vs nx → Q (.ref D) { s with heap := h, toks := tk, drawn := dr }) :
    wpAny (model prog w) A (pyIter (.ref l)) (fun it s₂ => wpAny (model prog w) A (newList []) (fun acc s₃ => wpAny (model prog w) A (newFunctionEnv scope env.globals cl [] env.qual none .none (some env)) (fun cenv s₄ =>
      codeAny (model prog w) A (.compStart (.ListComp elt [⟨target, iter, ifs, 0⟩] scope pos) 0 it acc { cenv with scope := relabel scope env }) (compPost (model prog w) A E none Q acc cenv.locals) s₄) E s₃) E s₂) E s := by
  have hol := (N _ hm).1
  have hne : l ≠ s.heap.objs.size := Nat.ne_of_lt (Heap.lt_size hol)
  have hls := led_list N hm
  refine wpAny_pyIter_list hls ?_
  have W := Walks.list (prog := prog) (w := w) hh s.heap.objs.size l hne xs.toArray
  have hlen : xs.toArray.size = xs.length := by simp
  rw [hlen] at W
  refine comp_after (s := { s with heap := s.heap.push _ }) (fx := [(l, listOf xs.toArray nn)]) (CN := "list_iterator") (by decide) W hsz (fun i h st => let ⟨o, ho, hc, _⟩ := st.1; ⟨o, ho, hc⟩) (next_is_new F) (Nat.ne_of_gt F.ns.lt) (fun p hp => Nat.ne_of_lt (Heap.lt_size (N p hp).1))
    ⟨⟨_, Heap.get?_push_size _ rfl, rfl, rfl⟩, hls.at fun o e => Heap.get?_push_of_some _ e⟩ (F.push _) (fun p hp => ⟨Heap.get?_push_of_some _ (N p hp).1, (N p hp).2⟩) hcell hkind J (fun i vs nx hJ p hp => by rw [List.mem_singleton.mp hp]; exact hl i vs nx hJ) h0 ?_ done
  intro C D oL a1 a2 a3 a4 i v vs nD mC nx h tk dr oI hi hP hJ hn hc F₁ N₁
  exact turn _ C D oL a1 a2 a3 a4 i v vs nD mC nx h tk dr oI hi (by simpa using hP) hJ hn hc F₁ N₁

theorem comp_bytes {h₀ : Heap} {target elt iter : Expr} {ifs : List Expr} {scope : Scope} {cl : List (PySem.Str × Addr)} {pos : Pos} {env : Env} {m : PySem.Str → Option Value} {news : Led} {Q : Value → Shared → Prop} {b : Array UInt8} {tb : Tok}
    (hh : A.handled = none) (hsz : b.size ≤ sizeLine) (F : Fr h₀ env.locals s.heap m) (N : News h₀ env.locals s.heap news) (hcell : ∀ y ∈ scope.names, y.2 ≠ .cell) (hkind : scope.kind = .function)
    (J : Nat → List Value → Led → Prop) (h0 : J 0 [] news)
    (turn : ∀ I C D oL, NsO oL m → env.locals ≠ C → h₀.objs.size ≤ env.locals → (∀ p ∈ news, p.1 < D) → ∀ i v vs nD mC nx h tk dr oI, i < b.size → (∃ c u, b[i]? = some c ∧ v = .int (c.toNat : Int) u) → J i vs nx → (∀ p ∈ nx, p.1 ≠ I ∧ p.1 ≠ D ∧ p.1 ≠ env.locals) → oI.cls = .type "bytes_iterator" → Fr h₀ C h mC → News h₀ C h ((I, oI) :: (D, listOf vs.toArray nD) :: (env.locals, oL) :: nx) →
      wpAny (model prog w) A (assign target (compEnvC scope cl C env) v) (fun _ s₂ =>
          wpAny (model prog w) A (forIn ifs true fun c r => if r = true then do let ok ← isTrue c (compEnvC scope cl C env) (eval c (compEnvC scope cl C env)); pure (ForInStep.yield ok) else pure (ForInStep.yield r)) (fun ok s₃ =>
            if ok = true then wpAny (model prog w) A (eval elt (compEnvC scope cl C env)) (fun x s₄ => CompEnd h₀ C s [(I, oI), (D, listOf vs.toArray nD), (env.locals, oL)] [I, D, env.locals] (J (i + 1)) (vs ++ [x]) s₄) (fun _ _ => False) s₃
            else CompEnd h₀ C s [(I, oI), (D, listOf vs.toArray nD), (env.locals, oL)] [I, D, env.locals] (J (i + 1)) vs s₃) (fun _ _ => False) s₂) (fun _ _ => False) { s with heap := h, toks := tk, drawn := dr })
    (done : ∀ h tk dr D vs nD nx, Fr h₀ env.locals h m → News h₀ env.locals h ((D, listOf vs.toArray nD) :: nx) → (∀ p ∈ news, p.1 < D) → (∀ p ∈ nx, p.1 ≠ D) → J b.size vs nx → Q (.ref D) { s with heap := h, toks := tk, drawn := dr }) :
    wpAny (model prog w) A (pyIter (.bytes b tb)) (fun it s₂ => wpAny (model prog w) A (newList []) (fun acc s₃ => wpAny (model prog w) A (newFunctionEnv scope env.globals cl [] env.qual none .none (some env)) (fun cenv s₄ =>
      codeAny (model prog w) A (.compStart (.ListComp elt [⟨target, iter, ifs, 0⟩] scope pos) 0 it acc { cenv with scope := relabel scope env }) (compPost (model prog w) A E none Q acc cenv.locals) s₄) E s₃) E s₂) E s := by
  refine KBw.pyIter_bytes ?_
  have W := KBw.walks (prog := prog) (w := w) hh s.heap.objs.size b tb
  refine comp_after (s := { s with heap := s.heap.push _ }) (fx := []) (CN := "bytes_iterator") (by decide) W hsz (fun i h st => let ⟨o, ho, hc, _⟩ := st; ⟨o, ho, hc⟩) (next_is_new F) (Nat.ne_of_gt F.ns.lt) (fun p hp => Nat.ne_of_lt (Heap.lt_size (N p hp).1))
    ⟨_, Heap.get?_push_size _ rfl, rfl, rfl⟩ (F.push _) (fun p hp => ⟨Heap.get?_push_of_some _ (N p hp).1, (N p hp).2⟩) hcell hkind J (fun i vs nx hJ p hp => by cases hp) h0 ?_ done
  intro C D oL a1 a2 a3 a4 i v vs nD mC nx h tk dr oI hi hP hJ hn hc F₁ N₁
  exact turn _ C D oL a1 a2 a3 a4 i v vs nD mC nx h tk dr oI hi hP hJ hn hc F₁ N₁

theorem ListComp_any {elt target iter : Expr} {ifs : List Expr} {scope : Scope} {cl : List (PySem.Str × Addr)} {pos : Pos} {env : Env} {Q : Value → Shared → Prop}
    (hs : ∀ x, foldedSetIterable iter env x = pure x) (hclos : closureFor scope env = pure cl) (hkind : scope.kind = .function) (hnames : ∀ x ∈ scope.names, x.2 = .local → scope.names.lookup x.1 = some .local)
    (h : wpAny (model prog w) A (eval iter env) (fun x s₁ => wpAny (model prog w) A (pyIter x) (fun it s₂ => wpAny (model prog w) A (newList []) (fun acc s₃ => wpAny (model prog w) A (newFunctionEnv scope env.globals cl [] env.qual none .none (some env)) (fun cenv s₄ =>
      codeAny (model prog w) A (.compStart (.ListComp elt [⟨target, iter, ifs, 0⟩] scope pos) 0 it acc { cenv with scope := relabel scope env }) (compPost (model prog w) A E none Q acc cenv.locals) s₄) E s₃) E s₂) E s₁) E s) :
    wpAny (model prog w) A (eval (.ListComp elt [⟨target, iter, ifs, 0⟩] scope pos) env) Q E s := by
  rw [eval_ListComp]
  exact wpAny_comprehension_free (use := none) rfl hs hclos hkind hnames h
end
section
variable {M : Model} {A : Around} {E : Value → Shared → Prop} {s : Shared} {K : Frag} {h₀ : Heap} {C : Addr} {m mg mb : PySem.Str → Option Value} {p : Program} {loose : List PySem.Str} {mean : ExcName → Option Value} {scope : Scope} {cl : List (PySem.Str × Addr)} {env : Env} {x : PySem.Str} {pos : Pos} {v : Value} {news : Led}
theorem cStore {Q : Unit → Shared → Prop} (F : Fr h₀ C s.heap m) (N : News h₀ C s.heap news)
    (h : ∀ h' tk', Fr h₀ C h' (fun y => if y = x then some v else m y) → News h₀ C h' news → Q () { s with heap := h', toks := tk' })
    (hl : (compEnvC scope cl C env).kindOf x = some .local) (hk : scope.kind = .function) : wpAny M A (storeName (compEnvC scope cl C env) x v) Q E s :=
  wpAny_storeName_local hl F.ns (fun h' hn hs => h h' _ (F.set hn hs) fun p hp => ⟨(hs.2 _ (N p hp).2.1).trans (N p hp).1, (N p hp).2⟩)
    (by show ((relabel scope env).kind == .class || ((relabel scope env).kind == .module && C != env.globals)) = false; rw [show (relabel scope env).kind = .function from hk]; rfl)
theorem cName {Q : Value → Shared → Prop} (F : Fr h₀ C s.heap m) (hv : m x = some v) (h : Q v s) (hl : (compEnvC scope cl C env).kindOf x = some .local) (hk : scope.kind = .function) (hd : (x == ("__debug__" : PySem.Str)) = false) :
    wpAny M A (eval (.Name x pos) (compEnvC scope cl C env)) Q E s := wpAny_Name (wpAny_loadName_local hk hl F.ns hv h) hd
theorem cFree {Q : Value → Shared → Prop} {c : Addr} {oc : Obj} (N : News h₀ C s.heap news) (hc : cl.lookup x = some c) (hm : (c, oc) ∈ news) (hd1 : oc.data = .cell (some v)) (h : Q v s) (hl : (compEnvC scope cl C env).kindOf x = some .free) (hk : scope.kind = .function) (hd : (x == ("__debug__" : PySem.Str)) = false) (hn : (x == ("__classdict__" : PySem.Str)) = false) :
    wpAny M A (eval (.Name x pos) (compEnvC scope cl C env)) Q E s := wpAny_Name (wpAny_loadName_free hk hl hc ⟨_, (N _ hm).1, hd1⟩ h hn) hd
theorem cGlob {Q : Value → Shared → Prop} (F : Fr h₀ C s.heap m) (X : K.In h₀) (T : Top p loose mean mg mb h₀) (e : nsIn K mainGlobals x = some (some v)) (h : Q v s) (hg : env.globals = mainGlobals) (hl : (compEnvC scope cl C env).kindOf x = some .globalImplicit) (hk : scope.kind = .function) (hd : (x == ("__debug__" : PySem.Str)) = false) :
    wpAny M A (eval (.Name x pos) (compEnvC scope cl C env)) Q E s :=
  Calls.Name_function_global hk hl (Calls.loadGlobal_global (env := compEnvC scope cl C env) (by show s.heap.Ns env.globals mg; rw [hg]; exact T.g.keeps F.keep) (mg_of X T.g e) h) hd
theorem cBuilt {Q : Value → Shared → Prop} (F : Fr h₀ C s.heap m) (X : K.In h₀) (T : Top p loose mean mg mb h₀) (e : nsIn K mainGlobals x = some none) (hv : bootBuiltins x = some v) (hn : x ≠ "__name__") (h : Q v s) (hg : env.globals = mainGlobals) (hb : env.builtins = builtinsNs) (hl : (compEnvC scope cl C env).kindOf x = some .globalImplicit) (hk : scope.kind = .function) (hd : (x == ("__debug__" : PySem.Str)) = false) :
    wpAny M A (eval (.Name x pos) (compEnvC scope cl C env)) Q E s :=
  Calls.Name_function_global hk hl (Calls.loadGlobal_builtin (env := compEnvC scope cl C env) (by show s.heap.Ns env.globals mg; rw [hg]; exact T.g.keeps F.keep) (mg_none_of X T.g e) (by show s.heap.Ns env.builtins mb; rw [hb]; exact T.b.keeps F.keep) ((T.builtins x hn).trans hv) h) hd
end
section
/-- the word of a size in capital letters, and in small ones -/
def wU (n : Nat) : PySem.Str := ⟨((hexd n).map (65 + ·)).toArray⟩
def wL (n : Nat) : PySem.Str := ⟨((hexd n).map (97 + ·)).toArray⟩
theorem join_signs : ∀ l : List Nat, (Txt.join (PySem.Str.ofString "") (l.map fun c => (⟨#[c]⟩ : PySem.Str))).cps.toList = l
  | [] => rfl
  | [c] => rfl
  | c :: d :: r => by
    have ih := join_signs (d :: r)
    have e : ∀ ps, Txt.join (PySem.Str.ofString "") ps = PySem.Str.join (PySem.Str.ofString "") ps := fun ps => StrLaws.glued_eq_join _ ps
    rw [e] at ih ⊢
    show ((⟨#[c]⟩ : PySem.Str) ++ PySem.Str.ofString "" ++ PySem.Str.join (PySem.Str.ofString "") ((d :: r).map fun c => (⟨#[c]⟩ : PySem.Str))).cps.toList = _
    simp only [PySem.Str.cps_append, Array.toList_append]
    rw [ih]
    rfl
theorem join_word (n : Nat) : Txt.join (PySem.Str.ofString "") ((hexd n).map fun d => (⟨#[65 + d]⟩ : PySem.Str)) = wU n := by
  have h := join_signs ((hexd n).map (65 + ·))
  rw [List.map_map] at h
  have e : ((fun c => (⟨#[c]⟩ : PySem.Str)) ∘ fun x => 65 + x) = fun d => (⟨#[65 + d]⟩ : PySem.Str) := rfl
  rw [e] at h
  unfold wU
  rw [← h]
def lowA (c : Nat) : Nat := if 65 ≤ c ∧ c ≤ 90 then c + 32 else c
def upA (c : Nat) : Nat := if 97 ≤ c ∧ c ≤ 122 then c - 32 else c
theorem lowerOf_ascii : ∀ c, c < 128 → Unicode.lowerOf c = [lowA c] := by decide +kernel
theorem upperOf_ascii : ∀ c, c < 128 → Unicode.upperOf c = [upA c] := by decide +kernel
theorem flat_one {f : Nat → Nat → List Nat} {g : Nat → Nat} : ∀ (l : List Nat) (k : Nat), (∀ i c, l[i]? = some c → f (k + i) c = [g c]) → ((l.mapIdx fun i c => (f (k + i) c).toArray).map (·.toList)).flatten = l.map g
  | [], _, _ => rfl
  | c :: r, k, h => by
    rw [List.mapIdx_cons, List.map_cons, List.flatten_cons, List.map_cons]
    have h0 := h 0 c rfl
    have ih := flat_one (f := f) (g := g) r (k + 1) fun i c hc => by
      have := h (i + 1) c (by simpa using hc)
      rw [show k + 1 + i = k + (i + 1) by omega]; exact this
    have e : (fun i c => (f (k + (i + 1)) c).toArray) = fun i c => (f (k + 1 + i) c).toArray := by
      funext i c; rw [show k + 1 + i = k + (i + 1) by omega]
    rw [e, ih]
    show (f (k + 0) c) ++ _ = _
    rw [h0]; rfl
theorem placed_one {x : PySem.Str} {f : Nat → Nat → List Nat} {g : Nat → Nat} (h : ∀ i c, x.cps[i]? = some c → f i c = [g c]) : (placed x f).toList = x.cps.toList.map g := by
  have h1 := flat_one (f := f) (g := g) x.cps.toList 0 fun i c hc => by
    rw [Nat.zero_add]; exact h i c (by simpa using hc)
  unfold placed
  rw [← h1]
  simp
theorem lower_ascii {x : PySem.Str} (h : ∀ c ∈ x.cps.toList, c < 128) : Txt.lower x = ⟨(x.cps.toList.map lowA).toArray⟩ := by
  have e := placed_one (x := x) (f := fun i _ => Unicode.lowerAt x.cps i) (g := lowA) fun i c hc => by
    have hc' := h c (List.mem_of_getElem? (by simpa using hc))
    show Unicode.lowerAt x.cps i = [lowA c]
    unfold Unicode.lowerAt
    rw [hc]
    have : (c == 0x3A3) = false := by simp; omega
    simp only [this, Bool.false_and, Bool.false_eq_true, if_false]
    exact lowerOf_ascii c hc'
  unfold Txt.lower
  rw [← e]
theorem upper_ascii {x : PySem.Str} (h : ∀ c ∈ x.cps.toList, c < 128) : Txt.upper x = ⟨(x.cps.toList.map upA).toArray⟩ := by
  have e := placed_one (x := x) (f := fun _ c => Unicode.upperOf c) (g := upA) fun i c hc => upperOf_ascii c (h c (List.mem_of_getElem? (by simpa using hc)))
  unfold Txt.upper
  rw [← e]
theorem lower_wU {n : Nat} : Txt.lower (wU n) = wL n := by
  rw [lower_ascii]
  · unfold wU wL
    congr 2
    simp only [List.map_map]
    apply List.map_congr_left
    intro d hd
    have := hexd_lt n d hd
    show lowA (65 + d) = 97 + d
    unfold lowA; rw [if_pos (by omega)]; omega
  · intro c hc
    obtain ⟨d, hd, rfl⟩ := List.mem_map.mp (by simpa [wU] using hc)
    have := hexd_lt n d hd
    omega
theorem lower_wL {n : Nat} : Txt.lower (wL n) = wL n := by
  rw [lower_ascii]
  · unfold wL
    congr 2
    simp only [List.map_map]
    apply List.map_congr_left
    intro d hd
    have := hexd_lt n d hd
    show lowA (97 + d) = 97 + d
    unfold lowA; rw [if_neg (by omega)]
  · intro c hc
    obtain ⟨d, hd, rfl⟩ := List.mem_map.mp (by simpa [wL] using hc)
    have := hexd_lt n d hd
    omega
theorem upper_wL {n : Nat} : Txt.upper (wL n) = wU n := by
  rw [upper_ascii]
  · unfold wU wL
    congr 2
    simp only [List.map_map]
    apply List.map_congr_left
    intro d hd
    have := hexd_lt n d hd
    show upA (97 + d) = 65 + d
    unfold upA; rw [if_pos (by omega)]; omega
  · intro c hc
    obtain ⟨d, hd, rfl⟩ := List.mem_map.mp (by simpa [wL] using hc)
    have := hexd_lt n d hd
    omega
theorem upper_wU {n : Nat} : Txt.upper (wU n) = wU n := by
  rw [upper_ascii]
  · unfold wU
    congr 2
    simp only [List.map_map]
    apply List.map_congr_left
    intro d hd
    have := hexd_lt n d hd
    show upA (65 + d) = 65 + d
    unfold upA; rw [if_neg (by omega)]
  · intro c hc
    obtain ⟨d, hd, rfl⟩ := List.mem_map.mp (by simpa [wU] using hc)
    have := hexd_lt n d hd
    omega
end
local macro_rules | `(tactic| walk_at "storeName") => `(tactic| (k_here; (with_reducible show wpAny _ _ (storeName (compEnvC _ _ _ _) _ _) _ _ _); k_dflt (refine' cStore ?F ?N ?_ ?a ?b; (case F => k_asm); (case N => k_asm); (case a => rfl); (case b => rfl); k_whole); intro h' tk' F' N'))
local macro_rules | `(tactic| walk_at "call builtin:str.lower") => `(tactic| (k_here; (with_reducible show wpAny _ _ (call (Value.builtin _) [Value.str _ _]) _ _ _); k_dflt (refine' SCL.lower ?z ?_; (case z => assumption)); intro hl9))
local macro_rules | `(tactic| walk_at "call builtin:str.upper") => `(tactic| (k_here; (with_reducible show wpAny _ _ (call (Value.builtin _) [Value.str _ _]) _ _ _); k_dflt (refine' SCL.upper ?z ?_; (case z => assumption)); intro hl9))
theorem clean_M11 : True := by
  w_top off
  k_with "eval ListComp" => (refine stop ?_)
  k_with "pyIter bytes" => (refine stop ?_)
  k_with "pyIter str" => (refine stop ?_)
  k_with "eval Name" => ((k_here; (with_reducible show wpAny _ _ (eval (Expr.Name _ _) (compEnvC _ _ _ _)) _ _ _); k_dflt (refine' cFree ?Nz30 ?cz30 ?mz30 ?dz30 ?_ ?az30 ?bz30 ?ez30 ?fz30; (case Nz30 => k_asm); (case cz30 => rfl); (case mz30 => k_mem); (case dz30 => k_asm); (case az30 => rfl); (case bz30 => rfl); (case ez30 => decide); (case fz30 => decide); k_whole)))
  k_with "eval Name" => ((k_here; (with_reducible show wpAny _ _ (eval (Expr.Name _ _) (compEnvC _ _ _ _)) _ _ _); k_dflt (refine' cGlob ?Fz31 ?Xz31 ?Tz31 ?ez31 ?_ ?gz31 ?az31 ?bz31 ?cz31; (case Fz31 => k_asm); (case Xz31 => k_asm); (case Tz31 => k_asm); (case gz31 => rfl); (case az31 => rfl); (case bz31 => rfl); (case cz31 => decide); (case ez31 => k_is); k_whole)))
  k_with "eval Name" => ((k_here; (with_reducible show wpAny _ _ (eval (Expr.Name _ _) (compEnvC _ _ _ _)) _ _ _); k_dflt (refine' cBuilt ?Fz32 ?Xz32 ?Tz32 ?ez32 ?vz32 ?nz32 ?_ ?gz32 ?hz32 ?az32 ?bz32 ?cz32; (case Fz32 => k_asm); (case Xz32 => k_asm); (case Tz32 => k_asm); (case gz32 => rfl); (case hz32 => rfl); (case az32 => rfl); (case bz32 => rfl); (case cz32 => decide); (case ez32 => k_is); (case vz32 => first | boot_fast | boot_by_name); (case nz32 => decide); k_whole)))
  k_with "eval Name" => ((k_here; (with_reducible show wpAny _ _ (eval (Expr.Name _ _) (compEnvC _ _ _ _)) _ _ _); k_dflt (refine' cName ?Fz33 ?vz33 ?_ ?az33 ?bz33 ?cz33; (case Fz33 => k_asm); (case vz33 => exact rfl); (case az33 => rfl); (case bz33 => rfl); (case cz33 => decide); k_whole)))
  k_with "my call" => (refine stop ?_)
  trivial
section
local macro_rules | `(tactic| walk_at "exec While Name cons nil") => `(tactic| refine stop ?_)
theorem strs_snoc {v : PySem.Str} {t : Tok} : ∀ {vs : List Value} {ys : List PySem.Str}, StrsAre vs ys → StrsAre (vs ++ [.str v t]) (ys ++ [v])
  | _, _, .nil => .cons _ _ .nil
  | _, _, .cons _ _ h => .cons _ _ (strs_snoc h)
theorem not_hide {a I D L : Addr} (h : a ≠ I ∧ a ≠ D ∧ a ≠ L) : a ∉ [I, D, L] := by simp [h.1, h.2.1, h.2.2]
theorem hex_at {bb : Array UInt8} {ds : List Nat} {i : Nat} {c : UInt8} (h : KBw.bInts bb = up65 ds) (hc : bb[i]? = some c) : ∃ d, ds[i]? = some d ∧ c.toNat = 65 + d := by
  have h1 := KBw.ints_get hc
  rw [h, up65, List.getElem?_map] at h1
  cases e : ds[i]? with
  | none => rw [e] at h1; cases h1
  | some d =>
    rw [e] at h1
    simp only [Option.map_some, Option.some.injEq] at h1
    exact ⟨d, rfl, by omega⟩
theorem bints_size (bb : Array UInt8) : (KBw.bInts bb).length = bb.size := by simp [KBw.bInts]
def nm (s : Nat) (c : Int) : PySem.Str := if c % 2 = 1 then wL s else wU s
theorem prn_wU {n : Nat} (h : n < 2 ^ 20) : Prn (wU n) := by
  have h2 := hexd_len 5 n (by omega)
  refine ⟨?_, fun c hc => ?_⟩
  · show (wU n).cps.size ≤ 1000
    simp [wU]; omega
  · obtain ⟨d, hd, rfl⟩ := List.mem_map.mp (by simpa [wU] using hc)
    have := hexd_lt n d hd
    omega
theorem prn_wL {n : Nat} (h : n < 2 ^ 20) : Prn (wL n) := by
  have h2 := hexd_len 5 n (by omega)
  refine ⟨?_, fun c hc => ?_⟩
  · show (wL n).cps.size ≤ 1000
    simp [wL]; omega
  · obtain ⟨d, hd, rfl⟩ := List.mem_map.mp (by simpa [wL] using hc)
    have := hexd_lt n d hd
    omega
theorem prn_num {n : Int} (h0 : 0 ≤ n) (h1 : n < 2 ^ 20) : Prn (PySem.Str.ofString (toString n)) :=
  ⟨Nat.le_trans (KT.len_num h0 (by omega)) (by decide), fun c hc => by have := dig_num h0 c hc; omega⟩
theorem ones_sum : ∀ l : List Nat, ((l.map fun d => (⟨#[65 + d]⟩ : PySem.Str)).map (·.length)).sum = l.length
  | [] => rfl
  | d :: r => by
    have := ones_sum r
    simp only [List.map_cons, List.sum_cons, List.length_cons] at this ⊢
    have e : (⟨#[65 + d]⟩ : PySem.Str).length = 1 := rfl
    omega
theorem c_lay (w : World) (news : Led) (x dx l : Addr) (t ts tc : Tok) (vs : List Value) (nn : Nat) (sz ct : Int) (hm1 : (x, instObj 182 dx) ∈ news) (hm2 : (dx, hdrDict w t l) ∈ news) (hm3 : (l, listOf vs.toArray nn) ∈ news) (hz : vs.length ≤ 1000) (hs0 : 0 < sz) (hs1 : sz < 2 ^ 20) (hc0 : 0 < ct) (hc1 : ct < 2 ^ 20) :
    ConD w 20 300 news 262 [.ref x, .int sz ts, .int ct tc] []
   (fun r news' => r = .none ∧ (∃ q t1 t2, (q, tupO #[.str (nm sz.toNat ct) t1, .str (PySem.Str.ofString (toString ct)) t2]) ∈ news' ∧ (l, W.listOf (vs ++ [Value.ref q]).toArray (nn + 1)) ∈ news') ∧ (∀ p ∈ news, p.1 ≠ l → p ∈ news')) := by
  unfold ConD
  intro p loose mean mg mb dp un gd cn cs ad ccd cl outer A₀ base h₀ L m s Q E B F X N T hk hd hu hret
  dsimp only [KK] at X
  refine wpAny_call ?_
  k_dflt (walk_at "my_enter")
  k_with "my call" => (refine stop ?_)
  k_with "my call" => (refine' Con.use (c_int2ap w _ _ _ ?q1 ?q2) ?cB ?cF ?cX ?cN ?cT ?ch ?cf ?ck ?cd ?cu ?_; walk_at "my_use"; (case q1 => omega); (case q2 => omega); intro r' news' h' tk' F' N' P'; refine Classical.byContradiction fun hG9 => ?_; obtain ⟨bb, tb, rfl, hbb, rfl⟩ := P'; refine hG9 ?_; clear hG9)
  k_steps
  unfold Stop
  refine ListComp_any (by intro _; rfl) rfl rfl (by decide) ?_
  k_steps
  unfold Stop
  refine comp_bytes rfl ?_ F' N' (by decide) rfl (fun i vs nx => StrsAre vs (((hexd sz.toNat).take i).map fun d => (⟨#[65 + d]⟩ : PySem.Str)) ∧ ∀ p ∈ news', p ∈ nx) ⟨.nil, fun p hp => hp⟩ ?_ ?_
  · have h1 := bints_size bb
    rw [hbb, up65, List.length_map] at h1
    have h2 := hexd_len 5 sz.toNat (by omega)
    rw [sizeLine_eq]; omega
  · intro I C D oL hoL hLC hLa hltD i v vs nD mC nx h tk dr oI hi hP hJ hn hc F₁ N₁
    refine gen_c fun R8 hR8 => ?_
    refine Classical.byContradiction fun hG9 => ?_
    obtain ⟨c, u, hc1, rfl⟩ := hP
    obtain ⟨hvs, hsub⟩ := hJ
    refine hG9 ?_
    clear hG9
    have hcb : c.toNat < 256 := c.toNat_lt
    k_steps
    rename_i FQ NQ _
    obtain ⟨d, hd9, hcd⟩ := hex_at hbb hc1
    refine hR8 _ _ ?_
    refine ⟨_, _, _, _, _, rfl, FQ, NQ, ?_, fun nx2 h2 => ⟨?_, fun p hp => h2 p (.tail _ (.tail _ (.tail _ (hsub p hp)))) (not_hide (hn p (hsub p hp)))⟩⟩
    · intro p hp
      rcases List.mem_cons.mp hp with rfl | hp
      · exact .head _
      · rcases List.mem_cons.mp hp with rfl | hp
        · exact .tail _ (.head _)
        · rw [List.mem_singleton.mp hp]; exact .tail _ (.tail _ (.head _))
    · rw [List.take_add_one, hd9, List.map_append]
      show StrsAre (vs ++ [Value.str ⟨#[c.toNat]⟩ _]) (_ ++ [⟨#[65 + d]⟩])
      rw [← hcd]
      exact strs_snoc hvs
  · intro h tk dr D vs nD nx F₁ N₁ hlt hne hJ
    obtain ⟨hvs, hsub⟩ := hJ
    have hsz : bb.size = (hexd sz.toNat).length := by rw [← bints_size, hbb, up65, List.length_map]
    rw [hsz, List.take_length] at hvs
    have hln := hexd_len 5 sz.toNat (by omega)
    have hjw : (((hexd sz.toNat).map fun d => (⟨#[65 + d]⟩ : PySem.Str)).map (·.length)).sum + ((hexd sz.toNat).map fun d => (⟨#[65 + d]⟩ : PySem.Str)).length ≤ 1048576 := by
      rw [ones_sum, List.length_map]; omega
    have hpU := prn_wU (n := sz.toNat) (by omega)
    have hpL := prn_wL (n := sz.toNat) (by omega)
    have hpN := prn_num (n := ct) (by omega) hc1
    have hwl : (wU sz.toNat).length ≤ 5592405 := Nat.le_trans hpU.1 (by decide)
    have hjo := join_word sz.toNat
    rw [← hjo] at hwl hpU
    have m1 : (x, instObj 182 dx) ∈ (D, W.listOf vs.toArray nD) :: nx := .tail _ (hsub _ hm1)
    have m2 : (dx, hdrDict w t l) ∈ (D, W.listOf vs.toArray nD) :: nx := .tail _ (hsub _ hm2)
    have m3 := List.Mem.tail (D, W.listOf vs.toArray nD) (hsub _ hm3)
    k_with "my call" => (refine stop ?_)
    k_with "my call" => (refine' Con.use (c_addh w _ _ _ _ _ _ _ _ _ _ _ m1 m2 m3 hz ?q1 hpN) ?cB ?cF ?cX ?cN ?cT ?ch ?cf ?ck ?cd ?cu ?_; walk_at "my_use"; (case q1 => first | exact hpU | (rw [hjo, lower_wU]; exact hpL)); intro r' news2 h' tk' F' N' P'; obtain ⟨rfl, P1, P2⟩ := P')
    k_steps
    · rename_i hmod _ kF kN _ _
      rw [Int.fmod_eq_emod_of_nonneg _ (by decide)] at hmod
      have e : nm sz.toNat ct = wL sz.toNat := by unfold nm; rw [if_pos (by omega)]
      rw [hjo, lower_wU, ← e] at P1
      exact hret _ _ _ _ _ kF kN ⟨rfl, P1, fun p hp hne2 => P2 p (.tail _ (hsub p hp)) hne2⟩
    · rename_i hmod kF kN _ _
      rw [Int.fmod_eq_emod_of_nonneg _ (by decide)] at hmod
      have e : nm sz.toNat ct = wU sz.toNat := by unfold nm; rw [if_neg (by omega)]
      rw [hjo, ← e] at P1
      exact hret _ _ _ _ _ kF kN ⟨rfl, P1, fun p hp hne2 => P2 p (.tail _ (hsub p hp)) hne2⟩
end
theorem clean_M12 : True := by
  w_top off
  k_with "my call" => (refine stop ?_)
  trivial
section
local macro_rules | `(tactic| walk_at "exec While Name cons nil") => `(tactic| refine stop ?_)
theorem comp_end_same {h₀ h : Heap} {C : Addr} {s : Shared} {I D L : Addr} {oI oD oL : Obj} {nx : Led} {J : List Value → Led → Prop} {vs : List Value} {mC : PySem.Str → Option Value} {tk : Nat} {dr : Drawn} (F : Fr h₀ C h mC) (N : News h₀ C h ((I, oI) :: (D, oD) :: (L, oL) :: nx))
    (hn : ∀ p ∈ nx, p.1 ≠ I ∧ p.1 ≠ D ∧ p.1 ≠ L) (hJ : ∀ nx2, (∀ p ∈ nx, p ∈ nx2) → J vs nx2) : CompEnd h₀ C s [(I, oI), (D, oD), (L, oL)] [I, D, L] J vs { s with heap := h, toks := tk, drawn := dr } := by
  refine ⟨_, _, _, _, _, rfl, F, N, ?_, fun nx2 h2 => hJ nx2 fun p hp => h2 p (.tail _ (.tail _ (.tail _ hp))) (not_hide (hn p hp))⟩
  intro p hp
  rcases List.mem_cons.mp hp with rfl | hp
  · exact .head _
  · rcases List.mem_cons.mp hp with rfl | hp
    · exact .tail _ (.head _)
    · rw [List.mem_singleton.mp hp]; exact .tail _ (.tail _ (.head _))
inductive Ents (news : Led) : List Value → List (Nat × Int) → Prop
  | nil : Ents news [] []
  | cons {q : Addr} {t1 t2 : Tok} {s : Nat} {c : Int} {vs : List Value} {hs : List (Nat × Int)} (h : (q, tupO #[.str (nm s c) t1, .str (PySem.Str.ofString (toString c)) t2]) ∈ news) (r : Ents news vs hs) : Ents news (.ref q :: vs) ((s, c) :: hs)
theorem Ents.mono {news news' : Led} : ∀ {vs : List Value} {hs : List (Nat × Int)}, Ents news vs hs → (∀ q a, (q, tupO a) ∈ news → (q, tupO a) ∈ news') → Ents news' vs hs
  | _, _, .nil, _ => .nil
  | _, _, .cons h r, k => .cons (k _ _ h) (r.mono k)
theorem Ents.snoc {news : Led} {q : Addr} {t1 t2 : Tok} {s : Nat} {c : Int} (h : (q, tupO #[.str (nm s c) t1, .str (PySem.Str.ofString (toString c)) t2]) ∈ news) : ∀ {vs : List Value} {hs : List (Nat × Int)}, Ents news vs hs → Ents news (vs ++ [.ref q]) (hs ++ [(s, c)])
  | _, _, .nil => .cons h .nil
  | _, _, .cons g r => .cons g (r.snoc h)
theorem Ents.length {news : Led} : ∀ {vs : List Value} {hs : List (Nat × Int)}, Ents news vs hs → vs.length = hs.length
  | _, _, .nil => rfl
  | _, _, .cons _ r => congrArg (· + 1) r.length
theorem Ents.at {news : Led} : ∀ {vs : List Value} {hs : List (Nat × Int)}, Ents news vs hs → ∀ (i : Nat) (v : Value), vs[i]? = some v → ∃ q t1 t2 s c, v = .ref q ∧ hs[i]? = some (s, c) ∧ (q, tupO #[.str (nm s c) t1, .str (PySem.Str.ofString (toString c)) t2]) ∈ news
  | _, _, .nil, i, v, h => by simp at h
  | _, _, .cons g r, 0, v, h => by
    simp only [List.getElem?_cons_zero, Option.some.injEq] at h
    exact ⟨_, _, _, _, _, h.symm, rfl, g⟩
  | _, _, .cons g r, i + 1, v, h => by
    refine Classical.byContradiction fun hG9 => ?_
    obtain ⟨q, t1, t2, s, c, e, h1, h2⟩ := r.at i v (by simpa using h)
    refine hG9 ?_
    clear hG9
    exact ⟨q, t1, t2, s, c, e, by simpa using h1, h2⟩
theorem c_keys (w : World) (news : Led) (x dx l : Addr) (t : Tok) (vs : List Value) (nn : Nat) (hs : List (Nat × Int)) (hm1 : (x, instObj 182 dx) ∈ news) (hm2 : (dx, hdrDict w t l) ∈ news) (hm3 : (l, listOf vs.toArray nn) ∈ news) (hz : vs.length ≤ 1000) (hEn : Ents news vs hs) :
    ConD w 10 100 news 134 [.ref x] []
   (fun r news' => ∃ kl kvs kn, r = .ref kl ∧ (kl, W.listOf kvs.toArray kn) ∈ news' ∧ StrsAre kvs (hs.map fun e => nm e.1 e.2) ∧ (∀ p ∈ news, p ∈ news') ∧ ∀ p ∈ news, p.1 < kl) := by
  unfold ConD
  intro p loose mean mg mb dp un gd cn cs ad ccd cl outer A₀ base h₀ L m s Q E B F X N T hk hd hu hret
  dsimp only [KK] at X
  refine wpAny_call ?_
  k_dflt (walk_at "my_enter")
  k_steps
  unfold Stop
  refine ListComp_any (by intro _; rfl) rfl rfl (by decide) ?_
  k_steps
  unfold Stop
  refine comp_list rfl hm3 (by rw [sizeLine_eq]; omega) (by assumption) (by assumption) (by decide) rfl (fun i ks nx => StrsAre ks ((hs.take i).map fun e => nm e.1 e.2) ∧ ∀ p ∈ news, p ∈ nx) (fun i ks nx hJ => hJ.2 _ hm3) ⟨.nil, fun p hp => hp⟩ ?_ ?_
  · intro I C D oL hoL hLC hLa hltD i v ks nD mC nx h tk dr oI hi hP hJ hn hc F₁ N₁
    refine gen_c fun R8 hR8 => ?_
    refine Classical.byContradiction fun hG9 => ?_
    obtain ⟨hks, hsub⟩ := hJ
    obtain ⟨q, t1, t2, sz, ct, rfl, hh, hq⟩ := hEn.at i v hP
    refine hG9 ?_
    clear hG9
    have hq2 := List.Mem.tail (I, oI) (List.Mem.tail (D, W.listOf ks.toArray nD) (List.Mem.tail (LE, oL) (hsub _ hq)))
    k_steps
    rename_i FQ NQ
    refine hR8 _ _ ?_
    refine comp_end_same FQ NQ hn fun nx2 h2 => ⟨?_, fun p hp => h2 p (hsub p hp)⟩
    rw [List.take_add_one, hh, List.map_append]
    exact strs_snoc hks
  · intro h tk dr D ks nD nx F₁ N₁ hlt hne hJ
    obtain ⟨hks, hsub⟩ := hJ
    rw [hEn.length, List.take_length] at hks
    k_steps
    rename_i kF kN _ _
    exact hret _ _ _ _ _ kF kN ⟨D, ks, nD, rfl, .head _, hks, fun p hp => .tail _ (hsub p hp), hlt⟩
end
theorem clean_M13 : True := by
  w_top off
  k_with "my call" => (refine stop ?_)
  trivial
section
local macro_rules | `(tactic| walk_at "exec While Name cons nil") => `(tactic| refine stop ?_)
theorem lower_nm {s : Nat} {c : Int} : Txt.lower (nm s c) = wL s := by
  unfold nm
  split
  · exact lower_wL
  · exact lower_wU
theorem upper_nm {s : Nat} {c : Int} : Txt.upper (nm s c) = wU s := by
  unfold nm
  split
  · exact upper_wL
  · exact upper_wU
def undig (ds : List Nat) : Nat := ds.foldl (fun a d => a * 16 + d) 0
theorem undig_hexd (n : Nat) : undig (hexd n) = n := by
  induction n using Nat.strongRecOn with
  | _ n ih =>
    by_cases h : n = 0
    · subst h; rw [hexd_zero]; rfl
    · rw [hexd_pos h]
      unfold undig at ih ⊢
      rw [List.foldl_append, ih (n / 16) (by omega)]
      show n / 16 * 16 + n % 16 = n
      omega
theorem wL_inj {a b : Nat} (h : wL a = wL b) : a = b := by
  have h1 : (hexd a).map (97 + ·) = (hexd b).map (97 + ·) := by
    have := congrArg (fun x => x.cps.toList) h
    simpa [wL] using this
  have h2 : hexd a = hexd b := List.map_inj_right (fun _ _ e => by omega) |>.mp h1
  rw [← undig_hexd a, h2, undig_hexd]
theorem c_getall (w : World) (news : Led) (x dx l : Addr) (t tn : Tok) (vs : List Value) (nn : Nat) (hs : List (Nat × Int)) (s0 : Nat) (hm1 : (x, instObj 182 dx) ∈ news) (hm2 : (dx, hdrDict w t l) ∈ news) (hm3 : (l, listOf vs.toArray nn) ∈ news) (hz : vs.length ≤ 1000) (hEn : Ents news vs hs) (hs0 : s0 < 2 ^ 20) (hsb : ∀ e ∈ hs, e.1 < 2 ^ 20) :
    ConD w 20 200 news 121 [.ref x, .str (wL s0) tn] []
   (fun r news' => ∃ kl kvs kn, r = .ref kl ∧ (kl, W.listOf kvs.toArray kn) ∈ news' ∧ StrsAre kvs ((hs.filter fun e => e.1 = s0).map fun e => PySem.Str.ofString (toString e.2)) ∧ (∀ p ∈ news, p ∈ news') ∧ ∀ p ∈ news, p.1 < kl) := by
  unfold ConD
  intro p loose mean mg mb dp un gd cn cs ad ccd cl outer A₀ base h₀ L m s Q E B F X N T hk hd hu hret
  dsimp only [KK] at X
  have hpL := prn_wL (n := s0) hs0
  have hwl : (wL s0).length ≤ 5592405 := Nat.le_trans hpL.1 (by decide)
  refine wpAny_call ?_
  k_dflt (walk_at "my_enterC")
  have hne : ∀ p ∈ news, p.1 ≠ LE + 1 := fun p hp => Nat.ne_of_lt (Nat.lt_succ_of_lt (lE p hp))
  k_with "my call" => (refine stop ?_)
  k_with "my call" => (refine' Con.use (c_cst w _ _ _ _ _ ?q1) ?cB ?cF ?cX ?cN ?cT ?ch ?cf ?ck ?cd ?cu ?_; walk_at "my_use"; (case q1 => (rw [lower_wL]; exact hpL)); intro r' news' h' tk' F' N' P'; obtain ⟨rfl, rfl⟩ := P')
  k_steps
  unfold Stop
  rename_i hC oC FC NC dC
  rw [lower_wL] at dC
  have hm3' := List.Mem.tail (LE + 1, oC) hm3
  have hm2' := List.Mem.tail (LE + 1, oC) hm2
  have hm1' := List.Mem.tail (LE + 1, oC) hm1
  refine ListComp_any (by intro _; rfl) rfl rfl (by decide) ?_
  k_steps
  unfold Stop
  refine comp_list rfl hm3' (by rw [sizeLine_eq]; omega) FC NC (by decide) rfl (fun i ks nx => StrsAre ks (((hs.take i).filter fun e => e.1 = s0).map fun e => PySem.Str.ofString (toString e.2)) ∧ ∀ p ∈ ((LE + 1, oC) :: news : Led), p ∈ nx) (fun i ks nx hJ => hJ.2 _ hm3') ⟨.nil, fun p hp => hp⟩ ?_ ?_
  · intro I C D oL hoL hLC hLa hltD i v ks nD mC nx h tk dr oI hi hP hJ hn hc F₁ N₁
    refine gen_c fun R8 hR8 => ?_
    refine Classical.byContradiction fun hG9 => ?_
    obtain ⟨hks, hsub⟩ := hJ
    obtain ⟨q, t1, t2, sz, ct, rfl, hh, hq⟩ := hEn.at i v hP
    refine hG9 ?_
    clear hG9
    have hq2 := List.Mem.tail (I, oI) (List.Mem.tail (D, W.listOf ks.toArray nD) (List.Mem.tail (LE, oL) (hsub _ (.tail _ hq))))
    have hc2 := List.Mem.tail (I, oI) (List.Mem.tail (D, W.listOf ks.toArray nD) (List.Mem.tail (LE, oL) (hsub _ (.head _))))
    have hbz : sz < 2 ^ 20 := hsb _ (List.mem_of_getElem? hh)
    have hpn : (nm sz ct).length ≤ 5592405 := by
      unfold nm; split
      · exact Nat.le_trans (prn_wL hbz).1 (by decide)
      · exact Nat.le_trans (prn_wU hbz).1 (by decide)
    k_steps
    · rename (_ == _) = true => hq9
      rename Fr _ C _ _ => FQ
      rename News _ C _ _ => NQ
      rw [lower_nm] at hq9
      have e := wL_inj (eq_of_beq hq9)
      refine hR8 _ _ ?_
      refine comp_end_same FQ NQ hn fun nx2 h2 => ⟨?_, fun p hp => h2 p (hsub p hp)⟩
      rw [List.take_add_one, hh, List.filter_append, List.map_append, show ((some (sz, ct)).toList.filter fun e => decide (e.1 = s0)) = [(sz, ct)] by simp [e]]
      exact strs_snoc hks
    · rename (_ == _) = false => hq9
      rename Fr _ C _ _ => FQ
      rename News _ C _ _ => NQ
      rw [lower_nm] at hq9
      have e : sz ≠ s0 := fun e => by rw [e] at hq9; simp at hq9
      refine hR8 _ _ ?_
      refine comp_end_same FQ NQ hn fun nx2 h2 => ⟨?_, fun p hp => h2 p (hsub p hp)⟩
      rw [List.take_add_one, hh, List.filter_append, show ((some (sz, ct)).toList.filter fun e => decide (e.1 = s0)) = [] by simp [e], List.append_nil]
      exact hks
  · intro h tk dr D ks nD nx F₁ N₁ hlt hne hJ
    obtain ⟨hks, hsub⟩ := hJ
    rw [hEn.length, List.take_length] at hks
    k_steps
    rename_i kF kN _ _
    exact hret _ _ _ _ _ kF kN ⟨D, ks, nD, rfl, .head _, hks, fun p hp => .tail _ (hsub p (.tail _ hp)), fun p hp => hlt p (.tail _ hp)⟩
end
section
open Builtin Builtin.List
variable {prog : Program} {w : World} {A : Around} {E : Value → Shared → Prop} {s : Shared}
theorem setItem_slice_list {l sl d : Addr} {items new : Array Value} {n k : Nat} {Q : Unit → Shared → Prop} (hl : s.heap.get? l = some (W.listOf items n)) (hs : s.heap.get? sl = some { cls := .type "slice", data := .fields #[.none, .none, .none] })
    (hd : s.heap.get? d = some (W.listOf new k)) (hne : l ≠ d) (hz : items.size + new.size ≤ 4096)
    (hQ : ∀ h' n', h'.get? l = some (W.listOf new n') → Heap.SameBut l s.heap h' → Q () { s with heap := h' }) :
    wpAny (model prog w) A (setItem (.ref l) (.ref sl) (.ref d)) Q E s := by
  have hT : s.TypeIs (.ref l) "list" := ⟨_, hl, rfl⟩
  have hTs : s.TypeIs (.ref sl) "slice" := ⟨_, hs, rfl⟩
  have hTd : s.TypeIs (.ref d) "list" := ⟨_, hd, rfl⟩
  unfold setItem
  try with_reducible refine wpAny_holding ?_
  first | refine wpAny_bind (wpAny_pure ?_) | skip
  refine wpAny_bind (wpAny_sequenceKey hT (by decide) ?_)
  refine wpAny_bind (wpAny_callSpecial?_slot (name := PySem.Str.ofString "__setitem__") hT slot_list_setitem
    (wpAny_call_entry slot_list_setitem hT entry_list_setitem ?_ (args_list_setitem _ _ _)))
  show wpAny _ _ (Builtin.List.listSubscript? (.ref sl) >>= _) _ _ s
  unfold listSubscript?
  refine wpAny_bind (wpAny_bind (wpAny_specialOf hTs slice_no_index ?_))
  refine wpAny_of_eq (a := Option.none) rfl ?_
  dsimp only
  refine wpAny_bind (wpAny_typeOf hTs ?_)
  rw [if_neg (by decide)]
  have hparts : ∀ {Q' : Value × Value × Value → Shared → Prop}, Q' (.none, .none, .none) s → wpAny (model prog w) A.in1 (listSliceParts (.ref sl)) Q' E s := by
    intro Q' hq
    unfold listSliceParts
    refine wpAny_bind (wpAny_field hs rfl (x := .none) rfl ?_)
    refine wpAny_bind (wpAny_of_eq (a := Value.none) rfl ?_)
    refine wpAny_bind (wpAny_field hs rfl (x := .none) rfl ?_)
    refine wpAny_bind (wpAny_of_eq (a := Value.none) rfl ?_)
    refine wpAny_bind (wpAny_field hs rfl (x := .none) rfl ?_)
    refine wpAny_bind (wpAny_of_eq (a := Value.none) rfl ?_)
    exact wpAny_pure hq
  refine wpAny_bind (hparts ?_)
  dsimp only
  have hsr : listSameRef (.ref l) (.ref d) = false := by
    show (l == d) = false
    simpa using hne
  rw [hsr]
  simp only [Bool.false_eq_true, if_false]
  have hitems : ∀ {a : Addr} {xs : Array Value} {j : Nat} {Q' : Array Value → Shared → Prop}, s.heap.get? a = some (W.listOf xs j) → Q' xs s → wpAny (model prog w) A.in1 (listItems (.ref a)) Q' E s := by
    intro a xs j Q' ha hq
    unfold listItems
    exact wpAny_bind (wpAny_seqItems ha rfl (wpAny_pure hq))
  have hall : ∀ {Q' : Array Value → Shared → Prop}, Q' new s → wpAny (model prog w) A.in1 (listAllItems (.ref d) "must assign iterable to extended slice") Q' E s := by
    intro Q' hq
    unfold listAllItems
    refine wpAny_bind (wpAny_typeOf hTd ?_)
    exact hitems hd hq
  refine wpAny_bind (hall ?_)
  refine wpAny_bind (hitems hl ?_)
  refine wpAny_bind (wpAny_of_eq (a := ((0 : Int), (items.size : Int), (1 : Int))) rfl ?_)
  dsimp only
  rw [if_pos (by decide)]
  refine wpAny_bind (wpAny_rule ?_)
  have htl : listTooLong (items.size + new.size) = false := by
    unfold listTooLong
    exact decide_eq_false (by rw [sizeLine_eq]; omega)
  rw [htl]
  simp only [Bool.false_eq_true, if_false]
  refine wpAny_bind ?_
  refine wpAny_updateSeq hl rfl ?_ (by rw [sizeLine_eq]; omega) ?_
  · refine wpAny_bind (wpAny_letGo ?_)
    refine wpAny_pure ⟨_, rfl, wpAny_pure ?_⟩
    have hg := Heap.get?_update_self (Obj.mapSeq fun xs => xs.extract 0 (Int.toNat 0) ++ new ++ xs.extract (max (0 : Int) (items.size : Int)).toNat xs.size) hl rfl
    have e : (items.extract 0 (Int.toNat 0) ++ new ++ items.extract (max (0 : Int) (items.size : Int)).toNat items.size) = new := by
      have h1 : (max (0 : Int) (items.size : Int)).toNat = items.size := by omega
      rw [h1]; simp
    obtain ⟨n', hn'⟩ : ∃ n', Obj.mapSeq (fun xs => xs.extract 0 (Int.toNat 0) ++ new ++ xs.extract (max (0 : Int) (items.size : Int)).toNat xs.size) (W.listOf items n) = W.listOf (items.extract 0 (Int.toNat 0) ++ new ++ items.extract (max (0 : Int) (items.size : Int)).toNat items.size) n' := ⟨_, rfl⟩
    rw [hn', e] at hg
    exact hQ _ n' hg (Heap.SameBut.update ..)
  · rw [sizeLine_eq]; simp; omega
end
theorem clean_M14 : True := by
  w_top off
  k_with "my call" => (refine stop ?_)
  trivial
section
local macro_rules | `(tactic| walk_at "exec While Name cons nil") => `(tactic| refine stop ?_)
theorem lower_wU' {n : Nat} : Txt.lower (wU n) = wL n := lower_wU
theorem c_del (w : World) (news : Led) (x dx l : Addr) (t tn : Tok) (vs : List Value) (nn : Nat) (hs : List (Nat × Int)) (s0 : Nat) (hm1 : (x, instObj 182 dx) ∈ news) (hm2 : (dx, hdrDict w t l) ∈ news) (hm3 : (l, listOf vs.toArray nn) ∈ news) (hz : vs.length ≤ 1000) (hEn : Ents news vs hs) (hs0 : s0 < 2 ^ 20) (hsb : ∀ e ∈ hs, e.1 < 2 ^ 20) :
    ConD w 20 200 news 102 [.ref x, .str (wU s0) tn] []
   (fun r news' => r = .none ∧ (∃ vs' nn', (l, W.listOf vs'.toArray nn') ∈ news' ∧ Ents news' vs' (hs.filter fun e => e.1 ≠ s0)) ∧ (∀ p ∈ news, p.1 ≠ l → p ∈ news')) := by
  unfold ConD
  intro p loose mean mg mb dp un gd cn cs ad ccd cl outer A₀ base h₀ L m s Q E B F X N T hk hd hu hret
  dsimp only [KK] at X
  have hpL := prn_wL (n := s0) hs0
  have hwl : (wU s0).length ≤ 5592405 := Nat.le_trans (prn_wU hs0).1 (by decide)
  refine wpAny_call ?_
  k_dflt (walk_at "my_enterC")
  have hne : ∀ p ∈ news, p.1 ≠ LE + 1 := fun p hp => Nat.ne_of_lt (Nat.lt_succ_of_lt (lE p hp))
  k_with "my call" => (refine stop ?_)
  k_with "my call" => (refine' Con.use (c_cst w _ _ _ _ _ ?q1) ?cB ?cF ?cX ?cN ?cT ?ch ?cf ?ck ?cd ?cu ?_; walk_at "my_use"; (case q1 => (rw [lower_wU]; exact hpL)); intro r' news' h' tk' F' N' P'; obtain ⟨rfl, rfl⟩ := P')
  k_steps
  unfold Stop
  rename_i hC oC FC NC dC
  rw [lower_wU] at dC
  have hm3' := List.Mem.tail (LE + 1, oC) hm3
  have hm2' := List.Mem.tail (LE + 1, oC) hm2
  have hm1' := List.Mem.tail (LE + 1, oC) hm1
  refine ListComp_any (by intro _; rfl) rfl rfl (by decide) ?_
  k_steps
  unfold Stop
  refine comp_list rfl hm3' (by rw [sizeLine_eq]; omega) FC NC (by decide) rfl (fun i ks nx => ks.length ≤ i ∧ Ents news ks ((hs.take i).filter fun e => e.1 ≠ s0) ∧ ∀ p ∈ ((LE + 1, oC) :: news : Led), p ∈ nx) (fun i ks nx hJ => hJ.2.2 _ hm3') ⟨Nat.le_refl _, .nil, fun p hp => hp⟩ ?_ ?_
  · intro I C D oL hoL hLC hLa hltD i v ks nD mC nx h tk dr oI hi hP hJ hn hc F₁ N₁
    refine gen_c fun R8 hR8 => ?_
    refine Classical.byContradiction fun hG9 => ?_
    obtain ⟨hkl, hks, hsub⟩ := hJ
    obtain ⟨q, t1, t2, sz, ct, rfl, hh, hq⟩ := hEn.at i v hP
    refine hG9 ?_
    clear hG9
    have hq2 := List.Mem.tail (I, oI) (List.Mem.tail (D, W.listOf ks.toArray nD) (List.Mem.tail (LE, oL) (hsub _ (.tail _ hq))))
    have hc2 := List.Mem.tail (I, oI) (List.Mem.tail (D, W.listOf ks.toArray nD) (List.Mem.tail (LE, oL) (hsub _ (.head _))))
    have hbz : sz < 2 ^ 20 := hsb _ (List.mem_of_getElem? hh)
    have hpn : (nm sz ct).length ≤ 5592405 := by
      unfold nm; split
      · exact Nat.le_trans (prn_wL hbz).1 (by decide)
      · exact Nat.le_trans (prn_wU hbz).1 (by decide)
    k_steps
    · rename (_ != _) = true => hq9
      rename Fr _ C _ _ => FQ
      rename News _ C _ _ => NQ
      rw [lower_nm] at hq9
      have e : sz ≠ s0 := fun e => by rw [e] at hq9; simp at hq9
      refine hR8 _ _ ?_
      refine comp_end_same FQ NQ hn fun nx2 h2 => ⟨by rw [List.length_append]; simpa using hkl, ?_, fun p hp => h2 p (hsub p hp)⟩
      rw [List.take_add_one, hh, List.filter_append, show ((some (sz, ct)).toList.filter fun e => decide (e.1 ≠ s0)) = [(sz, ct)] by simp [e]]
      exact hks.snoc hq
    · rename (_ != _) = false => hq9
      rename Fr _ C _ _ => FQ
      rename News _ C _ _ => NQ
      rw [lower_nm] at hq9
      have e : sz = s0 := wL_inj (by simpa using hq9)
      refine hR8 _ _ ?_
      refine comp_end_same FQ NQ hn fun nx2 h2 => ⟨by omega, ?_, fun p hp => h2 p (hsub p hp)⟩
      rw [List.take_add_one, hh, List.filter_append, show ((some (sz, ct)).toList.filter fun e => decide (e.1 ≠ s0)) = [] by simp [e], List.append_nil]
      exact hks
  · intro h tk dr D ks nD nx F₁ N₁ hlt hne hJ
    obtain ⟨hkl, hks, hsub⟩ := hJ
    rw [hEn.length, List.take_length] at hks
    have m1 := List.Mem.tail (D, W.listOf ks.toArray nD) (hsub _ hm1')
    have m2 := List.Mem.tail (D, W.listOf ks.toArray nD) (hsub _ hm2')
    have m3 := List.Mem.tail (D, W.listOf ks.toArray nD) (hsub _ hm3')
    k_steps
    have hlD : l ≠ D := Nat.ne_of_lt (hlt _ hm3')
    refine setItem_slice_list (n := nn) (k := nD) (Heap.get?_push_of_some _ (N₁ _ m3).1) (Heap.get?_push_size _ rfl) (Heap.get?_push_of_some _ (N₁ _ (.head _)).1) hlD (by rw [List.size_toArray, List.size_toArray]; omega) ?_
    intro hS nS hlS hsb
    refine take_out N₁ m3 fun rest N2 ha hb hc => ?_
    have z := N₁ _ m3
    have F2 := (F₁.push { cls := .type "slice", data := .fields #[.none, .none, .none] }).change hsb z.2.1 z.2.2
    have N3 : News gE _ hS ((l, W.listOf ks.toArray nS) :: rest) := fun p hp => by
      rcases List.mem_cons.mp hp with rfl | hp
      · exact ⟨hlS, z.2⟩
      · have := N2 p (.tail _ hp)
        exact ⟨(hsb.2 _ (ha p hp)).trans (Heap.get?_push_of_some _ this.1), this.2⟩
    k_steps
    rename_i kF kN _ _
    exact hret _ _ _ _ _ kF kN ⟨rfl, ⟨ks, nS, .head _, hks.mono fun q a h => .tail _ (hb _ (.tail _ (hsub _ (.tail _ h))) (ne_cls N₁ (.tail _ (hsub _ (.tail _ h))) m3 tup_list))⟩, fun p hp hn => .tail _ (hb p (.tail _ (hsub p (.tail _ hp))) hn)⟩
end
section
variable {key : Nat → Int} {n : Nat} {cmp : Nat → Nat → (Bool → Shared → Prop) → Shared → Prop} {Inv : Shared → Prop}
def Asks (key : Nat → Int) (n : Nat) (cmp : Nat → Nat → (Bool → Shared → Prop) → Shared → Prop) (Inv : Shared → Prop) : Prop :=
  ∀ i j C s, i < n → j < n → i ≠ j → Inv s → (∀ s', Inv s' → C (decide (key i < key j)) s') → cmp i j C s
def PR (n : Nat) (p : Array Nat) : Prop := p.Perm (List.range n).toArray
def kp (key : Nat → Int) (p : Array Nat) (i : Nat) : Int := key (p.getD i 0)
theorem PR.size {p : Array Nat} (h : PR n p) : p.size = n := by rw [h.size_eq]; simp
theorem PR.lt {p : Array Nat} (h : PR n p) {i : Nat} (hi : i < n) : p.getD i 0 < n := by
  have hs := h.size
  have hm : p.getD i 0 ∈ p := by
    have e : p.getD i 0 = p[i]'(by omega) := by simp [Array.getD, hs, hi]
    rw [e]; exact Array.getElem_mem _
  have := h.mem_iff.mp hm
  simpa using this
theorem PR.nodup {p : Array Nat} (h : PR n p) : p.toList.Nodup := by
  have := (Array.perm_iff_toList_perm.mp h).nodup_iff.mpr (by simpa using List.nodup_range)
  exact this
theorem PR.ne {p : Array Nat} (h : PR n p) {i j : Nat} (hi : i < n) (hj : j < n) (hij : i ≠ j) : p.getD i 0 ≠ p.getD j 0 := by
  have hs := h.size
  have e1 : p.getD i 0 = p.toList[i]'(by simpa [hs] using hi) := by simp [Array.getD, hs, hi]
  have e2 : p.getD j 0 = p.toList[j]'(by simpa [hs] using hj) := by simp [Array.getD, hs, hj]
  rw [e1, e2]
  intro e
  have hpw := List.pairwise_iff_getElem.mp h.nodup
  rcases Nat.lt_or_gt_of_ne hij with g | g
  · exact hpw i j _ _ g e
  · exact hpw j i _ _ g e.symm
def Inj (key : Nat → Int) (n : Nat) : Prop := ∀ i j, i < n → j < n → key i = key j → i = j
theorem kp_ne {p : Array Nat} (hK : Inj key n) (h : PR n p) {i j : Nat} (hi : i < n) (hj : j < n) (hij : i ≠ j) : kp key p i ≠ kp key p j :=
  fun e => h.ne hi hj hij (hK _ _ (h.lt hi) (h.lt hj) e)
def Adj (key : Nat → Int) (p : Array Nat) (m : Nat) : Prop := ∀ i, i + 1 < m → kp key p i < kp key p (i + 1)
def Dec (key : Nat → Int) (p : Array Nat) (m : Nat) : Prop := ∀ i, i + 1 < m → kp key p (i + 1) < kp key p i
theorem Adj.lt {p : Array Nat} {m : Nat} (h : Adj key p m) {i j : Nat} (hij : i < j) (hj : j < m) : kp key p i < kp key p j := by
  induction j with
  | zero => omega
  | succ j ih =>
    have := h j hj
    by_cases e : i = j
    · subst e; exact this
    · have := ih (by omega) (by omega); omega
theorem asc_ok (hK : Inj key n) (hA : Asks key n cmp Inv) {p : Array Nat} (hp : PR n p) {Q : Nat → Shared → Prop} : ∀ (f k : Nat) (s : Shared), 1 ≤ k → k + f ≤ n → Adj key p k → Inv s →
    (∀ m s', Inv s' → k ≤ m → m ≤ k + f → Adj key p m → (m < k + f → kp key p m < kp key p (m - 1)) → Q m s') → (kas_asc p f k).kasWp cmp Q s
  | 0, k, s, _, _, hd, hI, h => h k s hI (Nat.le_refl _) (by omega) hd (by omega)
  | f + 1, k, s, h1, hf, hd, hI, h => by
    refine hA _ _ _ s (hp.lt (by omega)) (hp.lt (by omega)) (hp.ne (by omega) (by omega) (by omega)) hI fun s' hI' => ?_
    by_cases hc : key (p.getD k 0) < key (p.getD (k - 1) 0)
    · rw [decide_eq_true hc]; dsimp only; rw [if_pos rfl]
      exact h k s' hI' (Nat.le_refl _) (by omega) hd fun _ => hc
    · rw [decide_eq_false hc]; dsimp only; rw [if_neg (by simp)]
      refine asc_ok hK hA hp f (k + 1) s' (by omega) (by omega) ?_ hI' fun m s'' a b c d e => h m s'' a (by omega) (by omega) d fun g => e (by omega)
      intro i hi
      by_cases e : i + 1 < k
      · exact hd i e
      · have e2 : i = k - 1 := by omega
        subst e2
        have e3 : k - 1 + 1 = k := by omega
        rw [e3]
        have := kp_ne hK hp (i := k - 1) (j := k) (by omega) (by omega) (by omega)
        unfold kp at this ⊢
        omega
theorem desc_ok (hK : Inj key n) (hA : Asks key n cmp Inv) {p : Array Nat} (hp : PR n p) {Q : Array Nat × Nat × Nat → Shared → Prop} : ∀ (f k : Nat) (s : Shared), 1 ≤ k → k + f ≤ n → Dec key p k → Inv s →
    (∀ m s', Inv s' → k ≤ m → m ≤ k + f → Dec key p m → Q (p, m, 0) s') → (kas_desc f p k 0).kasWp cmp Q s
  | 0, k, s, _, _, hd, hI, h => h k s hI (Nat.le_refl _) (by omega) hd
  | f + 1, k, s, h1, hf, hd, hI, h => by
    refine hA _ _ _ s (hp.lt (by omega)) (hp.lt (by omega)) (hp.ne (by omega) (by omega) (by omega)) hI fun s' hI' => ?_
    by_cases hc : key (p.getD k 0) < key (p.getD (k - 1) 0)
    · rw [decide_eq_true hc]; dsimp only; rw [if_pos rfl, if_neg (by omega)]
      refine desc_ok hK hA hp f (k + 1) s' (by omega) (by omega) ?_ hI' fun m s'' a b c d => h m s'' a (by omega) (by omega) d
      intro i hi
      by_cases e : i + 1 < k
      · exact hd i e
      · have e2 : i = k - 1 := by omega
        subst e2
        have e3 : k - 1 + 1 = k := by omega
        rw [e3]
        exact hc
    · rw [decide_eq_false hc]; dsimp only; rw [if_neg (by simp)]
      have := kp_ne hK hp (i := k - 1) (j := k) (by omega) (by omega) (by omega)
      unfold kp at this
      refine hA _ _ _ s' (hp.lt (by omega)) (hp.lt (by omega)) (hp.ne (by omega) (by omega) (by omega)) hI' fun s'' hI'' => ?_
      rw [decide_eq_true (by omega)]; dsimp only; rw [if_pos rfl]
      exact h k s'' hI'' (Nat.le_refl _) (by omega) hd
theorem getD_of {p q : Array Nat} {i j : Nat} (h : p[i]? = q[j]?) : p.getD i 0 = q.getD j 0 := by
  rw [Array.getD_eq_getD_getElem?, Array.getD_eq_getD_getElem?, h]
theorem rev_pr {p : Array Nat} {i j : Nat} (hp : PR n p) : PR n (kas_rev p i j) := (mirror_perm _ _ _ _).trans hp
theorem rev_kp {p : Array Nat} (hp : PR n p) {m : Nat} (hm : m ≤ n) (i : Nat) : kp key (kas_rev p 0 m) i = if i < m then kp key p (m - 1 - i) else kp key p i := by
  have e := getElem?_mirror_all (xs := p) (i := 0) (j := m) (by rw [hp.size]; exact hm) i
  by_cases h : i < m
  · rw [if_pos ⟨Nat.zero_le _, h⟩] at e
    rw [if_pos h]
    unfold kp kas_rev
    rw [getD_of e]
    congr 2; omega
  · rw [if_neg (by omega)] at e
    rw [if_neg h]
    unfold kp kas_rev
    rw [getD_of e]
theorem rev_adj {p : Array Nat} (hp : PR n p) {m : Nat} (hm : m ≤ n) (hd : Dec key p m) : Adj key (kas_rev p 0 m) m := by
  intro i hi
  rw [rev_kp hp hm, rev_kp hp hm, if_pos (by omega), if_pos (by omega)]
  have := hd (m - 1 - (i + 1)) (by omega)
  rw [show m - 1 - (i + 1) + 1 = m - 1 - i by omega] at this
  exact this
theorem place_ok (hK : Inj key n) (hA : Asks key n cmp Inv) {p : Array Nat} (hp : PR n p) {k : Nat} (hk : k < n) (hS : Adj key p k) {Q : Nat → Shared → Prop} : ∀ (f l r : Nat) (s : Shared), l ≤ r → r ≤ k → r - l ≤ f →
    (∀ i, i < l → kp key p i < kp key p k) → (∀ i, r ≤ i → i < k → kp key p k < kp key p i) → Inv s →
    (∀ l' s', Inv s' → l' ≤ k → (∀ i, i < l' → kp key p i < kp key p k) → (∀ i, l' ≤ i → i < k → kp key p k < kp key p i) → Q l' s') → (kas_place p k f l r).kasWp cmp Q s
  | 0, l, r, s, h1, h2, h3, a, b, hI, h => h l s hI (by omega) a fun i hi => b i (by omega)
  | f + 1, l, r, s, h1, h2, h3, a, b, hI, h => by
    show (if l ≥ r then KasT.ret l else KasT.ask (p.getD k 0) (p.getD ((l + r) / 2) 0) fun c => if c = true then kas_place p k f l ((l + r) / 2) else kas_place p k f ((l + r) / 2 + 1) r).kasWp cmp Q s
    by_cases hlr : l ≥ r
    · rw [if_pos hlr]
      exact h l s hI (by omega) a fun i hi => b i (by omega)
    · rw [if_neg hlr]
      refine hA _ _ _ s (hp.lt hk) (hp.lt (by omega)) (hp.ne (by omega) (by omega) (by omega)) hI fun s' hI' => ?_
      by_cases hc : key (p.getD k 0) < key (p.getD ((l + r) / 2) 0)
      · rw [decide_eq_true hc]; dsimp only; rw [if_pos rfl]
        refine place_ok hK hA hp hk hS f l ((l + r) / 2) s' (by omega) (by omega) (by omega) a (fun i hi hik => ?_) hI' h
        by_cases e : i = (l + r) / 2
        · subst e; exact hc
        · have := hS.lt (i := (l + r) / 2) (j := i) (by omega) hik
          unfold kp at this ⊢
          omega
      · rw [decide_eq_false hc]; dsimp only; rw [if_neg (by simp)]
        have hne := kp_ne hK hp (i := k) (j := (l + r) / 2) (by omega) (by omega) (by omega)
        refine place_ok hK hA hp hk hS f ((l + r) / 2 + 1) r s' (by omega) (by omega) (by omega) (fun i hi => ?_) b hI' h
        by_cases e : i = (l + r) / 2
        · subst e; unfold kp at hne ⊢; omega
        · have := hS.lt (i := i) (j := (l + r) / 2) (by omega) (by omega)
          unfold kp at this hne ⊢
          omega
theorem bubble_kp {p : Array Nat} (hp : PR n p) {k l : Nat} (hk : k < n) (hl : l ≤ k) (i : Nat) : kp key (bubble p k (k - l)) i = if i = l then kp key p k else if l < i ∧ i ≤ k then kp key p (i - 1) else kp key p i := by
  have e := getElem?_bubble (xs := p) (src := k) (by rw [hp.size]; exact hk) (k - l) (by omega) i
  rw [show k - (k - l) = l by omega] at e
  by_cases h : i = l
  · rw [if_pos h] at e ⊢; unfold kp; rw [getD_of e]
  · rw [if_neg h] at e ⊢
    by_cases h2 : l < i ∧ i ≤ k
    · rw [if_pos h2] at e ⊢; unfold kp; rw [getD_of e]
    · rw [if_neg h2] at e ⊢; unfold kp; rw [getD_of e]
theorem bin_ok (hK : Inj key n) (hA : Asks key n cmp Inv) {Q : Array Nat → Shared → Prop} : ∀ (f : Nat) (p : Array Nat) (k : Nat) (s : Shared), PR n p → k + f = n → Adj key p k → Inv s →
    (∀ p' s', Inv s' → PR n p' → Adj key p' n → Q p' s') → (kas_bin f p k).kasWp cmp Q s
  | 0, p, k, s, hp, hf, hS, hI, h => h p s hI hp (by rw [Nat.add_zero] at hf; rw [← hf]; exact hS)
  | f + 1, p, k, s, hp, hf, hS, hI, h => by
    show ((kas_place p k k 0 k).bind fun l => kas_bin f (bubble p k (k - l)) (k + 1)).kasWp cmp Q s
    rw [KasT.kasWp_bind]
    refine place_ok hK hA hp (by omega) hS k 0 k s (by omega) (Nat.le_refl _) (by omega) (by omega) (by omega) hI fun l s' hI' hl a b => ?_
    refine bin_ok hK hA f (bubble p k (k - l)) (k + 1) s' ((bubble_perm _ _ _).trans hp) (by omega) ?_ hI' h
    intro i hi
    rw [bubble_kp hp (by omega) hl, bubble_kp hp (by omega) hl]
    by_cases e1 : i = l
    · rw [if_pos e1, if_neg (by omega), if_pos (by omega)]
      exact b _ (by omega) (by omega)
    · rw [if_neg e1]
      by_cases e2 : l < i
      · rw [if_pos (by omega), if_neg (by omega), if_pos (by omega)]
        exact hS.lt (by omega) (by omega)
      · rw [if_neg (by omega)]
        by_cases e3 : i + 1 = l
        · rw [if_pos e3]; exact a _ (by omega)
        · rw [if_neg e3, if_neg (by omega)]
          exact hS i (by omega)
theorem sort_ok (hK : Inj key n) (hA : Asks key n cmp Inv) (hn : 1 ≤ n) {Q : Array Nat → Shared → Prop} {s : Shared} (hI : Inv s) (h : ∀ p s', Inv s' → PR n p → Adj key p n → Q p s') : (kas_sort n).kasWp cmp Q s := by
  have h0 : PR n (List.range n).toArray := Array.Perm.refl _
  unfold kas_sort
  rw [KasT.kasWp_bind]
  have fin : ∀ (m : Nat) (p : Array Nat) s', Inv s' → PR n p → 1 ≤ m → m ≤ n → Adj key p m → (if m < n then kas_bin (n - max m 1) p (max m 1) else KasT.ret p).kasWp cmp Q s' := by
    intro m p s' hI' hp h1 hm hS
    by_cases e : m < n
    · rw [if_pos e, show max m 1 = m by omega]
      exact bin_ok hK hA (n - m) p m s' hp (by omega) hS hI' h
    · rw [if_neg e]
      have : m = n := by omega
      subst this
      exact h p s' hI' hp hS
  generalize (List.range n).toArray = p at h0
  unfold kas_count
  rw [KasT.kasWp_bind]
  refine asc_ok hK hA h0 (n - 1) 1 s (Nat.le_refl _) (by omega) (fun i hi => by omega) hI fun m s' hI' h1 h2 hS hlast => ?_
  by_cases e1 : (m == n) = true
  · rw [if_pos e1]
    have : m = n := eq_of_beq e1
    exact fin m p s' hI' h0 h1 (by omega) hS
  · rw [if_neg e1]
    have hmn : m ≠ n := fun e => e1 (by rw [e]; exact beq_self_eq_true _)
    by_cases e2 : m > 1
    · rw [if_pos e2]
      refine hA _ _ _ s' (h0.lt (by omega)) (h0.lt (by omega)) (h0.ne (by omega) (by omega) (by omega)) hI' fun s'' hI'' => ?_
      have hlt9 : key (p.getD 0 0) < key (p.getD (m - 1) 0) := hS.lt (i := 0) (j := m - 1) (by omega) (by omega)
      rw [decide_eq_true hlt9]; dsimp only; rw [if_pos rfl]
      exact fin m p s'' hI'' h0 h1 (by omega) hS
    · rw [if_neg e2]
      have : m = 1 := by omega
      subst this
      have hd2 : Dec key p 2 := fun i hi => by
        have : i = 0 := by omega
        subst this
        exact hlast (by omega)
      unfold kas_descPart
      rw [KasT.kasWp_bind]
      refine desc_ok hK hA h0 (n - (1 + 1)) (1 + 1) s' (by omega) (by omega) hd2 hI' fun m s'' hI'' h3 h4 hD => ?_
      dsimp only
      rw [if_neg (by omega)]
      unfold kas_tail3
      rw [KasT.kasWp_bind]
      refine asc_ok hK hA (rev_pr h0) (n - m) m s'' (by omega) (by omega) (rev_adj h0 (by omega) hD) hI'' fun m2 s3 hI3 h5 h6 hS3 _ => ?_
      exact fin m2 (kas_rev p 0 m) s3 hI3 (rev_pr h0) (by omega) (by omega) hS3
end
inductive Bag (news : Led) : List Value → List (Nat × Int) → Prop
  | nil : Bag news [] []
  | cons {q : Addr} {t1 t2 : Tok} {s : Nat} {c : Int} {vs : List Value} {b : List (Nat × Int)} (h : (q, tupO #[.int s t1, .int c t2]) ∈ news) (r : Bag news vs b) : Bag news (.ref q :: vs) ((s, c) :: b)
theorem Bag.mono {news news' : Led} : ∀ {vs : List Value} {b : List (Nat × Int)}, Bag news vs b → (∀ q a, (q, tupO a) ∈ news → (q, tupO a) ∈ news') → Bag news' vs b
  | _, _, .nil, _ => .nil
  | _, _, .cons h r, k => .cons (k _ _ h) (r.mono k)
theorem Bag.snoc {news : Led} {q : Addr} {t1 t2 : Tok} {s : Nat} {c : Int} (h : (q, tupO #[.int s t1, .int c t2]) ∈ news) : ∀ {vs : List Value} {b : List (Nat × Int)}, Bag news vs b → Bag news (vs ++ [.ref q]) (b ++ [(s, c)])
  | _, _, .nil => .cons h .nil
  | _, _, .cons g r => .cons g (r.snoc h)
theorem Bag.length {news : Led} : ∀ {vs : List Value} {b : List (Nat × Int)}, Bag news vs b → vs.length = b.length
  | _, _, .nil => rfl
  | _, _, .cons _ r => congrArg (· + 1) r.length
theorem Bag.at {news : Led} : ∀ {vs : List Value} {b : List (Nat × Int)}, Bag news vs b → ∀ (i : Nat) (v : Value), vs[i]? = some v → ∃ q t1 t2 s c, v = .ref q ∧ b[i]? = some (s, c) ∧ (q, tupO #[.int (s : Nat) t1, .int c t2]) ∈ news
  | _, _, .nil, i, v, h => by simp at h
  | _, _, .cons g r, 0, v, h => by
    simp only [List.getElem?_cons_zero, Option.some.injEq] at h
    exact ⟨_, _, _, _, _, h.symm, rfl, g⟩
  | _, _, .cons g r, i + 1, v, h => by
    obtain ⟨q, t1, t2, s, c, e, h1, h2⟩ := r.at i v (by simpa using h)
    exact ⟨q, t1, t2, s, c, e, by simpa using h1, h2⟩
theorem Bag.pick {news : Led} {vs : List Value} {b : List (Nat × Int)} (h : Bag news vs b) : ∀ (l : List Nat), (∀ i ∈ l, i < b.length) → Bag news (l.map fun i => vs.getD i Value.none) (l.map fun i => b.getD i (0, 0))
  | [], _ => .nil
  | i :: l, hl => by
    have hi := hl i (.head _)
    have hv : vs[i]? = some (vs.getD i Value.none) := by
      have := h.length
      rw [List.getD_eq_getElem?_getD, List.getElem?_eq_getElem (by omega)]; rfl
    obtain ⟨q, t1, t2, s, c, e1, e2, e3⟩ := h.at i _ hv
    have e4 : b.getD i (0, 0) = (s, c) := by rw [List.getD_eq_getElem?_getD, e2]; rfl
    rw [List.map_cons, List.map_cons, e1, e4]
    exact .cons e3 (h.pick l fun j hj => hl j (.tail _ hj))
theorem pr_mem {n : Nat} {p : Array Nat} (h : PR n p) (i : Nat) : i ∈ p.toList ↔ i < n := by
  have := h.mem_iff (a := i)
  simpa using this
section
variable {prog : Program} {w : World} {A : Around} {E : Value → Shared → Prop} {s : Shared} {h₀ : Heap} {L l : Addr} {m : PySem.Str → Option Value} {news : Led} {vs : List Value} {b : List (Nat × Int)}
theorem bag_tups {h : Heap} (N : News h₀ L h news) : ∀ {vs : List Value} {b : List (Nat × Int)}, Bag news vs b → ∃ fs, KatTups h vs fs ∧ fs.length = b.length ∧ ∀ v ∈ fs, ∃ (k : Int) (t : Tok), v = .int k t
  | _, _, .nil => ⟨[], .nil, rfl, by simp⟩
  | _, _, .cons g r => by
    obtain ⟨fs, h1, h2, h3⟩ := bag_tups N r
    refine ⟨_ :: fs, KatTups.cons (N _ g).1 rfl rfl rfl h1, by simp [h2], fun v hv => ?_⟩
    rcases List.mem_cons.mp hv with rfl | hv
    · exact ⟨_, _, rfl⟩
    · exact h3 v hv
theorem sorted_two {nn : Nat} {Q : Value → Shared → Prop} (F : Fr h₀ L s.heap m) (N : News h₀ L s.heap news) (hm : (l, listOf vs.toArray nn) ∈ news) (hB : Bag news vs b) (h2 : 2 ≤ b.length) (h64 : b.length < 64) (hnd : (b.map (·.1)).Nodup)
    (h : ∀ D e h' vs' b', Fr h₀ L h' m → News h₀ L h' ((D, listOf vs'.toArray e) :: news) → (∀ q ∈ news, q.1 < D) → Bag news vs' b' → b'.Pairwise (fun x y => x.1 < y.1) → (∀ x, x ∈ b' ↔ x ∈ b) → Q (.ref D) { s with heap := h' }) :
    wpAny (model prog w) A (call (.builtin "sorted") [.ref l]) Q E s := by
  have hlen := hB.length
  refine kat_sorted F N (led_list N hm) (by omega) (by omega) fun D e1 h' F' N' hlt => ?_
  have N2 : News h₀ L h' news := fun p hp => N' p (.tail _ hp)
  obtain ⟨fs, hf1, hf2, hf3⟩ := bag_tups N2 hB
  refine kat_kind (T := .type "int") hf1 (by omega) (fun v hv => ?_) rfl ?_
  · obtain ⟨k, t, rfl⟩ := hf3 v hv
    exact .now
  have hinj : Inj (fun i => ((b.getD i (0, 0)).1 : Int)) vs.length := by
    intro i j hi hj e
    have e1 : (b.getD i (0, 0)).1 = (b.map (·.1))[i]'(by simp; omega) := by simp [List.getD_eq_getElem?_getD, List.getElem?_eq_getElem (show i < b.length by omega)]
    have e2 : (b.getD j (0, 0)).1 = (b.map (·.1))[j]'(by simp; omega) := by simp [List.getD_eq_getElem?_getD, List.getElem?_eq_getElem (show j < b.length by omega)]
    have e3 : (b.getD i (0, 0)).1 = (b.getD j (0, 0)).1 := Int.ofNat.inj e
    rw [e1, e2] at e3
    by_cases hij : i = j
    · exact hij
    · have hpw := List.pairwise_iff_getElem.mp hnd
      rcases Nat.lt_or_gt_of_ne hij with g | g
      · exact absurd e3 (hpw i j _ _ g)
      · exact absurd e3.symm (hpw j i _ _ g)
  have hat : ∀ i, i < vs.length → vs[i]? = some (vs.getD i Value.none) := fun i hi => by
    rw [List.getD_eq_getElem?_getD, List.getElem?_eq_getElem hi]; rfl
  refine sort_ok (key := fun i => ((b.getD i (0, 0)).1 : Int)) (Inv := fun s' => s' = { s with heap := h' }) hinj ?_ (by omega) rfl ?_
  · rintro i j C s' hi hj hij rfl hC
    obtain ⟨qi, ti1, ti2, si, ci, ei, bi, mi⟩ := hB.at i _ (hat i hi)
    obtain ⟨qj, tj1, tj2, sj, cj, ej, bj, mj⟩ := hB.at j _ (hat j hj)
    have hCC := hC _ rfl
    have hne := fun e => hij (hinj i j hi hj e)
    simp only [List.getD_eq_getElem?_getD, bi, bj, Option.getD_some] at hCC hne
    unfold kas_ask
    rw [ei, ej]
    refine kat_lt (N2 _ mi).1 rfl (N2 _ mj).1 rfl ?_
    refine kat_cons (wpAny_eqBool_int ?_)
    have : ((si : Int) == (sj : Int)) = false := by simpa using hne
    rw [this]
    refine kat_no ?_
    exact oneLt_int hCC
  · rintro p s' rfl hp hS
    refine KasFin.intro F' N' (UpdF.head fun q hq => Nat.ne_of_lt (hlt q hq)) fun h3 c F3 N3 => ?_
    refine h D c h3 _ (p.toList.map fun i => b.getD i (0, 0)) F3 N3 hlt (hB.pick _ fun i hi => by have := (pr_mem hp i).mp hi; omega) ?_ ?_
    · rw [List.pairwise_map, List.pairwise_iff_getElem]
      intro i j hi hj hij
      have hps : p.toList.length = vs.length := by rw [Array.length_toList]; exact hp.size
      have := hS.lt hij (by omega)
      unfold kp at this
      have e1 : p.getD i 0 = p.toList[i] := by simp [Array.getD, show i < p.size by simpa using hi]
      have e2 : p.getD j 0 = p.toList[j] := by simp [Array.getD, show j < p.size by simpa using hj]
      rw [e1, e2] at this
      exact Int.ofNat_lt.mp this
    · intro x
      rw [List.mem_map]
      constructor
      · rintro ⟨i, hi, rfl⟩
        have := (pr_mem hp i).mp hi
        rw [List.getD_eq_getElem?_getD, List.getElem?_eq_getElem (by omega)]
        exact List.getElem_mem _
      · intro hx
        obtain ⟨i, hi, rfl⟩ := List.mem_iff_getElem.mp hx
        refine ⟨i, (pr_mem hp i).mpr (by omega), ?_⟩
        rw [List.getD_eq_getElem?_getD, List.getElem?_eq_getElem hi]; rfl

theorem sorted_one {v : Value} {nn : Nat} {Q : Value → Shared → Prop} (F : Fr h₀ L s.heap m) (N : News h₀ L s.heap news) (hm : (l, listOf [v].toArray nn) ∈ news)
    (h : ∀ D e h', Fr h₀ L h' m → News h₀ L h' ((D, listOf [v].toArray e) :: news) → (∀ q ∈ news, q.1 < D) → Q (.ref D) { s with heap := h' }) :
    wpAny (model prog w) A (call (.builtin "sorted") [.ref l]) Q E s := by
  refine Calls.call_function_entry kind_sorted plain_sorted entry_sorted (args_sorted1 _) ?_
  unfold Builtin.«sorted»
  refine wpAny_bind (m := checkCount "sorted" 1 1 _) (wpAny_pure ?_)
  refine wpAny_bind (collect_list (led_list N hm) ?_)
  refine wpAny_bind (wpAny_newList ?_)
  have hL : L < s.heap.objs.size := F.ns.lt
  generalize hA1 : (s.heap.push (seqObj "list" #[] 0)).update s.heap.objs.size (Obj.mapSeq (· ++ [v].toArray)) = g1
  have hsz : g1.objs.size = s.heap.objs.size + 1 := by rw [← hA1, Heap.size_update, size_push']
  have k1 : ∀ b o, s.heap.get? b = some o → g1.get? b = some o := fun b o q => by
    have hlt : b < s.heap.objs.size := Heap.lt_size q
    rw [← hA1, Heap.get?_update_ne _ _ _ _ (Nat.ne_of_lt hlt), Heap.get?_push_ne _ _ _ (Nat.ne_of_lt hlt)]
    exact q
  show wpAny _ _ _ _ _ { s with heap := g1.push (seqObj "list" [v].toArray 0) }
  rw [hsz]
  have hoL : (g1.push (seqObj "list" [v].toArray 0)).get? (s.heap.objs.size + 1) = some (seqObj "list" [v].toArray 0) := by
    rw [← hsz]; exact Heap.get?_push_size _ rfl
  refine wpAny_bind (wpAny_holding (wpAny_call_entry slot_list_sort ⟨_, hoL, rfl⟩ entry_list_sort ?body (args_list_sort _)))
  case body =>
    have k2 : ∀ b o, s.heap.get? b = some o → (g1.push (seqObj "list" [v].toArray 0)).get? b = some o := fun b o q => Heap.get?_push_of_some _ (k1 b o q)
    have F2 : Fr h₀ L (g1.push (seqObj "list" [v].toArray 0)) m := F.kept k2
    have N2 : News h₀ L (g1.push (seqObj "list" [v].toArray 0)) news := N.grown k2
    have hna : ∀ p ∈ news, p.1 ≠ s.heap.objs.size + 1 := fun p hp => Nat.ne_of_lt (Nat.lt_succ_of_lt (Heap.lt_size (N p hp).1))
    have haL : s.heap.objs.size + 1 ≠ L := Nat.ne_of_gt (Nat.lt_succ_of_lt hL)
    have ha0 : h₀.get? (s.heap.objs.size + 1) = none := Heap.get?_none_of_le (Nat.le_trans F.above (Nat.le_succ_of_le (Nat.le_of_lt hL)))
    generalize hA2 : (g1.push (seqObj "list" [v].toArray 0)) = g2 at hoL F2 N2
    generalize ha : s.heap.objs.size + 1 = a at hoL hna haL ha0
    have s1 := Heap.SameBut.update g2 a (Obj.mapSeq fun _ => (#[] : Array Value))
    obtain ⟨e1, ho1⟩ : ∃ e1, (g2.update a (Obj.mapSeq fun _ => (#[] : Array Value))).get? a = some (seqObj "list" #[] e1) := ⟨_, get?_update_seq hoL fun _ => #[]⟩
    have F3 : Fr h₀ L (((g2.update a (Obj.mapSeq fun _ => (#[] : Array Value))).push (seqObj "tuple" [v].toArray 0)).push (seqObj "list" #[] 0)) m := ((kas_fr F2 s1 haL ha0).push _).push _
    have N3 : News h₀ L (((g2.update a (Obj.mapSeq fun _ => (#[] : Array Value))).push (seqObj "tuple" [v].toArray 0)).push (seqObj "list" #[] 0)) news :=
      (kas_news N2 s1 hna).grown fun b x e => Heap.get?_push_of_some _ (Heap.get?_push_of_some _ e)
    have ho3 : (((g2.update a (Obj.mapSeq fun _ => (#[] : Array Value))).push (seqObj "tuple" [v].toArray 0)).push (seqObj "list" #[] 0)).get? a = some (seqObj "list" #[] e1) := Heap.get?_push_of_some _ (Heap.get?_push_of_some _ ho1)
    rw [list_sort_plain]
    refine wpAny_bind (listItems_at hoL rfl ?_)
    refine wpAny_bind (listUpdate_at hoL rfl ?_ (by size_fits) (Nat.zero_le _))
    refine wpAny_bind (seqEpoch_at ho1 rfl ?_)
    refine wpAny_bind (wpAny_newTuple ?_)
    refine wpAny_bind (wpAny_newList ?_)
    refine wpAny_holding ?_
    show wpAny (model prog w) _ _ _ _ { s with heap := ((g2.update a (Obj.mapSeq fun _ => (#[] : Array Value))).push (seqObj "tuple" [v].toArray 0)).push (seqObj "list" #[] 0) }
    dsimp only
    generalize ((g2.update a (Obj.mapSeq fun _ => (#[] : Array Value))).push (seqObj "tuple" [v].toArray 0)).push (seqObj "list" #[] 0) = g3 at F3 N3 ho3 ⊢
    have h2v : (#[v] : Array Value).size < 2 := Nat.lt_succ_self 1
    rw [if_pos h2v, if_pos h2v]
    refine wpAny_bind (wpAny_pure ?_)
    rw [StateT.run_pure]
    refine wpAny_bind (wpAny_pure ?_)
    dsimp only
    refine wpAny_bind (seqEpoch_at ho3 rfl ?_)
    have hout : (arrOf (SortSt.mk' general' ([v].toArray.zip [v].toArray) #[] 7 none)).map (·.2) = [v].toArray := by
      show (([v].toArray).zip [v].toArray).map (·.2) = [v].toArray
      apply Array.toList_inj.mp
      rw [Array.toList_map, Array.toList_zip]
      rfl
    rw [hout]
    refine wpAny_bind (listUpdate_at ho3 rfl ?_ (by size_fits) (by show 1 ≤ _; rw [sizeLine_eq]; omega))
    simp only [bne_self_eq_false, Bool.false_eq_true, if_false]
    have s2 := Heap.SameBut.update g3 a (Obj.mapSeq fun _ => [v].toArray)
    obtain ⟨c2, hc2⟩ : ∃ c2, (g3.update a (Obj.mapSeq fun _ => [v].toArray)).get? a = some (seqObj "list" [v].toArray c2) := ⟨_, get?_update_seq ho3 fun _ => [v].toArray⟩
    refine wpAny_pure ⟨_, rfl, wpAny_pure ⟨_, rfl, h a c2 _ (kas_fr F3 s2 haL ha0) (fun p hp => ?_) fun q hq => by rw [← ha]; exact Nat.lt_succ_of_lt (Heap.lt_size (N q hq).1)⟩⟩
    rcases List.mem_cons.mp hp with rfl | hp
    · exact ⟨hc2, haL, ha0⟩
    · exact kas_news N3 s2 hna p hp
theorem led_sorted {nn : Nat} {Q : Value → Shared → Prop} (F : Fr h₀ L s.heap m) (N : News h₀ L s.heap news) (hm : (l, listOf vs.toArray nn) ∈ news) (hB : Bag news vs b) (h1 : 1 ≤ b.length) (h64 : b.length < 64) (hnd : (b.map (·.1)).Nodup)
    (h : ∀ D e h' vs' b', Fr h₀ L h' m → News h₀ L h' ((D, listOf vs'.toArray e) :: news) → (∀ q ∈ news, q.1 < D) → Bag news vs' b' → b'.Pairwise (fun x y => x.1 < y.1) → (∀ x, x ∈ b' ↔ x ∈ b) → Q (.ref D) { s with heap := h' }) :
    wpAny (model prog w) A (call (.builtin "sorted") [.ref l]) Q E s := by
  by_cases h2 : 2 ≤ b.length
  · exact sorted_two F N hm hB h2 h64 hnd h
  · have hl := hB.length
    obtain ⟨v, rfl⟩ : ∃ v, vs = [v] := List.length_eq_one_iff.mp (by omega)
    obtain ⟨x, rfl⟩ : ∃ x, b = [x] := List.length_eq_one_iff.mp (by omega)
    exact sorted_one F N hm fun D e h' F' N' hlt => h D e h' [v] [x] F' N' hlt hB (List.pairwise_singleton _ _) fun _ => Iff.rfl
end
/-- how many of a size several pairs tell together -/
def tot (hs : List (Nat × Int)) (s : Nat) : Int := ((hs.filter fun e => e.1 = s).map (·.2)).sum
def IsBag (hs b : List (Nat × Int)) : Prop := b.Pairwise (fun x y => x.1 < y.1) ∧ ∀ s c, (s, c) ∈ b ↔ s ∈ hs.map (·.1) ∧ c = tot hs s
def rem (hs : List (Nat × Int)) (i : Nat) : List (Nat × Int) := hs.filter fun e => e.1 ∉ (hs.take i).map (·.1)
def BagTo (hs : List (Nat × Int)) (i : Nat) (b : List (Nat × Int)) : Prop := (b.map (·.1)).Nodup ∧ ∀ s c, (s, c) ∈ b ↔ s ∈ (hs.take i).map (·.1) ∧ c = tot hs s
theorem rem_zero {hs : List (Nat × Int)} : rem hs 0 = hs := by
  unfold rem
  rw [List.filter_eq_self]
  intro a _
  simp
theorem rem_old {hs : List (Nat × Int)} {i s : Nat} (h : s ∈ (hs.take i).map (·.1)) : (rem hs i).filter (fun e => e.1 = s) = [] := by
  rw [List.filter_eq_nil_iff]
  intro a ha
  have := (List.mem_filter.mp ha).2
  simp only [decide_eq_true_eq] at this ⊢
  intro e
  subst e
  exact this h
theorem rem_new {hs : List (Nat × Int)} {i s : Nat} (h : s ∉ (hs.take i).map (·.1)) : (rem hs i).filter (fun e => e.1 = s) = hs.filter fun e => e.1 = s := by
  unfold rem
  rw [List.filter_filter]
  apply List.filter_congr
  intro a _
  by_cases e : a.1 = s
  · subst e; rw [decide_eq_true (show a.1 = a.1 from rfl), decide_eq_true h]; rfl
  · simp [e]
theorem rem_del {hs : List (Nat × Int)} {i s : Nat} {c : Int} (h : hs[i]? = some (s, c)) : (rem hs i).filter (fun e => e.1 ≠ s) = rem hs (i + 1) := by
  unfold rem
  rw [List.filter_filter]
  apply List.filter_congr
  intro a _
  rw [List.take_add_one, h]
  simp only [Option.toList_some, List.map_append, List.map_cons, List.map_nil, List.mem_append, List.mem_singleton, not_or]
  rw [Bool.and_comm]
  simp
theorem take_sizes {hs : List (Nat × Int)} {i s : Nat} {c : Int} (h : hs[i]? = some (s, c)) : (hs.take (i + 1)).map (·.1) = (hs.take i).map (·.1) ++ [s] := by
  rw [List.take_add_one, h]; simp
theorem BagTo.zero {hs : List (Nat × Int)} : BagTo hs 0 [] := ⟨.nil, by simp⟩
theorem BagTo.old {hs b : List (Nat × Int)} {i s : Nat} {c : Int} (h : BagTo hs i b) (hi : hs[i]? = some (s, c)) (ho : s ∈ (hs.take i).map (·.1)) : BagTo hs (i + 1) b := by
  refine ⟨h.1, fun s' c' => ?_⟩
  rw [h.2, take_sizes hi, List.mem_append, List.mem_singleton]
  constructor
  · rintro ⟨a, b⟩; exact ⟨.inl a, b⟩
  · rintro ⟨a | a, b⟩
    · exact ⟨a, b⟩
    · subst a; exact ⟨ho, b⟩
theorem BagTo.new {hs b : List (Nat × Int)} {i s : Nat} {c : Int} (h : BagTo hs i b) (hi : hs[i]? = some (s, c)) (ho : s ∉ (hs.take i).map (·.1)) : BagTo hs (i + 1) (b ++ [(s, tot hs s)]) := by
  constructor
  · rw [List.map_append, List.nodup_append]
    refine ⟨h.1, by simp, fun x hx y hy => ?_⟩
    simp only [List.map_cons, List.map_nil, List.mem_singleton] at hy
    subst hy
    rintro rfl
    obtain ⟨⟨s', c'⟩, hp, e⟩ := List.mem_map.mp hx
    simp only at e
    subst e
    exact ho ((h.2 _ _).mp hp).1
  · intro s' c'
    rw [List.mem_append, List.mem_singleton, h.2, take_sizes hi, List.mem_append, List.mem_singleton]
    constructor
    · rintro (⟨a, b⟩ | a)
      · exact ⟨.inl a, b⟩
      · cases a; exact ⟨.inr rfl, rfl⟩
    · rintro ⟨a | a, b⟩
      · exact .inl ⟨a, b⟩
      · subst a; subst b; exact .inr rfl
theorem BagTo.done {hs b b' : List (Nat × Int)} (h : BagTo hs hs.length b) (hp : b'.Pairwise fun x y => x.1 < y.1) (hm : ∀ x, x ∈ b' ↔ x ∈ b) : IsBag hs b' := by
  refine ⟨hp, fun s c => ?_⟩
  rw [hm, h.2, List.take_length]
def FewSizes (hs : List (Nat × Int)) : Prop := ∀ ss : List Nat, ss.Nodup → (∀ s ∈ ss, s ∈ hs.map (·.1)) → ss.length < 64
theorem BagTo.few {hs b : List (Nat × Int)} {i : Nat} (h : BagTo hs i b) (hf : FewSizes hs) : b.length < 64 := by
  have := hf (b.map (·.1)) h.1 fun s hs' => by
    obtain ⟨⟨s', c'⟩, hp, e⟩ := List.mem_map.mp hs'
    simp only at e
    subst e
    have h9 := ((h.2 _ _).mp hp).1
    obtain ⟨x, hx, e⟩ := List.mem_map.mp h9
    exact List.mem_map.mpr ⟨x, List.mem_of_mem_take hx, e⟩
  simpa using this
theorem BagTo.some {hs b : List (Nat × Int)} (h : BagTo hs hs.length b) (hne : hs ≠ []) : 1 ≤ b.length := by
  cases hs with
  | nil => exact absurd rfl hne
  | cons e r =>
    have := (h.2 e.1 (tot (e :: r) e.1)).mpr ⟨by rw [List.take_length]; simp, rfl⟩
    exact List.length_pos_of_mem this
theorem filter_new_ne {hs : List (Nat × Int)} {i s : Nat} {c : Int} (hi : hs[i]? = some (s, c)) : ((hs.filter fun e => e.1 = s).map (·.2)) ≠ [] := by
  have hm : (s, c) ∈ hs.filter fun e => e.1 = s := List.mem_filter.mpr ⟨List.mem_of_getElem? hi, by simp⟩
  intro e
  rw [List.map_eq_nil_iff] at e
  rw [e] at hm
  cases hm
/-- what no nested def's code is -/
def NoCode (o : Obj) : Prop := ∀ vs q t, o.data = .fields vs → vs[1]? = some (.str q t) → False
theorem NsO.noCode {o : Obj} {m : PySem.Str → Option Value} (x : NsO o m) : NoCode o := by
  refine Classical.byContradiction fun hG9 => ?_
  obtain ⟨es, ep, r, _⟩ := x
  refine hG9 ?_
  clear hG9
  intro vs q t h
  rw [r] at h; cases h
theorem noCode_seq {o : Obj} {xs : Array Value} {n : Nat} (x : o.data = .seq xs n) : NoCode o := by
  intro vs q t h
  rw [x] at h; cases h
theorem noCode_int {o : Obj} {x : Value} {k : Int} {u : Tok} (x : o.data = .fields #[x, .int k u]) : NoCode o := by
  intro vs q t h hv
  rw [x] at h; cases h
  simp at hv
theorem Tb.hide {h₀ h : Heap} {L : Addr} {newsA nx : Led} (N : News h₀ L h newsA) (hT : Tb newsA) (H : List Addr) (hH : ∀ a ∈ H, a = L ∨ ∃ o, (a, o) ∈ newsA ∧ Usr o ∧ NoCode o) (hin : ∀ p ∈ newsA, p.1 ∉ H → p ∈ nx) : Tb nx := by
  refine Classical.byContradiction fun hG9 => ?_
  obtain ⟨o1, o2, o3, a1, b1, a2, b2, a3, b3⟩ := hT
  refine hG9 ?_
  clear hG9
  have tab : ∀ {a : Addr} {o : Obj} {pos : Pos} {q : PySem.Str}, (a, o) ∈ newsA → TabOk pos q o newsA → (a, o) ∈ nx ∧ TabOk pos q o nx := by
    intro a o pos q hm ht
    refine ⟨hin _ hm fun hh => ?_, ?_⟩
    · rcases hH a hh with e | ⟨o', ho', hu, _⟩
      · exact (N _ hm).2.1 e
      · exact ht.not_usr (by rw [news_fun N hm ho']; exact hu)
    · rcases ht with rfl | ⟨c, oc, vs, t, rfl, hmc, h1, h2⟩
      · exact .inl rfl
      · refine .inr ⟨c, oc, vs, t, rfl, hin _ hmc fun hh => ?_, h1, h2⟩
        rcases hH c hh with e | ⟨o', ho', _, hn⟩
        · exact (N _ hmc).2.1 e
        · exact hn vs _ _ (by rw [← news_fun N hmc ho']; exact h1) h2
  exact ⟨o1, o2, o3, (tab a1 b1).1, (tab a1 b1).2, (tab a2 b2).1, (tab a2 b2).2, (tab a3 b3).1, (tab a3 b3).2⟩
section
variable {prog : Program} {w : World} {A : Around} {E : Value → Shared → Prop} {R : Result → Shared → Prop} {s : Shared}
/-- where a turn of a comprehension ends that calls own defs: the frame may be another object with the same names -/
def CompEnd2 (h₀ : Heap) (C : Addr) (s : Shared) (must : Led) (hide : List Addr) (L : Addr) (PL : Obj → Prop) (J : List Value → Led → Prop) (vs : List Value) (s₃ : Shared) : Prop :=
  ∃ h' tk dr mC nx' oL, s₃ = { s with heap := h', toks := tk, drawn := dr } ∧ Fr h₀ C h' mC ∧ News h₀ C h' nx' ∧ (∀ p ∈ must, p ∈ nx') ∧ PL oL ∧ (L, oL) ∈ nx' ∧ ∀ nx2, (∀ p ∈ nx', p.1 ∉ hide → p ∈ nx2) → J vs nx2
theorem comp_loop2 {h₀ : Heap} {target elt iter : Expr} {ifs : List Expr} {scope : Scope} {pos : Pos} {cenv : Env} {I D L : Addr} {oL0 : Obj} {PL : Obj → Prop} {fx : Led} {n : Nat} {P : Nat → Value → Prop} {St : Nat → Heap → Prop} {mC : PySem.Str → Option Value} {news : Led} {CN : String}
    (hC : ["enumerate", "zip", "dict_itemiterator", "dict_reverseitemiterator", "odict_iterator", "itertools.zip_longest", "itertools.pairwise"].contains CN = false)
    (W : Walks prog w A I (I :: fx.map (·.1)) [I] n P St) (hsz : n ≤ sizeLine) (hcls : ∀ i h, St i h → ∃ o, h.get? I = some o ∧ o.cls = .type CN ∧ NoCode o)
    (hCI : cenv.locals ≠ I) (hI0 : h₀.get? I = none) (hID : I ≠ D) (hIL : I ≠ L) (hDL : D ≠ L) (hst : St 0 s.heap) (F : Fr h₀ cenv.locals s.heap mC) (hPL : PL oL0) (N : News h₀ cenv.locals s.heap ((D, listOf ([] : List Value).toArray 0) :: (L, oL0) :: news))
    (hn1 : ∀ p ∈ news, p.1 ≠ I ∧ p.1 ≠ D ∧ p.1 ≠ L)
    (J : Nat → List Value → Led → Prop) (hl : ∀ i vs nx, J i vs nx → ∀ p ∈ fx, p ∈ nx) (h0 : J 0 [] news)
    (turn : ∀ oL, PL oL → ∀ i v vs nD mC nx h tk dr oI, i < n → P i v → J i vs nx → (∀ p ∈ nx, p.1 ≠ I ∧ p.1 ≠ D ∧ p.1 ≠ L) → oI.cls = .type CN → NoCode oI → Fr h₀ cenv.locals h mC → News h₀ cenv.locals h ((I, oI) :: (D, listOf vs.toArray nD) :: (L, oL) :: nx) →
      wpAny (model prog w) A (assign target cenv v) (fun _ s₂ =>
          wpAny (model prog w) A (forIn ifs true fun c r => if r = true then do let ok ← isTrue c cenv (eval c cenv); pure (ForInStep.yield ok) else pure (ForInStep.yield r)) (fun ok s₃ =>
            if ok = true then wpAny (model prog w) A (eval elt cenv) (fun x s₄ => CompEnd2 h₀ cenv.locals s [(I, oI), (D, listOf vs.toArray nD)] [I, D, L] L PL (J (i + 1)) (vs ++ [x]) s₄) (fun _ _ => False) s₃
            else CompEnd2 h₀ cenv.locals s [(I, oI), (D, listOf vs.toArray nD)] [I, D, L] L PL (J (i + 1)) vs s₃) (fun _ _ => False) s₂) (fun _ _ => False) { s with heap := h, toks := tk, drawn := dr })
    (done : ∀ oL, PL oL → ∀ h tk dr vs nD mC nx, Fr h₀ cenv.locals h mC → News h₀ cenv.locals h ((D, listOf vs.toArray nD) :: (L, oL) :: nx) → (∀ p ∈ nx, p.1 ≠ D ∧ p.1 ≠ L) → J n vs nx → R (.ok .next) { s with heap := h, toks := tk, drawn := dr }) :
    codeAny (model prog w) A (.compLoop (.ListComp elt [⟨target, iter, ifs, 0⟩] scope pos) 0 (.ref I) (.ref D) cenv) R s := by
  refine compLoop_any
    (fun k s' => ∃ h' tk dr mC nD vs nx i oL, PL oL ∧ s' = { s with heap := h', toks := tk, drawn := dr } ∧ St i h' ∧ Fr h₀ cenv.locals h' mC ∧ News h₀ cenv.locals h' ((D, listOf vs.toArray nD) :: (L, oL) :: nx) ∧ (∀ p ∈ nx, p.1 ≠ I ∧ p.1 ≠ D ∧ p.1 ≠ L) ∧ J i vs nx ∧ vs.length ≤ i ∧ i ≤ n ∧ k = n + 1 - i) ?_ (n + 1)
    ⟨s.heap, s.toks, s.drawn, mC, 0, [], news, 0, oL0, hPL, rfl, hst, F, N, hn1, h0, Nat.le_refl _, Nat.zero_le _, rfl⟩
  rintro k s' ⟨h', tk, dr, mC', nD, vs, nx, i, oL, hoL, rfl, hst', F', N', hn', hJ, hvl, hi, rfl⟩
  have hof : ∀ p ∈ ((D, listOf vs.toArray nD) :: (L, oL) :: nx : Led), p.1 ≠ I := by
    refine List.forall_mem_cons.mpr ⟨Ne.symm hID, List.forall_mem_cons.mpr ⟨Ne.symm hIL, fun p hp => (hn' p hp).1⟩⟩
  have next : ∀ h₁ : Heap, (∀ b o, b ∉ [I] → h'.get? b = some o → h₁.get? b = some o) → Fr h₀ cenv.locals h₁ mC' ∧ News h₀ cenv.locals h₁ ((D, listOf vs.toArray nD) :: (L, oL) :: nx) := fun h₁ hk₁ =>
    ⟨⟨F'.ns.at' fun o e => hk₁ _ o (by simpa using hCI) e, fun b o e => hk₁ b o (by
        intro hb
        rw [List.mem_singleton.mp hb, hI0] at e; cases e) (F'.keep b o e), F'.above⟩,
      fun p hp => ⟨hk₁ _ _ (by simpa using hof p hp) (N' p hp).1, (N' p hp).2⟩⟩
  by_cases hlt : i < n
  · refine W.item i _ _ _ hlt hst' fun v h₁ tk₁ hP hst₁ hk₁ => ?_
    refine Classical.byContradiction fun hG9 => ?_
    obtain ⟨F₁, N₁⟩ := next h₁ hk₁
    obtain ⟨oI, hoI, hcI, hnI9⟩ := hcls _ _ hst₁
    refine hG9 ?_
    clear hG9
    have N₂ : News h₀ cenv.locals h₁ ((I, oI) :: (D, listOf vs.toArray nD) :: (L, oL) :: nx) := fun p hp => by
      rcases List.mem_cons.mp hp with rfl | hp
      · exact ⟨hoI, Ne.symm hCI, hI0⟩
      · exact N₁ p hp
    refine letGo_any hoI hcI hC ?_
    have fin : ∀ vs' nD' (h₃ : Heap) tk₃ dr₃ m₃ nx₃ oL3, PL oL3 → vs'.length ≤ i + 1 → Fr h₀ cenv.locals h₃ m₃ → News h₀ cenv.locals h₃ nx₃ → (I, oI) ∈ nx₃ → (D, listOf vs'.toArray nD') ∈ nx₃ → (L, oL3) ∈ nx₃ → (∀ nx2, (∀ p ∈ nx₃, p.1 ∉ [I, D, L] → p ∈ nx2) → J (i + 1) vs' nx2) →
        ∃ m, m < n + 1 - i ∧ ∃ h' tk dr mC nD vs nx i oL, PL oL ∧ ({ s with heap := h₃, toks := tk₃, drawn := dr₃ } : Shared) = { s with heap := h', toks := tk, drawn := dr } ∧ St i h' ∧ Fr h₀ cenv.locals h' mC ∧ News h₀ cenv.locals h' ((D, listOf vs.toArray nD) :: (L, oL) :: nx) ∧ (∀ p ∈ nx, p.1 ≠ I ∧ p.1 ≠ D ∧ p.1 ≠ L) ∧ J i vs nx ∧ vs.length ≤ i ∧ i ≤ n ∧ m = n + 1 - i := by
      intro vs' nD' h₃ tk₃ dr₃ m₃ nx₃ oL3 hoL3 hv' F₃ N₃ mI mD mL hJ₃
      have hJ4 := hJ₃ (off I (off D (off L nx₃))) fun p hp hne => by
        simp only [List.mem_cons, List.not_mem_nil, or_false, not_or] at hne
        exact mem_off.mpr ⟨mem_off.mpr ⟨mem_off.mpr ⟨hp, hne.2.2⟩, hne.2.1⟩, hne.1⟩
      have sub : ∀ p ∈ off I (off D (off L nx₃)), p ∈ nx₃ := fun p hp => (mem_off.mp (mem_off.mp (mem_off.mp hp).1).1).1
      refine ⟨n + 1 - (i + 1), by omega, h₃, tk₃, dr₃, m₃, nD', vs', off I (off D (off L nx₃)), i + 1, oL3, hoL3, rfl, ?_, F₃, ?_, fun p hp => ?_, hJ4, hv', hlt, rfl⟩
      · refine W.frame _ _ _ hst₁ fun b hb o e => ?_
        rcases List.mem_cons.mp hb with rfl | hb
        · rw [hoI] at e; cases e; exact (N₃ _ mI).1
        · obtain ⟨p, hp, rfl⟩ := List.mem_map.mp hb
          have e1 := (N₁ _ (.tail _ (.tail _ (hl _ _ _ hJ p hp)))).1
          have e2 := (N₃ _ (sub _ (hl _ _ _ hJ4 p hp))).1
          rw [e1] at e; rw [e2, ← e]
      · intro p hp
        rcases List.mem_cons.mp hp with rfl | hp
        · exact N₃ _ mD
        · rcases List.mem_cons.mp hp with rfl | hp
          · exact N₃ _ mL
          · exact N₃ _ (sub p hp)
      · have h1 := mem_off.mp hp
        have h2 := mem_off.mp h1.1
        have h3 := mem_off.mp h2.1
        exact ⟨h1.2, h2.2, h3.2⟩
    refine wpAny_mono (turn oL hoL i v vs nD mC' nx h₁ tk₁ dr oI hlt hP hJ hn' hcI hnI9 F₁ N₂) (fun _ s₂ h₂ => wpAny_mono h₂ (fun ok s₃ h₃ => ?_) fun _ _ e => e) fun _ _ e => e
    cases ok with
    | false =>
      simp only [Bool.false_eq_true, if_false] at h₃ ⊢
      refine Classical.byContradiction fun hG9 => ?_
      obtain ⟨h₃', tk₃, dr₃, m₃, nx₃, oL3, rfl, F₃, N₃, hmust, hoL3, hmL3, hJ₃⟩ := h₃
      refine hG9 ?_
      clear hG9
      exact fin vs nD h₃' tk₃ dr₃ m₃ nx₃ oL3 hoL3 (by omega) F₃ N₃ (hmust _ (.head _)) (hmust _ (.tail _ (.head _))) hmL3 hJ₃
    | true =>
      simp only [if_true] at h₃ ⊢
      refine wpAny_mono h₃ (fun x s₄ h₄ => ?_) fun _ _ e => e
      refine Classical.byContradiction fun hG9 => ?_
      obtain ⟨h₃', tk₃, dr₃, m₃, nx₃, oL3, rfl, F₃, N₃, hmust, hoL3, hmL3, hJ₃⟩ := h₄
      refine hG9 ?_
      clear hG9
      refine led_append F₃ N₃ (hmust _ (.tail _ (.head _))) (by omega) fun h₅ rest F₅ N₅ ha hb hc => ?_
      refine fin (vs ++ [x]) (nD + 1) h₅ tk₃ dr₃ m₃ _ oL3 hoL3 (by rw [List.length_append]; simpa using hvl) F₅ N₅ (.tail _ (hb _ (hmust _ (.head _)) hID)) (.head _) (.tail _ (hb _ hmL3 (Ne.symm hDL))) fun nx2 h2 => hJ₃ nx2 fun p hp hne => h2 p (.tail _ (hb p hp fun e => hne (by rw [e]; simp))) hne
  · have hin : i = n := by omega
    subst hin
    refine W.done _ _ _ hst' fun h₁ tk₁ hk₁ => ?_
    obtain ⟨F₁, N₁⟩ := next h₁ hk₁
    exact done oL hoL h₁ tk₁ dr vs nD mC' nx F₁ N₁ (fun p hp => (hn' p hp).2) hJ

theorem post_none {h₀ : Heap} {L C D : Addr} {oL oD : Obj} {h : Heap} {m mC : PySem.Str → Option Value} {nx : Led} {Q : Value → Shared → Prop} {s' : Shared} (hmL : NsO oL m) (hLC : L ≠ C) (hDL : D ≠ L) (ha : h₀.objs.size ≤ L) (F₁ : Fr h₀ C s'.heap mC) (N₁ : News h₀ C s'.heap ((D, oD) :: (L, oL) :: nx)) (hn : ∀ p ∈ nx, p.1 ≠ D ∧ p.1 ≠ L)
    (done : ∀ h'', Fr h₀ L h'' m → News h₀ L h'' ((D, oD) :: nx) → Q (.ref D) { s' with heap := h'' }) : compPost (model prog w) A E none Q (.ref D) C (.ok .next) s' := by
  refine ⟨_, F₁.ns, fun h'' hs'' => ?_⟩
  have kp : ∀ b o, b ≠ C → s'.heap.get? b = some o → h''.get? b = some o := fun b o hb e => hs''.extBut b o hb e
  refine done h'' ⟨obj_ns (kp _ _ hLC (N₁ _ (.tail _ (.head _))).1) hmL, fun b o e => kp b o (fun e1 => ?_) (F₁.keep b o e), ha⟩ (fun p hp => ?_)
  · subst e1
    exact absurd (Heap.lt_size e) (Nat.not_lt.mpr F₁.above)
  · rcases List.mem_cons.mp hp with rfl | hp
    · have := N₁ _ (.head _)
      exact ⟨kp _ _ this.2.1 this.1, hDL, this.2.2⟩
    · have := N₁ _ (.tail _ (.tail _ hp))
      exact ⟨kp _ _ this.2.1 this.1, (hn p hp).2, this.2.2⟩
theorem post_store {h₀ : Heap} {C D : Addr} {oL oD : Obj} {m mC : PySem.Str → Option Value} {nx : Led} {Q : Value → Shared → Prop} {s' : Shared} {env : Env} {y : PySem.Str} {py : Pos} (hmL : NsO oL m) (hLC : env.locals ≠ C) (hDL : D ≠ env.locals) (ha : h₀.objs.size ≤ env.locals) (F₁ : Fr h₀ C s'.heap mC) (N₁ : News h₀ C s'.heap ((D, oD) :: (env.locals, oL) :: nx)) (hn : ∀ p ∈ nx, p.1 ≠ D ∧ p.1 ≠ env.locals)
    (hy : env.kindOf y = some .local) (hp : (env.scope.kind == .class || (env.scope.kind == .module && env.locals != env.globals)) = false)
    (done : ∀ h'' tk, Fr h₀ env.locals h'' (fun x => if x = y then some (.ref D) else m x) → News h₀ env.locals h'' ((D, oD) :: nx) → Q .none { s' with heap := h'', toks := tk }) : compPost (model prog w) A E (some (assign (.Name y py) env)) Q (.ref D) C (.ok .next) s' := by
  show wpAny _ A (assign (.Name y py) env (.ref D)) _ _ _
  have hL := N₁ _ (.tail _ (.head _))
  refine wpAny_assign_Name (wpAny_storeName_local hy (obj_ns hL.1 hmL) (fun h₂ hn₂ hs₂ => ?_) hp)
  refine ⟨mC, F₁.ns.sameBut hs₂ (Ne.symm hLC), fun h'' hs'' => ?_⟩
  have kp : ∀ b o, b ≠ C → b ≠ env.locals → s'.heap.get? b = some o → h''.get? b = some o := fun b o hb hb2 e => hs''.extBut b o hb (hs₂.extBut b o hb2 e)
  refine done h'' _ ⟨hn₂.sameBut hs'' hLC, fun b o e => kp b o (fun e1 => ?_) (fun e1 => ?_) (F₁.keep b o e), ha⟩ (fun p hp => ?_)
  · subst e1
    exact absurd (Heap.lt_size e) (Nat.not_lt.mpr F₁.above)
  · subst e1
    rw [hL.2.2] at e; cases e
  · rcases List.mem_cons.mp hp with rfl | hp
    · have := N₁ _ (.head _)
      exact ⟨kp _ _ this.2.1 hDL this.1, hDL, this.2.2⟩
    · have := N₁ _ (.tail _ (.tail _ hp))
      exact ⟨kp _ _ this.2.1 (hn p hp).2 this.1, (hn p hp).2, this.2.2⟩
theorem comp_after3 {h₀ : Heap} {target elt iter : Expr} {ifs : List Expr} {scope : Scope} {cl : List (PySem.Str × Addr)} {pos : Pos} {env : Env} {I : Addr} {fx : Led} {n : Nat} {P : Nat → Value → Prop} {St : Nat → Heap → Prop} {m : PySem.Str → Option Value} {news : Led} {CN : String} {Q : Value → Shared → Prop} {use : Option (Value → Sem Unit)}
    (hC : ["enumerate", "zip", "dict_itemiterator", "dict_reverseitemiterator", "odict_iterator", "itertools.zip_longest", "itertools.pairwise"].contains CN = false)
    (W : Walks prog w A I (I :: fx.map (·.1)) [I] n P St) (hsz : n ≤ sizeLine) (hcls : ∀ i h, St i h → ∃ o, h.get? I = some o ∧ o.cls = .type CN ∧ NoCode o)
    (hI0 : h₀.get? I = none) (hIL : I ≠ env.locals) (hnI : ∀ p ∈ news, p.1 ≠ I) (hst : St 0 s.heap) (F : Fr h₀ env.locals s.heap m) (N : News h₀ env.locals s.heap news)
    (hcell : ∀ y ∈ scope.names, y.2 ≠ .cell) (hkind : scope.kind = .function)
    (J : Nat → List Value → Led → Prop) (hl : ∀ i vs nx, J i vs nx → ∀ p ∈ fx, p ∈ nx) (h0 : J 0 [] news)
    (turn : ∀ C D oL, NsO oL m → env.locals ≠ C → h₀.objs.size ≤ env.locals → I ≠ env.locals → D ≠ env.locals → (∀ p ∈ news, p.1 < D) → ∀ i v vs nD mC nx h tk dr oI, i < n → P i v → J i vs nx → (∀ p ∈ nx, p.1 ≠ I ∧ p.1 ≠ D ∧ p.1 ≠ env.locals) → oI.cls = .type CN → NoCode oI → Fr h₀ C h mC → News h₀ C h ((I, oI) :: (D, listOf vs.toArray nD) :: (env.locals, oL) :: nx) →
      wpAny (model prog w) A (assign target (compEnvC scope cl C env) v) (fun _ s₂ =>
          wpAny (model prog w) A (forIn ifs true fun c r => if r = true then do let ok ← isTrue c (compEnvC scope cl C env) (eval c (compEnvC scope cl C env)); pure (ForInStep.yield ok) else pure (ForInStep.yield r)) (fun ok s₃ =>
            if ok = true then wpAny (model prog w) A (eval elt (compEnvC scope cl C env)) (fun x s₄ => CompEnd2 h₀ C s [(I, oI), (D, listOf vs.toArray nD)] [I, D, env.locals] env.locals (fun o => NsO o m) (J (i + 1)) (vs ++ [x]) s₄) (fun _ _ => False) s₃
            else CompEnd2 h₀ C s [(I, oI), (D, listOf vs.toArray nD)] [I, D, env.locals] env.locals (fun o => NsO o m) (J (i + 1)) vs s₃) (fun _ _ => False) s₂) (fun _ _ => False) { s with heap := h, toks := tk, drawn := dr })
    (done : ∀ C oL h tk dr D vs nD mC nx, NsO oL m → env.locals ≠ C → D ≠ env.locals → h₀.objs.size ≤ env.locals → Fr h₀ C h mC → News h₀ C h ((D, listOf vs.toArray nD) :: (env.locals, oL) :: nx) → (∀ p ∈ news, p.1 < D) → (∀ p ∈ nx, p.1 ≠ D ∧ p.1 ≠ env.locals) → J n vs nx → compPost (model prog w) A E use Q (.ref D) C (.ok .next) { s with heap := h, toks := tk, drawn := dr }) :
    wpAny (model prog w) A (newList []) (fun acc s₃ => wpAny (model prog w) A (newFunctionEnv scope env.globals cl [] env.qual none .none (some env)) (fun cenv s₄ =>
      codeAny (model prog w) A (.compStart (.ListComp elt [⟨target, iter, ifs, 0⟩] scope pos) 0 (.ref I) acc { cenv with scope := relabel scope env }) (compPost (model prog w) A E use Q acc cenv.locals) s₄) E s₃) E s := by
  refine wpAny_newObj_type (wpAny_newFunctionEnv hcell (by intro y hy; simp at hy) (fun h₁ hns₁ hsb₁ => ?_) hkind)
  dsimp only at hns₁ hsb₁ ⊢
  generalize hH2 : s.heap.push { cls := .type "list", dict := none, data := .seq ([] : List Value).toArray } = H2 at hns₁ hsb₁ ⊢
  have hC2 : H2.objs.size = s.heap.objs.size + 1 := by rw [← hH2, Heap.size_push]
  have hDC : s.heap.objs.size ≠ H2.objs.size := by rw [hC2]; exact Nat.ne_of_lt (Nat.lt_succ_self _)
  have old : ∀ b o, s.heap.get? b = some o → h₁.get? b = some o := fun b o e => hsb₁.extBut b o (by have := Heap.lt_size e; rw [hC2]; exact Nat.ne_of_lt (Nat.lt_succ_of_lt this)) (Heap.get?_push_of_some _ (hH2 ▸ Heap.get?_push_of_some _ e))
  have hDobj : h₁.get? s.heap.objs.size = some (listOf ([] : List Value).toArray 0) := hsb₁.extBut _ _ hDC (Heap.get?_push_of_some _ (hH2 ▸ Heap.get?_push_size _ rfl))
  have hlt : ∀ p ∈ news, p.1 < s.heap.objs.size := fun p hp => Heap.lt_size (N p hp).1
  have hLlt : env.locals < s.heap.objs.size := F.ns.lt
  have hIlt : I < s.heap.objs.size := by obtain ⟨o, ho, _, _⟩ := hcls _ _ hst; exact Heap.lt_size ho
  have none_of : ∀ a, s.heap.objs.size ≤ a → h₀.get? a = none := fun a ha => by
    cases e : h₀.get? a with
    | none => rfl
    | some o' => exact absurd (Heap.lt_size (F.keep _ _ e)) (Nat.not_lt.mpr ha)
  have hst₁ : St 0 h₁ := W.frame _ _ _ hst fun b _ o e => old b o e
  obtain ⟨oL, hoL, hmL⟩ := ns_obj F.ns
  have hL0 : h₀.get? env.locals = none := by
    cases e : h₀.get? env.locals with
    | none => rfl
    | some o' => exact absurd (Heap.lt_size e) (Nat.not_lt.mpr F.above)
  have hLC : env.locals ≠ H2.objs.size := by rw [hC2]; exact Nat.ne_of_lt (Nat.lt_succ_of_lt hLlt)
  have FC : Fr h₀ H2.objs.size h₁ (fun x => ([] : List (PySem.Str × Value)).reverse.lookup x) := ⟨hns₁, fun b o e => old b o (F.keep b o e), by rw [hC2]; exact Nat.le_trans F.above (Nat.le_of_lt (Nat.lt_succ_of_lt hLlt))⟩
  have NC : News h₀ H2.objs.size h₁ ((s.heap.objs.size, listOf ([] : List Value).toArray 0) :: (env.locals, oL) :: news) := fun p hp => by
    rcases List.mem_cons.mp hp with rfl | hp
    · exact ⟨hDobj, hDC, none_of _ (Nat.le_refl _)⟩
    · rcases List.mem_cons.mp hp with rfl | hp
      · exact ⟨old _ _ hoL, hLC, hL0⟩
      · exact ⟨old _ _ (N p hp).1, by rw [hC2]; exact Nat.ne_of_lt (Nat.lt_succ_of_lt (hlt p hp)), (N p hp).2.2⟩
  have loop : ∀ s₃ : Shared, s₃ = { s with heap := h₁, toks := s.toks + ([] : List (PySem.Str × Value)).length } →
      codeAny (model prog w) A (.compLoop (.ListComp elt [⟨target, iter, ifs, 0⟩] scope pos) 0 (.ref I) (.ref s.heap.objs.size) (compEnvC scope cl H2.objs.size env))
        (compPost (model prog w) A E use Q (.ref s.heap.objs.size) H2.objs.size) s₃ := by
    rintro s₃ rfl
    refine comp_loop2 (cenv := compEnvC scope cl H2.objs.size env) (L := env.locals) (oL0 := oL) (PL := fun o => NsO o m) hC W hsz hcls (show H2.objs.size ≠ I by rw [hC2]; exact Nat.ne_of_gt (Nat.lt_succ_of_lt hIlt)) hI0 (Nat.ne_of_lt hIlt) hIL (Nat.ne_of_gt hLlt) hst₁ FC hmL NC
      (fun p hp => ⟨hnI p hp, Nat.ne_of_lt (hlt p hp), (N p hp).2.1⟩) J hl h0 ?_ ?_
    · intro oL hmL i v vs nD mC nx h tk dr oI hi hP hJ hn hc hz F₁ N₁
      exact turn _ _ oL hmL hLC F.above hIL (Nat.ne_of_gt hLlt) hlt i v vs nD mC nx h tk dr oI hi hP hJ hn hc hz F₁ N₁
    · intro oL hmL h tk dr vs nD mC nx F₁ N₁ hn hJ
      exact done _ oL h tk dr _ vs nD mC nx hmL hLC (Nat.ne_of_gt hLlt) F.above F₁ N₁ hlt hn hJ
  exact codeAny_compStart_list (loop _ rfl) (W.self 0 _ _ _ hst₁ (loop _ rfl))
theorem comp_list3 {h₀ : Heap} {target elt iter : Expr} {ifs : List Expr} {scope : Scope} {cl : List (PySem.Str × Addr)} {pos : Pos} {env : Env} {m : PySem.Str → Option Value} {news : Led} {Q : Value → Shared → Prop} {use : Option (Value → Sem Unit)} {l : Addr} {xs : List Value} {nn : Nat}
    (hh : A.handled = none) (hm : (l, listOf xs.toArray nn) ∈ news) (hsz : xs.length ≤ sizeLine) (F : Fr h₀ env.locals s.heap m) (N : News h₀ env.locals s.heap news) (hcell : ∀ y ∈ scope.names, y.2 ≠ .cell) (hkind : scope.kind = .function)
    (J : Nat → List Value → Led → Prop) (hl : ∀ i vs nx, J i vs nx → (l, listOf xs.toArray nn) ∈ nx) (h0 : J 0 [] news)
    (turn : ∀ I C D oL, NsO oL m → env.locals ≠ C → h₀.objs.size ≤ env.locals → I ≠ env.locals → D ≠ env.locals → (∀ p ∈ news, p.1 < D) → ∀ i v vs nD mC nx h tk dr oI, i < xs.length → xs[i]? = some v → J i vs nx → (∀ p ∈ nx, p.1 ≠ I ∧ p.1 ≠ D ∧ p.1 ≠ env.locals) → oI.cls = .type "list_iterator" → NoCode oI → Fr h₀ C h mC → News h₀ C h ((I, oI) :: (D, listOf vs.toArray nD) :: (env.locals, oL) :: nx) →
      wpAny (model prog w) A (assign target (compEnvC scope cl C env) v) (fun _ s₂ =>
          wpAny (model prog w) A (forIn ifs true fun c r => if r = true then do let ok ← isTrue c (compEnvC scope cl C env) (eval c (compEnvC scope cl C env)); pure (ForInStep.yield ok) else pure (ForInStep.yield r)) (fun ok s₃ =>
            if ok = true then wpAny (model prog w) A (eval elt (compEnvC scope cl C env)) (fun x s₄ => CompEnd2 h₀ C s [(I, oI), (D, listOf vs.toArray nD)] [I, D, env.locals] env.locals (fun o => NsO o m) (J (i + 1)) (vs ++ [x]) s₄) (fun _ _ => False) s₃
            else CompEnd2 h₀ C s [(I, oI), (D, listOf vs.toArray nD)] [I, D, env.locals] env.locals (fun o => NsO o m) (J (i + 1)) vs s₃) (fun _ _ => False) s₂) (fun _ _ => False) { s with heap := h, toks := tk, drawn := dr })
    (done : ∀ C oL h tk dr D vs nD mC nx, NsO oL m → env.locals ≠ C → D ≠ env.locals → h₀.objs.size ≤ env.locals → Fr h₀ C h mC → News h₀ C h ((D, listOf vs.toArray nD) :: (env.locals, oL) :: nx) → (∀ p ∈ news, p.1 < D) → (∀ p ∈ nx, p.1 ≠ D ∧ p.1 ≠ env.locals) → J xs.length vs nx → compPost (model prog w) A E use Q (.ref D) C (.ok .next) { s with heap := h, toks := tk, drawn := dr }) :
    wpAny (model prog w) A (pyIter (.ref l)) (fun it s₂ => wpAny (model prog w) A (newList []) (fun acc s₃ => wpAny (model prog w) A (newFunctionEnv scope env.globals cl [] env.qual none .none (some env)) (fun cenv s₄ =>
      codeAny (model prog w) A (.compStart (.ListComp elt [⟨target, iter, ifs, 0⟩] scope pos) 0 it acc { cenv with scope := relabel scope env }) (compPost (model prog w) A E use Q acc cenv.locals) s₄) E s₃) E s₂) E s := by
  have hol := (N _ hm).1
  have hne : l ≠ s.heap.objs.size := Nat.ne_of_lt (Heap.lt_size hol)
  have hls := led_list N hm
  refine wpAny_pyIter_list hls ?_
  have W := Walks.list (prog := prog) (w := w) hh s.heap.objs.size l hne xs.toArray
  have hlen : xs.toArray.size = xs.length := by simp
  rw [hlen] at W
  refine comp_after3 (s := { s with heap := s.heap.push _ }) (fx := [(l, listOf xs.toArray nn)]) (CN := "list_iterator") (by decide) W hsz (fun i h st => let ⟨o, ho, hc, hd⟩ := st.1; ⟨o, ho, hc, noCode_int hd⟩) (next_is_new F) (Nat.ne_of_gt F.ns.lt) (fun p hp => Nat.ne_of_lt (Heap.lt_size (N p hp).1))
    ⟨⟨_, Heap.get?_push_size _ rfl, rfl, rfl⟩, hls.at fun o e => Heap.get?_push_of_some _ e⟩ (F.push _) (fun p hp => ⟨Heap.get?_push_of_some _ (N p hp).1, (N p hp).2⟩) hcell hkind J (fun i vs nx hJ p hp => by rw [List.mem_singleton.mp hp]; exact hl i vs nx hJ) h0 ?_ done
  intro C D oL a1 a2 a3 b1 b2 a4 i v vs nD mC nx h tk dr oI hi hP hJ hn hc hz F₁ N₁
  exact turn _ C D oL a1 a2 a3 b1 b2 a4 i v vs nD mC nx h tk dr oI hi (by simpa using hP) hJ hn hc hz F₁ N₁

theorem comp_tuple3 {h₀ : Heap} {target elt iter : Expr} {ifs : List Expr} {scope : Scope} {cl : List (PySem.Str × Addr)} {pos : Pos} {env : Env} {m : PySem.Str → Option Value} {news : Led} {Q : Value → Shared → Prop} {use : Option (Value → Sem Unit)} {l : Addr} {xs : Array Value} {nn : Nat}
    (hh : A.handled = none) (hm : (l, tupO xs nn) ∈ news) (hsz : xs.size ≤ sizeLine) (F : Fr h₀ env.locals s.heap m) (N : News h₀ env.locals s.heap news) (hcell : ∀ y ∈ scope.names, y.2 ≠ .cell) (hkind : scope.kind = .function)
    (J : Nat → List Value → Led → Prop) (hl : ∀ i vs nx, J i vs nx → (l, tupO xs nn) ∈ nx) (h0 : J 0 [] news)
    (turn : ∀ I C D oL, NsO oL m → env.locals ≠ C → h₀.objs.size ≤ env.locals → I ≠ env.locals → D ≠ env.locals → (∀ p ∈ news, p.1 < D) → ∀ i v vs nD mC nx h tk dr oI, i < xs.size → xs[i]? = some v → J i vs nx → (∀ p ∈ nx, p.1 ≠ I ∧ p.1 ≠ D ∧ p.1 ≠ env.locals) → oI.cls = .type "tuple_iterator" → NoCode oI → Fr h₀ C h mC → News h₀ C h ((I, oI) :: (D, listOf vs.toArray nD) :: (env.locals, oL) :: nx) →
      wpAny (model prog w) A (assign target (compEnvC scope cl C env) v) (fun _ s₂ =>
          wpAny (model prog w) A (forIn ifs true fun c r => if r = true then do let ok ← isTrue c (compEnvC scope cl C env) (eval c (compEnvC scope cl C env)); pure (ForInStep.yield ok) else pure (ForInStep.yield r)) (fun ok s₃ =>
            if ok = true then wpAny (model prog w) A (eval elt (compEnvC scope cl C env)) (fun x s₄ => CompEnd2 h₀ C s [(I, oI), (D, listOf vs.toArray nD)] [I, D, env.locals] env.locals (fun o => NsO o m) (J (i + 1)) (vs ++ [x]) s₄) (fun _ _ => False) s₃
            else CompEnd2 h₀ C s [(I, oI), (D, listOf vs.toArray nD)] [I, D, env.locals] env.locals (fun o => NsO o m) (J (i + 1)) vs s₃) (fun _ _ => False) s₂) (fun _ _ => False) { s with heap := h, toks := tk, drawn := dr })
    (done : ∀ C oL h tk dr D vs nD mC nx, NsO oL m → env.locals ≠ C → D ≠ env.locals → h₀.objs.size ≤ env.locals → Fr h₀ C h mC → News h₀ C h ((D, listOf vs.toArray nD) :: (env.locals, oL) :: nx) → (∀ p ∈ news, p.1 < D) → (∀ p ∈ nx, p.1 ≠ D ∧ p.1 ≠ env.locals) → J xs.size vs nx → compPost (model prog w) A E use Q (.ref D) C (.ok .next) { s with heap := h, toks := tk, drawn := dr }) :
    wpAny (model prog w) A (pyIter (.ref l)) (fun it s₂ => wpAny (model prog w) A (newList []) (fun acc s₃ => wpAny (model prog w) A (newFunctionEnv scope env.globals cl [] env.qual none .none (some env)) (fun cenv s₄ =>
      codeAny (model prog w) A (.compStart (.ListComp elt [⟨target, iter, ifs, 0⟩] scope pos) 0 it acc { cenv with scope := relabel scope env }) (compPost (model prog w) A E use Q acc cenv.locals) s₄) E s₃) E s₂) E s := by
  have hol := (N _ hm).1
  have hne : l ≠ s.heap.objs.size := Nat.ne_of_lt (Heap.lt_size hol)
  have hls : s.heap.IsTuple l xs := ⟨_, hol, rfl, nn, rfl⟩
  refine wpAny_pyIter_tuple hls ?_
  have W := Walks.tuple (prog := prog) (w := w) hh s.heap.objs.size l hne xs
  refine comp_after3 (s := { s with heap := s.heap.push _ }) (fx := [(l, tupO xs nn)]) (CN := "tuple_iterator") (by decide) W hsz (fun i h st => let ⟨o, ho, hc, hd⟩ := st.1; ⟨o, ho, hc, noCode_int hd⟩) (next_is_new F) (Nat.ne_of_gt F.ns.lt) (fun p hp => Nat.ne_of_lt (Heap.lt_size (N p hp).1))
    ⟨⟨_, Heap.get?_push_size _ rfl, rfl, rfl⟩, hls.at fun o e => Heap.get?_push_of_some _ e⟩ (F.push _) (fun p hp => ⟨Heap.get?_push_of_some _ (N p hp).1, (N p hp).2⟩) hcell hkind J (fun i vs nx hJ p hp => by rw [List.mem_singleton.mp hp]; exact hl i vs nx hJ) h0 ?_ done
  intro C D oL a1 a2 a3 b1 b2 a4 i v vs nD mC nx h tk dr oI hi hP hJ hn hc hz F₁ N₁
  exact turn _ C D oL a1 a2 a3 b1 b2 a4 i v vs nD mC nx h tk dr oI hi hP hJ hn hc hz F₁ N₁

theorem comp_str3 {h₀ : Heap} {target elt iter : Expr} {ifs : List Expr} {scope : Scope} {cl : List (PySem.Str × Addr)} {pos : Pos} {env : Env} {m : PySem.Str → Option Value} {news : Led} {Q : Value → Shared → Prop} {use : Option (Value → Sem Unit)} {x : PySem.Str} {tx : Tok}
    (hh : A.handled = none) (ha : x.cps.all (· < 128) = true) (hsz : x.cps.size ≤ sizeLine) (F : Fr h₀ env.locals s.heap m) (N : News h₀ env.locals s.heap news) (hcell : ∀ y ∈ scope.names, y.2 ≠ .cell) (hkind : scope.kind = .function)
    (J : Nat → List Value → Led → Prop) (h0 : J 0 [] news)
    (turn : ∀ I C D oL, NsO oL m → env.locals ≠ C → h₀.objs.size ≤ env.locals → I ≠ env.locals → D ≠ env.locals → (∀ p ∈ news, p.1 < D) → ∀ i v vs nD mC nx h tk dr oI, i < x.cps.size → SignAt x i v → J i vs nx → (∀ p ∈ nx, p.1 ≠ I ∧ p.1 ≠ D ∧ p.1 ≠ env.locals) → oI.cls = .type "str_ascii_iterator" → NoCode oI → Fr h₀ C h mC → News h₀ C h ((I, oI) :: (D, listOf vs.toArray nD) :: (env.locals, oL) :: nx) →
      wpAny (model prog w) A (assign target (compEnvC scope cl C env) v) (fun _ s₂ =>
          wpAny (model prog w) A (forIn ifs true fun c r => if r = true then do let ok ← isTrue c (compEnvC scope cl C env) (eval c (compEnvC scope cl C env)); pure (ForInStep.yield ok) else pure (ForInStep.yield r)) (fun ok s₃ =>
            if ok = true then wpAny (model prog w) A (eval elt (compEnvC scope cl C env)) (fun x s₄ => CompEnd2 h₀ C s [(I, oI), (D, listOf vs.toArray nD)] [I, D, env.locals] env.locals (fun o => NsO o m) (J (i + 1)) (vs ++ [x]) s₄) (fun _ _ => False) s₃
            else CompEnd2 h₀ C s [(I, oI), (D, listOf vs.toArray nD)] [I, D, env.locals] env.locals (fun o => NsO o m) (J (i + 1)) vs s₃) (fun _ _ => False) s₂) (fun _ _ => False) { s with heap := h, toks := tk, drawn := dr })
    (done : ∀ C oL h tk dr D vs nD mC nx, NsO oL m → env.locals ≠ C → D ≠ env.locals → h₀.objs.size ≤ env.locals → Fr h₀ C h mC → News h₀ C h ((D, listOf vs.toArray nD) :: (env.locals, oL) :: nx) → (∀ p ∈ news, p.1 < D) → (∀ p ∈ nx, p.1 ≠ D ∧ p.1 ≠ env.locals) → J x.cps.size vs nx → compPost (model prog w) A E use Q (.ref D) C (.ok .next) { s with heap := h, toks := tk, drawn := dr }) :
    wpAny (model prog w) A (pyIter (.str x tx)) (fun it s₂ => wpAny (model prog w) A (newList []) (fun acc s₃ => wpAny (model prog w) A (newFunctionEnv scope env.globals cl [] env.qual none .none (some env)) (fun cenv s₄ =>
      codeAny (model prog w) A (.compStart (.ListComp elt [⟨target, iter, ifs, 0⟩] scope pos) 0 it acc { cenv with scope := relabel scope env }) (compPost (model prog w) A E use Q acc cenv.locals) s₄) E s₃) E s₂) E s := by
  refine wpAny_pyIter_ascii ha ?_
  have W := Walks.strAscii (prog := prog) (w := w) hh s.heap.objs.size x tx
  refine comp_after3 (s := { s with heap := s.heap.push _ }) (fx := []) (CN := "str_ascii_iterator") (by decide) W hsz (fun i h st => let ⟨o, ho, hc, hd⟩ := st; ⟨o, ho, hc, noCode_int hd⟩) (next_is_new F) (Nat.ne_of_gt F.ns.lt) (fun p hp => Nat.ne_of_lt (Heap.lt_size (N p hp).1))
    ⟨_, Heap.get?_push_size _ rfl, rfl, rfl⟩ (F.push _) (fun p hp => ⟨Heap.get?_push_of_some _ (N p hp).1, (N p hp).2⟩) hcell hkind J (fun i vs nx hJ p hp => by cases hp) h0 ?_ done
  intro C D oL a1 a2 a3 b1 b2 a4 i v vs nD mC nx h tk dr oI hi hP hJ hn hc hz F₁ N₁
  exact turn _ C D oL a1 a2 a3 b1 b2 a4 i v vs nD mC nx h tk dr oI hi hP hJ hn hc hz F₁ N₁

theorem comp_list2 {h₀ : Heap} {target elt iter : Expr} {ifs : List Expr} {scope : Scope} {cl : List (PySem.Str × Addr)} {pos : Pos} {env : Env} {m : PySem.Str → Option Value} {news : Led} {Q : Value → Shared → Prop} {l : Addr} {xs : List Value} {nn : Nat}
    (hh : A.handled = none) (hm : (l, listOf xs.toArray nn) ∈ news) (hsz : xs.length ≤ sizeLine) (F : Fr h₀ env.locals s.heap m) (N : News h₀ env.locals s.heap news) (hcell : ∀ y ∈ scope.names, y.2 ≠ .cell) (hkind : scope.kind = .function)
    (J : Nat → List Value → Led → Prop) (hl : ∀ i vs nx, J i vs nx → (l, listOf xs.toArray nn) ∈ nx) (h0 : J 0 [] news)
    (turn : ∀ I C D oL, NsO oL m → env.locals ≠ C → h₀.objs.size ≤ env.locals → I ≠ env.locals → D ≠ env.locals → (∀ p ∈ news, p.1 < D) → ∀ i v vs nD mC nx h tk dr oI, i < xs.length → xs[i]? = some v → J i vs nx → (∀ p ∈ nx, p.1 ≠ I ∧ p.1 ≠ D ∧ p.1 ≠ env.locals) → oI.cls = .type "list_iterator" → NoCode oI → Fr h₀ C h mC → News h₀ C h ((I, oI) :: (D, listOf vs.toArray nD) :: (env.locals, oL) :: nx) →
      wpAny (model prog w) A (assign target (compEnvC scope cl C env) v) (fun _ s₂ =>
          wpAny (model prog w) A (forIn ifs true fun c r => if r = true then do let ok ← isTrue c (compEnvC scope cl C env) (eval c (compEnvC scope cl C env)); pure (ForInStep.yield ok) else pure (ForInStep.yield r)) (fun ok s₃ =>
            if ok = true then wpAny (model prog w) A (eval elt (compEnvC scope cl C env)) (fun x s₄ => CompEnd2 h₀ C s [(I, oI), (D, listOf vs.toArray nD)] [I, D, env.locals] env.locals (fun o => NsO o m) (J (i + 1)) (vs ++ [x]) s₄) (fun _ _ => False) s₃
            else CompEnd2 h₀ C s [(I, oI), (D, listOf vs.toArray nD)] [I, D, env.locals] env.locals (fun o => NsO o m) (J (i + 1)) vs s₃) (fun _ _ => False) s₂) (fun _ _ => False) { s with heap := h, toks := tk, drawn := dr })
    (done : ∀ h tk dr D vs nD nx, Fr h₀ env.locals h m → News h₀ env.locals h ((D, listOf vs.toArray nD) :: nx) → (∀ p ∈ news, p.1 < D) → (∀ p ∈ nx, p.1 ≠ D) → J xs.length vs nx → Q (.ref D) { s with heap := h, toks := tk, drawn := dr }) :
    wpAny (model prog w) A (pyIter (.ref l)) (fun it s₂ => wpAny (model prog w) A (newList []) (fun acc s₃ => wpAny (model prog w) A (newFunctionEnv scope env.globals cl [] env.qual none .none (some env)) (fun cenv s₄ =>
      codeAny (model prog w) A (.compStart (.ListComp elt [⟨target, iter, ifs, 0⟩] scope pos) 0 it acc { cenv with scope := relabel scope env }) (compPost (model prog w) A E none Q acc cenv.locals) s₄) E s₃) E s₂) E s :=
  comp_list3 hh hm hsz F N hcell hkind J hl h0 turn fun C oL h tk dr D vs nD mC nx a1 a2 a3 a4 a5 a6 a7 a8 a9 => post_none (h := h) a1 a2 a3 a4 a5 a6 a8 fun h'' F' N' => done h'' tk dr D vs nD nx F' N' a7 (fun p hp => (a8 p hp).1) a9
theorem Assign_any {elt iter : Expr} {ifs : List Expr} {target : Expr} {y : PySem.Str} {py : Pos} {scope : Scope} {cl : List (PySem.Str × Addr)} {pos spos : Pos} {env : Env} {Q : Flow → Shared → Prop}
    (hsw : swapsWith (.ListComp elt [⟨target, iter, ifs, 0⟩] scope pos) (some (.Name y py)) spos.line env = pure true)
    (hs : ∀ x, foldedSetIterable iter env x = pure x) (hclos : closureFor scope env = pure cl) (hkind : scope.kind = .function) (hnames : ∀ x ∈ scope.names, x.2 = .local → scope.names.lookup x.1 = some .local)
    (h : wpAny (model prog w) A (eval iter env) (fun x s₁ => wpAny (model prog w) A (pyIter x) (fun it s₂ => wpAny (model prog w) A (newList []) (fun acc s₃ => wpAny (model prog w) A (newFunctionEnv scope env.globals cl [] env.qual none .none (some env)) (fun cenv s₄ =>
      codeAny (model prog w) A (.compStart (.ListComp elt [⟨target, iter, ifs, 0⟩] scope pos) 0 it acc { cenv with scope := relabel scope env }) (compPost (model prog w) A E (some (assign (.Name y py) env)) (fun _ s' => Q .next s') acc cenv.locals) s₄) E s₃) E s₂) E s₁) E s) :
    wpAny (model prog w) A (exec (.Assign [.Name y py] (.ListComp elt [⟨target, iter, ifs, 0⟩] scope pos) spos) env) Q E s := by
  rw [exec_Assign_Name_used _ _ _ _ hsw]
  refine wpAny_bind (wpAny_standAt (wpAny_bind ?_))
  show wpAny _ A (do let _ ← comprehension (.ListComp elt [⟨target, iter, ifs, 0⟩] scope pos) scope env _ (newList []) false (eval iter env) (some (assign (.Name y py) env))) _ _ s
  exact wpAny_bind (wpAny_mono (wpAny_comprehension_free (use := some (assign (.Name y py) env)) (Q := fun _ s' => Q .next s') rfl hs hclos hkind hnames h) (fun _ s' hq => wpAny_pure (wpAny_pure hq)) fun _ _ e => e)
end
/-- a call of an own def from within a comprehension's block (frame C) of the function whose frame is L -/
theorem call_in_comp {w : World} {d u : Nat} {news : Led} {f : Addr} {vs : List Value} {kw : List (PySem.Str × Value)} {Post : Led → Value → Led → Prop}
    {p : Program} {loose : List PySem.Str} {mean : ExcName → Option Value} {mg mb : PySem.Str → Option Value} {A : Around} {cn : PySem.Str} {cs : Scope} {a : Addr} {ccd : Value} {cl : List (PySem.Str × Addr)} {outer : List Env} {A₀ : Around} {base h₀ : Heap} {L C : Addr} {oL : Obj} {m mC : PySem.Str → Option Value} {s : Shared}
    {Q E : Value → Shared → Prop} (B : Below A₀ base outer h₀) (F : Fr h₀ C s.heap mC) (X : (KK w).In h₀) (N : News h₀ C s.heap news) (T : Top p loose mean mg mb h₀) (hL : (L, oL) ∈ news) (hm : NsO oL m) (ha : h₀.objs.size ≤ L)
    (hh : A.handled = none) (hf : A.frames = some (envX cn cs L a ccd cl :: outer)) (hk : cs.kind = .function) (hd : A.depth + d < recursionLimit) (hu : A.units + u < cLine)
    (hC : ∀ nx, (∀ p ∈ news, p.1 ≠ L → p ∈ nx) → ConD w d u nx f vs kw (Post nx)) (hK : ∀ nx r n, Post nx r n → KeepU nx n)
    (ret : ∀ nx r news3 nx3 oL' oC h' tk' dr', (∀ p ∈ news, p.1 ≠ L → p ∈ nx) → Post nx r news3 → News h₀ L h' news3 → (C, oC) ∈ news3 → NsO oC mC → NsO oL' m → Fr h₀ C h' mC → News h₀ C h' ((L, oL') :: nx3) → (∀ p ∈ news3, p.1 ≠ C → p ∈ nx3) → (∀ p ∈ nx3, p ∈ news3) → (∀ p ∈ nx3, p.1 ≠ L) → Q r { s with heap := h', toks := tk', drawn := dr' }) :
    wpAny (model PG w) A (call (.ref f) vs kw) Q E s := by
  refine fr_swap F N hL hm ha fun oC nx hmC F2 N2 hnC hnL hin hout => ?_
  refine ConD.use (hC ((C, oC) :: nx) fun p hp hn => .tail _ (hin p hp hn)) B F2 X N2 T hh hf hk hd hu fun r news3 h' tk' dr' F3 N3 P3 => ?_
  have mC3 := hK _ _ _ P3 (C, oC) (.head _) hmC.usr
  refine fr_swap F3 N3 mC3 hmC F.above fun oL' nx3 hmL F4 N4 hnC4 hnL4 hin4 hout4 => ?_
  exact ret _ r news3 nx3 oL' oC h' tk' dr' (fun p hp hn => .tail _ (hin p hp hn)) P3 N3 mC3 hmC hmL F4 N4 hin4 hout4 hnL4
theorem comp_end_same2 {h₀ h : Heap} {C : Addr} {s : Shared} {I D L : Addr} {oI oD oL : Obj} {PL : Obj → Prop} {nx : Led} {J : List Value → Led → Prop} {vs : List Value} {mC : PySem.Str → Option Value} {tk : Nat} {dr : Drawn} (F : Fr h₀ C h mC) (N : News h₀ C h ((I, oI) :: (D, oD) :: (L, oL) :: nx))
    (hn : ∀ p ∈ nx, p.1 ≠ I ∧ p.1 ≠ D ∧ p.1 ≠ L) (hL : PL oL) (hJ : ∀ nx2, (∀ p ∈ nx, p ∈ nx2) → J vs nx2) : CompEnd2 h₀ C s [(I, oI), (D, oD)] [I, D, L] L PL J vs { s with heap := h, toks := tk, drawn := dr } := by
  refine ⟨_, _, _, _, _, oL, rfl, F, N, ?_, hL, .tail _ (.tail _ (.head _)), fun nx2 h2 => hJ nx2 fun p hp => h2 p (.tail _ (.tail _ (.tail _ hp))) (by simp [hn p hp])⟩
  intro p hp
  rcases List.mem_cons.mp hp with rfl | hp
  · exact .head _
  · rw [List.mem_singleton.mp hp]; exact .tail _ (.head _)
section
variable {prog : Program} {w : World} {A : Around} {E : Value → Shared → Prop} {s : Shared} {env : Env} {h₀ : Heap} {Q : Flow → Shared → Prop}
theorem for_coreN {target : Expr} {body : List Stmt} {I l : Addr} {n : Nat} {P : Nat → Value → Prop} {St : Nat → Heap → Prop} {m : Str → Option Value} {news : Led} {ol : Obj} {C : String} (hC : ["enumerate", "zip", "dict_itemiterator", "dict_reverseitemiterator", "odict_iterator", "itertools.zip_longest", "itertools.pairwise"].contains C = false)
    (W : Walks prog w A I [I, l] [I] n P St) (hcls : ∀ i h, St i h → ∃ o, h.get? I = some o ∧ o.cls = .type C ∧ NoCode o)
    (hLI : env.locals ≠ I) (hI0 : h₀.get? I = none) (hst : St 0 s.heap) (F : Fr h₀ env.locals s.heap m) (N : News h₀ env.locals s.heap news) (hnI : ∀ p ∈ news, p.1 ≠ I)
    (J : Nat → (Str → Option Value) → Led → Prop) (hl : ∀ i m nx, J i m nx → (l, ol) ∈ nx) (h0 : J 0 m news)
    (turn : ∀ i v m₁ nx h tk dr oI, i < n → P i v → J i m₁ nx → (∀ p ∈ nx, p.1 ≠ I) → oI.cls = .type C → NoCode oI → Fr h₀ env.locals h m₁ → News h₀ env.locals h ((I, oI) :: nx) →
      wpAny (model prog w) A (assign target env v) (fun _ s₂ => wpAny (model prog w) A (execs body env) (ForEndD h₀ env.locals s I oI (J (i + 1)) Q) E s₂) E { s with heap := h, toks := tk, drawn := dr })
    (done : ∀ h tk dr m' nx, Fr h₀ env.locals h m' → News h₀ env.locals h nx → J n m' nx → Q .next { s with heap := h, toks := tk, drawn := dr })
    (hE : PassesOwn (model prog w) A env E) :
    codeAny (model prog w) A (.forLoop target (.ref I) body [] env) (fun r s' => match r with | .ok f => Q f s' | .error e => cameBackBy (model prog w) A env E e s') s := by
  refine codeAny_forLoop_any
    (fun k s' => ∃ h' tk dr m' nx i, s' = { s with heap := h', toks := tk, drawn := dr } ∧ St i h' ∧ Fr h₀ env.locals h' m' ∧ News h₀ env.locals h' nx ∧ (∀ p ∈ nx, p.1 ≠ I) ∧ J i m' nx ∧ i ≤ n ∧ k = n + 1 - i) ?_ (n + 1)
    ⟨s.heap, s.toks, s.drawn, m, news, 0, rfl, hst, F, N, hnI, h0, Nat.zero_le _, rfl⟩
  rintro k s' ⟨h', tk, dr, m', nx, i, rfl, hst', F', N', hnI', hJ, hi, rfl⟩
  have next : ∀ h₁ : Heap, (∀ b o, b ∉ [I] → h'.get? b = some o → h₁.get? b = some o) → Fr h₀ env.locals h₁ m' ∧ News h₀ env.locals h₁ nx := fun h₁ hk₁ =>
    ⟨⟨F'.ns.at' fun o e => hk₁ _ o (by simpa using hLI) e, fun b o e => hk₁ b o (by
        intro hb
        rw [List.mem_singleton.mp hb, hI0] at e; cases e) (F'.keep b o e), F'.above⟩,
      fun p hp => ⟨hk₁ _ _ (by simpa using hnI' p hp) (N' p hp).1, (N' p hp).2⟩⟩
  by_cases hlt : i < n
  · refine W.item i _ _ _ hlt hst' fun v h₁ tk₁ hP hst₁ hk₁ => ?_
    refine Classical.byContradiction fun hG9 => ?_
    obtain ⟨F₁, N₁⟩ := next h₁ hk₁
    obtain ⟨oI, hoI, hcI, hnI9⟩ := hcls _ _ hst₁
    refine hG9 ?_
    clear hG9
    have N₂ : News h₀ env.locals h₁ ((I, oI) :: nx) := fun p hp => by
      rcases List.mem_cons.mp hp with rfl | hp
      · exact ⟨hoI, Ne.symm hLI, hI0⟩
      · exact N₁ p hp
    refine letGo_any hoI hcI hC ?_
    refine wpAny_passesOwn hE (wpAny_mono (turn i v m' nx h₁ tk₁ dr oI hlt hP hJ hnI' hcI hnI9 F₁ N₂) (fun _ s₂ h₂ => wpAny_passesOwn hE (wpAny_mono h₂ (fun f s₃ h₃ => ?_) fun _ _ e => e)) fun _ _ e => e)
    have fin : ForEndD h₀ env.locals s I oI (J (i + 1)) Q .next s₃ → ∃ m, m < n + 1 - i ∧ ∃ h' tk dr m' nx i, s₃ = { s with heap := h', toks := tk, drawn := dr } ∧ St i h' ∧ Fr h₀ env.locals h' m' ∧ News h₀ env.locals h' nx ∧ (∀ p ∈ nx, p.1 ≠ I) ∧ J i m' nx ∧ i ≤ n ∧ m = n + 1 - i := by
      rintro ⟨h₃', tk₃, dr₃, m₂, nx₂, rfl, F₃, N₃, hI₃, hJ₃⟩
      have hJ4 := hJ₃ (off I nx₂) fun p hp hne => mem_off.mpr ⟨hp, hne⟩
      refine ⟨n + 1 - (i + 1), by omega, h₃', tk₃, dr₃, m₂, off I nx₂, i + 1, rfl, ?_, F₃, fun p hp => N₃ p (mem_off.mp hp).1, fun p hp => (mem_off.mp hp).2, hJ4, hlt, rfl⟩
      refine W.frame _ _ _ hst₁ fun b hb o e => ?_
      rcases List.mem_cons.mp hb with rfl | hb
      · rw [hoI] at e; cases e; exact (N₃ _ hI₃).1
      · rw [List.mem_singleton.mp hb] at e ⊢
        have e1 := (N₁ _ (hl _ _ _ hJ)).1
        have e2 := (N₃ _ (mem_off.mp (hl _ _ _ hJ4)).1).1
        simp only at e1 e2
        rw [e1] at e; rw [e2, ← e]
    cases f with
    | ret v => exact h₃
    | brk => exact h₃
    | cont => exact fin h₃
    | next => exact fin h₃
  · have hin : i = n := by omega
    subst hin
    refine W.done _ _ _ hst' fun h₁ tk₁ hk₁ => wpAny_execs_nil ?_
    obtain ⟨F₁, N₁⟩ := next h₁ hk₁
    exact done h₁ tk₁ dr m' nx F₁ N₁ hJ

theorem for_listN {target : Expr} {body : List Stmt} {l : Addr} {vs : List Value} {nn : Nat} {m : Str → Option Value} {news : Led} (hh : A.handled = none) (hm : (l, listOf vs.toArray nn) ∈ news)
    (F : Fr h₀ env.locals s.heap m) (N : News h₀ env.locals s.heap news)
    (J : Nat → (Str → Option Value) → Led → Prop) (hl : ∀ i m nx, J i m nx → (l, listOf vs.toArray nn) ∈ nx) (h0 : J 0 m news)
    (turn : ∀ I i v m₁ nx h tk dr oI, (∀ p ∈ news, p.1 < I) → vs[i]? = some v → J i m₁ nx → (∀ p ∈ nx, p.1 ≠ I) → oI.cls = .type "list_iterator" → NoCode oI → Fr h₀ env.locals h m₁ → News h₀ env.locals h ((I, oI) :: nx) →
      wpAny (model prog w) A (assign target env v) (fun _ s₂ => wpAny (model prog w) A (execs body env) (ForEndD h₀ env.locals s I oI (J (i + 1)) Q) E s₂) E { s with heap := h, toks := tk, drawn := dr })
    (done : ∀ h tk dr m' nx, Fr h₀ env.locals h m' → News h₀ env.locals h nx → J vs.length m' nx → Q .next { s with heap := h, toks := tk, drawn := dr })
    (hE : PassesOwn (model prog w) A env E) :
    wpAny (model prog w) A (pyIter (.ref l)) (fun it s₂ => codeAny (model prog w) A (.forLoop target it body [] env) (fun r s' => match r with | .ok f => Q f s' | .error e => cameBackBy (model prog w) A env E e s') s₂) E s := by
  have hol := (N _ hm).1
  have hne : l ≠ s.heap.objs.size := Nat.ne_of_lt (Heap.lt_size hol)
  have hls := led_list N hm
  refine wpAny_pyIter_list hls ?_
  have W := Walks.list (prog := prog) (w := w) hh s.heap.objs.size l hne vs.toArray
  have hlen : vs.toArray.size = vs.length := by simp
  rw [hlen] at W
  have hlt : ∀ p ∈ news, p.1 < s.heap.objs.size := fun p hp => Heap.lt_size (N p hp).1
  refine for_coreN (ol := listOf vs.toArray nn) (C := "list_iterator") (by decide) (s := { s with heap := s.heap.push _ }) W (fun i h st => let ⟨o, ho, hc, hd⟩ := st.1; ⟨o, ho, hc, noCode_int hd⟩) (Nat.ne_of_lt F.ns.lt) (next_is_new F)
    ⟨⟨_, Heap.get?_push_size _ rfl, rfl, rfl⟩, hls.at fun o e => Heap.get?_push_of_some _ e⟩ (F.push _) (fun p hp => ⟨Heap.get?_push_of_some _ (N p hp).1, (N p hp).2⟩) (fun p hp => Nat.ne_of_lt (hlt p hp)) J hl h0 ?_ done hE
  intro i v m₁ nx h tk dr oI hi hP hJ hn hc hz F₁ N₁
  exact turn _ i v m₁ nx h tk dr oI hlt (by simpa using hP) hJ hn hc hz F₁ N₁


end
section
variable {M : Model} {A : Around} {E : Value → Shared → Prop} {s : Shared} {K : Frag} {x C L f : Addr} {h₀ : Heap} {m : PySem.Str → Option Value} {ox : Obj} {od : Option Obj} {i : Value}
theorem delItem_own {Q : Unit → Shared → Prop} (F : Fr h₀ L s.heap m) (X₀ : K.In h₀) (I : InstAt s.heap x ox C od) (hq : noSeq K C = true) (hs : findIn K (.ref C) "__delitem__" = some (some (.ref f))) (hf : isFn K (.ref f) = true)
    (h : wpAny M A (call (.ref f) [.ref x, i]) (fun _ s' => Q () s') E s) : wpAny M A (delItem (.ref x) i) Q E s := by
  have X := X₀.keeps F.keep
  unfold delItem sequenceKey
  refine wpAny_holding (wpAny_bind (wpAny_bind (I.type.here ?_)))
  refine wpAny_bind ((anyM_none X hq).here ?_)
  rw [if_pos (show (!false) = true from rfl)]
  exact wpAny_pure (wpAny_bind (special_fn X I hs (beq_iff_eq.mp hf) (wpAny_mono h (fun _ _ z => wpAny_pure z) fun _ _ z => z)))
end
local macro_rules | `(tactic| walk_at $s:str) => `(tactic| k_extra $s)
theorem clean_M15 : True := by
  w_top off
  k_with "exec Assign cons ListComp" => (refine stop ?_)
  k_with "delItem ref str" => ((k_here; (with_reducible show wpAny _ _ (delItem (Value.ref _) (Value.str _ _)) _ _ _); k_dflt (refine' delItem_own ?Fz35 ?Xz35 ?Iz35 ?hQz35 ?hSz35 ?hFz35 ?_; (case Fz35 => k_asm); (case Xz35 => k_asm); (case Iz35 => k_inst); (case hSz35 => k_is); (case hFz35 => k_is); (case hQz35 => k_is); k_whole)))
  k_with "compareOp NotEq ref ref" => ((k_here; (with_reducible show wpAny _ _ (compareOp CmpOp.NotEq (Value.ref _) (Value.ref _)) _ _ _); k_dflt (refine' ne_intsK ?k1z36 ?k2z36 ?k3z36 ?k4z36 ?k5z36 ?_; (case k1z36 => exact led_list (by k_asm) (by k_mem)); (case k2z36 => first | exact IntsAre.nil | assumption); (case k3z36 => exact led_list (by k_asm) (by k_mem)); (case k4z36 => first | exact IntsAre.nil | assumption); (case k5z36 => units_room); k_whole)))
  k_with "call builtin:sum" => ((k_here; (with_reducible show wpAny _ _ (call (Value.builtin "sum") [Value.ref _]) _ _ _); k_dflt (refine' sumK ?k0z37 ?k1z37 ?k2z37 ?k3z37 ?k4z37 ?_; (case k0z37 => rfl); (case k1z37 => k_asm); (case k2z37 => k_asm); (case k3z37 => exact led_list (by k_asm) (by k_mem)); (case k4z37 => assumption); k_whole); intro hS tkS tS FS NS))
  k_with "call builtin:sorted" => ((k_here; (with_reducible show wpAny _ _ (call (Value.builtin "sorted") [Value.ref _]) _ _ _); k_dflt (refine' led_sorted ?Fz38 ?Nz38 ?lz38 ?Bz38 ?h1z38 ?h2z38 ?h3z38 ?_; (case Fz38 => k_asm); (case Nz38 => k_asm); (case lz38 => k_mem); (case Bz38 => assumption); (case h1z38 => assumption); (case h2z38 => assumption); (case h3z38 => assumption)); intro DS eS hS vsS bS FS NS lS BS pS mS))
  k_with "my call" => (refine stop ?_)
  trivial
section
local macro_rules | `(tactic| walk_at "exec While Name cons nil") => `(tactic| refine stop ?_)
local macro_rules | `(tactic| k_mem) => `(tactic| first | exact List.Mem.tail _ (by assumption) | exact List.Mem.tail _ (List.Mem.tail _ (by assumption)))
theorem val2_hexd (n : Nat) : val2 4 ((hexd n).map Int.ofNat).reverse = (n : Int) := by
  induction n using Nat.strongRecOn with
  | _ n ih =>
    by_cases h : n = 0
    · subst h; rw [hexd_zero]; rfl
    · rw [hexd_pos h, List.map_append, List.reverse_append]
      have := ih (n / 16) (by omega)
      show Int.ofNat (n % 16) + val2 4 ((hexd (n / 16)).map Int.ofNat).reverse * 16 = n
      rw [this]
      show ((n % 16 : Nat) : Int) + _ = _
      omega
theorem c_bag (w : World) (news : Led) (x dx l : Addr) (t : Tok) (vs : List Value) (nn : Nat) (hs : List (Nat × Int)) (hm1 : (x, instObj 182 dx) ∈ news) (hm2 : (dx, hdrDict w t l) ∈ news) (hm3 : (l, listOf vs.toArray nn) ∈ news) (hz : vs.length ≤ 1000) (hEn : Ents news vs hs) (hsb : ∀ e ∈ hs, 0 < e.1 ∧ e.1 < 2 ^ 20 ∧ 0 < e.2 ∧ e.2 < 2 ^ 20) (hTb : Tb news) (hFew : FewSizes hs) (hne0 : hs ≠ []) :
    ConD w 40 600 news 267 [.ref x] []
   (fun r news' => ∃ rl rvs rn b, r = .ref rl ∧ (rl, listOf rvs.toArray rn) ∈ news' ∧ Bag news' rvs b ∧ IsBag hs b ∧ Tb news' ∧ ∀ p ∈ news, p.1 ≠ l → Usr p.2 → p ∈ news') := by
  unfold ConD
  intro p loose mean mg mb dp un gd cn cs ad ccd cl outer A₀ base h₀ L m s Q E B F X N T hk hd hu hret
  dsimp only [KK] at X
  refine wpAny_call ?_
  k_dflt (walk_at "my_enter")
  k_steps
  unfold Stop
  refine wpAny_For ?_
  k_with "my call" => (refine stop ?_)
  k_with "my call" => (refine' ConD.use (c_keys w _ _ _ _ _ _ _ _ (.tail _ hm1) (.tail _ hm2) (.tail _ hm3) hz ?q1) ?cB ?cF ?cX ?cN ?cT ?ch ?cf ?ck ?cd ?cu ?_; walk_at "my_use"; (case q1 => exact hEn.mono fun q a h => .tail _ h); intro r' news' h' tk' dr' F' N' P'; refine Classical.byContradiction fun hG9 => ?_; obtain ⟨kl, kvs, kn, rfl, hkl, hks, hsub, hlt⟩ := P'; refine hG9 ?_; clear hG9)
  k_steps
  unfold Stop
  rename_i tk0 bl _ hlbl _ F0 N0
  clear F0 N0
  have hsbl : ∀ p ∈ news, p ∈ news' := fun p hp => hsub p (.tail _ hp)
  refine for_listN rfl hkl F' N' (fun i m nx => m (PySem.Str.ofString "table") = some (.ref x) ∧ m (PySem.Str.ofString "bag") = some (.ref bl) ∧ ∃ vs' nn' bvs bn b0, (x, instObj 182 dx) ∈ nx ∧ (dx, hdrDict w t l) ∈ nx ∧ (l, listOf vs'.toArray nn') ∈ nx ∧ Ents nx vs' (rem hs i) ∧ (bl, listOf bvs.toArray bn) ∈ nx ∧ Bag nx bvs b0 ∧ BagTo hs i b0 ∧ Tb nx ∧ (kl, listOf kvs.toArray kn) ∈ nx ∧ ∀ p ∈ news, p.1 ≠ l → Usr p.2 → p ∈ nx) (fun i m nx hJ => ?_) ?_ ?_ ?_ ?_
  · obtain ⟨_, _, _, _, _, _, _, _, _, _, _, _, _, _, _, h9, _⟩ := hJ
    exact h9
  · refine ⟨rfl, rfl, vs, nn, [], 0, _, hsbl _ hm1, hsbl _ hm2, hsbl _ hm3, ?_, hsub _ (.head _), .nil, .zero, hTb.sub hsbl, hkl, fun p hp _ _ => hsbl p hp⟩
    rw [rem_zero]
    exact hEn.mono fun q a h => hsbl _ h
  · intro I i v m₁ nx h tk dr oI hI hv hJ hIne hcI hIz F1 N1
    refine gen_r fun R9 hR9 => ?_
    refine Classical.byContradiction fun hG9 => ?_
    obtain ⟨e1, e2, vs', nn', bvs, bn, b0, j1, j2, j3, j4, j5, j6, j7, j8, j9, j10⟩ := hJ
    refine hG9 ?_
    clear hG9
    replace F1 := know2 F1 e1 e2
    clear F' N'
    refine Classical.byContradiction fun hG9 => ?_
    obtain ⟨y, ty, rfl, hy⟩ := hks.item i v hv
    refine hG9 ?_
    clear hG9
    rw [List.getElem?_map] at hy
    refine Classical.byContradiction fun hG9 => ?_
    obtain ⟨⟨sz, ct⟩, hi, rfl⟩ := Option.map_eq_some_iff.mp hy
    refine hG9 ?_
    clear hG9
    have hb := hsb _ (List.mem_of_getElem? hi)
    simp only at hb
    have hpn : (nm sz ct).length ≤ 5592405 := by
      unfold nm; split
      · exact Nat.le_trans (prn_wL hb.2.1).1 (by decide)
      · exact Nat.le_trans (prn_wU hb.2.1).1 (by decide)
    have hvz : vs'.length ≤ 1000 := by
      rw [j4.length]
      exact Nat.le_trans (List.length_filter_le _ _) (by rw [← hEn.length]; exact hz)
    have hrb : ∀ e ∈ rem hs i, e.1 < 2 ^ 20 := fun e he => (hsb e ((List.mem_filter.mp he).1)).2.1
    have mm1 := List.Mem.tail (I, oI) j1
    have mm2 := List.Mem.tail (I, oI) j2
    have mm3 := List.Mem.tail (I, oI) j3
    k_with "my call" => (refine stop ?_)
    k_with "my call" => ((try rw [lower_nm]); refine' ConD.use (c_getall w _ _ _ _ _ _ _ _ _ _ mm1 mm2 mm3 hvz ?q1 hb.2.1 hrb) ?cB ?cF ?cX ?cN ?cT ?ch ?cf ?ck ?cd ?cu ?_; walk_at "my_use"; (case q1 => exact j4.mono fun q a h => .tail _ h); intro r' news2 h' tk' dr' F' N' P'; refine Classical.byContradiction fun hG9 => ?_; obtain ⟨gl, gvs, gn, rfl, hgl, hgs, gsub, glt⟩ := P'; refine hG9 ?_; clear hG9)
    k_steps
    unfold Stop
    refine Assign_any (by with_unfolding_all rfl) (by intro _; rfl) rfl rfl (by decide) ?_
    k_steps
    unfold Stop
    clear FG F1
    have hcnt : ∀ e ∈ (rem hs i).filter (fun e => e.1 = sz), 0 < e.2 ∧ e.2 < 2 ^ 20 := fun e he => (hsb e (List.mem_filter.mp (List.mem_filter.mp he).1).1).2.2
    generalize hcl : (rem hs i).filter (fun e => e.1 = sz) = cl9 at hgs hcnt
    have hgz : gvs.length ≤ 1000 := by
      rw [hgs.length, List.length_map, ← hcl]
      exact Nat.le_trans (List.length_filter_le _ _) (Nat.le_trans (List.length_filter_le _ _) (by rw [← hEn.length]; exact hz))
    refine comp_list3 rfl hgl (by rw [sizeLine_eq]; omega) F' N' (by decide) rfl (fun i ks nx => IntsAre ks ((cl9.take i).map (·.2)) ∧ Tb nx ∧ KeepU news2 nx) (fun i ks nx hJ => hJ.2.2.cls hgl (by simp)) ⟨.nil, j8.sub fun p hp => gsub p (.tail _ hp), KeepU.refl⟩ ?_ ?_
    · intro I2 C D oL hoL hLC hLa hIL hDL hltD j v2 ks nD mC nx2 h tk dr oI2 hj hP hJ2 hn hc hzc F₁ N₁
      refine gen_c fun R8 hR8 => ?_
      refine Classical.byContradiction fun hG9 => ?_
      obtain ⟨hks2, hTb2, hsub2⟩ := hJ2
      obtain ⟨y2, ty2, rfl, hy2⟩ := hgs.item j v2 hP
      refine hG9 ?_
      clear hG9
      rw [List.getElem?_map] at hy2
      refine Classical.byContradiction fun hG9 => ?_
      obtain ⟨⟨sz2, ct2⟩, hi2, rfl⟩ := Option.map_eq_some_iff.mp hy2
      refine hG9 ?_
      clear hG9
      have hb2 := hcnt _ (List.mem_of_getElem? hi2)
      k_with "my call" => (refine stop ?_)
      k_with "my call" => (refine stop ?_)
      k_steps
      unfold Stop
      rename_i hX tkX FX NX cX
      refine call_in_comp BE FX XE NX TE (.tail _ (.tail _ (.head _))) hoL hLa rfl rfl rfl ?cd ?cu (fun nx3 hin => c_ifs w nx3 ct2 _ (by omega) hb2.2 (hTb2.sub fun p hp => hin p (.tail _ (.tail _ (.tail _ hp))) (hn p hp).2.2)) (fun nx r n P => P.2.2) ?_
      case cd => (try simp only [depth_under_make, depth_under_kw, depth_in1, depth_deeper, depth_caller]); (try dsimp only [ktrTop]); omega
      case cu => (try simp only [units_in1, units_deeper, Around.mark_units, units_caller]); (try dsimp only [ktrTop]); omega
      intro nxA r3 newsA nxB oL' oC hB tkB drB hinA PA NA mCA hoC hoL' FB NB hinB houtB hnB
      refine Classical.byContradiction fun hG9 => ?_
      obtain ⟨⟨tr, rfl⟩, hTb3, hK3⟩ := PA
      refine hG9 ?_
      clear hG9
      refine hR8 _ _ ?_
      refine ⟨hB, tkB, drB, _, _, oL', rfl, FB, NB, ?_, hoL', .head _, fun nx9 h9 => ?_⟩
      · have hkp : ∀ p ∈ ((I2, oI2) :: (D, W.listOf ks.toArray nD) :: [] : Led), p ∈ newsA := by
          intro p hp
          rcases List.mem_cons.mp hp with rfl | hp
          · exact hK3.cls (hinA _ (.head _) hIL) (by rw [hc]; simp)
          · rw [List.mem_singleton.mp hp]
            exact hK3.cls (hinA _ (.tail _ (.head _)) hDL) (by simp)
        intro p hp
        refine .tail _ (hinB p (hkp p hp) ?_)
        rcases List.mem_cons.mp hp with rfl | hp
        · exact (N₁ _ (.head _)).2.1
        · rw [List.mem_singleton.mp hp]; exact (N₁ _ (.tail _ (.head _))).2.1
      · have hIA := hK3.cls (hinA _ (.head _) hIL) (by rw [hc]; simp)
        have hDA : (D, W.listOf ks.toArray nD) ∈ newsA := hK3.cls (hinA _ (.tail _ (.head _)) hDL) (by simp)
        refine ⟨?_, Tb.hide NA hTb3 [C, I2, D] ?_ fun p hp hne => ?_, fun p hp hu => ?_⟩
        · rw [List.take_add_one, hi2, List.map_append]
          exact hks2.append (.cons _ _ .nil)
        · intro a ha
          rcases List.mem_cons.mp ha with rfl | ha
          · exact .inr ⟨_, mCA, hoC.usr, hoC.noCode⟩
          · rcases List.mem_cons.mp ha with rfl | ha
            · exact .inr ⟨_, hIA, .inl (by rw [hc]; simp), hzc⟩
            · rw [List.mem_singleton.mp ha]
              exact .inr ⟨_, hDA, .inl (by simp), noCode_seq rfl⟩
        · simp only [List.mem_cons, List.not_mem_nil, or_false, not_or] at hne
          exact h9 p (.tail _ (hinB p hp hne.1)) (not_hide ⟨hne.2.1, hne.2.2, (NA p hp).2.1⟩)
        · have hp2 := hsub2 p hp hu
          have hn2 := hn p hp2
          have hp3 := hK3 p (hinA p (.tail _ (.tail _ (.tail _ hp2))) hn2.2.2) hu
          exact h9 p (.tail _ (hinB p hp3 (N₁ p (.tail _ (.tail _ (.tail _ hp2)))).2.1)) (not_hide hn2)
    · intro C oL h tk dr D ks nD mC nx2 hoL hLC hDL hLa F₁ N₁ hltD hn hJ2
      refine post_store hoL hLC hDL hLa F₁ N₁ hn rfl rfl fun h'' tk2 F2 N2 => ?_
      obtain ⟨hks2, hTb2, hsub2⟩ := hJ2
      have hgl9 : gvs.length = cl9.length := by rw [hgs.length, List.length_map]
      rw [hgl9, List.take_length] at hks2
      have gsb : ∀ p ∈ nx, Usr p.2 → p ∈ nx2 := fun p hp hu => hsub2 p (gsub p (.tail _ hp)) hu
      have q1 : (x, instObj 182 dx) ∈ ((D, W.listOf ks.toArray nD) :: nx2) := .tail _ (gsb _ j1 (.inl (by simp)))
      have q2 : (dx, hdrDict w t l) ∈ ((D, W.listOf ks.toArray nD) :: nx2) := .tail _ (gsb _ j2 (.inr (.inr (.inl ⟨_, _, rfl⟩))))
      have q3 : (l, W.listOf vs'.toArray nn') ∈ ((D, W.listOf ks.toArray nD) :: nx2) := .tail _ (gsb _ j3 (.inl (by simp)))
      have q4 : Ents ((D, W.listOf ks.toArray nD) :: nx2) vs' (rem hs i) := j4.mono fun q a h => .tail _ (gsb _ h (.inl (by simp)))
      have hlD : D ≠ l := fun e => (hn _ (gsb _ j3 (.inl (by simp)))).1 e.symm
      k_with "my call" => (refine stop ?_)
      k_with "my call" => ((try rw [upper_nm]); refine' ConD.use (c_del w _ _ _ _ _ _ _ _ _ _ q1 q2 q3 hvz q4 hb.2.1 hrb) ?cB ?cF ?cX ?cN ?cT ?ch ?cf ?ck ?cd ?cu ?_; walk_at "my_use"; intro r' news4 h' tk' dr' F' N' P'; refine Classical.byContradiction fun hG9 => ?_; obtain ⟨rfl, ⟨vs4, nn4, p1, p2⟩, p3⟩ := P'; refine hG9 ?_; clear hG9; have p4 := p3 _ (List.Mem.head _) hlD)
      clear F₁ N₁
      have oldnew : (sz ∈ (hs.take i).map (·.1) ∧ ks = []) ∨ (sz ∉ (hs.take i).map (·.1) ∧ cl9 = hs.filter fun e => e.1 = sz) := by
        by_cases ho : sz ∈ (hs.take i).map (·.1)
        · rw [rem_old ho] at hcl
          subst hcl
          exact .inl ⟨ho, hks2.nil_inv⟩
        · rw [rem_new ho] at hcl
          exact .inr ⟨ho, hcl.symm⟩
      have gsc : ∀ p ∈ ((I, oI) :: nx : Led), Usr p.2 → p ∈ nx2 := fun p hp hu => hsub2 p (gsub p hp) hu
      have hIl : I ≠ l := fun e => hIne _ j3 e.symm
      have hIu : Usr oI := .inl (by rw [hcI]; simp)
      have hql : ∀ q a, (q, tupO a) ∈ nx → q ≠ l := fun q a h => ne_cls N1 (.tail _ h) mm3 tup_list
      have hxl : x ≠ l := ne_cls N1 mm1 mm3 (by simp)
      have hdl : dx ≠ l := ne_cls N1 mm2 mm3 (by simp [hdrDict, dictOf])
      have hTbd : ∀ news4 : Led, (∀ p ∈ ((D, W.listOf ks.toArray nD) :: nx2 : Led), p.1 ≠ l → p ∈ news4) → Tb news4 := fun news4 p3 =>
        Tb.hide N2 (hTb2.sub fun p hp => .tail _ hp) [l] (fun a ha => by rw [List.mem_singleton.mp ha]; exact .inr ⟨_, q3, .inl (by simp), noCode_seq rfl⟩) fun p hp hne => p3 p hp (by simpa using hne)
      have fin : ∀ (h9 : Heap) (news9 : Led) (bvs' : List Value) (bn' : Nat) (b1 : List (Nat × Int)) (vs4 : List Value) (nn4 : Nat), News gE LE h9 news9 → (I, oI) ∈ news9 → Tb news9 → (∀ p ∈ nx, Usr p.2 → p.1 ≠ l → p.1 ≠ bl → p ∈ news9) → (l, W.listOf vs4.toArray nn4) ∈ news9 → Ents news9 vs4 ((rem hs i).filter (fun e => e.1 ≠ sz)) → (bl, W.listOf bvs'.toArray bn') ∈ news9 → Bag news9 bvs' b1 → BagTo hs (i + 1) b1 →
          ∀ nx9, (∀ p ∈ news9, p.1 ≠ I → p ∈ nx9) → ∃ vs' nn' bvs bn b0, (x, instObj 182 dx) ∈ nx9 ∧ (dx, hdrDict w t l) ∈ nx9 ∧ (l, W.listOf vs'.toArray nn') ∈ nx9 ∧ Ents nx9 vs' (rem hs (i + 1)) ∧ (bl, W.listOf bvs.toArray bn) ∈ nx9 ∧ Bag nx9 bvs b0 ∧ BagTo hs (i + 1) b0 ∧ Tb nx9 ∧ (kl, W.listOf kvs.toArray kn) ∈ nx9 ∧ ∀ p ∈ news, p.1 ≠ l → Usr p.2 → p ∈ nx9 := by
        intro h9 news9 bvs' bn' b1 vs4 nn4 NX hI9 hT9 hk9 p1 p2 pb pB pT nx9 h9
        have K : ∀ p ∈ nx, Usr p.2 → p.1 ≠ l → p.1 ≠ bl → p ∈ nx9 := fun p hp hu hl hb => h9 p (hk9 p hp hu hl hb) (hIne p hp)
        have hqI : ∀ q a, (q, tupO a) ∈ news9 → q ≠ I := fun q a h => ne_cls NX h hI9 (by rw [hcI]; simp)
        rw [rem_del hi] at p2
        refine ⟨vs4, nn4, bvs', bn', b1, K _ j1 (.inl (by simp)) hxl ?_, K _ j2 (.inr (.inr (.inl ⟨_, _, rfl⟩))) hdl ?_, h9 _ p1 (Ne.symm hIl), p2.mono fun q a h => h9 _ h (hqI q a h), h9 _ pb (hIne (bl, W.listOf bvs.toArray bn) j5), pB.mono fun q a h => h9 _ h (hqI q a h), pT, ?_, K _ j9 (.inl (by simp)) (Nat.ne_of_gt (hlt _ (.tail _ hm3))) (Nat.ne_of_gt (hlt _ (.head _))), fun p hp hl hu => K p (j10 p hp hl hu) hu hl (Nat.ne_of_lt (hlbl p hp))⟩
        · exact Nat.ne_of_lt (hlbl _ hm1)
        · exact Nat.ne_of_lt (hlbl _ hm2)
        · refine Tb.hide NX hT9 [I] (fun a ha => ?_) fun p hp hne => h9 p hp (by simpa using hne)
          rw [List.mem_singleton.mp ha]
          exact .inr ⟨_, hI9, hIu, hIz⟩
      rcases oldnew with ⟨ho, rfl⟩ | ⟨ho, hcl9⟩
      · k_steps
        rename_i FX NX l9
        refine hR9 _ _ ?_
        refine ⟨_, _, _, _, _, rfl, FX, NX, .tail _ (p3 _ (.tail _ (gsc _ (.head _) hIu)) hIl), fun nx9 h9 => ⟨rfl, rfl, ?_⟩⟩
        refine fin _ _ bvs bn b0 vs4 nn4 NX (.tail _ (p3 _ (.tail _ (gsc _ (.head _) hIu)) hIl)) ((hTbd _ p3).sub fun p hp => .tail _ hp) (fun p hp hu hl _ => .tail _ (p3 p (.tail _ (gsc p (.tail _ hp) hu)) hl)) (.tail _ p1) (p2.mono fun q a h => .tail _ h) (.tail _ (p3 _ (.tail _ (gsc _ (.tail _ j5) (.inl (by simp)))) (Nat.ne_of_gt (hlbl _ hm3)))) (j6.mono fun q a h => .tail _ (p3 _ (.tail _ (gsc _ (.tail _ h) (.inl (by simp)))) (hql q a h))) (j7.old hi ho) nx9 h9
      · have hcne : cl9.map (·.2) ≠ [] := by rw [hcl9]; exact filter_new_ne hi
        have htot : (cl9.map (·.2)).sum = tot hs sz := by rw [hcl9]; rfl
        obtain ⟨n0, nr, hn0⟩ := List.exists_cons_of_ne_nil hcne
        rw [hn0] at hks2 htot
        have hkz : ks.length ≤ 1000 := by
          rw [hks2.length, ← hn0, List.length_map, ← hgl9]; exact hgz
        k_steps
        · rename_i hdec
          simp at hdec
        unfold Stop
        rename_i lE hE9 FE9 NE9 l19 hdec
        refine Assign_any (by with_unfolding_all rfl) (by intro _; rfl) rfl rfl (by decide) ?_
        k_steps
        try rw [upper_nm]
        unfold Stop
        have hwc : ∀ c ∈ (wU sz).cps.toList, c < 128 := fun c hc => by
          have := (prn_wU hb.2.1).2 c hc; omega
        have hws : (wU sz).cps.size = (hexd sz).length := by simp [wU]
        have hhl := hexd_len 5 sz (by omega)
        refine comp_str3 rfl (by rw [Array.all_eq_true_iff_forall_mem]; intro c hc; simpa using hwc c (by simpa using hc)) (by rw [hws, sizeLine_eq]; omega) FE9 NE9 (by decide) rfl (fun i ks nx => IntsAre ks (((hexd sz).take i).map Int.ofNat) ∧ ∀ p ∈ ((lE, W.listOf ([] : List Value).toArray 0) :: news4 : Led), p ∈ nx) ⟨.nil, fun p hp => hp⟩ ?_ ?_
        · intro I2 C D2 oL hoL hLC hLa hIL hDL hltD2 j v2 ks2 nD2 mC nx3 h tk dr oI2 hj hP hJ2 hn3 hc hzc F₁ N₁
          refine gen_c fun R8 hR8 => ?_
          refine Classical.byContradiction fun hG9 => ?_
          obtain ⟨c2, u2, hc2, rfl⟩ := hP
          refine hG9 ?_
          clear hG9
          obtain ⟨d2, hd2, rfl⟩ : ∃ d, (hexd sz)[j]? = some d ∧ c2 = 65 + d := by
            have : ((hexd sz).map (65 + ·)).toArray[j]? = some c2 := hc2
            simp only [List.getElem?_toArray, List.getElem?_map] at this
            obtain ⟨d, e1, e2⟩ := Option.map_eq_some_iff.mp this
            exact ⟨d, e1, e2.symm⟩
          have hd16 := hexd_lt sz d2 (List.mem_of_getElem? hd2)
          k_steps
          rename Fr _ C _ _ => FQ
          rename News _ C _ _ => NQ
          refine hR8 _ _ ?_
          refine comp_end_same2 FQ NQ hn3 hoL fun nx2 h2 => ⟨?_, fun p hp => h2 p (hJ2.2 p hp)⟩
          have e65 : ((65 + d2 : Nat) : Int) - 65 = Int.ofNat d2 := by show _ = (d2 : Int); omega
          rw [List.take_add_one, hd2, List.map_append, e65]
          exact hJ2.1.append (.cons _ _ .nil)
        · intro C oL h tk dr D2 ks2 nD2 mC nx3 hoL hLC hDL hLa F₁ N₁ hltD2 hn3 hJ2
          refine post_store hoL hLC hDL hLa F₁ N₁ hn3 rfl rfl fun h'' tk2 F2 N2 => ?_
          obtain ⟨hks3, hsub3⟩ := hJ2
          rw [hws, List.take_length] at hks3
          have K3 : ∀ p ∈ nx, Usr p.2 → p.1 ≠ l → p ∈ nx3 := fun p hp hu hl => hsub3 p (.tail _ (p3 p (.tail _ (gsc p (.tail _ hp) hu)) hl))
          have r1 : (bl, W.listOf bvs.toArray bn) ∈ ((D2, W.listOf ks2.toArray nD2) :: nx3) := .tail _ (K3 _ j5 (.inl (by simp)) (Nat.ne_of_gt (hlbl _ hm3)))
          have r2 : (D, W.listOf ks.toArray nD) ∈ ((D2, W.listOf ks2.toArray nD2) :: nx3) := .tail _ (hsub3 _ (.tail _ p4))
          have r3 : Tb ((D2, W.listOf ks2.toArray nD2) :: nx3) := (hTbd _ p3).sub fun p hp => .tail _ (hsub3 p (.tail _ hp))
          have hz2 : ks2.length ≤ 10 := by rw [hks3.length, List.length_map]; omega
          have r4 : ((hexd sz).map Int.ofNat).length ≤ 10 := by rw [List.length_map]; omega
          k_with "my call" => (refine stop ?_)
          have r5 : ∀ d ∈ ((hexd sz).map Int.ofNat).reverse, 0 ≤ d ∧ d < 2 ^ (4 : Int).toNat := fun d hd => by
            obtain ⟨e, he, rfl⟩ := List.mem_map.mp (List.mem_reverse.mp hd)
            have := hexd_lt sz e he
            constructor
            · exact Int.natCast_nonneg e
            · show (e : Int) < 16; omega
          have r6 : ((hexd sz).map Int.ofNat).reverse.length ≤ 10 := by rw [List.length_reverse]; exact r4
          have hval := val2_hexd sz
          have hbz : bvs.length ≤ 1000 := by
            rw [j6.length]
            have := j7.few hFew
            omega
          k_with "my call" => (refine' Con.use (c_d2i w _ _ _ _ _ _ _ ?q1 ?q2 ?q3 ?q4 ?q5 ?q6 ?q7) ?cB ?cF ?cX ?cN ?cT ?ch ?cf ?ck ?cd ?cu ?_; walk_at "my_use"; (case q6 => exact List.Mem.head _); (case q3 => assumption); (case q1 => decide); (case q2 => decide); (case q4 => exact r6); (case q5 => exact r5); (case q7 => exact r3.sub fun p hp => .tail _ hp); intro r' news5 h' tk' F' N' P'; refine Classical.byContradiction fun hG9 => ?_; obtain ⟨⟨t', hr'⟩, hTb5, hK5⟩ := P'; refine hG9 ?_; clear hG9; rw [hval] at hr'; subst hr'; have p8 := hK5.cls (.tail _ r1) (by simp); have p9 := hK5.cls (.tail _ r2) (by simp))
          k_steps
          rename_i Dq hq Fq Nq lq
          rw [htot] at bA Nq
          have K5 : ∀ p ∈ nx, Usr p.2 → p.1 ≠ l → p ∈ news5 := fun p hp hu hl => hK5 p (.tail _ (.tail _ (K3 p hp hu hl))) hu
          have hI5 : (I, oI) ∈ news5 := hK5 _ (.tail _ (.tail _ (hsub3 _ (.tail _ (p3 _ (.tail _ (gsc _ (.head _) hIu)) hIl))))) hIu
          have hIb : I ≠ bl := fun e => hIne (bl, W.listOf bvs.toArray bn) j5 e.symm
          have hlb : l ≠ bl := Nat.ne_of_lt (hlbl _ hm3)
          have K4 : ∀ p ∈ news4, Usr p.2 → p ∈ news5 := fun p hp hu => hK5 p (.tail _ (.tail _ (hsub3 p (.tail _ hp)))) hu
          have hqb : ∀ q a, (q, tupO a) ∈ news5 → q ≠ bl := fun q a h => ne_cls Nq (.tail _ h) (.tail _ p8) tup_list
          refine hR9 _ _ ?_
          refine ⟨_, _, _, _, _, rfl, FA, NA, .tail _ (bA _ (.tail _ hI5) hIb), fun nx9 h9 => ⟨rfl, rfl, ?_⟩⟩
          refine fin _ _ (bvs ++ [.ref Dq]) (bn + 1) (b0 ++ [(sz, tot hs sz)]) vs4 nn4 NA (.tail _ (bA _ (.tail _ hI5) hIb)) ?_ (fun p hp hu hl hb => .tail _ (bA p (.tail _ (K5 p hp hu hl)) hb)) (.tail _ (bA _ (.tail _ (K4 _ p1 (.inl (by simp)))) hlb)) (p2.mono fun q a h => .tail _ (bA _ (.tail _ (K4 _ h (.inl (by simp)))) (hqb q a (K4 _ h (.inl (by simp)))))) (.head _) ?_ (j7.new hi ho) nx9 h9
          · refine Tb.hide Nq (hTb5.sub fun p hp => .tail _ hp) [bl] (fun a ha => ?_) fun p hp hne => .tail _ (bA p hp (by simpa using hne))
            rw [List.mem_singleton.mp ha]
            exact .inr ⟨_, .tail _ p8, .inl (by simp), noCode_seq rfl⟩
          · refine Bag.snoc (.tail _ (bA _ (.head _) (Nat.ne_of_gt (lq _ p8)))) (j6.mono fun q a h => .tail _ (bA _ (.tail _ (K5 _ h (.inl (by simp)) (hql q a h))) (hqb q a (K5 _ h (.inl (by simp)) (hql q a h)))))
  · intro h tk dr m' nx F1 N1 hJ
    refine Classical.byContradiction fun hG9 => ?_
    obtain ⟨e1, e2, vs', nn', bvs, bn, b0, j1, j2, j3, j4, j5, j6, j7, j8, j9, j10⟩ := hJ
    refine hG9 ?_
    clear hG9
    replace F1 := know2 F1 e1 e2
    clear F' N'
    have hkl9 : kvs.length = hs.length := by rw [hks.length, List.length_map]
    rw [hkl9] at j7
    have hnd := j7.1
    have h64 := j7.few hFew
    have h1 := j7.some hne0
    k_steps
    rename_i kF kN _ _
    exact hret _ _ _ _ _ kF kN ⟨DS, vsS, eS, bS, rfl, .head _, BS.mono fun q a h => .tail _ h, j7.done pS mS, j8.sub fun p hp => .tail _ hp, fun p hp hl hu => .tail _ (j10 p hp hl hu)⟩
  · passes_own
end
/-- the ways' headers, as lists of pairs -/
def dgl (k : Nat) : Nat → Nat → Int → List (Nat × Int)
  | 0, _, _ => []
  | f + 1, s, c => (if 0 < c % (k : Int) then [(s, c % (k : Int))] else []) ++ dgl k f (k * s) (c / (k : Int))
def fEnt (k : Nat) (e : Nat × Int) : List (Nat × Int) := if e.1 % k = 0 then [(e.1 / k, (k : Int) * e.2)] else dgl k 17 e.1 e.2
def fhs (k : Nat) (b : List (Nat × Int)) : List (Nat × Int) := b.flatMap (fEnt k)
def Wok (e : Nat × Int) : Prop := 0 < e.1 ∧ 0 < e.2 ∧ (e.1 : Int) * e.2 ≤ 100000
theorem Wok.lt {e : Nat × Int} (h : Wok e) : e.1 ≤ 100000 ∧ e.2 ≤ 100000 := by
  obtain ⟨h1, h2, h3⟩ := h
  have a : (e.1 : Int) * 1 ≤ (e.1 : Int) * e.2 := Int.mul_le_mul_of_nonneg_left (by omega) (by omega)
  have b : 1 * e.2 ≤ (e.1 : Int) * e.2 := Int.mul_le_mul_of_nonneg_right (by omega) (by omega)
  omega
theorem dgl_zero (k : Nat) : ∀ (f s : Nat), dgl k f s 0 = []
  | 0, _ => rfl
  | f + 1, s => by
    have := dgl_zero k f (k * s)
    simp [dgl, this]
theorem dgl_len (k : Nat) : ∀ (f s : Nat) (c : Int), (dgl k f s c).length ≤ f
  | 0, _, _ => Nat.le_refl _
  | f + 1, s, c => by
    have := dgl_len k f (k * s) (c / (k : Int))
    rw [dgl, List.length_append]
    split
    · rw [List.length_singleton]; omega
    · rw [List.length_nil]; omega
theorem div_step {k : Nat} (hk : 2 ≤ k) {c : Int} (hc : 0 ≤ c) {f : Nat} (h : c < 2 ^ (f + 1)) : 0 ≤ c / (k : Int) ∧ c / (k : Int) < 2 ^ f := by
  refine ⟨Int.ediv_nonneg hc (by omega), ?_⟩
  apply Int.ediv_lt_of_lt_mul (by omega)
  have : (2 : Int) ^ (f + 1) = 2 ^ f * 2 := Int.pow_succ ..
  have h1 : (2 : Int) ^ f * 2 ≤ 2 ^ f * k := Int.mul_le_mul_of_nonneg_left (by omega) (Int.pow_nonneg (by decide))
  omega
theorem dgl_short {k : Nat} (hk : 2 ≤ k) : ∀ (f g s : Nat) (c : Int), 0 ≤ c → c < 2 ^ g → (dgl k f s c).length ≤ g
  | 0, _, _, _, _, _ => Nat.zero_le _
  | f + 1, 0, s, c, h0, h1 => by
    have : c = 0 := by simp at h1; omega
    subst this
    rw [dgl_zero]; exact Nat.le_refl _
  | f + 1, g + 1, s, c, h0, h1 => by
    have h2 := div_step hk h0 h1
    have := dgl_short hk f g (k * s) _ h2.1 h2.2
    rw [dgl, List.length_append]
    split
    · rw [List.length_singleton]; omega
    · rw [List.length_nil]; omega
theorem mul_div_le {k : Nat} (hk : 2 ≤ k) {s : Nat} {c : Int} (hc : 0 ≤ c) : ((k * s : Nat) : Int) * (c / (k : Int)) ≤ (s : Int) * c := by
  have h1 : (k : Int) * (c / (k : Int)) ≤ c := Int.mul_ediv_self_le (by omega)
  have h2 : (s : Int) * ((k : Int) * (c / (k : Int))) ≤ (s : Int) * c := Int.mul_le_mul_of_nonneg_left h1 (by omega)
  have e : ((k * s : Nat) : Int) * (c / (k : Int)) = (s : Int) * ((k : Int) * (c / (k : Int))) := by
    rw [Int.natCast_mul, Int.mul_comm (k : Int) (s : Int), Int.mul_assoc]
  rw [e]; exact h2
theorem dgl_ok {k : Nat} (hk : 2 ≤ k) : ∀ (f s : Nat) (c : Int), 0 < s → 0 ≤ c → (s : Int) * c ≤ 100000 → ∀ e ∈ dgl k f s c, Wok e
  | 0, _, _, _, _, _, e, he => by cases he
  | f + 1, s, c, hs, hc, hw, e, he => by
    rw [dgl, List.mem_append] at he
    rcases he with he | he
    · split at he
      · rename_i h
        rw [List.mem_singleton.mp he]
        refine ⟨hs, h, Int.le_trans (Int.mul_le_mul_of_nonneg_left ?_ (by omega)) hw⟩
        have := Int.mul_ediv_add_emod c (k : Int)
        have h3 : 0 ≤ (k : Int) * (c / (k : Int)) := Int.mul_nonneg (by omega) (Int.ediv_nonneg hc (by omega))
        omega
      · cases he
    · exact dgl_ok hk f (k * s) (c / (k : Int)) (Nat.mul_pos (by omega) hs) (Int.ediv_nonneg hc (by omega)) (Int.le_trans (mul_div_le hk hc) hw) e he
theorem fEnt_ok {k : Nat} (hk : 2 ≤ k) {e : Nat × Int} (h : Wok e) : ∀ d ∈ fEnt k e, Wok d := by
  intro d hd
  unfold fEnt at hd
  split at hd
  · rename_i hz
    rw [List.mem_singleton.mp hd]
    have h1 := h.1
    obtain ⟨q, hq⟩ := Nat.dvd_of_mod_eq_zero hz
    have e1 : e.1 / k = q := by rw [hq]; exact Nat.mul_div_cancel_left q (by omega)
    have hq0 : 0 < q := by
      rcases Nat.eq_zero_or_pos q with r | r
      · rw [r] at hq; omega
      · exact r
    refine ⟨by show 0 < e.1 / k; omega, Int.mul_pos (by omega) h.2.1, ?_⟩
    have h3 := h.2.2
    have e2 : ((e.1 / k : Nat) : Int) * ((k : Int) * e.2) = (e.1 : Int) * e.2 := by
      rw [e1, ← Int.mul_assoc]
      congr 1
      rw [hq, Int.natCast_mul, Int.mul_comm]
    show ((e.1 / k : Nat) : Int) * ((k : Int) * e.2) ≤ 100000
    rw [e2]; exact h3
  · exact dgl_ok hk 17 e.1 e.2 h.1 (by have := h.2.1; omega) h.2.2 d hd
theorem fEnt_len {k : Nat} {e : Nat × Int} : (fEnt k e).length ≤ 17 := by
  unfold fEnt
  split
  · simp
  · exact dgl_len k 17 _ _
theorem fhs_ok {k : Nat} (hk : 2 ≤ k) {b : List (Nat × Int)} (h : ∀ e ∈ b, Wok e) : ∀ d ∈ fhs k b, Wok d := by
  intro d hd
  obtain ⟨e, he, hd⟩ := List.mem_flatMap.mp hd
  exact fEnt_ok hk (h e he) d hd
theorem fhs_snoc {k : Nat} {b : List (Nat × Int)} {i : Nat} {e : Nat × Int} (h : b[i]? = some e) : fhs k (b.take (i + 1)) = fhs k (b.take i) ++ fEnt k e := by
  unfold fhs
  rw [List.take_add_one, h, List.flatMap_append]
  simp
theorem fhs_len {k : Nat} : ∀ b : List (Nat × Int), (fhs k b).length ≤ 17 * b.length
  | [] => Nat.le_refl _
  | e :: b => by
    have h1 := fhs_len (k := k) b
    have h2 := fEnt_len (k := k) (e := e)
    unfold fhs at h1 ⊢
    rw [List.flatMap_cons, List.length_append, List.length_cons]
    omega
theorem clean_M16 : True := by
  w_top off
  k_with "call ref" => ((k_here; k_dflt (k_extra "my call")))
  k_with "exec While Compare cons nil" => (refine stop ?_)
  k_with "my call" => (refine stop ?_)
  trivial
section
local macro_rules | `(tactic| walk_at "exec While Name cons nil") => `(tactic| refine stop ?_)
local macro_rules | `(tactic| k_mem) => `(tactic| first | exact List.Mem.tail _ (by assumption) | exact List.Mem.tail _ (List.Mem.tail _ (by assumption)))
theorem c_forth (w : World) (news : Led) (bl : Addr) (bvs : List Value) (bn : Nat) (b : List (Nat × Int)) (k : Nat) (tk0 : Tok) (hm : (bl, listOf bvs.toArray bn) ∈ news) (hB : Bag news bvs b) (hz : b.length ≤ 50) (hok : ∀ e ∈ b, Wok e) (hk2 : 2 ≤ k) (hk17 : k ≤ 17) (hTb : Tb news) (hFew : FewSizes (fhs k b)) (hne0 : fhs k b ≠ []) :
    ConD w 60 1000 news 274 [.ref bl, .int k tk0] []
   (fun r news' => ∃ rl rvs rn b', r = .ref rl ∧ (rl, listOf rvs.toArray rn) ∈ news' ∧ Bag news' rvs b' ∧ IsBag (fhs k b) b' ∧ Tb news' ∧ KeepU news news') := by
  unfold ConD
  intro p loose mean mg mb dp un gd cn cs ad ccd cl outer A₀ base h₀ L m s Q E B F X N T hk hd hu hret
  dsimp only [KK] at X
  refine wpAny_call ?_
  k_dflt (walk_at "my_enter")
  k_with "my call" => (refine stop ?_)
  k_with "my call" => (refine' Con.use (c_new w _) ?cB ?cF ?cX ?cN ?cT ?ch ?cf ?ck ?cd ?cu ?_; walk_at "my_use"; intro r' news' h' tk' F' N' P'; refine Classical.byContradiction fun hG9 => ?_; obtain ⟨x, dx, l, t, rfl, rfl, hl1, hl2, hl3⟩ := P'; refine hG9 ?_; clear hG9)
  k_steps
  unfold Stop
  rename_i hF FF NF
  refine wpAny_For ?_
  k_steps
  unfold Stop
  refine for_listN rfl (.tail _ (.tail _ (.tail _ hm))) FF NF (fun i m nx => m (PySem.Str.ofString "table") = some (.ref x) ∧ m (PySem.Str.ofString "k") = some (.int k tk0) ∧ ∃ lvs ln, (x, instObj 182 dx) ∈ nx ∧ (dx, hdrDict w t l) ∈ nx ∧ (l, listOf lvs.toArray ln) ∈ nx ∧ Ents nx lvs (fhs k (b.take i)) ∧ Tb nx ∧ KeepU news nx) (fun i m nx hJ => ?_) ?_ ?_ ?_ ?_
  · obtain ⟨_, _, _, _, _, _, _, _, _, h9⟩ := hJ
    exact h9.cls hm (by simp)
  · exact ⟨rfl, rfl, [], 0, .tail _ (.head _), .tail _ (.tail _ (.head _)), .head _, .nil, hTb.sub fun p hp => .tail _ (.tail _ (.tail _ hp)), fun p hp _ => .tail _ (.tail _ (.tail _ hp))⟩
  · intro I i v m₁ nx h tk dr oI hI hv hJ hIne hcI hIz F1 N1
    refine gen_r fun R9 hR9 => ?_
    refine Classical.byContradiction fun hG9 => ?_
    obtain ⟨e1, e2, lvs, ln, j1, j2, j3, j4, j5, j6⟩ := hJ
    refine hG9 ?_
    clear hG9
    replace F1 := know2 F1 e1 e2
    clear FF NF
    refine Classical.byContradiction fun hG9 => ?_
    obtain ⟨q, t1, t2, sz, ct, rfl, hi, hq⟩ := hB.at i v hv
    refine hG9 ?_
    clear hG9
    have hw := hok _ (List.mem_of_getElem? hi)
    have hb1 := hw.1
    have hb2 := hw.2.1
    have hb3 := hw.lt
    have hb4 := hw.2.2
    simp only at hb1 hb2 hb3 hb4
    have hq2 := List.Mem.tail (I, oI) (j6.cls hq (by simp))
    have mm1 := List.Mem.tail (I, oI) j1
    have mm2 := List.Mem.tail (I, oI) j2
    have mm3 := List.Mem.tail (I, oI) j3
    have mmT : Tb ((I, oI) :: nx) := j5.sub fun p hp => .tail _ hp
    have hIl : I ≠ l := fun e => hIne _ j3 e.symm
    have hIu : Usr oI := .inl (by rw [hcI]; simp)
    have hxl : x ≠ l := ne_cls N1 mm1 mm3 (by simp)
    have hdl : dx ≠ l := ne_cls N1 mm2 mm3 (by simp [hdrDict, dictOf])
    have hil : i < b.length := (List.getElem?_eq_some_iff.mp hi).1
    have hlen : (fhs k (b.take i) ++ fEnt k (sz, ct)).length ≤ 900 := by
      rw [← fhs_snoc hi]
      refine Nat.le_trans (fhs_len _) ?_
      rw [List.length_take]; omega
    have fin : ∀ (h9 : Heap) (news9 : Led) (lvs' : List Value) (ln' : Nat), News gE LE h9 news9 → (I, oI) ∈ news9 → Tb news9 → (∀ p ∈ nx, Usr p.2 → p.1 ≠ l → p ∈ news9) → (l, W.listOf lvs'.toArray ln') ∈ news9 → Ents news9 lvs' (fhs k (b.take i) ++ fEnt k (sz, ct)) →
        ∀ nx9, (∀ p ∈ news9, p.1 ≠ I → p ∈ nx9) → ∃ lvs ln, (x, instObj 182 dx) ∈ nx9 ∧ (dx, hdrDict w t l) ∈ nx9 ∧ (l, W.listOf lvs.toArray ln) ∈ nx9 ∧ Ents nx9 lvs (fhs k (b.take (i + 1))) ∧ Tb nx9 ∧ KeepU news nx9 := by
      intro h9 news9 lvs' ln' NX hI9 hT9 hk9 p1 p2 nx9 h9
      have K : ∀ p ∈ nx, Usr p.2 → p.1 ≠ l → p ∈ nx9 := fun p hp hu hl => h9 p (hk9 p hp hu hl) (hIne p hp)
      have hqI : ∀ q a, (q, tupO a) ∈ news9 → q ≠ I := fun q a h => ne_cls NX h hI9 (by rw [hcI]; simp)
      rw [fhs_snoc hi]
      refine ⟨lvs', ln', K _ j1 (.inl (by simp)) hxl, K _ j2 (.inr (.inr (.inl ⟨_, _, rfl⟩))) hdl, h9 _ p1 (Ne.symm hIl), p2.mono fun q a h => h9 _ h (hqI q a h), ?_, fun p hp hu => K p (j6 p hp hu) hu (Nat.ne_of_lt (Nat.lt_trans (Nat.lt_trans (hl1 p hp) hl2) hl3))⟩
      refine Tb.hide NX hT9 [I] (fun a ha => ?_) fun p hp hne => h9 p hp (by simpa using hne)
      rw [List.mem_singleton.mp ha]
      exact .inr ⟨_, hI9, hIu, hIz⟩
    k_with "my call" => (refine stop ?_)
    k_with "my call" => first
      | (refine' Con.use (c_idm w _ _ _ _ _ ?q1 ?q2 ?q3 ?q4 ?q5) ?cB ?cF ?cX ?cN ?cT ?ch ?cf ?ck ?cd ?cu ?_; walk_at "my_use"; (case q1 => omega); (case q2 => omega); (case q3 => omega); (case q4 => omega); (case q5 => exact mmT); intro r' news2 h' tk' F' N' P'; refine Classical.byContradiction fun hG9 => ?_; obtain ⟨⟨qd, u1, u2, rfl, hqd⟩, hTd, hKd⟩ := P'; refine hG9 ?_; clear hG9; have y1 := hKd.cls mm1 (by simp); have y2 := hKd _ mm2 (.inr (.inr (.inl ⟨_, _, rfl⟩))); have y3 := hKd.cls mm3 (by simp))
      | (refine stop ?_)
    k_steps
    · unfold Stop
      rename_i hF5 F5 N5 tk5 hr0
      have hz0 : sz % k = 0 := by
        have : ((sz % k : Nat) : Int) = 0 := by rw [Int.natCast_emod]; exact hr0
        omega
      have hfe : fEnt k (sz, ct) = [(sz / k, (k : Int) * ct)] := by unfold fEnt; rw [if_pos hz0]
      have hwd := fEnt_ok hk2 hw (sz / k, (k : Int) * ct) (by rw [hfe]; exact .head _)
      have hwl := hwd.lt
      have hw1 := hwd.1
      have hw2 := hwd.2.1
      simp only at hwl hw1 hw2
      have esz : ((sz : Int) / (k : Int)).toNat = sz / k := by rw [← Int.natCast_ediv]; rfl
      have z1 : 0 < (sz : Int) / (k : Int) := by rw [← Int.natCast_ediv]; omega
      have z2 : (sz : Int) / (k : Int) < 2 ^ 20 := by rw [← Int.natCast_ediv]; omega
      have z3 : (k : Int) * ct < 2 ^ 20 := by omega
      have z4 : lvs.length ≤ 1000 := by
        rw [j4.length]
        rw [List.length_append] at hlen
        omega
      k_with "my call" => (refine stop ?_)
      k_with "my call" => (refine' ConD.use (c_lay w _ _ _ _ _ _ _ _ _ _ _ y1 y2 y3 z4 z1 z2 hw2 z3) ?cB ?cF ?cX ?cN ?cT ?ch ?cf ?ck ?cd ?cu ?_; walk_at "my_use"; intro r' news3 h' tk' dr' F' N' P'; refine Classical.byContradiction fun hG9 => ?_; obtain ⟨rfl, ⟨ql, v1, v2, hql, hl3'⟩, hkeep⟩ := P'; refine hG9 ?_; clear hG9)
      k_steps
      rw [esz] at hql
      have hI3 : (I, oI) ∈ news3 := hkeep _ (hKd _ (.head _) hIu) hIl
      refine hR9 _ _ ?_
      refine ⟨_, _, _, _, _, rfl, F', N', hI3, fun nx9 h9 => ⟨rfl, rfl, ?_⟩⟩
      refine fin _ _ _ _ N' hI3 ?_ (fun p hp hu hl => hkeep p (hKd p (.tail _ hp) hu) hl) hl3' ?_ nx9 h9
      · refine Tb.hide N5 hTd [l] (fun a ha => ?_) fun p hp hne => hkeep p hp (by simpa using hne)
        rw [List.mem_singleton.mp ha]
        exact .inr ⟨_, y3, .inl (by simp), noCode_seq rfl⟩
      · rw [hfe]
        exact Ents.snoc hql (j4.mono fun q a h => hkeep _ (hKd _ (.tail _ h) (.inl (by simp))) (ne_cls N5 (hKd _ (.tail _ h) (.inl (by simp))) y3 tup_list))
    · unfold Stop
      rename_i hF5 F5 N5 tk5 hr0
      have hz0 : ¬ sz % k = 0 := by
        intro e
        apply hr0
        rw [← Int.natCast_emod, e]; rfl
      have hfe : fEnt k (sz, ct) = dgl k 17 sz ct := by unfold fEnt; rw [if_neg hz0]
      rw [hfe] at fin hlen
      refine While_invD (n₀ := ct.toNat) (fun n m nx2 => ∃ (f sz' : Nat) (ct' : Int) (ts tc : Tok) (lvs' : List Value) (ln' : Nat) (es : List (Nat × Int)), n = ct'.toNat ∧ m (PySem.Str.ofString "table") = some (.ref x) ∧ m (PySem.Str.ofString "k") = some (.int k tk0) ∧ m (PySem.Str.ofString "size") = some (.int sz' ts) ∧ m (PySem.Str.ofString "count") = some (.int ct' tc) ∧
        0 < sz' ∧ 0 ≤ ct' ∧ ct' < 2 ^ f ∧ f ≤ 17 ∧ (sz' : Int) * ct' ≤ 100000 ∧ (l, W.listOf lvs'.toArray ln') ∈ nx2 ∧ Ents nx2 lvs' es ∧ es ++ dgl k f sz' ct' = fhs k (b.take i) ++ dgl k 17 sz ct ∧ (I, oI) ∈ nx2 ∧ Tb nx2 ∧ ∀ p ∈ nx, Usr p.2 → p.1 ≠ l → p ∈ nx2) F5 N5 ?_ ?_ ?_
      · exact ⟨17, sz, ct, _, _, lvs, ln, _, rfl, rfl, rfl, rfl, rfl, hb1, by omega, by omega, Nat.le_refl _, hb4, y3, j4.mono fun q a h => hKd _ (.tail _ h) (.inl (by simp)), rfl, hKd _ (.head _) hIu, hTd, fun p hp hu _ => hKd p (.tail _ hp) hu⟩
      · rintro n m₂ nx2 h₂ tk₂ dr₂ F2 N2 ⟨f, sz', ct', ts, tc, lvs', ln', es, rfl, g1, g2, g3, g4, g5, g6, g7, g8, g9, p1, p2, p3, p4, p5, p6⟩
        replace F2 := know4 F2 g1 g2 g3 g4
        refine gen_w fun R7 hR7 => ?_
        clear F5 N5
        clear hqd y1 y2 y3 hTd hKd
        by_cases hc : 0 < ct'
        · obtain ⟨f, rfl⟩ : ∃ g, f = g + 1 := by
            cases f with
            | zero => simp at g7; omega
            | succ g => exact ⟨g, rfl⟩
          have hw' : Wok (sz', ct') := ⟨g5, hc, g9⟩
          have hwl := hw'.lt
          simp only at hwl
          have hd1 := div_step hk2 g6 g7
          have hm0 : 0 ≤ ct' % (k : Int) := Int.emod_nonneg _ (by omega)
          have hm1 : ct' % (k : Int) < k := Int.emod_lt_of_pos _ (by omega)
          have hmd := mul_div_le hk2 (s := sz') g6
          have hdl9 : ct' / (k : Int) < ct' := Int.ediv_lt_self_of_pos_of_ne_one hc (by omega)
          rw [dgl] at p3
          have z4 : lvs'.length ≤ 1000 := by
            have h1 := congrArg List.length p3
            rw [List.length_append] at h1
            rw [p2.length]
            omega
          k_with "my call" => (refine stop ?_)
          k_with "my call" => first
            | (refine' Con.use (c_idm w _ _ _ _ _ ?q1 ?q2 ?q3 ?q4 ?q5) ?cB ?cF ?cX ?cN ?cT ?ch ?cf ?ck ?cd ?cu ?_; walk_at "my_use"; (case q1 => omega); (case q2 => omega); (case q3 => omega); (case q4 => omega); (case q5 => exact p5); intro r' news2 h' tk' F' N' P'; refine Classical.byContradiction fun hG9 => ?_; obtain ⟨⟨qd, u1, u2, rfl, hqd⟩, hTd, hKd⟩ := P'; refine hG9 ?_; clear hG9; have y1 := hKd.cls (p6 _ j1 (.inl (by simp)) hxl) (by simp); have y2 := hKd _ (p6 _ j2 (.inr (.inr (.inl ⟨_, _, rfl⟩))) hdl) (.inr (.inr (.inl ⟨_, _, rfl⟩))); have y3 := hKd.cls p1 (by simp))
            | (refine stop ?_)
          k_steps
          · unfold Stop
            rename_i hF6 F6 N6 tk6 hfig
            have z1 : 0 < (sz' : Int) := by omega
            have z2 : (sz' : Int) < 2 ^ 20 := by omega
            have z3 : ct' % (k : Int) < 2 ^ 20 := by omega
            rw [if_pos hfig] at p3
            have hq6 : ∀ q a, (q, tupO a) ∈ news2 → q ≠ l := fun q a h => ne_cls N6 h y3 tup_list
            have hT6 : ∀ news3 : Led, (∀ p ∈ news2, p.1 ≠ l → p ∈ news3) → Tb news3 := fun news3 hk3 => Tb.hide N6 hTd [l] (fun a ha => by rw [List.mem_singleton.mp ha]; exact .inr ⟨_, y3, .inl (by simp), noCode_seq rfl⟩) fun p hp hne => hk3 p hp (by simpa using hne)
            k_with "my call" => (refine stop ?_)
            k_with "my call" => (refine' ConD.use (c_lay w _ _ _ _ _ _ _ _ _ _ _ y1 y2 y3 z4 z1 z2 hfig z3) ?cB ?cF ?cX ?cN ?cT ?ch ?cf ?ck ?cd ?cu ?_; walk_at "my_use"; intro r' news3 h' tk' dr' F' N' P'; refine Classical.byContradiction fun hG9 => ?_; obtain ⟨rfl, ⟨ql, v1, v2, hql, hl3'⟩, hkeep⟩ := P'; refine hG9 ?_; clear hG9)
            k_steps
            rename_i kF kN
            rw [Int.toNat_natCast] at hql
            refine hR7 _ _ ?_
            refine ⟨_, _, _, _, _, (ct' / (k : Int)).toNat, rfl, kF, kN, by omega, f, k * sz', ct' / (k : Int), _, _, lvs' ++ [.ref ql], ln' + 1, es ++ [(sz', ct' % (k : Int))], rfl, rfl, rfl, (by rw [Int.natCast_mul]; rfl), rfl, Nat.mul_pos (by omega) g5, hd1.1, hd1.2, by omega, Int.le_trans hmd g9, hl3', ?_, by rw [List.append_assoc]; exact p3, hkeep _ (hKd _ p4 hIu) hIl, ?_, fun p hp hu hl => hkeep p (hKd p (p6 p hp hu hl) hu) hl⟩
            · exact Ents.snoc hql (p2.mono fun q a h => hkeep _ (hKd _ h (.inl (by simp))) (hq6 q a (hKd _ h (.inl (by simp)))))
            · exact hT6 _ hkeep
          · rename_i tk6 hfig hF6 F6 N6
            rw [if_neg hfig, List.nil_append] at p3
            refine hR7 _ _ ?_
            refine ⟨_, _, _, _, _, (ct' / (k : Int)).toNat, rfl, F6, N6, by omega, f, k * sz', ct' / (k : Int), _, _, lvs', ln', es, rfl, rfl, rfl, (by rw [Int.natCast_mul]; rfl), rfl, Nat.mul_pos (by omega) g5, hd1.1, hd1.2, by omega, Int.le_trans hmd g9, y3, p2.mono fun q a h => hKd _ h (.inl (by simp)), p3, hKd _ p4 hIu, hTd, fun p hp hu hl => hKd p (p6 p hp hu hl) hu⟩
        · have : ct' = 0 := by omega
          subst this
          rw [dgl_zero, List.append_nil] at p3
          k_steps
          rw [p3] at p2
          refine hR9 _ _ ?_
          refine ⟨_, _, _, _, _, rfl, F2, N2, p4, fun nx9 h9 => ⟨rfl, rfl, ?_⟩⟩
          exact fin _ _ lvs' ln' N2 p4 p5 p6 p1 p2 nx9 h9
      · passes_own
  · intro h tk dr m' nx F1 N1 hJ
    refine Classical.byContradiction fun hG9 => ?_
    obtain ⟨e1, e2, lvs, ln, j1, j2, j3, j4, j5, j6⟩ := hJ
    refine hG9 ?_
    clear hG9
    replace F1 := know2 F1 e1 e2
    clear FF NF
    rw [hB.length, List.take_length] at j4
    have hsb : ∀ e ∈ fhs k b, 0 < e.1 ∧ e.1 < 2 ^ 20 ∧ 0 < e.2 ∧ e.2 < 2 ^ 20 := fun e he => by
      have hw := fhs_ok hk2 hok e he
      have h1 := hw.1
      have h2 := hw.2.1
      have h3 := hw.lt
      omega
    have hlz : lvs.length ≤ 1000 := by
      rw [j4.length]
      exact Nat.le_trans (fhs_len b) (by omega)
    k_with "my call" => (refine stop ?_)
    k_with "my call" => (refine' ConD.use (c_bag w _ _ _ _ _ _ _ _ j1 j2 j3 hlz j4 hsb j5 hFew hne0) ?cB ?cF ?cX ?cN ?cT ?ch ?cf ?ck ?cd ?cu ?_; walk_at "my_use"; intro r' news2 h' tk' dr' F' N' P'; refine Classical.byContradiction fun hG9 => ?_; obtain ⟨rl, rvs, rn, b', rfl, p1, p2, p3, p4, p5⟩ := P'; refine hG9 ?_; clear hG9)
    k_steps
    rename_i kF kN _ _
    exact hret _ _ _ _ _ kF kN ⟨rl, rvs, rn, b', rfl, p1, p2, p3, p4, fun p hp hu => p5 p (j6 p hp hu) (Nat.ne_of_lt (Nat.lt_trans (Nat.lt_trans (hl1 p hp) hl2) hl3)) hu⟩
  · passes_own
end
def dn (k : Nat) : Nat → Nat → Int → Nat × Int
  | 0, s, c => (s, c)
  | f + 1, s, c => if s % k = 0 then dn k f (s / k) ((k : Int) * c) else (s, c)
def bEnt (k : Nat) (e : Nat × Int) : List (Nat × Int) := (if 0 < e.2 / (k : Int) then [(k * e.1, e.2 / (k : Int))] else []) ++ (if 0 < e.2 % (k : Int) then [dn k 17 e.1 (e.2 % (k : Int))] else [])
def bhs (k : Nat) (b : List (Nat × Int)) : List (Nat × Int) := b.flatMap (bEnt k)
theorem dn_stop {k f s : Nat} {c : Int} (h : ¬ s % k = 0) : dn k f s c = (s, c) := by
  cases f with
  | zero => rfl
  | succ f => rw [dn, if_neg h]
theorem dn_step {k f s : Nat} {c : Int} (h : s % k = 0) : dn k (f + 1) s c = dn k f (s / k) ((k : Int) * c) := by rw [dn, if_pos h]
theorem cut_weight {k s : Nat} (hk : 2 ≤ k) (hs : 0 < s) (hz : s % k = 0) (c : Int) : 0 < s / k ∧ ((s / k : Nat) : Int) * ((k : Int) * c) = (s : Int) * c := by
  obtain ⟨q, hq⟩ := Nat.dvd_of_mod_eq_zero hz
  have e1 : s / k = q := by rw [hq]; exact Nat.mul_div_cancel_left q (by omega)
  constructor
  · rw [e1]
    rcases Nat.eq_zero_or_pos q with r | r
    · rw [r] at hq; omega
    · exact r
  · rw [e1, ← Int.mul_assoc]
    congr 1
    rw [hq, Int.natCast_mul, Int.mul_comm]
theorem cut_lt {k s f : Nat} (hk : 2 ≤ k) (h : s < 2 ^ (f + 1)) : s / k < 2 ^ f := by
  apply Nat.div_lt_of_lt_mul
  rw [Nat.pow_succ] at h
  have : 2 ^ f * 2 ≤ 2 ^ f * k := Nat.mul_le_mul_left _ hk
  rw [Nat.mul_comm k]
  omega
theorem dn_ok {k : Nat} (hk : 2 ≤ k) : ∀ (f s : Nat) (c : Int), Wok (s, c) → Wok (dn k f s c)
  | 0, _, _, h => h
  | f + 1, s, c, h => by
    rw [dn]
    split
    · rename_i hz
      have hcw := cut_weight hk h.1 hz c
      exact dn_ok hk f _ _ ⟨hcw.1, Int.mul_pos (by omega) h.2.1, by show ((s / k : Nat) : Int) * _ ≤ _; rw [hcw.2]; exact h.2.2⟩
    · exact h
theorem div_ok {k : Nat} (hk : 2 ≤ k) {e : Nat × Int} (h : Wok e) (h0 : 0 < e.2 / (k : Int)) : Wok (k * e.1, e.2 / (k : Int)) :=
  ⟨Nat.mul_pos (by omega) h.1, h0, Int.le_trans (mul_div_le hk (by have := h.2.1; omega)) h.2.2⟩
theorem mod_le {k : Nat} {c : Int} (hk : 2 ≤ k) (hc : 0 ≤ c) : c % (k : Int) ≤ c := by
  have := Int.mul_ediv_add_emod c (k : Int)
  have h3 : 0 ≤ (k : Int) * (c / (k : Int)) := Int.mul_nonneg (by omega) (Int.ediv_nonneg hc (by omega))
  omega
theorem mod_ok {k : Nat} (hk : 2 ≤ k) {e : Nat × Int} (h : Wok e) (h0 : 0 < e.2 % (k : Int)) : Wok (e.1, e.2 % (k : Int)) :=
  ⟨h.1, h0, Int.le_trans (Int.mul_le_mul_of_nonneg_left (mod_le hk (by have := h.2.1; omega)) (by omega)) h.2.2⟩
theorem bEnt_ok {k : Nat} (hk : 2 ≤ k) {e : Nat × Int} (h : Wok e) : ∀ d ∈ bEnt k e, Wok d := by
  intro d hd
  rcases List.mem_append.mp hd with hd | hd
  · split at hd
    · rename_i h0
      rw [List.mem_singleton.mp hd]
      exact div_ok hk h h0
    · cases hd
  · split at hd
    · rename_i h0
      rw [List.mem_singleton.mp hd]
      exact dn_ok hk 17 _ _ (mod_ok hk h h0)
    · cases hd
theorem bEnt_len {k : Nat} {e : Nat × Int} : (bEnt k e).length ≤ 2 := by
  unfold bEnt
  rw [List.length_append]
  split <;> split <;> simp
theorem bhs_ok {k : Nat} (hk : 2 ≤ k) {b : List (Nat × Int)} (h : ∀ e ∈ b, Wok e) : ∀ d ∈ bhs k b, Wok d := by
  intro d hd
  obtain ⟨e, he, hd⟩ := List.mem_flatMap.mp hd
  exact bEnt_ok hk (h e he) d hd
theorem bhs_snoc {k : Nat} {b : List (Nat × Int)} {i : Nat} {e : Nat × Int} (h : b[i]? = some e) : bhs k (b.take (i + 1)) = bhs k (b.take i) ++ bEnt k e := by
  unfold bhs
  rw [List.take_add_one, h, List.flatMap_append]
  simp
theorem bhs_len {k : Nat} : ∀ b : List (Nat × Int), (bhs k b).length ≤ 2 * b.length
  | [] => Nat.le_refl _
  | e :: b => by
    have h1 := bhs_len (k := k) b
    have h2 := bEnt_len (k := k) (e := e)
    unfold bhs at h1 ⊢
    rw [List.flatMap_cons, List.length_append, List.length_cons]
    omega
theorem bEnt_pre {k : Nat} {A : List (Nat × Int)} {e : Nat × Int} : (A ++ (if 0 < e.2 / (k : Int) then [(k * e.1, e.2 / (k : Int))] else [])).length ≤ (A ++ bEnt k e).length := by
  unfold bEnt
  rw [← List.append_assoc, List.length_append (bs := ite (0 < e.2 % (k : Int)) _ _)]
  exact Nat.le_add_right _ _
theorem clean_M17 : True := by
  w_top off
  k_with "my call" => (refine stop ?_)
  trivial
section
local macro_rules | `(tactic| walk_at "exec While Name cons nil") => `(tactic| refine stop ?_)
local macro_rules | `(tactic| k_mem) => `(tactic| first | exact List.Mem.tail _ (by assumption) | exact List.Mem.tail _ (List.Mem.tail _ (by assumption)))
local macro_rules | `(tactic| walk_at "exec If") => `(tactic| refine stop ?_)
theorem c_back (w : World) (news : Led) (bl : Addr) (bvs : List Value) (bn : Nat) (b : List (Nat × Int)) (k : Nat) (tk0 : Tok) (hm : (bl, listOf bvs.toArray bn) ∈ news) (hB : Bag news bvs b) (hz : b.length ≤ 400) (hok : ∀ e ∈ b, Wok e) (hk2 : 2 ≤ k) (hk17 : k ≤ 17) (hTb : Tb news) (hFew : FewSizes (bhs k b)) (hne0 : bhs k b ≠ []) :
    ConD w 60 1000 news 281 [.ref bl, .int k tk0] []
   (fun r news' => ∃ rl rvs rn b', r = .ref rl ∧ (rl, listOf rvs.toArray rn) ∈ news' ∧ Bag news' rvs b' ∧ IsBag (bhs k b) b' ∧ Tb news' ∧ KeepU news news') := by
  unfold ConD
  intro p loose mean mg mb dp un gd cn cs ad ccd cl outer A₀ base h₀ L m s Q E B F X N T hk hd hu hret
  dsimp only [KK] at X
  refine wpAny_call ?_
  k_dflt (walk_at "my_enter")
  refine gen_q fun R6 hR6 => ?_
  k_with "my call" => (refine stop ?_)
  k_with "my call" => (refine' Con.use (c_new w _) ?cB ?cF ?cX ?cN ?cT ?ch ?cf ?ck ?cd ?cu ?_; walk_at "my_use"; intro r' news' h' tk' F' N' P'; refine Classical.byContradiction fun hG9 => ?_; obtain ⟨x, dx, l, t, rfl, rfl, hl1, hl2, hl3⟩ := P'; refine hG9 ?_; clear hG9)
  k_steps
  unfold Stop
  rename_i hF FF NF
  refine wpAny_For ?_
  k_steps
  unfold Stop
  refine for_listN rfl (.tail _ (.tail _ (.tail _ hm))) FF NF (fun i m nx => m (PySem.Str.ofString "table") = some (.ref x) ∧ m (PySem.Str.ofString "k") = some (.int k tk0) ∧ ∃ lvs ln, (x, instObj 182 dx) ∈ nx ∧ (dx, hdrDict w t l) ∈ nx ∧ (l, listOf lvs.toArray ln) ∈ nx ∧ Ents nx lvs (bhs k (b.take i)) ∧ Tb nx ∧ KeepU news nx) (fun i m nx hJ => ?_) ?_ ?_ ?_ ?_
  · obtain ⟨_, _, _, _, _, _, _, _, _, h9⟩ := hJ
    exact h9.cls hm (by simp)
  · exact ⟨rfl, rfl, [], 0, .tail _ (.head _), .tail _ (.tail _ (.head _)), .head _, .nil, hTb.sub fun p hp => .tail _ (.tail _ (.tail _ hp)), fun p hp _ => .tail _ (.tail _ (.tail _ hp))⟩
  · intro I i v m₁ nx h tk dr oI hI hv hJ hIne hcI hIz F1 N1
    refine gen_r fun R9 hR9 => ?_
    refine Classical.byContradiction fun hG9 => ?_
    obtain ⟨e1, e2, lvs, ln, j1, j2, j3, j4, j5, j6⟩ := hJ
    refine hG9 ?_
    clear hG9
    replace F1 := know2 F1 e1 e2
    clear FF NF
    refine Classical.byContradiction fun hG9 => ?_
    obtain ⟨q, t1, t2, sz, ct, rfl, hi, hq⟩ := hB.at i v hv
    refine hG9 ?_
    clear hG9
    have hw := hok _ (List.mem_of_getElem? hi)
    have hb1 := hw.1
    have hb2 := hw.2.1
    have hb3 := hw.lt
    have hb4 := hw.2.2
    simp only at hb1 hb2 hb3 hb4
    have hq2 := List.Mem.tail (I, oI) (j6.cls hq (by simp))
    have mm1 := List.Mem.tail (I, oI) j1
    have mm2 := List.Mem.tail (I, oI) j2
    have mm3 := List.Mem.tail (I, oI) j3
    have mmT : Tb ((I, oI) :: nx) := j5.sub fun p hp => .tail _ hp
    have hIl : I ≠ l := fun e => hIne _ j3 e.symm
    have hIu : Usr oI := .inl (by rw [hcI]; simp)
    have hxl : x ≠ l := ne_cls N1 mm1 mm3 (by simp)
    have hdl : dx ≠ l := ne_cls N1 mm2 mm3 (by simp [hdrDict, dictOf])
    have hil : i < b.length := (List.getElem?_eq_some_iff.mp hi).1
    have hlen : (bhs k (b.take i) ++ bEnt k (sz, ct)).length ≤ 900 := by
      rw [← bhs_snoc hi]
      refine Nat.le_trans (bhs_len _) ?_
      rw [List.length_take]; omega
    have fin : ∀ (h9 : Heap) (news9 : Led) (lvs' : List Value) (ln' : Nat), News gE LE h9 news9 → (I, oI) ∈ news9 → Tb news9 → (∀ p ∈ nx, Usr p.2 → p.1 ≠ l → p ∈ news9) → (l, W.listOf lvs'.toArray ln') ∈ news9 → Ents news9 lvs' (bhs k (b.take i) ++ bEnt k (sz, ct)) →
        ∀ nx9, (∀ p ∈ news9, p.1 ≠ I → p ∈ nx9) → ∃ lvs ln, (x, instObj 182 dx) ∈ nx9 ∧ (dx, hdrDict w t l) ∈ nx9 ∧ (l, W.listOf lvs.toArray ln) ∈ nx9 ∧ Ents nx9 lvs (bhs k (b.take (i + 1))) ∧ Tb nx9 ∧ KeepU news nx9 := by
      intro h9 news9 lvs' ln' NX hI9 hT9 hk9 p1 p2 nx9 h9
      have K : ∀ p ∈ nx, Usr p.2 → p.1 ≠ l → p ∈ nx9 := fun p hp hu hl => h9 p (hk9 p hp hu hl) (hIne p hp)
      have hqI : ∀ q a, (q, tupO a) ∈ news9 → q ≠ I := fun q a h => ne_cls NX h hI9 (by rw [hcI]; simp)
      rw [bhs_snoc hi]
      refine ⟨lvs', ln', K _ j1 (.inl (by simp)) hxl, K _ j2 (.inr (.inr (.inl ⟨_, _, rfl⟩))) hdl, h9 _ p1 (Ne.symm hIl), p2.mono fun q a h => h9 _ h (hqI q a h), ?_, fun p hp hu => K p (j6 p hp hu) hu (Nat.ne_of_lt (Nat.lt_trans (Nat.lt_trans (hl1 p hp) hl2) hl3))⟩
      refine Tb.hide NX hT9 [I] (fun a ha => ?_) fun p hp hne => h9 p hp (by simpa using hne)
      rw [List.mem_singleton.mp ha]
      exact .inr ⟨_, hI9, hIu, hIz⟩
    have z4 : lvs.length ≤ 1000 := by
      rw [j4.length]
      rw [List.length_append] at hlen
      omega
    k_with "my call" => (refine stop ?_)
    k_with "my call" => first
      | (refine' Con.use (c_idm w _ _ _ _ _ ?q1 ?q2 ?q3 ?q4 ?q5) ?cB ?cF ?cX ?cN ?cT ?ch ?cf ?ck ?cd ?cu ?_; walk_at "my_use"; (case q1 => omega); (case q2 => omega); (case q3 => omega); (case q4 => omega); (case q5 => exact mmT); intro r' news2 h' tk' F' N' P'; refine Classical.byContradiction fun hG9 => ?_; obtain ⟨⟨qd, u1, u2, rfl, hqd⟩, hTd, hKd⟩ := P'; refine hG9 ?_; clear hG9; have y1 := hKd.cls mm1 (by simp); have y2 := hKd _ mm2 (.inr (.inr (.inl ⟨_, _, rfl⟩))); have y3 := hKd.cls mm3 (by simp))
      | (refine stop ?_)
    k_steps
    unfold Stop
    rename_i hF6 F6 N6
    have hcd0 : 0 ≤ ct / (k : Int) := Int.ediv_nonneg (by omega) (by omega)
    have hcm0 : 0 ≤ ct % (k : Int) := Int.emod_nonneg _ (by omega)
    have hq6 : ∀ q a, (q, tupO a) ∈ news2 → q ≠ l := fun q a h => ne_cls N6 h y3 tup_list
    have hT6 : ∀ news3 : Led, (∀ p ∈ news2, p.1 ≠ l → p ∈ news3) → Tb news3 := fun news3 hk3 => Tb.hide N6 hTd [l] (fun a ha => by rw [List.mem_singleton.mp ha]; exact .inr ⟨_, y3, .inl (by simp), noCode_seq rfl⟩) fun p hp hne => hk3 p hp (by simpa using hne)
    refine wpAny_mono (Q := fun f s' => Stop (f = Flow.next ∧ ∃ hC tkC drC nx5 m5 lvs5 ln5, s' = { s with heap := hC, toks := tkC, drawn := drC } ∧ Fr gE LE hC m5 ∧ News gE LE hC nx5 ∧ m5 (PySem.Str.ofString "table") = some (.ref x) ∧ m5 (PySem.Str.ofString "k") = some (.int k tk0) ∧ m5 (PySem.Str.ofString "size") = some (.int sz t1) ∧ m5 (PySem.Str.ofString "left") = some (.int (ct % (k : Int)) u2) ∧
      (l, W.listOf lvs5.toArray ln5) ∈ nx5 ∧ Ents nx5 lvs5 (bhs k (b.take i) ++ (if 0 < ct / (k : Int) then [(k * sz, ct / (k : Int))] else [])) ∧ (I, oI) ∈ nx5 ∧ Tb nx5 ∧ ∀ p ∈ nx, Usr p.2 → p.1 ≠ l → p ∈ nx5)) ?_ ?_ (fun _ _ e => e)
    · refine gen_q fun R8 hR8 => ?_
      refine wpAny_If ?_
      by_cases hg : 0 < ct / (k : Int)
      · have hwd := div_ok hk2 hw hg
        have hwl := hwd.lt
        have hw1 := hwd.1
        simp only at hwl hw1
        have ez : (k : Int) * (sz : Int) = ((k * sz : Nat) : Int) := (Int.natCast_mul k sz).symm
        have z1 : 0 < (k : Int) * (sz : Int) := by rw [ez]; omega
        have z2 : (k : Int) * (sz : Int) < 2 ^ 20 := by rw [ez]; omega
        have z3 : ct / (k : Int) < 2 ^ 20 := by omega
        k_with "my call" => (refine stop ?_)
        k_with "my call" => (refine' ConD.use (c_lay w _ _ _ _ _ _ _ _ _ _ _ y1 y2 y3 z4 z1 z2 hg z3) ?cB ?cF ?cX ?cN ?cT ?ch ?cf ?ck ?cd ?cu ?_; walk_at "my_use"; intro r' news3 h' tk' dr' F' N' P'; refine Classical.byContradiction fun hG9 => ?_; obtain ⟨rfl, ⟨ql, v1, v2, hql, hl3'⟩, hkeep⟩ := P'; refine hG9 ?_; clear hG9)
        k_steps
        rw [ez, Int.toNat_natCast] at hql
        refine hR8 _ _ ?_
        unfold Stop
        refine ⟨rfl, _, _, _, _, _, _, _, rfl, F', N', rfl, rfl, rfl, rfl, hl3', ?_, hkeep _ (hKd _ (.head _) hIu) hIl, hT6 _ hkeep, fun p hp hu hl => hkeep p (hKd p (.tail _ hp) hu) hl⟩
        rw [if_pos hg]
        exact Ents.snoc hql (j4.mono fun q a h => hkeep _ (hKd _ (.tail _ h) (.inl (by simp))) (hq6 q a (hKd _ (.tail _ h) (.inl (by simp)))))
      · k_steps
        refine hR8 _ _ ?_
        unfold Stop
        refine ⟨rfl, _, _, _, _, _, _, _, rfl, F6, N6, rfl, rfl, rfl, rfl, y3, ?_, hKd _ (.head _) hIu, hTd, fun p hp hu _ => hKd p (.tail _ hp) hu⟩
        rw [if_neg hg, List.append_nil]
        exact j4.mono fun q a h => hKd _ (.tail _ h) (.inl (by simp))
    · rintro f s' ⟨rfl, hC, tkC, drC, nx5, m5, lvs5, ln5, rfl, F5, N5, g1, g2, g3, g4, p1, p2, p3, p4, p5⟩
      replace F5 := know4 F5 g1 g2 g3 g4
      clear hqd y1 y2 y3 hTd hKd F6 N6
      have h5z : lvs5.length ≤ 1000 := by
        rw [p2.length]
        exact Nat.le_trans (bEnt_pre (e := (sz, ct))) (by omega)
      k_with "my call" => (refine stop ?_)
      k_steps
      unfold Stop
      refine wpAny_If ?_
      by_cases hl : 0 < ct % (k : Int)
      · have hwm := mod_ok hk2 hw hl
        rw [bEnt, if_pos hl] at fin
        k_with "my call" => (refine stop ?_)
        k_with "my call" => first
          | (refine' Con.use (c_idm w _ _ _ _ _ ?q1 ?q2 ?q3 ?q4 ?q5) ?cB ?cF ?cX ?cN ?cT ?ch ?cf ?ck ?cd ?cu ?_; walk_at "my_use"; (case q1 => omega); (case q2 => omega); (case q3 => omega); (case q4 => omega); (case q5 => exact p4); intro r' news2 h' tk' F' N' P'; refine Classical.byContradiction fun hG9 => ?_; obtain ⟨⟨qd, u1', u2', rfl, hqd⟩, hTd, hKd⟩ := P'; refine hG9 ?_; clear hG9; have y3 := hKd.cls p1 (by simp))
          | (refine stop ?_)
        k_steps
        unfold Stop
        rename_i hF7 F7 N7
        have hwz := hwm.lt
        simp only at hwz
        refine While_invD (n₀ := 17) (fun n m nx2 => ∃ (s' : Nat) (c' : Int) (ts tl tp tr : Tok), m (PySem.Str.ofString "table") = some (.ref x) ∧ m (PySem.Str.ofString "k") = some (.int k tk0) ∧ m (PySem.Str.ofString "size") = some (.int s' ts) ∧ m (PySem.Str.ofString "left") = some (.int c' tl) ∧ m (PySem.Str.ofString "part") = some (.int ((s' : Int) / (k : Int)) tp) ∧ m (PySem.Str.ofString "rest") = some (.int ((s' : Int) % (k : Int)) tr) ∧
          Wok (s', c') ∧ s' < 2 ^ n ∧ dn k n s' c' = dn k 17 sz (ct % (k : Int)) ∧ (l, W.listOf lvs5.toArray ln5) ∈ nx2 ∧ Ents nx2 lvs5 (bhs k (b.take i) ++ (if 0 < ct / (k : Int) then [(k * sz, ct / (k : Int))] else [])) ∧ (I, oI) ∈ nx2 ∧ Tb nx2 ∧ ∀ p ∈ nx, Usr p.2 → p.1 ≠ l → p ∈ nx2) F7 N7 ?_ ?_ ?_
        · exact ⟨sz, ct % (k : Int), _, _, _, _, rfl, rfl, rfl, rfl, rfl, rfl, hwm, by omega, rfl, y3, p2.mono fun q a h => hKd _ h (.inl (by simp)), hKd _ p3 hIu, hTd, fun p hp hu hl => hKd p (p5 p hp hu hl) hu⟩
        · rintro n m₂ nx2 h₂ tk₂ dr₂ F2 N2 ⟨s', c', ts, tl, tp, tr, g1', g2', g3', g4', g5', g6', hw', hlt', hdn, r1, r2, r4, r3, r5⟩
          replace F2 := know6 F2 g1' g2' g3' g4' g5' g6'
          refine gen_w fun R7 hR7 => ?_
          clear F7 N7 hTd hKd y3 hqd
          have hw1 := hw'.1
          have hw2 := hw'.2.1
          have hwl := hw'.lt
          simp only at hw1 hw2 hwl
          by_cases hz : s' % k = 0
          · have hzi : (s' : Int) % (k : Int) = 0 := by rw [← Int.natCast_emod, hz]; rfl
            obtain ⟨g, rfl⟩ : ∃ g, n = g + 1 := by
              cases n with
              | zero => simp at hlt'; omega
              | succ g => exact ⟨g, rfl⟩
            have hcw := cut_weight hk2 hw1 hz c'
            have hwn : Wok (s' / k, (k : Int) * c') := ⟨hcw.1, Int.mul_pos (by omega) hw2, by show ((s' / k : Nat) : Int) * _ ≤ _; rw [hcw.2]; exact hw'.2.2⟩
            have hwnl := hwn.lt
            simp only at hwnl
            have hi1 : 0 ≤ (s' : Int) / (k : Int) := by rw [← Int.natCast_ediv]; omega
            have hi2 : (s' : Int) / (k : Int) < 2 ^ 20 := by rw [← Int.natCast_ediv]; omega
            rw [dn_step hz] at hdn
            k_with "my call" => (refine stop ?_)
            k_with "my call" => first | (refine' Con.use (c_idm w _ _ _ _ _ ?q1 ?q2 ?q3 ?q4 ?q5) ?cB ?cF ?cX ?cN ?cT ?ch ?cf ?ck ?cd ?cu ?_; walk_at "my_use"; (case q1 => exact hi1); (case q2 => exact hi2); (case q3 => omega); (case q4 => omega); (case q5 => exact r3.sub fun p hp => .tail _ hp); intro r' news4 h' tk' F' N' P'; refine Classical.byContradiction fun hG9 => ?_; obtain ⟨⟨qd2, u3, u4, rfl, hqd2⟩, hTd2, hKd2⟩ := P'; refine hG9 ?_; clear hG9) | (refine stop ?_)
            k_steps
            all_goals try exact absurd hzi (by assumption)
            rename_i kF kN
            exact hR7 _ _ ⟨_, _, _, _, _, g, rfl, kF, kN, Nat.lt_succ_self g, s' / k, (k : Int) * c', _, _, _, _, rfl, rfl, (by rw [Int.natCast_ediv]; rfl), rfl, (by rw [Int.natCast_ediv]; rfl), (by rw [Int.natCast_ediv]; rfl), hwn, cut_lt hk2 hlt', hdn, hKd2.cls (.tail _ r1) (by simp), r2.mono fun q a h => hKd2 _ (.tail _ h) (.inl (by simp)), hKd2 _ (.tail _ r4) hIu, hTd2, fun p hp hu hl => hKd2 p (.tail _ (r5 p hp hu hl)) hu⟩
          · have hzi : ¬ (s' : Int) % (k : Int) = 0 := by
              intro e
              rw [← Int.natCast_emod] at e
              omega
            rw [dn_stop hz] at hdn
            have z1 : 0 < (s' : Int) := by omega
            have z2 : (s' : Int) < 2 ^ 20 := by omega
            have z3 : c' < 2 ^ 20 := by omega
            have y1 := r5 _ j1 (.inl (by simp)) hxl
            have y2 := r5 _ j2 (.inr (.inr (.inl ⟨_, _, rfl⟩))) hdl
            have hq6 : ∀ q a, (q, tupO a) ∈ nx2 → q ≠ l := fun q a h => ne_cls N2 h r1 tup_list
            have hT6 : ∀ news3 : Led, (∀ p ∈ nx2, p.1 ≠ l → p ∈ news3) → Tb news3 := fun news3 hk3 => Tb.hide N2 r3 [l] (fun a ha => by rw [List.mem_singleton.mp ha]; exact .inr ⟨_, r1, .inl (by simp), noCode_seq rfl⟩) fun p hp hne => hk3 p hp (by simpa using hne)
            k_with "my call" => (refine stop ?_)
            k_with "my call" => first | (refine' ConD.use (c_lay w _ _ _ _ _ _ _ _ _ _ _ y1 y2 r1 h5z z1 z2 hw2 z3) ?cB ?cF ?cX ?cN ?cT ?ch ?cf ?ck ?cd ?cu ?_; walk_at "my_use"; intro r' news3 h' tk' dr' F' N' P'; refine Classical.byContradiction fun hG9 => ?_; obtain ⟨rfl, ⟨ql, v1, v2, hql, hl3'⟩, hkeep⟩ := P'; refine hG9 ?_; clear hG9) | (refine stop ?_)
            k_steps
            all_goals try exact absurd (by assumption) hzi
            rw [Int.toNat_natCast] at hql
            refine hR9 _ _ ?_
            refine ⟨_, _, _, _, _, rfl, F', N', hkeep _ r4 hIl, fun nx9 h9 => ⟨rfl, rfl, ?_⟩⟩
            refine fin _ _ _ _ N' (hkeep _ r4 hIl) (hT6 _ hkeep) (fun p hp hu hl => hkeep p (r5 p hp hu hl) hl) hl3' ?_ nx9 h9
            simp only
            rw [← hdn, ← List.append_assoc]
            exact Ents.snoc hql (r2.mono fun q a h => hkeep _ h (hq6 q a h))
        · passes_own
      · rw [bEnt, if_neg hl, List.append_nil] at fin
        k_steps
        refine hR9 _ _ ?_
        refine ⟨_, _, _, _, _, rfl, F5, N5, p3, fun nx9 h9 => ⟨rfl, rfl, ?_⟩⟩
        exact fin _ _ lvs5 ln5 N5 p3 p4 p5 p1 p2 nx9 h9
  · intro h tk dr m' nx F1 N1 hJ
    refine Classical.byContradiction fun hG9 => ?_
    obtain ⟨e1, e2, lvs, ln, j1, j2, j3, j4, j5, j6⟩ := hJ
    refine hG9 ?_
    clear hG9
    replace F1 := know2 F1 e1 e2
    clear FF NF
    rw [hB.length, List.take_length] at j4
    have hsb : ∀ e ∈ bhs k b, 0 < e.1 ∧ e.1 < 2 ^ 20 ∧ 0 < e.2 ∧ e.2 < 2 ^ 20 := fun e he => by
      have hw := bhs_ok hk2 hok e he
      have h1 := hw.1
      have h2 := hw.2.1
      have h3 := hw.lt
      omega
    have hlz : lvs.length ≤ 1000 := by
      rw [j4.length]
      exact Nat.le_trans (bhs_len b) (by omega)
    k_with "my call" => (refine stop ?_)
    k_with "my call" => (refine' ConD.use (c_bag w _ _ _ _ _ _ _ _ j1 j2 j3 hlz j4 hsb j5 hFew hne0) ?cB ?cF ?cX ?cN ?cT ?ch ?cf ?ck ?cd ?cu ?_; walk_at "my_use"; intro r' news2 h' tk' dr' F' N' P'; refine Classical.byContradiction fun hG9 => ?_; obtain ⟨rl, rvs, rn, b', rfl, p1, p2, p3, p4, p5⟩ := P'; refine hG9 ?_; clear hG9)
    k_steps
    refine hR6 _ _ ?_
    k_steps
    rename_i kF kN _ _
    exact hret _ _ _ _ _ kF kN ⟨rl, rvs, rn, b', rfl, p1, p2, p3, p4, fun p hp hu => p5 p (j6 p hp hu) (Nat.ne_of_lt (Nat.lt_trans (Nat.lt_trans (hl1 p hp) hl2) hl3)) hu⟩
  · passes_own
end
inductive KV : List (Int × Value) → List (Nat × Int) → Prop
  | nil : KV [] []
  | cons {s : Nat} {c : Int} {t : Tok} {kvs : List (Int × Value)} {l : List (Nat × Int)} (r : KV kvs l) : KV (((s : Int), .int c t) :: kvs) ((s, c) :: l)
def hasN (l : List (Nat × Int)) (s : Nat) : Bool := l.any fun e => e.1 = s
def putN (l : List (Nat × Int)) (s : Nat) (c : Int) : List (Nat × Int) := if hasN l s then l.map (fun e => if e.1 = s then (e.1, c) else e) else l ++ [(s, c)]
def lookN (l : List (Nat × Int)) (s : Nat) : Int := ((l.find? fun e => e.1 = s).map (·.2)).getD 0
theorem KV.length : ∀ {kvs : List (Int × Value)} {l : List (Nat × Int)}, KV kvs l → kvs.length = l.length
  | _, _, .nil => rfl
  | _, _, .cons r => congrArg (· + 1) r.length
theorem KV.any {kvs : List (Int × Value)} {l : List (Nat × Int)} (h : KV kvs l) (s : Nat) : (kvs.any fun kv => kv.1 = (s : Int)) = hasN l s := by
  induction h with
  | nil => rfl
  | @cons s' c t kvs l r ih =>
    have e : decide ((s' : Int) = (s : Int)) = decide (s' = s) := by
      by_cases q : s' = s
      · simp [q]
      · rw [decide_eq_false q, decide_eq_false (by omega)]
    show (decide ((s' : Int) = (s : Int)) || _) = (decide (s' = s) || _)
    rw [e, ih]; rfl
theorem KV.snoc {s : Nat} {c : Int} {t : Tok} : ∀ {kvs : List (Int × Value)} {l : List (Nat × Int)}, KV kvs l → KV (kvs ++ [((s : Int), .int c t)]) (l ++ [(s, c)])
  | _, _, .nil => .cons .nil
  | _, _, .cons r => .cons r.snoc
theorem KV.upd {s : Nat} {c : Int} {t : Tok} {kvs : List (Int × Value)} {l : List (Nat × Int)} (h : KV kvs l) : KV (kvs.map fun kv => if kv.1 = (s : Int) then (kv.1, .int c t) else kv) (l.map fun e => if e.1 = s then (e.1, c) else e) := by
  induction h with
  | nil => exact .nil
  | @cons s' c' t' kvs l r ih =>
    rw [List.map_cons, List.map_cons]
    by_cases q : s' = s
    · rw [if_pos (by show (s' : Int) = s; omega), if_pos q]
      exact .cons ih
    · rw [if_neg (by show ¬ (s' : Int) = s; omega), if_neg q]
      exact .cons ih
theorem KV.stored {s : Nat} {c : Int} {t : Tok} {kvs : List (Int × Value)} {l : List (Nat × Int)} (h : KV kvs l) : KV (PySem.stored kvs (s : Int) (.int c t)) (putN l s c) := by
  unfold PySem.stored putN
  rw [h.any s]
  split
  · exact h.upd
  · exact h.snoc
theorem KV.look {kvs : List (Int × Value)} {l : List (Nat × Int)} (h : KV kvs l) (s : Nat) (t0 : Tok) : ∃ t, (valueAt kvs (s : Int)).getD (.int 0 t0) = .int (lookN l s) t := by
  induction h with
  | nil => exact ⟨t0, rfl⟩
  | @cons s' c t kvs l r ih =>
    unfold valueAt lookN at ih ⊢
    rw [List.find?_cons, List.find?_cons]
    by_cases q : s' = s
    · have e1 : decide ((s' : Int) = (s : Int)) = true := by simp [q]
      have e2 : decide (s' = s) = true := by simp [q]
      simp only [e1, e2]
      exact ⟨t, rfl⟩
    · have e1 : decide ((s' : Int) = (s : Int)) = false := decide_eq_false (by omega)
      have e2 : decide (s' = s) = false := by simp [q]
      simp only [e1, e2]
      exact ih
def DT (hs l : List (Nat × Int)) : Prop := (l.map (·.1)).Nodup ∧ ∀ s c, (s, c) ∈ l ↔ s ∈ hs.map (·.1) ∧ c = tot hs s
theorem DT.nil : DT [] [] := ⟨.nil, by simp⟩
theorem tot_none {hs : List (Nat × Int)} {s : Nat} (h : s ∉ hs.map (·.1)) : tot hs s = 0 := by
  unfold tot
  have : (hs.filter fun e => e.1 = s) = [] := by
    rw [List.filter_eq_nil_iff]
    intro a ha
    simp only [decide_eq_true_eq]
    rintro rfl
    exact h (List.mem_map.mpr ⟨a, ha, rfl⟩)
  rw [this]; rfl
theorem tot_snoc {hs : List (Nat × Int)} {s s' : Nat} {c : Int} : tot (hs ++ [(s, c)]) s' = tot hs s' + if s = s' then c else 0 := by
  unfold tot
  rw [List.filter_append, List.map_append, List.sum_append]
  by_cases e : s = s'
  · rw [if_pos e]; simp [e]
  · rw [if_neg e]; simp [e]
theorem DT.has {hs l : List (Nat × Int)} (h : DT hs l) (s : Nat) : hasN l s = true ↔ s ∈ hs.map (·.1) := by
  unfold hasN
  rw [List.any_eq_true]
  constructor
  · rintro ⟨⟨s', c⟩, hm, e⟩
    have : s' = s := by simpa using e
    subst this
    exact ((h.2 _ _).mp hm).1
  · intro hs'
    exact ⟨(s, tot hs s), (h.2 _ _).mpr ⟨hs', rfl⟩, by simp⟩
theorem find_of_nodup {l : List (Nat × Int)} (h : (l.map (·.1)).Nodup) {s : Nat} {c : Int} (hm : (s, c) ∈ l) : l.find? (fun e => e.1 = s) = some (s, c) := by
  induction l with
  | nil => cases hm
  | cons a l ih =>
    rw [List.map_cons, List.nodup_cons] at h
    rw [List.find?_cons]
    rcases List.mem_cons.mp hm with e | hm
    · subst e; simp
    · have : a.1 ≠ s := fun e => h.1 (List.mem_map.mpr ⟨_, hm, e.symm⟩)
      have e2 : decide (a.1 = s) = false := by simp [this]
      simp only [e2]
      exact ih h.2 hm
theorem DT.look {hs l : List (Nat × Int)} (h : DT hs l) (s : Nat) : lookN l s = tot hs s := by
  by_cases q : s ∈ hs.map (·.1)
  · have hm := (h.2 s (tot hs s)).mpr ⟨q, rfl⟩
    unfold lookN
    rw [find_of_nodup h.1 hm]; rfl
  · rw [tot_none q]
    unfold lookN
    have : l.find? (fun e => e.1 = s) = none := by
      rw [List.find?_eq_none]
      intro e he
      simp only [decide_eq_true_eq]
      rintro rfl
      exact q ((h.2 e.1 e.2).mp he).1
    rw [this]; rfl
theorem DT.put {hs l : List (Nat × Int)} (h : DT hs l) (s : Nat) (c : Int) : DT (hs ++ [(s, c)]) (putN l s (tot hs s + c)) := by
  have hmem : ∀ s', s' ∈ (hs ++ [(s, c)]).map (·.1) ↔ s' ∈ hs.map (·.1) ∨ s' = s := by intro s'; simp
  unfold putN
  split
  · rename_i hq
    have hs' := (h.has s).mp hq
    have hsz : (l.map fun e => if e.1 = s then (e.1, tot hs s + c) else e).map (·.1) = l.map (·.1) := by
      rw [List.map_map]
      apply List.map_congr_left
      intro e _
      show (if e.1 = s then (e.1, tot hs s + c) else e).1 = e.1
      split <;> rfl
    refine ⟨by rw [hsz]; exact h.1, fun s' c' => ?_⟩
    rw [hmem, tot_snoc, List.mem_map]
    constructor
    · rintro ⟨⟨s1, c1⟩, hm, e⟩
      have h1 := (h.2 _ _).mp hm
      by_cases q : s1 = s
      · rw [if_pos q] at e; cases e
        exact ⟨.inr q, by rw [if_pos q.symm, q]⟩
      · rw [if_neg q] at e; cases e
        exact ⟨.inl h1.1, by rw [if_neg (Ne.symm q), Int.add_zero]; exact h1.2⟩
    · rintro ⟨h1, h2⟩
      by_cases q : s' = s
      · subst q
        rw [if_pos rfl] at h2
        exact ⟨(s', tot hs s'), (h.2 _ _).mpr ⟨hs', rfl⟩, by rw [if_pos rfl, h2]⟩
      · rw [if_neg (Ne.symm q), Int.add_zero] at h2
        have h3 : s' ∈ hs.map (·.1) := by
          rcases h1 with h1 | h1
          · exact h1
          · exact absurd h1 q
        exact ⟨(s', c'), (h.2 _ _).mpr ⟨h3, h2⟩, by rw [if_neg q]⟩
  · rename_i hq
    have hs' : s ∉ hs.map (·.1) := fun e => hq ((h.has s).mpr e)
    refine ⟨?_, fun s' c' => ?_⟩
    · rw [List.map_append, List.nodup_append]
      refine ⟨h.1, by simp, fun x hx y hy => ?_⟩
      simp only [List.map_cons, List.map_nil, List.mem_singleton] at hy
      subst hy
      rintro rfl
      obtain ⟨⟨s1, c1⟩, hp, e⟩ := List.mem_map.mp hx
      simp only at e
      subst e
      exact hs' ((h.2 _ _).mp hp).1
    · rw [hmem, tot_snoc, List.mem_append, List.mem_singleton, h.2]
      constructor
      · rintro (⟨h1, h2⟩ | e)
        · have : s ≠ s' := fun e => hs' (e ▸ h1)
          exact ⟨.inl h1, by rw [if_neg this, Int.add_zero]; exact h2⟩
        · cases e; exact ⟨.inr rfl, by rw [if_pos rfl]⟩
      · rintro ⟨h1, h2⟩
        by_cases q : s' = s
        · subst q
          rw [if_pos rfl] at h2
          exact .inr (by rw [h2])
        · rw [if_neg (Ne.symm q), Int.add_zero] at h2
          rcases h1 with h1 | h1
          · exact .inl ⟨h1, h2⟩
          · exact absurd h1 q
theorem putN_len {l : List (Nat × Int)} {s : Nat} {c : Int} : (putN l s c).length ≤ l.length + 1 := by
  unfold putN
  split
  · rw [List.length_map]; omega
  · rw [List.length_append]; simp
section
variable {prog : Program} {w : World} {A : Around} {E : Value → Shared → Prop} {s : Shared} {h₀ : Heap} {L d : Addr} {m : PySem.Str → Option Value} {news : Led} {od : Obj} {kvs : List (Int × Value)} {l : List (Nat × Int)} {n : Nat} {c : Int} {u u0 : Tok}
theorem led_get {Q : Value → Shared → Prop} (N : News h₀ L s.heap news) (hm : (d, od) ∈ news) (hd : od.IsDictOf (PySem.intKind prog w) kvs) (hK : KV kvs l) (lo : (d == sysModules) = false) (h : ∀ t, Q (.int (lookN l n) t) { s with toks := s.toks + 1 }) :
    wpAny (model prog w) A (call (.builtin "dict.get") [.ref d, .int (n : Int) u, .int 0 u0]) Q E s := by
  refine kdg_get2 (knd := PySem.intKind prog w) N hm hd lo (intKind_is _ _ _ _) _ rfl ?_
  obtain ⟨t, e⟩ := hK.look n u0
  rw [e]; exact h t
theorem led_getM {pl : Sem Bool} {Q : Value × List Value → Shared → Prop} (N : News h₀ L s.heap news) (hm : (d, od) ∈ news) (hd : od.IsDictOf (PySem.intKind prog w) kvs) (h : Q (.builtin "dict.get", [.ref d]) s) : wpAny (model prog w) A (getMethod (.ref d) "get" pl) Q E s :=
  kdg_method (knd := PySem.intKind prog w) N hm hd h
theorem led_itemsM {pl : Sem Bool} {Q : Value × List Value → Shared → Prop} (N : News h₀ L s.heap news) (hm : (d, od) ∈ news) (hd : od.IsDictOf (PySem.intKind prog w) kvs) (h : Q (.builtin "dict.items", [.ref d]) s) : wpAny (model prog w) A (getMethod (.ref d) "items" pl) Q E s :=
  kdl_method (knd := PySem.intKind prog w) PySem.F.slot_dict_items PySem.F.type_dict_items N hm hd h
theorem led_items {Q : Value → Shared → Prop} (F : Fr h₀ L s.heap m) (N : News h₀ L s.heap news) (hm : (d, od) ∈ news) (hd : od.IsDictOf (PySem.intKind prog w) kvs) (lo : (d == sysModules) = false)
    (h : ∀ (D : Addr) h', Fr h₀ L h' m → News h₀ L h' ((D, { cls := .type "dict_items", data := .fields #[.ref d] }) :: news) → (∀ q ∈ news, q.1 < D) → Q (.ref D) { s with heap := h' }) :
    wpAny (model prog w) A (call (.builtin "dict.items") [.ref d]) Q E s := kdx_view (knd := PySem.intKind prog w) F N hm hd lo h
theorem led_setI {Q : Unit → Shared → Prop} (F : Fr h₀ L s.heap m) (N : News h₀ L s.heap news) (hm : (d, od) ∈ news) (hd : od.IsDictOf (PySem.intKind prog w) kvs) (hK : KV kvs l) (hz : l.length ≤ 1000)
    (h : ∀ h' rest od' kvs', Fr h₀ L h' m → News h₀ L h' ((d, od') :: rest) → od'.IsDictOf (PySem.intKind prog w) kvs' → KV kvs' (putN l n c) → (∀ p ∈ rest, p.1 ≠ d) → (∀ p ∈ news, p.1 ≠ d → p ∈ rest) → Q () { s with heap := h', toks := s.toks + 1 }) :
    wpAny (model prog w) A (setItem (.ref d) (.int (n : Int) u) (.int c u0)) Q E s := by
  refine take_out N hm fun rest N2 ha hb hc => ?_
  refine kda_set (knd := PySem.intKind prog w) F N2 (UpdF.head ha) hd (intKind_is _ _ _ _) (by rw [hK.length, sizeLine_eq]; omega) fun h' od' F' N' hd' => ?_
  exact h h' rest od' _ F' N' hd' hK.stored ha hb
end
local macro_rules | `(tactic| walk_at "call builtin:dict.get") => `(tactic| (k_here; (with_reducible show wpAny _ _ (call (Value.builtin "dict.get") [Value.ref _, Value.int _ _, Value.int _ _]) _ _ _); k_dflt (refine' led_get ?N ?m ?d ?K ?o ?_; (case N => k_asm); (case m => k_mem); (case d => k_asm); (case K => k_asm); (case o => k_asm)); intro tG))
theorem clean_M18 : True := by
  w_top off
  k_with "setItem ref int" => ((k_here; (with_reducible show wpAny _ _ (setItem (Value.ref _) (Value.int _ _) (Value.int _ _)) _ _ _); k_dflt (refine' led_setI ?Fz41 ?Nz41 ?lz41 ?dz41 ?Kz41 ?zz41 ?_; (case Fz41 => k_asm); (case Nz41 => k_asm); (case lz41 => k_mem); (case dz41 => k_asm); (case Kz41 => k_asm); (case zz41 => assumption)); intro hD rD oD kD FD NDD dD KD aD bD))
  k_with "call builtin:dict.items" => ((k_here; (with_reducible show wpAny _ _ (call (Value.builtin "dict.items") [Value.ref _]) _ _ _); k_dflt (refine' led_items ?Fz42 ?Nz42 ?lz42 ?dz42 ?oz42 ?_; (case Fz42 => k_asm); (case Nz42 => k_asm); (case lz42 => k_mem); (case dz42 => k_asm); (case oz42 => k_asm)); intro DV hV FV NV lV))
  k_with "getMethod ref" => ((k_here; (with_reducible show wpAny _ _ (getMethod (Value.ref _) (Str.ofString "items") _) _ _ _); k_dflt (refine' led_itemsM ?k1z43 ?k2z43 ?k3z43 ?_; (case k1z43 => k_asm); (case k2z43 => k_mem); (case k3z43 => k_asm); k_whole)))
  k_with "getMethod ref" => ((k_here; (with_reducible show wpAny _ _ (getMethod (Value.ref _) (Str.ofString "get") _) _ _ _); k_dflt (refine' led_getM ?k1z44 ?k2z44 ?k3z44 ?_; (case k1z44 => k_asm); (case k2z44 => k_mem); (case k3z44 => k_asm); k_whole)))
  k_with "my call" => (refine stop ?_)
  trivial
section
local macro_rules | `(tactic| walk_at "exec While Name cons nil") => `(tactic| refine stop ?_)
local macro_rules | `(tactic| k_mem) => `(tactic| first | exact List.Mem.tail _ (by assumption) | exact List.Mem.tail _ (List.Mem.tail _ (by assumption)))
theorem c_plain (w : World) (news : Led) (pl : Addr) (pvs : List Value) (pn : Nat) (ps : List (Nat × Int)) (hm : (pl, listOf pvs.toArray pn) ∈ news) (hB : Bag news pvs ps) (hz : ps.length ≤ 50) :
    ConD w 10 100 news 288 [.ref pl] []
   (fun r news' => ∃ d od kvs l, r = .ref d ∧ (d, od) ∈ news' ∧ od.IsDictOf (PySem.intKind PG w) kvs ∧ KV kvs l ∧ DT ps l ∧ l.length ≤ ps.length ∧ (d == sysModules) = false ∧ ∀ p ∈ news, p ∈ news') := by
  unfold ConD
  intro p loose mean mg mb dp un gd cn cs ad ccd cl outer A₀ base h₀ L m s Q E B F X N T hk hd hu hret
  dsimp only [KK] at X
  refine wpAny_call ?_
  k_dflt (walk_at "my_enter")
  k_with "my call" => (refine stop ?_)
  k_steps
  unfold Stop
  rename_i d hX od l1 lo hs0 fs0 hi0 fi0 hF FF NF
  clear hs0 fs0 fi0
  refine wpAny_For ?_
  k_steps
  unfold Stop
  refine for_listN rfl (.tail _ hm) FF NF (fun i m nx => m (PySem.Str.ofString "plain") = some (.ref d) ∧ ∃ od kvs l, (d, od) ∈ nx ∧ od.IsDictOf (PySem.intKind PG w) kvs ∧ KV kvs l ∧ DT (ps.take i) l ∧ l.length ≤ i ∧ ∀ p ∈ news, p ∈ nx) (fun i m nx hJ => ?_) ?_ ?_ ?_ ?_
  · obtain ⟨_, _, _, _, _, _, _, _, _, h9⟩ := hJ
    exact h9 _ hm
  · exact ⟨rfl, od, [], [], .head _, hi0, .nil, .nil, Nat.le_refl _, fun p hp => .tail _ hp⟩
  · intro I i v m₁ nx h tk dr oI hI hv hJ hIne hcI hIz F1 N1
    refine gen_r fun R9 hR9 => ?_
    refine Classical.byContradiction fun hG9 => ?_
    obtain ⟨e1, od, kvs, l, j1, j2, j3, j4, j5, j6⟩ := hJ
    refine hG9 ?_
    clear hG9
    replace F1 := know1 F1 e1
    clear FF NF hi0
    refine Classical.byContradiction fun hG9 => ?_
    obtain ⟨q, t1, t2, sz, ct, rfl, hi, hq⟩ := hB.at i v hv
    refine hG9 ?_
    clear hG9
    have hq2 := List.Mem.tail (I, oI) (j6 _ hq)
    have mm1 := List.Mem.tail (I, oI) j1
    have hil : i < ps.length := (List.getElem?_eq_some_iff.mp hi).1
    have hlz : l.length ≤ 1000 := by omega
    k_steps
    have hId : I ≠ d := fun e => hIne (d, od) j1 e.symm
    refine hR9 _ _ ?_
    refine ⟨_, _, _, _, _, rfl, FD, NDD, .tail _ (bD _ (.head _) hId), fun nx9 h9 => ⟨rfl, oD, kD, putN l sz (lookN l sz + ct), h9 _ (.head _) (Ne.symm hId), dD, KD, ?_, Nat.le_trans putN_len (by omega), fun p hp => h9 p (.tail _ (bD p (.tail _ (j6 p hp)) (Nat.ne_of_lt (l1 p hp)))) (hIne p (j6 p hp))⟩⟩
    rw [List.take_add_one, hi, j4.look]
    exact j4.put sz ct
  · intro h tk dr m' nx F1 N1 hJ
    refine Classical.byContradiction fun hG9 => ?_
    obtain ⟨e1, od, kvs, l, j1, j2, j3, j4, j5, j6⟩ := hJ
    refine hG9 ?_
    clear hG9
    replace F1 := know1 F1 e1
    clear FF NF
    rw [hB.length] at j5
    rw [hB.length, List.take_length] at j4
    k_steps
    rename_i kF kN _ _
    exact hret _ _ _ _ _ kF kN ⟨d, od, kvs, l, rfl, j1, j2, j3, j4, j5, lo, j6⟩
  · passes_own
end
def sp (k : Nat) : Nat → Nat → Nat → Nat × Nat
  | 0, s, p => (s, p)
  | f + 1, s, p => if s % k = 0 then sp k f (s / k) (p * k) else (s, p)
theorem sp_stop {k f s p : Nat} (h : ¬ s % k = 0) : sp k f s p = (s, p) := by
  cases f with
  | zero => rfl
  | succ f => rw [sp, if_neg h]
theorem sp_step {k f s p : Nat} (h : s % k = 0) : sp k (f + 1) s p = sp k f (s / k) (p * k) := by rw [sp, if_pos h]
/-- what forth owes of a size -/
def due (ps : List (Nat × Int)) (k s : Nat) : Int := (k : Int) * tot ps (k * s) + tot ps (sp k 17 s 1).1 / ((sp k 17 s 1).2 : Int) % (k : Int)
section
variable {prog : Program} {w : World} {A : Around} {E : Value → Shared → Prop} {s : Shared} {h₀ : Heap} {L d : Addr} {m : PySem.Str → Option Value} {news : Led} {od : Obj} {kvs : List (Int × Value)} {l ps : List (Nat × Int)} {n : Nat} {key : Int} {u u0 : Tok}
theorem led_getT {Q : Value → Shared → Prop} (N : News h₀ L s.heap news) (hm : (d, od) ∈ news) (hd : od.IsDictOf (PySem.intKind prog w) kvs) (hK : KV kvs l) (hT : DT ps l) (lo : (d == sysModules) = false) (hk : key = (n : Int)) (h : ∀ t, Q (.int (tot ps n) t) { s with toks := s.toks + 1 }) :
    wpAny (model prog w) A (call (.builtin "dict.get") [.ref d, .int key u, .int 0 u0]) Q E s := by
  subst hk
  refine led_get N hm hd hK lo fun t => ?_
  rw [hT.look]; exact h t
end
local macro_rules | `(tactic| walk_at "call builtin:dict.get") => `(tactic| (k_here; (with_reducible show wpAny _ _ (call (Value.builtin "dict.get") [Value.ref _, Value.int _ _, Value.int _ _]) _ _ _); k_dflt (refine' led_getT ?N ?m ?d ?K ?T ?o ?hk ?_; (case N => k_asm); (case m => k_mem); (case d => k_asm); (case K => k_asm); (case T => k_asm); (case o => k_asm); (case hk => first | exact (Int.natCast_mul _ _).symm | rfl)); intro tG))
theorem clean_M19 : True := by
  w_top off
  k_with "my call" => (refine stop ?_)
  trivial
section
local macro_rules | `(tactic| walk_at "exec While Name cons nil") => `(tactic| refine stop ?_)
local macro_rules | `(tactic| k_mem) => `(tactic| first | exact List.Mem.tail _ (by assumption) | exact List.Mem.tail _ (List.Mem.tail _ (by assumption)))
theorem c_due (w : World) (news : Led) (d : Addr) (od : Obj) (kvs : List (Int × Value)) (l ps : List (Nat × Int)) (sz k : Nat) (ts tk0 : Tok) (hm : (d, od) ∈ news) (hd0 : od.IsDictOf (PySem.intKind PG w) kvs) (hK : KV kvs l) (hT : DT ps l) (lo : (d == sysModules) = false) (hs0 : 0 < sz) (hs1 : sz ≤ 100000) (hk2 : 2 ≤ k) (hk17 : k ≤ 17) (hb : ∀ n, 0 ≤ tot ps n ∧ tot ps n ≤ 100000) :
    ConD w 10 100 news 295 [.ref d, .int sz ts, .int k tk0] []
   (fun r news' => (∃ t, r = .int (due ps k sz) t) ∧ news' = news) := by
  unfold ConD
  intro p loose mean mg mb dp un gd cn cs ad ccd cl outer A₀ base h₀ L m s Q E B F X N T hk hd hu hret
  dsimp only [KK] at X
  refine wpAny_call ?_
  k_dflt (walk_at "my_enter")
  k_with "my call" => (refine stop ?_)
  k_steps
  unfold Stop
  rename_i FF NF
  refine While_invD (n₀ := 17) (fun n m nx => ∃ (st pw : Nat) (t1 t2 : Tok), nx = news ∧ m (PySem.Str.ofString "plain") = some (.ref d) ∧ m (PySem.Str.ofString "size") = some (.int sz ts) ∧ m (PySem.Str.ofString "k") = some (.int k tk0) ∧ m (PySem.Str.ofString "stem") = some (.int st t1) ∧ m (PySem.Str.ofString "power") = some (.int pw t2) ∧ 0 < st ∧ st < 2 ^ n ∧ 0 < pw ∧ st * pw ≤ 100000 ∧ sp k n st pw = sp k 17 sz 1) FF NF ?_ ?_ ?_
  · exact ⟨sz, 1, _, _, rfl, rfl, rfl, rfl, rfl, rfl, hs0, by omega, by omega, by omega, rfl⟩
  · rintro n m₂ nx h₂ tk₂ dr₂ F2 N2 ⟨st, pw, t1, t2, rfl, g1, g2, g3, g4, g5, hst, hlt, hpw, hmul, hsp⟩
    replace F2 := know5 F2 g1 g2 g3 g4 g5
    refine gen_w fun R9 hR9 => ?_
    clear FF NF
    have hst1 : st ≤ 100000 := Nat.le_trans (Nat.le_mul_of_pos_right st hpw) hmul
    have hpw1 : pw ≤ 100000 := Nat.le_trans (Nat.le_mul_of_pos_left pw hst) hmul
    have hf1 : (st : Int).fmod (k : Int) = ((st % k : Nat) : Int) := by rw [Int.fmod_eq_emod_of_nonneg _ (by omega), Int.natCast_emod]
    have hf2 : (st : Int).fdiv (k : Int) = ((st / k : Nat) : Int) := by rw [Int.fdiv_eq_ediv_of_nonneg _ (by omega), Int.natCast_ediv]
    have hb1 := hb (k * sz)
    have hb2 := hb st
    k_steps
    · rename_i hz ha9 hb9 F5 N5
      have hz' : st % k = 0 := by rw [hf1] at hz; omega
      simp only [hf2] at F5
      obtain ⟨g, rfl⟩ : ∃ g, n = g + 1 := by
        cases n with
        | zero => simp at hlt; omega
        | succ g => exact ⟨g, rfl⟩
      rw [sp_step hz'] at hsp
      have hcw := (cut_weight hk2 hst hz' 0).1
      have hmm : st / k * (pw * k) = st * pw := by
        rw [Nat.mul_comm pw k, ← Nat.mul_assoc, Nat.div_mul_cancel (Nat.dvd_of_mod_eq_zero hz')]
      exact hR9 _ _ ⟨_, _, _, _, _, g, rfl, F5, N5, Nat.lt_succ_self g, st / k, pw * k, _, _, rfl, rfl, rfl, rfl, rfl, (by rw [Int.natCast_mul]; rfl), hcw, cut_lt hk2 hlt, Nat.mul_pos hpw (by omega), by rw [hmm]; exact hmul, hsp⟩
    · have hz : (st : Int).fmod (k : Int) ≠ 0 := by assumption
      rename_i kF kN _ _
      have hz' : ¬ st % k = 0 := by rw [hf1] at hz; omega
      rw [sp_stop hz'] at hsp
      have hv : (k : Int) * tot ps (k * sz) + ((tot ps st).fdiv (pw : Int)).fmod (k : Int) = due ps k sz := by
        unfold due
        rw [← hsp, Int.fdiv_eq_ediv_of_nonneg _ (by omega), Int.fmod_eq_emod_of_nonneg _ (by omega)]
      exact hret _ _ _ _ _ kF kN ⟨⟨_, by rw [hv]⟩, rfl⟩
  · passes_own
end
section
variable {prog : Program} {w : World} {A : Around} {E : Value → Shared → Prop} {s : Shared}
/-- a comprehension over enumerate of a list of the ledger, whose element calls no own def -/
theorem comp_enum {h₀ : Heap} {elt iter : Expr} {a b : PySem.Str} {pa pb tp : Pos} {kk : Nat} {scope : Scope} {cl : List (PySem.Str × Addr)} {pos : Pos} {env : Env} {m : PySem.Str → Option Value} {news : Led} {Q : Value → Shared → Prop} {use : Option (Value → Sem Unit)} {l : Addr} {xs : List Value} {nn : Nat}
    (hh : A.handled = none) (hm : (l, listOf xs.toArray nn) ∈ news) (hsz : xs.length ≤ 1000) (F : Fr h₀ env.locals s.heap m) (N : News h₀ env.locals s.heap news) (hcell : ∀ y ∈ scope.names, y.2 ≠ .cell) (hkind : scope.kind = .function)
    (hka : ∀ C, (compEnvC scope cl C env).kindOf a = some .local) (hkb : ∀ C, (compEnvC scope cl C env).kindOf b = some .local)
    (J : Nat → List Value → Prop) (h0 : J 0 [])
    (turn : ∀ I it C D oL, NsO oL m → env.locals ≠ C → h₀.objs.size ≤ env.locals → ∀ i x t vs nD (mC : PySem.Str → Option Value) h tk oI ot, xs[i]? = some x → J i vs →
      Fr h₀ C h (fun z => if z = b then some x else if z = a then some (.int (i : Nat) t) else mC z) → News h₀ C h ((I, oI) :: (it, ot) :: (D, listOf vs.toArray nD) :: (env.locals, oL) :: news) →
      wpAny (model prog w) A (eval elt (compEnvC scope cl C env)) (fun v s₄ => Stop (∃ h' tk' mC' nx', s₄ = { s with heap := h', toks := tk' } ∧ Fr h₀ C h' mC' ∧ News h₀ C h' nx' ∧ (∀ p ∈ ((I, oI) :: (it, ot) :: (D, listOf vs.toArray nD) :: (env.locals, oL) :: news : Led), p ∈ nx') ∧ J (i + 1) (vs ++ [v]))) (fun _ _ => False) { s with heap := h, toks := tk })
    (done : ∀ C oL h tk D vs nD mC, NsO oL m → env.locals ≠ C → D ≠ env.locals → h₀.objs.size ≤ env.locals → Fr h₀ C h mC → News h₀ C h ((D, listOf vs.toArray nD) :: (env.locals, oL) :: news) → (∀ p ∈ news, p.1 < D) → J xs.length vs → compPost (model prog w) A E use Q (.ref D) C (.ok .next) { s with heap := h, toks := tk }) :
    wpAny (model prog w) A (call (.type "enumerate") [.ref l]) (fun x s₁ => wpAny (model prog w) A (pyIter x) (fun it s₂ => wpAny (model prog w) A (newList []) (fun acc s₃ => wpAny (model prog w) A (newFunctionEnv scope env.globals cl [] env.qual none .none (some env)) (fun cenv s₄ =>
      codeAny (model prog w) A (.compStart (.ListComp elt [⟨.Tuple [.Name a pa, .Name b pb] kk tp, iter, [], 0⟩] scope pos) 0 it acc { cenv with scope := relabel scope env }) (compPost (model prog w) A E use Q acc cenv.locals) s₄) E s₃) E s₂) E s₁) E s := by
  have hls := led_list N hm
  refine call_enumerate_list hls fun hE he hit hz hk => ?_
  refine wpAny_pyIter_enum he ?_
  refine wpAny_newObj_type (wpAny_newFunctionEnv hcell (by intro y hy; simp at hy) (fun h₁ hns₁ hsb₁ => ?_) hkind)
  dsimp only at hns₁ hsb₁ ⊢
  generalize hH2 : hE.push { cls := .type "list", dict := none, data := .seq ([] : List Value).toArray } = H2 at hns₁ hsb₁ ⊢
  generalize hzz : s.heap.objs.size = z at he hit hz
  rw [hz]
  have hC2 : H2.objs.size = z + 3 := by rw [← hH2, Heap.size_push, hz]
  rw [hC2] at hns₁ hsb₁ ⊢
  have old : ∀ c o, hE.get? c = some o → h₁.get? c = some o := fun c o e => hsb₁.extBut c o (by have h9 : @LT.lt Nat _ c hE.objs.size := Heap.lt_size e; show @Ne Nat c (z + 3); omega) (Heap.get?_push_of_some _ (hH2 ▸ Heap.get?_push_of_some _ e))
  have old0 : ∀ c o, s.heap.get? c = some o → h₁.get? c = some o := fun c o e => old c o (hk c o e)
  have hDobj : h₁.get? (z + 2) = some (listOf ([] : List Value).toArray 0) := hsb₁.extBut _ _ (by show @Ne Nat (z + 2) (z + 3); omega) (Heap.get?_push_of_some _ (by rw [← hH2, ← hz]; exact Heap.get?_push_size _ rfl))
  have hlt : ∀ p ∈ news, @LT.lt Nat _ p.1 z := fun p hp => by rw [← hzz]; exact Heap.lt_size (N p hp).1
  have hLlt : @LT.lt Nat _ env.locals z := by rw [← hzz]; exact F.ns.lt
  have hllt : @LT.lt Nat _ l z := hlt _ hm
  have none_of : ∀ c : Nat, z ≤ c → h₀.get? c = none := fun c hc => by
    cases e : h₀.get? c with
    | none => rfl
    | some o' =>
      have h9 : @LT.lt Nat _ c s.heap.objs.size := Heap.lt_size (F.keep _ _ e)
      omega
  obtain ⟨oL, hoL, hmL⟩ := ns_obj F.ns
  have hL0 : h₀.get? env.locals = none := by
    cases e : h₀.get? env.locals with
    | none => rfl
    | some o' => exact absurd (Heap.lt_size e) (Nat.not_lt.mpr F.above)
  have hab : h₀.objs.size ≤ z := Nat.le_trans F.above (Nat.le_of_lt hLlt)
  have FC : Fr h₀ (z + 3) h₁ (fun x => ([] : List (PySem.Str × Value)).reverse.lookup x) := ⟨hns₁, fun c o e => old0 c o (F.keep c o e), by show @LE.le Nat _ _ (z + 3); omega⟩
  have NC : News h₀ (z + 3) h₁ ((z + 2, listOf ([] : List Value).toArray 0) :: (env.locals, oL) :: news) := fun p hp => by
    rcases List.mem_cons.mp hp with rfl | hp
    · exact ⟨hDobj, by show @Ne Nat (z + 2) (z + 3); omega, none_of (z + 2) (by omega)⟩
    · rcases List.mem_cons.mp hp with rfl | hp
      · exact ⟨old0 _ _ hoL, by show @Ne Nat env.locals (z + 3); omega, hL0⟩
      · exact ⟨old0 _ _ (N p hp).1, by have := hlt p hp; show @Ne Nat p.1 (z + 3); omega, (N p hp).2.2⟩
  have nin : ∀ c : Nat, c ≠ z + 1 → c ≠ z → ¬ ((c : Addr) ∈ [((z + 1 : Nat) : Addr), z]) := fun c h1 h2 => by
    simp only [List.mem_cons, List.not_mem_nil, or_false, not_or]
    exact ⟨h1, h2⟩
  have W := WalksT.enumerate (prog := prog) (w := w) hh (z + 1) z l (by show @Ne Nat (z + 1) z; omega) (by show @Ne Nat l (z + 1); omega) (by show @Ne Nat l z; omega) xs.toArray
  have hlen : xs.toArray.size = xs.length := by simp
  rw [hlen] at W
  have hst₁ : (∃ old, IsEnum h₁ (z + 1) z (0 : Nat) old) ∧ h₁.IsListIter z l 0 ∧ h₁.IsList l xs.toArray := ⟨⟨_, old _ _ he⟩, hit.at fun o x => old _ o x, hls.at fun o x => old0 _ o x⟩
  have loop : ∀ s₃ : Shared, s₃ = { s with heap := h₁, toks := s.toks + ([] : List (PySem.Str × Value)).length } →
      codeAny (model prog w) A (.compLoop (.ListComp elt [⟨.Tuple [.Name a pa, .Name b pb] kk tp, iter, [], 0⟩] scope pos) 0 (.ref (z + 1)) (.ref (z + 2)) (compEnvC scope cl (z + 3) env))
        (compPost (model prog w) A E use Q (.ref (z + 2)) (z + 3)) s₃ := by
    rintro s₃ rfl
    refine compLoop_any
      (fun k s' => ∃ h' tk mC nD vs i, s' = { s with heap := h', toks := tk } ∧ ((∃ old, IsEnum h' (z + 1) z (i : Nat) old) ∧ h'.IsListIter z l i ∧ h'.IsList l xs.toArray) ∧ Fr h₀ (z + 3) h' mC ∧ News h₀ (z + 3) h' ((z + 2, listOf vs.toArray nD) :: (env.locals, oL) :: news) ∧ J i vs ∧ vs.length ≤ i ∧ i ≤ xs.length ∧ k = xs.length + 1 - i) ?_ (xs.length + 1)
      ⟨h₁, _, _, 0, [], 0, rfl, hst₁, FC, NC, h0, Nat.le_refl _, Nat.zero_le _, rfl⟩
    rintro k s' ⟨h', tk, mC, nD, vs, i, rfl, hst', F', N', hJ, hvl, hi, rfl⟩
    have next : ∀ h₂ h₃ : Heap, Fr h₀ (z + 3) h₂ mC → News h₀ (z + 3) h₂ ((z + 2, listOf vs.toArray nD) :: (env.locals, oL) :: news) → (∀ c o, c ∉ [z + 1, z] → h₂.get? c = some o → h₃.get? c = some o) → Fr h₀ (z + 3) h₃ mC ∧ News h₀ (z + 3) h₃ ((z + 2, listOf vs.toArray nD) :: (env.locals, oL) :: news) := fun h₂ h₃ F2 N2 hk₃ =>
      ⟨⟨F2.ns.at' fun o e => hk₃ _ o (nin _ (by omega) (by omega)) e, fun c o e => hk₃ c o (by
          have h9 : @LT.lt Nat _ c h₀.objs.size := Heap.lt_size e
          exact nin c (by omega) (by omega)) (F2.keep c o e), F2.above⟩,
        fun p hp => ⟨hk₃ _ _ (by
          rcases List.mem_cons.mp hp with rfl | hp
          · exact nin (z + 2) (by omega) (by omega)
          · rcases List.mem_cons.mp hp with rfl | hp
            · exact nin env.locals (by omega) (by omega)
            · have := hlt p hp
              exact nin p.1 (by omega) (by omega)) (N2 p hp).1, (N2 p hp).2⟩⟩
    by_cases hlt' : i < xs.length
    · refine W.item i _ _ _ hlt' hst' fun T vals h3 tk3 hPt hTge hT hMid hk3 => ?_
      refine Classical.byContradiction fun hG9 => ?_
      obtain ⟨t, x, hx, rfl⟩ := hPt
      obtain ⟨F3, N3⟩ := next h' h3 F' N' hk3
      refine hG9 ?_
      clear hG9
      have hTa := W.apart _ _ _ hMid
      refine W.go _ _ _ i T _ _ _ hMid fun h4 hSt4 hk4 => ?_
      obtain ⟨F4, N4⟩ := next h3 h4 F3 N3 hk4
      have hT4 : h4.IsTuple T #[.int i t, x] := hT.at fun o e => hk4 _ o hTa e
      refine kcp_assign hh hT4 (hka _) (hkb _) (by show ((relabel scope env).kind == .class || ((relabel scope env).kind == .module && _)) = false; rw [show (relabel scope env).kind = .function from hkind]; rfl) F4.ns fun h5 tk5 hns5 hk5 => ?_
      rw [List.forIn_nil]
      refine wpAny_pure ?_
      rw [if_pos rfl]
      have F5 : Fr h₀ (z + 3) h5 (fun z => if z = b then some x else if z = a then some (.int i t) else mC z) := ⟨hns5, fun c o e => hk5 c o (by have h9 : @LT.lt Nat _ c h₀.objs.size := Heap.lt_size e; show @Ne Nat c (z + 3); omega) (F4.keep c o e), F4.above⟩
      have N5 : News h₀ (z + 3) h5 ((z + 2, listOf vs.toArray nD) :: (env.locals, oL) :: news) := fun p hp => ⟨hk5 _ _ (N4 p hp).2.1 (N4 p hp).1, (N4 p hp).2⟩
      have hSt5 : (∃ old, IsEnum h5 (z + 1) z ((i + 1 : Nat) : Int) old) ∧ h5.IsListIter z l (i + 1) ∧ h5.IsList l xs.toArray := W.frame _ _ _ hSt4 fun c hc o e => hk5 c o (by
        simp only [List.mem_cons, List.not_mem_nil, or_false] at hc
        rcases hc with rfl | rfl | rfl
        · show @Ne Nat (z + 1) (z + 3); omega
        · show @Ne Nat c (c + 3); omega
        · show @Ne Nat c (z + 3); omega) e
      refine Classical.byContradiction fun hG9 => ?_
      obtain ⟨⟨old5, ho5⟩, hi5, hl5⟩ := hSt5
      obtain ⟨ot5, hot5, hot5'⟩ := id hi5
      refine hG9 ?_
      clear hG9
      have N6 : News h₀ (z + 3) h5 ((z + 1, _) :: (z, ot5) :: (z + 2, listOf vs.toArray nD) :: (env.locals, oL) :: news) := fun p hp => by
        rcases List.mem_cons.mp hp with rfl | hp
        · exact ⟨ho5, by show @Ne Nat (z + 1) (z + 3); omega, none_of (z + 1) (by omega)⟩
        · rcases List.mem_cons.mp hp with rfl | hp
          · exact ⟨hot5, by show @Ne Nat z (z + 3); omega, none_of z (Nat.le_refl _)⟩
          · exact N5 p hp
      refine wpAny_mono (turn (z + 1) z (z + 3) (z + 2) oL hmL (by show @Ne Nat env.locals (z + 3); omega) F.above i x t vs nD mC h5 tk5 _ ot5 (by simpa using hx) hJ F5 N6) (fun v s₄ h₄ => ?_) fun _ _ e => e
      refine Classical.byContradiction fun hG9 => ?_
      obtain ⟨h7, tk7, mC7, nx7, rfl, F7, N7, hin7, hJ7⟩ := h₄
      refine hG9 ?_
      clear hG9
      refine led_append F7 N7 (hin7 _ (.tail _ (.tail _ (.head _)))) (by rw [sizeLine_eq]; omega) fun h8 rest F8 N8 ha hb hc => ?_
      refine ⟨xs.length + 1 - (i + 1), by omega, h8, tk7, mC7, nD + 1, vs ++ [v], i + 1, rfl, ?_, F8, fun p hp => ?_, hJ7, by rw [List.length_append]; simpa using hvl, hlt', rfl⟩
      · refine W.frame _ h5 _ ⟨⟨old5, ho5⟩, hi5, hl5⟩ fun c hc o e => ?_
        simp only [List.mem_cons, List.not_mem_nil, or_false] at hc
        rcases hc with rfl | rfl | rfl
        · rw [ho5] at e; cases e
          exact (N8 _ (.tail _ (hb _ (hin7 _ (.head _)) (by show @Ne Nat (z + 1) (z + 2); omega)))).1
        · rw [hot5] at e; cases e
          exact (N8 _ (.tail _ (hb _ (hin7 _ (.tail _ (.head _))) (by show @Ne Nat c (c + 2); omega)))).1
        · have e1 := (N6 _ (.tail _ (.tail _ (.tail _ (.tail _ hm))))).1
          simp only at e1
          rw [e1] at e; cases e
          exact (N8 _ (.tail _ (hb _ (hin7 _ (.tail _ (.tail _ (.tail _ (.tail _ hm))))) (by show @Ne Nat c (z + 2); omega)))).1
      · rcases List.mem_cons.mp hp with rfl | hp
        · exact N8 _ (.head _)
        · rcases List.mem_cons.mp hp with rfl | hp
          · exact N8 _ (.tail _ (hb _ (hin7 _ (.tail _ (.tail _ (.tail _ (.head _))))) (by show @Ne Nat env.locals (z + 2); omega)))
          · exact N8 _ (.tail _ (hb _ (hin7 _ (.tail _ (.tail _ (.tail _ (.tail _ hp))))) (by have := hlt p hp; show @Ne Nat p.1 (z + 2); omega)))
    · have hin : i = xs.length := by omega
      subst hin
      refine W.done _ _ _ hst' fun h3 tk3 hk3 => ?_
      obtain ⟨F3, N3⟩ := next h' h3 F' N' hk3
      exact done (z + 3) oL h3 tk3 (z + 2) vs nD mC hmL (by show @Ne Nat env.locals (z + 3); omega) (by show @Ne Nat (z + 2) env.locals; omega) F.above F3 N3 (fun p hp => by have := hlt p hp; show @LT.lt Nat _ p.1 (z + 2); omega) hJ
  exact codeAny_compStart_list (loop _ rfl) (W.self 0 _ _ _ hst₁ (loop _ rfl))
end
section
open PySem.SeqAt
def pr (e : Nat × Int) : PyData := .tuple [.int e.1, .int e.2]
theorem readsAll_bag {h₀ h : Heap} {L : Addr} {news : Led} (N : News h₀ L h news) : ∀ {vs : List Value} {b : List (Nat × Int)}, Bag news vs b → ReadsAll h vs (b.map pr) []
  | _, _, .nil => .nil
  | _, _, @Bag.cons _ q t1 t2 s c vs b g r => by
    have ht : ReadsAll h [Value.int (s : Int) t1, Value.int c t2] [PyData.int s, PyData.int c] ([] ++ ([] ++ [])) := .cons (.int _ _) (.cons (.int _ _) .nil)
    have h1 : Reads h (.ref q) (pr (s, c)) [] := Reads.tuple (N _ g).1 rfl rfl ht
    have := ReadsAll.cons h1 (readsAll_bag N r)
    simpa using this
theorem canLay_bag : ∀ b : List (Nat × Int), PyData.canLayAll0 (b.map pr) = true
  | [] => by simp [PyData.canLayAll0]
  | e :: r => by simp [PyData.canLayAll0, PyData.canLay0, pr, canLay_bag r]
theorem depth_bag : ∀ b : List (Nat × Int), PyData.depthAll (b.map pr) ≤ 1
  | [] => by simp [PyData.depthAll]
  | e :: r => by
    have := depth_bag r
    simp only [List.map_cons, PyData.depthAll, PyData.depth, pr]
    omega
theorem shaped_bag (b : List (Nat × Int)) : shaped (.list (b.map pr)) = true := by
  have h1 := depth_bag b
  have h2 : PyData.depth (.list (b.map pr)) ≤ 64 := by simp only [PyData.depth]; omega
  show (PyData.canLay0 (.list (b.map pr)) && decide (PyData.depth (.list (b.map pr)) ≤ 64)) = true
  rw [Bool.and_eq_true]
  exact ⟨by simp only [PyData.canLay0]; exact canLay_bag b, decide_eq_true h2⟩
theorem noMix_bag : ∀ x y : List (Nat × Int), noMixAll (x.map pr) (y.map pr) = true
  | [], [] => by simp [noMixAll]
  | [], _ :: _ => by simp [noMixAll]
  | _ :: _, [] => by simp [noMixAll]
  | e :: r, f :: q => by simp [noMixAll, noMix, pr, noMix_bag r q]
theorem same_bag : ∀ x y : List (Nat × Int), PySem.Spec.sameAll (x.map pr) (y.map pr) = decide (x = y)
  | [], [] => by simp [PySem.Spec.sameAll]
  | [], _ :: _ => by simp [PySem.Spec.sameAll]
  | _ :: _, [] => by simp [PySem.Spec.sameAll]
  | (a, b) :: r, (c, d) :: q => by
    simp only [List.map_cons, PySem.Spec.sameAll, pr, PySem.Spec.same]
    have ih := same_bag r q
    rw [ih]
    by_cases h1 : a = c <;> by_cases h2 : b = d <;> by_cases h3 : r = q <;> simp [h1, h2, h3] <;> omega
variable {prog : Program} {w : World} {A : Around} {E : Value → Shared → Prop} {s : Shared} {h₀ : Heap} {L : Addr} {news : Led}
theorem reads_bag {a : Addr} {vs : List Value} {n : Nat} {x : List (Nat × Int)} (N : News h₀ L s.heap news) (hm : (a, listOf vs.toArray n) ∈ news) (hB : Bag news vs x) : Reads s.heap (.ref a) (.list (x.map pr)) [a] :=
  Reads.list (N _ hm).1 rfl rfl (by simpa using readsAll_bag N hB)
theorem led_eqBag {a b : Addr} {vs us : List Value} {n k : Nat} {x y : List (Nat × Int)} {Q : Value → Shared → Prop} (N : News h₀ L s.heap news) (hm : (a, listOf vs.toArray n) ∈ news) (hm' : (b, listOf us.toArray k) ∈ news) (hB : Bag news vs x) (hB' : Bag news us y) (hu : A.units + 64 < cLine)
    (h : Q (.bool (decide (x = y))) s) : wpAny (model prog w) A (compareOp .Eq (.ref a) (.ref b)) Q E s :=
  eq_dataH_same (reads_bag N hm hB) (reads_bag N hm' hB') (shaped_bag x) (shaped_bag y) hu (by simp only [noMix]; exact noMix_bag x y) (by simp only [PySem.Spec.same]; rw [same_bag]; exact h)
theorem led_neBag {a b : Addr} {vs us : List Value} {n k : Nat} {x y : List (Nat × Int)} {Q : Value → Shared → Prop} (N : News h₀ L s.heap news) (hm : (a, listOf vs.toArray n) ∈ news) (hm' : (b, listOf us.toArray k) ∈ news) (hB : Bag news vs x) (hB' : Bag news us y) (hu : A.units + 64 < cLine)
    (h : Q (.bool (!decide (x = y))) s) : wpAny (model prog w) A (compareOp .NotEq (.ref a) (.ref b)) Q E s :=
  ne_dataH_same (reads_bag N hm hB) (reads_bag N hm' hB') (shaped_bag x) (shaped_bag y) hu (by simp only [noMix]; exact noMix_bag x y) (by simp only [PySem.Spec.same]; rw [same_bag]; exact h)
end
section
variable {prog : Program} {w : World} {A : Around} {E : Value → Shared → Prop} {s : Shared} {h₀ : Heap} {L l : Addr} {m : PySem.Str → Option Value} {news : Led} {vs : List Value} {b : List (Nat × Int)}
theorem sort_core {D : Addr} {e1 : Nat} {h' : Heap} {C : Shared → Prop} (F' : Fr h₀ L h' m) (N' : News h₀ L h' ((D, seqObj "list" #[] e1) :: news)) (hlt : ∀ q ∈ news, q.1 ≠ D) (hB : Bag news vs b) (h2 : 2 ≤ b.length) (h64 : b.length < 64) (hnd : (b.map (·.1)).Nodup)
    (h : ∀ e h3 vs' b', Fr h₀ L h3 m → News h₀ L h3 ((D, listOf vs'.toArray e) :: news) → Bag news vs' b' → b'.Pairwise (fun x y => x.1 < y.1) → (∀ x, x ∈ b' ↔ x ∈ b) → C { s with heap := h3 }) :
    wpAny (model prog w) A (keyKind' vs.toArray) (fun κ s' => (kas_sort vs.length).kasWp (kas_ask prog w A κ vs) (fun p s'' => KasFin h₀ L m D e1 (p.toList.map fun i => vs.getD i Value.none) C s'') s') (fun _ _ => False) { s with heap := h' } := by
  have hlen := hB.length
  have N2 : News h₀ L h' news := fun p hp => N' p (.tail _ hp)
  obtain ⟨fs, hf1, hf2, hf3⟩ := bag_tups N2 hB
  refine kat_kind (T := .type "int") hf1 (by omega) (fun v hv => ?_) rfl ?_
  · obtain ⟨k, t, rfl⟩ := hf3 v hv
    exact .now
  have hinj : Inj (fun i => ((b.getD i (0, 0)).1 : Int)) vs.length := by
    intro i j hi hj e
    have e1 : (b.getD i (0, 0)).1 = (b.map (·.1))[i]'(by simp; omega) := by simp [List.getD_eq_getElem?_getD, List.getElem?_eq_getElem (show i < b.length by omega)]
    have e2 : (b.getD j (0, 0)).1 = (b.map (·.1))[j]'(by simp; omega) := by simp [List.getD_eq_getElem?_getD, List.getElem?_eq_getElem (show j < b.length by omega)]
    have e3 : (b.getD i (0, 0)).1 = (b.getD j (0, 0)).1 := Int.ofNat.inj e
    rw [e1, e2] at e3
    by_cases hij : i = j
    · exact hij
    · have hpw := List.pairwise_iff_getElem.mp hnd
      rcases Nat.lt_or_gt_of_ne hij with g | g
      · exact absurd e3 (hpw i j _ _ g)
      · exact absurd e3.symm (hpw j i _ _ g)
  have hat : ∀ i, i < vs.length → vs[i]? = some (vs.getD i Value.none) := fun i hi => by
    rw [List.getD_eq_getElem?_getD, List.getElem?_eq_getElem hi]; rfl
  refine sort_ok (key := fun i => ((b.getD i (0, 0)).1 : Int)) (Inv := fun s' => s' = { s with heap := h' }) hinj ?_ (by omega) rfl ?_
  · rintro i j C s' hi hj hij rfl hC
    obtain ⟨qi, ti1, ti2, si, ci, ei, bi, mi⟩ := hB.at i _ (hat i hi)
    obtain ⟨qj, tj1, tj2, sj, cj, ej, bj, mj⟩ := hB.at j _ (hat j hj)
    have hCC := hC _ rfl
    have hne := fun e => hij (hinj i j hi hj e)
    simp only [List.getD_eq_getElem?_getD, bi, bj, Option.getD_some] at hCC hne
    unfold kas_ask
    rw [ei, ej]
    refine kat_lt (N2 _ mi).1 rfl (N2 _ mj).1 rfl ?_
    refine kat_cons (wpAny_eqBool_int ?_)
    have : ((si : Int) == (sj : Int)) = false := by simpa using hne
    rw [this]
    refine kat_no ?_
    exact oneLt_int hCC
  · rintro p s' rfl hp hS
    refine KasFin.intro F' N' (UpdF.head hlt) fun h3 c F3 N3 => ?_
    refine h c h3 _ (p.toList.map fun i => b.getD i (0, 0)) F3 N3 (hB.pick _ fun i hi => by have := (pr_mem hp i).mp hi; omega) ?_ ?_
    · rw [List.pairwise_map, List.pairwise_iff_getElem]
      intro i j hi hj hij
      have hps : p.toList.length = vs.length := by rw [Array.length_toList]; exact hp.size
      have := hS.lt hij (by omega)
      unfold kp at this
      have e1 : p.getD i 0 = p.toList[i] := by simp [Array.getD, show i < p.size by simpa using hi]
      have e2 : p.getD j 0 = p.toList[j] := by simp [Array.getD, show j < p.size by simpa using hj]
      rw [e1, e2] at this
      exact Int.ofNat_lt.mp this
    · intro x
      rw [List.mem_map]
      constructor
      · rintro ⟨i, hi, rfl⟩
        have := (pr_mem hp i).mp hi
        rw [List.getD_eq_getElem?_getD, List.getElem?_eq_getElem (by omega)]
        exact List.getElem_mem _
      · intro hx
        obtain ⟨i, hi, rfl⟩ := List.mem_iff_getElem.mp hx
        refine ⟨i, (pr_mem hp i).mpr (by omega), ?_⟩
        rw [List.getD_eq_getElem?_getD, List.getElem?_eq_getElem hi]; rfl


theorem lsort_one {v : Value} {nn : Nat} {a : Addr} {Q : Value → Shared → Prop} (F : Fr h₀ L s.heap m) (N : News h₀ L s.heap ((a, listOf [v].toArray nn) :: news)) (hna : ∀ p ∈ news, p.1 ≠ a)
    (h : ∀ e h', Fr h₀ L h' m → News h₀ L h' ((a, listOf [v].toArray e) :: news) → Q .none { s with heap := h' }) :
    wpAny (model prog w) A (call (.builtin "list.sort") [.ref a]) Q E s := by
  have nz := N _ (.head _)
  have hoL : s.heap.get? a = some (seqObj "list" [v].toArray nn) := nz.1
  have haL : a ≠ L := nz.2.1
  have ha0 : h₀.get? a = none := nz.2.2
  have F2 := F
  have N2 : News h₀ L s.heap news := fun p hp => N p (.tail _ hp)
  refine wpAny_call_entry slot_list_sort ⟨_, hoL, rfl⟩ entry_list_sort ?_ (args_list_sort _)
  have s1 := Heap.SameBut.update s.heap a (Obj.mapSeq fun _ => (#[] : Array Value))
  obtain ⟨e1, ho1⟩ : ∃ e1, (s.heap.update a (Obj.mapSeq fun _ => (#[] : Array Value))).get? a = some (seqObj "list" #[] e1) := ⟨_, get?_update_seq hoL fun _ => #[]⟩
  have F3 : Fr h₀ L (((s.heap.update a (Obj.mapSeq fun _ => (#[] : Array Value))).push (seqObj "tuple" [v].toArray 0)).push (seqObj "list" #[] 0)) m := ((kas_fr F2 s1 haL ha0).push _).push _
  have N3 : News h₀ L (((s.heap.update a (Obj.mapSeq fun _ => (#[] : Array Value))).push (seqObj "tuple" [v].toArray 0)).push (seqObj "list" #[] 0)) news :=
    (kas_news N2 s1 hna).grown fun b x e => Heap.get?_push_of_some _ (Heap.get?_push_of_some _ e)
  have ho3 : (((s.heap.update a (Obj.mapSeq fun _ => (#[] : Array Value))).push (seqObj "tuple" [v].toArray 0)).push (seqObj "list" #[] 0)).get? a = some (seqObj "list" #[] e1) := Heap.get?_push_of_some _ (Heap.get?_push_of_some _ ho1)
  rw [list_sort_plain]
  refine wpAny_bind (listItems_at hoL rfl ?_)
  refine wpAny_bind (listUpdate_at hoL rfl ?_ (by size_fits) (Nat.zero_le _))
  refine wpAny_bind (seqEpoch_at ho1 rfl ?_)
  refine wpAny_bind (wpAny_newTuple ?_)
  refine wpAny_bind (wpAny_newList ?_)
  refine wpAny_holding ?_
  show wpAny (model prog w) _ _ _ _ { s with heap := ((s.heap.update a (Obj.mapSeq fun _ => (#[] : Array Value))).push (seqObj "tuple" [v].toArray 0)).push (seqObj "list" #[] 0) }
  dsimp only
  generalize ((s.heap.update a (Obj.mapSeq fun _ => (#[] : Array Value))).push (seqObj "tuple" [v].toArray 0)).push (seqObj "list" #[] 0) = g3 at F3 N3 ho3 ⊢
  have h2v : (#[v] : Array Value).size < 2 := Nat.lt_succ_self 1
  rw [if_pos h2v, if_pos h2v]
  refine wpAny_bind (wpAny_pure ?_)
  rw [StateT.run_pure]
  refine wpAny_bind (wpAny_pure ?_)
  dsimp only
  refine wpAny_bind (seqEpoch_at ho3 rfl ?_)
  have hout : (arrOf (SortSt.mk' general' ([v].toArray.zip [v].toArray) #[] 7 none)).map (·.2) = [v].toArray := by
    show (([v].toArray).zip [v].toArray).map (·.2) = [v].toArray
    apply Array.toList_inj.mp
    rw [Array.toList_map, Array.toList_zip]
    rfl
  rw [hout]
  refine wpAny_bind (listUpdate_at ho3 rfl ?_ (by size_fits) (by show 1 ≤ _; rw [sizeLine_eq]; omega))
  simp only [bne_self_eq_false, Bool.false_eq_true, if_false]
  have s2 := Heap.SameBut.update g3 a (Obj.mapSeq fun _ => [v].toArray)
  obtain ⟨c2, hc2⟩ : ∃ c2, (g3.update a (Obj.mapSeq fun _ => [v].toArray)).get? a = some (seqObj "list" [v].toArray c2) := ⟨_, get?_update_seq ho3 fun _ => [v].toArray⟩
  refine wpAny_pure ⟨_, rfl, h c2 _ (kas_fr F3 s2 haL ha0) (fun p hp => ?_)⟩
  rcases List.mem_cons.mp hp with rfl | hp
  · exact ⟨hc2, haL, ha0⟩
  · exact kas_news N3 s2 hna p hp

theorem led_lsort {nn : Nat} {a : Addr} {Q : Value → Shared → Prop} (F : Fr h₀ L s.heap m) (N : News h₀ L s.heap ((a, listOf vs.toArray nn) :: news)) (hna : ∀ p ∈ news, p.1 ≠ a) (hB : Bag news vs b) (h1 : 1 ≤ b.length) (h64 : b.length < 64) (hnd : (b.map (·.1)).Nodup)
    (h : ∀ e h' vs' b', Fr h₀ L h' m → News h₀ L h' ((a, listOf vs'.toArray e) :: news) → Bag news vs' b' → b'.Pairwise (fun x y => x.1 < y.1) → (∀ x, x ∈ b' ↔ x ∈ b) → Q .none { s with heap := h' }) :
    wpAny (model prog w) A (call (.builtin "list.sort") [.ref a]) Q E s := by
  have hl := hB.length
  by_cases h2 : 2 ≤ b.length
  · refine kat_lsort F N (UpdF.head hna) rfl (by show 2 ≤ vs.length; omega) (by show vs.length < 64; omega) fun e1 h' F' N' => ?_
    exact sort_core F' N' hna hB h2 h64 hnd h
  · obtain ⟨v, rfl⟩ : ∃ v, vs = [v] := List.length_eq_one_iff.mp (by omega)
    obtain ⟨x, rfl⟩ : ∃ x, b = [x] := List.length_eq_one_iff.mp (by omega)
    exact lsort_one F N hna fun e h' F' N' => h e h' [v] [x] F' N' hB (List.pairwise_singleton _ _) fun _ => Iff.rfl
theorem kdxOpen_bag {lo : Addr} {C : List Value → Led → Prop} : ∀ {kvs : List (Int × Value)} {l : List (Nat × Int)}, KV kvs l → ∀ {vs0 : List Value} {tups0 : Led} {l0 : List (Nat × Int)}, Bag tups0 vs0 l0 → (∀ vs tups, Bag tups vs (l0 ++ l) → C vs tups) →
    KdxOpen lo news (kvs.map fun p => (kyVal (PyData.int p.1), p.2)) vs0 tups0 C
  | _, _, .nil, vs0, tups0, l0, hB, h => KdxOpen.nil (h _ _ (by rw [List.append_nil]; exact hB))
  | _, _, .cons r, vs0, tups0, l0, hB, h => by
    rw [List.map_cons]
    refine KdxOpen.cons fun a t h1 h2 h3 => ?_
    refine kdxOpen_bag r (Bag.snoc (t1 := t) (.head _) (hB.mono fun q x hq => .tail _ hq)) fun vs tups hB' => h vs tups ?_
    rw [List.append_assoc] at hB'
    exact hB'
theorem led_sortedItems {d v : Addr} {od : Obj} {kvs : List (Int × Value)} {l : List (Nat × Int)} {Q : Value → Shared → Prop} (hh : A.handled = none) (F : Fr h₀ L s.heap m) (N : News h₀ L s.heap news) (hvw : (v, { cls := .type "dict_items", data := .fields #[.ref d] }) ∈ news) (hmd : (d, od) ∈ news) (hod : od.IsDictOf (PySem.intKind prog w) kvs) (hK : KV kvs l)
    (h1 : 1 ≤ l.length) (h64 : l.length < 64) (hnd : (l.map (·.1)).Nodup)
    (h : ∀ B e h' tk tups vs' b', Fr h₀ L h' m → News h₀ L h' ((B, listOf vs'.toArray e) :: (tups ++ news)) → (∀ q ∈ tups ++ news, q.1 < B) → Bag (tups ++ news) vs' b' → b'.Pairwise (fun x y => x.1 < y.1) → (∀ x, x ∈ b' ↔ x ∈ l) → Q (.ref B) { s with heap := h', toks := tk }) :
    wpAny (model prog w) A (call (.builtin "sorted") [.ref v]) Q E s := by
  refine kdx_sortedN (knd := PySem.intKind prog w) (enc := PyData.int) hh F N hvw hmd hod (by rw [hK.length]; omega) (fun k v hv => ?_) rfl fun lo hlo => ?_
  · obtain ⟨t, rfl⟩ := Value.isInt_shape hv
    exact ⟨t, rfl⟩
  · refine kdxOpen_bag hK .nil fun vs tups hB => ?_
    rw [List.nil_append] at hB
    intro B h' tk hlt F' N'
    refine led_lsort (news := tups ++ news) (s := { s with heap := h', toks := tk }) F' N' (fun p hp => Nat.ne_of_lt (hlt p hp)) (hB.mono fun q a hq => List.mem_append_left _ hq) h1 h64 hnd fun e h3 vs' b' F3 N3 hB3 hp3 hm3 => ?_
    exact h B e h3 tk tups vs' b' F3 N3 hlt hB3 hp3 hm3
end
/-- a cell's part -/
def pt (K : Nat) (c : Int) : Nat × Int := (((1 + c.fmod 4) * (K : Int) ^ ((c.fdiv 4).fmod 3).toNat).toNat, 1 + (c.fdiv 12).fmod 20)
theorem pt_ok {K : Nat} (h2 : 2 ≤ K) (h17 : K ≤ 17) (c : Int) : 0 < (pt K c).1 ∧ (pt K c).1 ≤ 1156 ∧ 1 ≤ (pt K c).2 ∧ (pt K c).2 ≤ 20 ∧ ((pt K c).1 : Int) = (1 + c.fmod 4) * (K : Int) ^ ((c.fdiv 4).fmod 3).toNat := by
  have h4a : 0 ≤ c.fmod 4 := Int.fmod_nonneg_of_pos _ (by decide)
  have h4b : c.fmod 4 < 4 := Int.fmod_lt_of_pos _ (by decide)
  have h3a : 0 ≤ (c.fdiv 4).fmod 3 := Int.fmod_nonneg_of_pos _ (by decide)
  have h3b : (c.fdiv 4).fmod 3 < 3 := Int.fmod_lt_of_pos _ (by decide)
  have h20a : 0 ≤ (c.fdiv 12).fmod 20 := Int.fmod_nonneg_of_pos _ (by decide)
  have h20b : (c.fdiv 12).fmod 20 < 20 := Int.fmod_lt_of_pos _ (by decide)
  have hp : 1 ≤ (K : Int) ^ ((c.fdiv 4).fmod 3).toNat ∧ (K : Int) ^ ((c.fdiv 4).fmod 3).toNat ≤ 289 := by
    obtain ⟨e, he⟩ : ∃ e : Nat, ((c.fdiv 4).fmod 3).toNat = e := ⟨_, rfl⟩
    rw [he]
    have : e = 0 ∨ e = 1 ∨ e = 2 := by omega
    rcases this with rfl | rfl | rfl
    · simp
    · rw [Int.pow_one]; omega
    · rw [Int.pow_succ, Int.pow_one]
      have h1 : (K : Int) * K ≤ 17 * 17 := Int.mul_le_mul (by omega) (by omega) (by omega) (by omega)
      have h2 : 1 * 1 ≤ (K : Int) * K := Int.mul_le_mul (by omega) (by omega) (by omega) (by omega)
      omega
  have hm1 : 1 * 1 ≤ (1 + c.fmod 4) * (K : Int) ^ ((c.fdiv 4).fmod 3).toNat := Int.mul_le_mul (by omega) hp.1 (by omega) (by omega)
  have hm2 : (1 + c.fmod 4) * (K : Int) ^ ((c.fdiv 4).fmod 3).toNat ≤ 4 * 289 := Int.mul_le_mul (by omega) hp.2 (by omega) (by omega)
  unfold pt
  refine ⟨by show 0 < Int.toNat _; omega, by show Int.toNat _ ≤ 1156; omega, by show 1 ≤ 1 + _; omega, by show 1 + _ ≤ 20; omega, ?_⟩
  show ((Int.toNat _ : Nat) : Int) = _
  omega
theorem pw_ok {K : Nat} (h2 : 2 ≤ K) (h17 : K ≤ 17) (c : Int) : 1 ≤ (K : Int) ^ ((c.fdiv 4).fmod 3).toNat ∧ (K : Int) ^ ((c.fdiv 4).fmod 3).toNat ≤ 289 := by
  have h3a : 0 ≤ (c.fdiv 4).fmod 3 := Int.fmod_nonneg_of_pos _ (by decide)
  have h3b : (c.fdiv 4).fmod 3 < 3 := Int.fmod_lt_of_pos _ (by decide)
  obtain ⟨e, he⟩ : ∃ e : Nat, ((c.fdiv 4).fmod 3).toNat = e := ⟨_, rfl⟩
  rw [he]
  have : e = 0 ∨ e = 1 ∨ e = 2 := by omega
  rcases this with rfl | rfl | rfl
  · simp
  · rw [Int.pow_one]; omega
  · rw [Int.pow_succ, Int.pow_one]
    have h1 : (K : Int) * K ≤ 17 * 17 := Int.mul_le_mul (by omega) (by omega) (by omega) (by omega)
    have h2 : 1 * 1 ≤ (K : Int) * K := Int.mul_le_mul (by omega) (by omega) (by omega) (by omega)
    omega
theorem pow_gen {prog : Program} {w : World} {A : Around} {E : Value → Shared → Prop} {s : Shared} {a n P : Int} {t u : Tok} {Q : Value → Shared → Prop} (hP : a ^ n.toNat = P) (hn : 0 ≤ n) (hn2 : n ≤ 1000000) (ha : a.natAbs < 2 ^ 64) (h : Q (.int P s.toks) { s with toks := s.toks + 1 }) :
    wpAny (model prog w) A (binaryOp .Pow (.int a t) (.int n u)) Q E s := by
  subst hP
  exact pow_int_small hn hn2 ha h
theorem tot_cons {e : Nat × Int} {hs : List (Nat × Int)} {s : Nat} : tot (e :: hs) s = (if e.1 = s then e.2 else 0) + tot hs s := by
  unfold tot
  by_cases h : e.1 = s
  · rw [if_pos h]; simp [h]
  · rw [if_neg h]; simp [h]
theorem tot_nil {s : Nat} : tot [] s = 0 := rfl
theorem tot_append {a b : List (Nat × Int)} {s : Nat} : tot (a ++ b) s = tot a s + tot b s := by
  unfold tot
  rw [List.filter_append, List.map_append, List.sum_append]
theorem tot_one {n : Nat} {c : Int} {s : Nat} : tot [(n, c)] s = if n = s then c else 0 := by
  rw [tot_cons, tot_nil, Int.add_zero]
theorem tot_nonneg {hs : List (Nat × Int)} (h : ∀ e ∈ hs, 0 ≤ e.2) (s : Nat) : 0 ≤ tot hs s := by
  induction hs with
  | nil => exact Int.le_refl _
  | cons e r ih =>
    rw [tot_cons]
    have h1 := ih fun x hx => h x (.tail _ hx)
    have h2 := h e (.head _)
    split <;> omega
theorem tot_pos {hs : List (Nat × Int)} (h : ∀ e ∈ hs, 0 < e.2) {s : Nat} : 0 < tot hs s ↔ s ∈ hs.map (·.1) := by
  constructor
  · intro h0
    apply Classical.byContradiction
    intro hn
    rw [tot_none hn] at h0
    omega
  · intro hm
    induction hs with
    | nil => cases hm
    | cons e r ih =>
      rw [tot_cons]
      have h1 := tot_nonneg (fun x hx => Int.le_of_lt (h x (.tail _ hx))) s
      have h2 := h e (.head _)
      rw [List.map_cons, List.mem_cons] at hm
      rcases hm with rfl | hm
      · rw [if_pos rfl]; omega
      · have := ih (fun x hx => h x (.tail _ hx)) hm
        split <;> omega
/-- with distinct sizes a size is told once -/
theorem tot_mem {b : List (Nat × Int)} (hn : (b.map (·.1)).Nodup) {s : Nat} {c : Int} (hm : (s, c) ∈ b) : tot b s = c := by
  induction b with
  | nil => cases hm
  | cons e r ih =>
    rw [List.map_cons, List.nodup_cons] at hn
    rw [tot_cons]
    rcases List.mem_cons.mp hm with rfl | hm
    · rw [if_pos rfl, tot_none hn.1, Int.add_zero]
    · rw [if_neg, ih hn.2 hm, Int.zero_add]
      intro e1
      exact hn.1 (e1 ▸ List.mem_map.mpr ⟨_, hm, rfl⟩)
theorem sum_one {b : List (Nat × Int)} (hn : (b.map (·.1)).Nodup) (g : Int → Int) (h0 : g 0 = 0) (d : Nat) : (b.map fun e => if e.1 = d then g e.2 else 0).sum = g (tot b d) := by
  induction b with
  | nil => exact h0.symm
  | cons e r ih =>
    rw [List.map_cons, List.nodup_cons] at hn
    rw [List.map_cons, List.sum_cons, ih hn.2, tot_cons]
    by_cases h : e.1 = d
    · subst h
      rw [if_pos rfl, if_pos rfl, tot_none hn.1, h0, Int.add_zero, Int.add_zero]
    · rw [if_neg h, if_neg h, Int.zero_add]
      congr 1
      omega
theorem sum_add {b : List (Nat × Int)} (f g : Nat × Int → Int) : (b.map fun e => f e + g e).sum = (b.map f).sum + (b.map g).sum := by
  induction b with
  | nil => rfl
  | cons e r ih =>
    rw [List.map_cons, List.map_cons, List.map_cons, List.sum_cons, List.sum_cons, List.sum_cons, ih]
    omega
theorem sum_mul {b : List (Nat × Int)} (k : Int) (f : Nat × Int → Int) : (b.map fun e => k * f e).sum = k * (b.map f).sum := by
  induction b with
  | nil => simp
  | cons e r ih =>
    rw [List.map_cons, List.map_cons, List.sum_cons, List.sum_cons, ih, Int.mul_add]
theorem tot_flat {b : List (Nat × Int)} {f : Nat × Int → List (Nat × Int)} {s : Nat} : tot (b.flatMap f) s = (b.map fun e => tot (f e) s).sum := by
  induction b with
  | nil => rfl
  | cons e r ih => rw [List.flatMap_cons, tot_append, ih, List.map_cons, List.sum_cons]
/-! ## stems -/
theorem stem_ex {k : Nat} (hk : 2 ≤ k) : ∀ s : Nat, 0 < s → ∃ d i, s = d * k ^ i ∧ ¬ d % k = 0 := by
  intro s
  induction s using Nat.strongRecOn with
  | _ s ih =>
    intro hs
    by_cases h : s % k = 0
    · obtain ⟨q, hq⟩ := Nat.dvd_of_mod_eq_zero h
      have hq0 : 0 < q := by
        rcases Nat.eq_zero_or_pos q with r | r
        · rw [r] at hq; omega
        · exact r
      have hlt : q < s := by
        rw [hq]
        have : 2 * q ≤ k * q := Nat.mul_le_mul_right _ hk
        omega
      obtain ⟨d, i, e, hd⟩ := ih q hlt hq0
      refine ⟨d, i + 1, ?_, hd⟩
      rw [hq, e, Nat.pow_succ, Nat.mul_comm k, Nat.mul_assoc]
    · exact ⟨s, 0, by simp, h⟩
theorem kpow_pos {k : Nat} (hk : 2 ≤ k) (i : Nat) : 0 < k ^ i := Nat.pow_pos (by omega)
theorem stem_uniq {k : Nat} (hk : 2 ≤ k) {d e : Nat} (hd : ¬ d % k = 0) (he : ¬ e % k = 0) : ∀ {i j : Nat}, d * k ^ i = e * k ^ j → i = j ∧ d = e
  | 0, 0, h => by simpa using h
  | 0, j + 1, h => by
    rw [Nat.pow_zero, Nat.mul_one, Nat.pow_succ, ← Nat.mul_assoc] at h
    rw [h, Nat.mul_mod_left] at hd
    exact absurd rfl hd
  | i + 1, 0, h => by
    rw [Nat.pow_zero, Nat.mul_one, Nat.pow_succ, ← Nat.mul_assoc] at h
    rw [← h, Nat.mul_mod_left] at he
    exact absurd rfl he
  | i + 1, j + 1, h => by
    rw [Nat.pow_succ, Nat.pow_succ, ← Nat.mul_assoc, ← Nat.mul_assoc] at h
    have := stem_uniq hk hd he (Nat.eq_of_mul_eq_mul_right (show 0 < k by omega) h)
    exact ⟨by rw [this.1], this.2⟩
theorem sp_stem {k : Nat} (hk : 2 ≤ k) {d : Nat} (hd : ¬ d % k = 0) : ∀ (f i p : Nat), i ≤ f → sp k f (d * k ^ i) p = (d, p * k ^ i)
  | 0, 0, p, _ => by simp [sp]
  | 0, i + 1, p, h => by omega
  | f + 1, 0, p, _ => by
    rw [Nat.pow_zero, Nat.mul_one, sp_stop hd, Nat.mul_one]
  | f + 1, i + 1, p, h => by
    have e : d * k ^ (i + 1) = d * k ^ i * k := by rw [Nat.pow_succ, Nat.mul_assoc]
    rw [e, sp_step (Nat.mul_mod_left _ _), Nat.mul_div_cancel _ (by omega), sp_stem hk hd f i _ (by omega), Nat.pow_succ, Nat.mul_assoc, Nat.mul_comm k]
theorem dn_stem {k : Nat} (hk : 2 ≤ k) {d : Nat} (hd : ¬ d % k = 0) : ∀ (f i : Nat) (c : Int), i ≤ f → dn k f (d * k ^ i) c = (d, ((k ^ i : Nat) : Int) * c)
  | 0, 0, c, _ => by simp [dn]
  | 0, i + 1, c, h => by omega
  | f + 1, 0, c, _ => by
    rw [Nat.pow_zero, Nat.mul_one, dn_stop hd]
    simp
  | f + 1, i + 1, c, h => by
    have e : d * k ^ (i + 1) = d * k ^ i * k := by rw [Nat.pow_succ, Nat.mul_assoc]
    rw [e, dn_step (Nat.mul_mod_left _ _), Nat.mul_div_cancel _ (by omega), dn_stem hk hd f i _ (by omega), Nat.pow_succ, Int.natCast_mul, Int.mul_assoc]
/-! ## forth, size by size -/
theorem dgl_off {k : Nat} (hk : 2 ≤ k) {s : Nat} : ∀ (f m : Nat) (c : Int), (∀ r, s ≠ m * k ^ r) → tot (dgl k f m c) s = 0
  | 0, _, _, _ => rfl
  | f + 1, m, c, h => by
    rw [dgl, tot_append, dgl_off hk f (k * m) _ (fun r e => h (r + 1) (by rw [e, Nat.pow_succ, Nat.mul_comm k m, Nat.mul_assoc, Nat.mul_comm k])), Int.add_zero]
    split
    · rw [tot_one, if_neg]
      intro e
      exact h 0 (by simp [e])
    · rfl
theorem dgl_on {k : Nat} (hk : 2 ≤ k) {s : Nat} : ∀ (f m r : Nat) (c : Int), 0 < m → 0 ≤ c → r < f → s = m * k ^ r → tot (dgl k f m c) s = c / ((k ^ r : Nat) : Int) % (k : Int)
  | 0, _, _, _, _, _, h, _ => by omega
  | f + 1, m, 0, c, hm, hc, _, e => by
    have e1 : s = m := by simpa using e
    subst e1
    rw [dgl, tot_append, dgl_off hk f (k * s), Int.add_zero]
    · have hmod := Int.emod_nonneg c (show (k : Int) ≠ 0 by omega)
      split
      · rw [tot_one, if_pos rfl]; simp
      · rw [tot_nil]
        simp
        omega
    · intro r e2
      have h1 : 1 ≤ k ^ r := kpow_pos hk r
      have h2 : k * s * 1 ≤ k * s * k ^ r := Nat.mul_le_mul_left _ h1
      have h3 : 2 * s ≤ k * s := Nat.mul_le_mul_right _ hk
      omega
  | f + 1, m, r + 1, c, hm, hc, h, e => by
    have hp : m < s := by
      have h1 : 1 ≤ k ^ r := kpow_pos hk r
      have h2 : 2 * 1 ≤ k * k ^ r := Nat.mul_le_mul hk h1
      have h3 : m * 2 ≤ m * (k ^ r * k) := Nat.mul_le_mul_left _ (by rw [Nat.mul_comm]; omega)
      rw [e, Nat.pow_succ]
      omega
    rw [dgl, tot_append, dgl_on hk f (k * m) r (c / (k : Int)) (Nat.mul_pos (by omega) hm) (Int.ediv_nonneg hc (by omega)) (by omega) (by rw [e, Nat.pow_succ, Nat.mul_comm k m, Nat.mul_assoc, Nat.mul_comm k]), Int.ediv_ediv_of_nonneg (by omega), Nat.pow_succ, Int.natCast_mul, Int.mul_comm (k : Int)]
    have : tot (if 0 < c % (k : Int) then [(m, c % (k : Int))] else []) s = 0 := by
      split
      · rw [tot_one, if_neg (by omega)]
      · rfl
    rw [this, Int.zero_add]
theorem fEnt_tot {k : Nat} (hk : 2 ≤ k) {e : Nat × Int} (he1 : 0 < e.1) (he2 : 0 ≤ e.2) {d i : Nat} (hd : ¬ d % k = 0) (hi : i < 17) :
    tot (fEnt k e) (d * k ^ i) = (k : Int) * (if e.1 = k * (d * k ^ i) then e.2 else 0) + (if e.1 = d then e.2 / ((k ^ i : Nat) : Int) % (k : Int) else 0) := by
  unfold fEnt
  by_cases h : e.1 % k = 0
  · rw [if_pos h, tot_one, if_neg (show ¬ e.1 = d by rintro rfl; exact hd h), Int.add_zero]
    obtain ⟨q, hq⟩ := Nat.dvd_of_mod_eq_zero h
    rw [hq, Nat.mul_div_cancel_left q (by omega)]
    by_cases hs : q = d * k ^ i
    · rw [if_pos hs, if_pos (by rw [hs])]
    · rw [if_neg hs, if_neg (fun e => hs (Nat.eq_of_mul_eq_mul_left (show 0 < k by omega) e)), Int.mul_zero]
  · rw [if_neg h, if_neg (show ¬ e.1 = k * (d * k ^ i) by intro e1; rw [e1, Nat.mul_mod_right] at h; exact h rfl), Int.mul_zero, Int.zero_add]
    by_cases hs : e.1 = d
    · rw [if_pos hs, dgl_on hk 17 e.1 i e.2 he1 he2 hi (by rw [hs])]
    · rw [if_neg hs, dgl_off hk]
      intro r e1
      exact hs (stem_uniq hk hd h e1).2.symm
theorem forth_tot {k : Nat} (hk : 2 ≤ k) {b : List (Nat × Int)} (hn : (b.map (·.1)).Nodup) (hb : ∀ e ∈ b, 0 < e.1 ∧ 0 ≤ e.2) {d i : Nat} (hd : ¬ d % k = 0) (hi : i < 17) :
    tot (fhs k b) (d * k ^ i) = (k : Int) * tot b (k * (d * k ^ i)) + tot b d / ((k ^ i : Nat) : Int) % (k : Int) := by
  unfold fhs
  rw [tot_flat, List.map_congr_left (g := fun e : Nat × Int => (k : Int) * (if e.1 = k * (d * k ^ i) then e.2 else 0) + (if e.1 = d then e.2 / ((k ^ i : Nat) : Int) % (k : Int) else 0)) (fun e he => fEnt_tot hk (hb e he).1 (hb e he).2 hd hi), sum_add, sum_mul, sum_one hn (fun c => c) rfl, sum_one hn (fun c => c / ((k ^ i : Nat) : Int) % (k : Int)) (by simp)]
/-! ## back, size by size -/
def dsum (k : Nat) (h : Nat → Int) : Nat → Int
  | 0 => 0
  | n + 1 => dsum k h n + ((k ^ n : Nat) : Int) * h n
theorem dsum_congr {k : Nat} {h g : Nat → Int} : ∀ {n : Nat}, (∀ j, j < n → h j = g j) → dsum k h n = dsum k g n
  | 0, _ => rfl
  | n + 1, e => by rw [dsum, dsum, dsum_congr fun j hj => e j (by omega), e n (by omega)]
theorem dsum_zero {k : Nat} : ∀ {n : Nat}, dsum k (fun _ => 0) n = 0
  | 0 => rfl
  | n + 1 => by rw [dsum, dsum_zero]; simp
theorem dsum_add {k : Nat} {h g : Nat → Int} : ∀ {n : Nat}, dsum k (fun j => h j + g j) n = dsum k h n + dsum k g n
  | 0 => rfl
  | n + 1 => by rw [dsum, dsum, dsum, dsum_add, Int.mul_add]; omega
theorem dsum_list {k : Nat} {b : List (Nat × Int)} {h : Nat → Nat × Int → Int} {n : Nat} : (b.map fun e => dsum k (fun j => h j e) n).sum = dsum k (fun j => (b.map fun e => h j e).sum) n := by
  induction b with
  | nil => exact dsum_zero.symm
  | cons e r ih =>
    rw [List.map_cons, List.sum_cons, ih, ← dsum_add]
    exact dsum_congr fun j _ => by rw [List.map_cons, List.sum_cons]
theorem dsum_pick {k : Nat} {i : Nat} {v : Int} : ∀ {n : Nat}, i < n → dsum k (fun j => if j = i then v else 0) n = ((k ^ i : Nat) : Int) * v
  | 0, h => by omega
  | n + 1, h => by
    rw [dsum]
    by_cases e : n = i
    · subst e
      rw [if_pos rfl, dsum_congr (g := fun _ => 0) (fun j hj => if_neg (by omega)), dsum_zero, Int.zero_add]
    · rw [dsum_pick (by omega), if_neg e, Int.mul_zero, Int.add_zero]
theorem bEnt_mult {k : Nat} (hk : 2 ≤ k) {e : Nat × Int} (he1 : 0 < e.1 ∧ e.1 ≤ 100000) (he2 : 0 ≤ e.2) {s : Nat} : tot (bEnt k e) (k * s) = if e.1 = s then e.2 / (k : Int) else 0 := by
  obtain ⟨d, i, hdi, hd⟩ := stem_ex hk e.1 he1.1
  have hi : i ≤ 17 := by
    apply Nat.le_of_not_lt
    intro h
    have h1 : 2 ^ i ≤ k ^ i := Nat.pow_le_pow_left hk i
    have h2 : 2 ^ 17 ≤ 2 ^ i := Nat.pow_le_pow_right (by omega) (by omega)
    have h3 : 1 * k ^ i ≤ d * k ^ i := Nat.mul_le_mul_right _ (by
      rcases Nat.eq_zero_or_pos d with r | r
      · rw [r] at hd; simp at hd
      · exact r)
    omega
  unfold bEnt
  rw [tot_append]
  have h2 : tot (if 0 < e.2 % (k : Int) then [dn k 17 e.1 (e.2 % (k : Int))] else []) (k * s) = 0 := by
    split
    · rw [hdi, dn_stem hk hd 17 i _ hi, tot_one, if_neg]
      intro e1
      rw [e1, Nat.mul_mod_right] at hd
      exact hd rfl
    · rfl
  rw [h2, Int.add_zero]
  have h3 : 0 ≤ e.2 / (k : Int) := Int.ediv_nonneg he2 (by omega)
  by_cases hs : e.1 = s
  · rw [if_pos hs]
    split
    · rw [tot_one, if_pos (by rw [hs])]
    · rw [tot_nil]; omega
  · rw [if_neg hs]
    split
    · rw [tot_one, if_neg (fun e1 => hs (Nat.eq_of_mul_eq_mul_left (show 0 < k by omega) e1))]
    · rfl
theorem back_mult {k : Nat} (hk : 2 ≤ k) {b : List (Nat × Int)} (hn : (b.map (·.1)).Nodup) (hb : ∀ e ∈ b, (0 < e.1 ∧ e.1 ≤ 100000) ∧ 0 ≤ e.2) (s : Nat) : tot (bhs k b) (k * s) = tot b s / (k : Int) := by
  unfold bhs
  rw [tot_flat, List.map_congr_left (fun e he => bEnt_mult hk (hb e he).1 (hb e he).2), sum_one hn (fun c => c / (k : Int)) (by simp)]
theorem bEnt_stem {k : Nat} (hk : 2 ≤ k) {e : Nat × Int} (he1 : 0 < e.1 ∧ e.1 ≤ 100000) (he2 : 0 ≤ e.2) {s : Nat} (hs : ¬ s % k = 0) : tot (bEnt k e) s = dsum k (fun j => if e.1 = s * k ^ j then e.2 % (k : Int) else 0) 17 := by
  obtain ⟨d, i, hdi, hd⟩ := stem_ex hk e.1 he1.1
  have hi : i < 17 := by
    apply Nat.lt_of_not_le
    intro h
    have h1 : 2 ^ i ≤ k ^ i := Nat.pow_le_pow_left hk i
    have h2 : 2 ^ 17 ≤ 2 ^ i := Nat.pow_le_pow_right (by omega) (by omega)
    have h3 : 1 * k ^ i ≤ d * k ^ i := Nat.mul_le_mul_right _ (by
      rcases Nat.eq_zero_or_pos d with r | r
      · rw [r] at hd; simp at hd
      · exact r)
    omega
  unfold bEnt
  rw [tot_append]
  have h1 : tot (if 0 < e.2 / (k : Int) then [(k * e.1, e.2 / (k : Int))] else []) s = 0 := by
    split
    · rw [tot_one, if_neg]
      intro e1
      rw [← e1, Nat.mul_mod_right] at hs
      exact hs rfl
    · rfl
  rw [h1, Int.zero_add, hdi]
  have hmod := Int.emod_nonneg e.2 (show (k : Int) ≠ 0 by omega)
  by_cases h : d = s
  · subst h
    rw [dsum_congr (g := fun j => if j = i then e.2 % (k : Int) else 0), dsum_pick hi]
    · split
      · rw [dn_stem hk hd 17 i _ (by omega), tot_one, if_pos rfl]
      · rw [tot_nil]
        have : e.2 % (k : Int) = 0 := by omega
        rw [this, Int.mul_zero]
    · intro j _
      by_cases hj : j = i
      · subst hj; rw [if_pos rfl, if_pos rfl]
      · rw [if_neg hj, if_neg]
        intro e1
        exact hj (stem_uniq hk hd hd e1).1.symm
  · rw [dsum_congr (g := fun _ => 0), dsum_zero]
    · split
      · rw [dn_stem hk hd 17 i _ (by omega), tot_one, if_neg h]
      · rfl
    · intro j _
      rw [if_neg]
      intro e1
      exact h (stem_uniq hk hd hs e1).2
theorem back_stem {k : Nat} (hk : 2 ≤ k) {b : List (Nat × Int)} (hn : (b.map (·.1)).Nodup) (hb : ∀ e ∈ b, (0 < e.1 ∧ e.1 ≤ 100000) ∧ 0 ≤ e.2) {s : Nat} (hs : ¬ s % k = 0) : tot (bhs k b) s = dsum k (fun j => tot b (s * k ^ j) % (k : Int)) 17 := by
  unfold bhs
  rw [tot_flat, List.map_congr_left (fun e he => bEnt_stem hk (hb e he).1 (hb e he).2 hs), dsum_list (h := fun j e => if e.1 = s * k ^ j then e.2 % (k : Int) else 0)]
  exact dsum_congr fun j _ => sum_one hn (fun c => c % (k : Int)) (by simp) _
/-! ## digits -/
theorem dsum_all {k : Nat} (hk : 2 ≤ k) (c : Int) : ∀ n : Nat, dsum k (fun j => c / ((k ^ j : Nat) : Int) % (k : Int)) n + ((k ^ n : Nat) : Int) * (c / ((k ^ n : Nat) : Int)) = c
  | 0 => by simp [dsum]
  | n + 1 => by
    have ih := dsum_all hk c n
    rw [dsum]
    have h1 : c / ((k ^ (n + 1) : Nat) : Int) = c / ((k ^ n : Nat) : Int) / (k : Int) := by
      rw [Nat.pow_succ, Int.natCast_mul, Int.ediv_ediv_of_nonneg (by omega)]
    rw [h1]
    have h2 := Int.mul_ediv_add_emod (c / ((k ^ n : Nat) : Int)) (k : Int)
    have h3 : ((k ^ (n + 1) : Nat) : Int) = ((k ^ n : Nat) : Int) * (k : Int) := by rw [Nat.pow_succ, Int.natCast_mul]
    rw [h3, Int.mul_assoc, Int.add_assoc, ← Int.mul_add, Int.add_comm (_ % _), h2]
    exact ih
theorem dsum_bound {k : Nat} (hk : 2 ≤ k) {h : Nat → Int} (hh : ∀ j, 0 ≤ h j ∧ h j < (k : Int)) : ∀ n : Nat, 0 ≤ dsum k h n ∧ dsum k h n < ((k ^ n : Nat) : Int)
  | 0 => by simp [dsum]
  | n + 1 => by
    have ih := dsum_bound hk hh n
    have hp : (0 : Int) < ((k ^ n : Nat) : Int) := by have := kpow_pos hk n; omega
    have h1 : 0 ≤ ((k ^ n : Nat) : Int) * h n := Int.mul_nonneg (by omega) (hh n).1
    have h2 : ((k ^ n : Nat) : Int) * h n ≤ ((k ^ n : Nat) : Int) * ((k : Int) - 1) := Int.mul_le_mul_of_nonneg_left (by have := (hh n).2; omega) (by omega)
    rw [Int.mul_sub, Int.mul_one] at h2
    rw [dsum, Nat.pow_succ, Int.natCast_mul]
    omega
theorem dsum_digit {k : Nat} (hk : 2 ≤ k) {h : Nat → Int} (hh : ∀ j, 0 ≤ h j ∧ h j < (k : Int)) {i : Nat} : ∀ n : Nat, i < n → dsum k h n / ((k ^ i : Nat) : Int) % (k : Int) = h i
  | 0, e => by omega
  | n + 1, e => by
    have hp : (0 : Int) < ((k ^ i : Nat) : Int) := by have := kpow_pos hk i; omega
    rw [dsum]
    by_cases hn : n = i
    · subst hn
      have hb := dsum_bound hk hh n
      rw [Int.add_mul_ediv_left _ _ (by omega), Int.ediv_eq_zero_of_lt hb.1 hb.2, Int.zero_add, Int.emod_eq_of_lt (hh n).1 (hh n).2]
    · obtain ⟨r, hr⟩ : ∃ r, n = i + 1 + r := ⟨n - (i + 1), by omega⟩
      have e1 : ((k ^ n : Nat) : Int) * h n = ((k ^ i : Nat) : Int) * ((k : Int) * (((k ^ r : Nat) : Int) * h n)) := by
        rw [hr, Nat.pow_add, Nat.pow_succ, Int.natCast_mul, Int.natCast_mul, Int.mul_assoc, Int.mul_assoc]
      rw [e1, Int.add_mul_ediv_left _ _ (by omega), Int.add_mul_emod_self_left, dsum_digit hk hh n (by omega)]
theorem sorted_ext : ∀ {l r : List (Nat × Int)}, l.Pairwise (fun x y => x.1 < y.1) → r.Pairwise (fun x y => x.1 < y.1) → (∀ x, x ∈ l ↔ x ∈ r) → l = r
  | [], [], _, _, _ => rfl
  | [], b :: r, _, _, h => by have := (h b).mpr (.head _); cases this
  | a :: l, [], _, _, h => by have := (h a).mp (.head _); cases this
  | a :: l, b :: r, hl, hr, h => by
    rw [List.pairwise_cons] at hl hr
    have e : a = b := by
      have h1 := (h a).mp (.head _)
      have h2 := (h b).mpr (.head _)
      rcases List.mem_cons.mp h1 with h1 | h1
      · exact h1
      · rcases List.mem_cons.mp h2 with h2 | h2
        · exact h2.symm
        · have := hl.1 b h2
          have := hr.1 a h1
          omega
    subst e
    congr 1
    refine sorted_ext hl.2 hr.2 fun x => ⟨fun hx => ?_, fun hx => ?_⟩
    · rcases List.mem_cons.mp ((h x).mp (.tail _ hx)) with rfl | h1
      · exact absurd (hl.1 x hx) (Nat.lt_irrefl _)
      · exact h1
    · rcases List.mem_cons.mp ((h x).mpr (.tail _ hx)) with rfl | h1
      · exact absurd (hr.1 x hx) (Nat.lt_irrefl _)
      · exact h1
theorem sorted_extN : ∀ {l r : List Nat}, l.Pairwise (· < ·) → r.Pairwise (· < ·) → (∀ x, x ∈ l ↔ x ∈ r) → l = r
  | [], [], _, _, _ => rfl
  | [], b :: r, _, _, h => by have := (h b).mpr (.head _); cases this
  | a :: l, [], _, _, h => by have := (h a).mp (.head _); cases this
  | a :: l, b :: r, hl, hr, h => by
    rw [List.pairwise_cons] at hl hr
    have e : a = b := by
      have h1 := (h a).mp (.head _)
      have h2 := (h b).mpr (.head _)
      rcases List.mem_cons.mp h1 with h1 | h1
      · exact h1
      · rcases List.mem_cons.mp h2 with h2 | h2
        · exact h2.symm
        · have := hl.1 b h2
          have := hr.1 a h1
          omega
    subst e
    congr 1
    refine sorted_extN hl.2 hr.2 fun x => ⟨fun hx => ?_, fun hx => ?_⟩
    · rcases List.mem_cons.mp ((h x).mp (.tail _ hx)) with rfl | h1
      · exact absurd (hl.1 x hx) (Nat.lt_irrefl _)
      · exact h1
    · rcases List.mem_cons.mp ((h x).mpr (.tail _ hx)) with rfl | h1
      · exact absurd (hr.1 x hx) (Nat.lt_irrefl _)
      · exact h1
theorem sorted_nodup {b : List (Nat × Int)} (h : b.Pairwise (fun x y => x.1 < y.1)) : (b.map (·.1)).Nodup := by
  unfold List.Nodup
  rw [List.pairwise_map]
  exact h.imp fun hxy => Nat.ne_of_lt hxy
theorem IsBag.nodup {hs b : List (Nat × Int)} (h : IsBag hs b) : (b.map (·.1)).Nodup := sorted_nodup h.1
theorem IsBag.told {hs b : List (Nat × Int)} (h : IsBag hs b) (s : Nat) : tot b s = tot hs s := by
  by_cases hs' : s ∈ hs.map (·.1)
  · exact tot_mem h.nodup ((h.2 _ _).mpr ⟨hs', rfl⟩)
  · rw [tot_none hs', tot_none]
    intro hm
    obtain ⟨⟨s', c⟩, hp, e⟩ := List.mem_map.mp hm
    simp only at e
    subst e
    exact hs' ((h.2 _ _).mp hp).1
theorem IsBag.size {hs b : List (Nat × Int)} (h : IsBag hs b) {e : Nat × Int} (he : e ∈ b) : ∃ c, (e.1, c) ∈ hs := by
  obtain ⟨⟨s', c⟩, hp, e1⟩ := List.mem_map.mp ((h.2 e.1 e.2).mp he).1
  simp only at e1
  subst e1
  exact ⟨c, hp⟩
theorem IsBag.pos {hs b : List (Nat × Int)} (h : IsBag hs b) (hp : ∀ e ∈ hs, 0 < e.2) {e : Nat × Int} (he : e ∈ b) : 0 < e.2 := by
  have := (h.2 e.1 e.2).mp he
  rw [this.2]
  exact (tot_pos hp).mpr this.1
theorem IsBag.eq {hs b hs' b' : List (Nat × Int)} (h : IsBag hs b) (h' : IsBag hs' b') (hp : ∀ e ∈ hs, 0 < e.2) (hp' : ∀ e ∈ hs', 0 < e.2) (ht : ∀ s, tot hs s = tot hs' s) : b = b' := by
  refine sorted_ext h.1 h'.1 fun x => ?_
  rw [show x = (x.1, x.2) from rfl, h.2, h'.2, ht, ← tot_pos hp, ← tot_pos hp', ht]
/-- a sorted list of pairs is its own bag -/
theorem IsBag.self {b : List (Nat × Int)} (h : b.Pairwise (fun x y => x.1 < y.1)) : IsBag b b := by
  refine ⟨h, fun s c => ⟨fun hm => ⟨List.mem_map.mpr ⟨_, hm, rfl⟩, (tot_mem (sorted_nodup h) hm).symm⟩, fun hm => ?_⟩⟩
  obtain ⟨⟨s', c'⟩, hp, e⟩ := List.mem_map.mp hm.1
  simp only at e
  subst e
  rw [hm.2, tot_mem (sorted_nodup h) hp]
  exact hp
/-! ## weights -/
def wt (hs : List (Nat × Int)) : Int := (hs.map fun e => (e.1 : Int) * e.2).sum
def wsum (hs : List (Nat × Int)) : Nat → Int
  | 0 => 0
  | n + 1 => wsum hs n + (n : Int) * tot hs n
theorem wsum_nil : ∀ n, wsum [] n = 0
  | 0 => rfl
  | n + 1 => by rw [wsum, wsum_nil n, tot_nil]; simp
theorem wsum_cons {e : Nat × Int} {hs : List (Nat × Int)} : ∀ n, wsum (e :: hs) n = (if e.1 < n then (e.1 : Int) * e.2 else 0) + wsum hs n
  | 0 => by simp [wsum]
  | n + 1 => by
    rw [wsum, wsum, wsum_cons n, tot_cons, Int.mul_add]
    by_cases h : e.1 = n
    · rw [if_pos h, if_neg (by omega), if_pos (by omega), h]; omega
    · rw [if_neg h, Int.mul_zero]
      by_cases h2 : e.1 < n
      · rw [if_pos h2, if_pos (by omega)]; omega
      · rw [if_neg h2, if_neg (by omega)]; omega
theorem wt_wsum {hs : List (Nat × Int)} {n : Nat} (h : ∀ e ∈ hs, e.1 < n) : wt hs = wsum hs n := by
  induction hs with
  | nil => rw [wsum_nil]; rfl
  | cons e r ih =>
    rw [wsum_cons, if_pos (h e (.head _)), ← ih fun x hx => h x (.tail _ hx)]
    unfold wt
    rw [List.map_cons, List.sum_cons]
theorem wsum_tot {a b : List (Nat × Int)} (h : ∀ s, tot a s = tot b s) : ∀ n, wsum a n = wsum b n
  | 0 => rfl
  | n + 1 => by rw [wsum, wsum, wsum_tot h n, h n]
theorem bound_ex (a : List (Nat × Int)) : ∃ n, ∀ e ∈ a, e.1 < n := by
  induction a with
  | nil => exact ⟨0, by intro e he; cases he⟩
  | cons x r ih =>
    obtain ⟨n, hn⟩ := ih
    refine ⟨n + x.1 + 1, fun e he => ?_⟩
    rcases List.mem_cons.mp he with rfl | he
    · omega
    · have := hn e he; omega
theorem wt_tot {a b : List (Nat × Int)} (h : ∀ s, tot a s = tot b s) : wt a = wt b := by
  obtain ⟨n, hn⟩ := bound_ex a
  obtain ⟨m, hm⟩ := bound_ex b
  rw [wt_wsum (n := n + m) (fun e he => by have := hn e he; omega), wt_wsum (n := n + m) (fun e he => by have := hm e he; omega), wsum_tot h]
theorem wt_append {a b : List (Nat × Int)} : wt (a ++ b) = wt a + wt b := by
  unfold wt
  rw [List.map_append, List.sum_append]
theorem wt_flat {f : Nat × Int → List (Nat × Int)} {b : List (Nat × Int)} (h : ∀ e ∈ b, wt (f e) = (e.1 : Int) * e.2) : wt (b.flatMap f) = wt b := by
  induction b with
  | nil => rfl
  | cons e r ih =>
    rw [List.flatMap_cons, wt_append, ih fun x hx => h x (.tail _ hx), h e (.head _)]
    unfold wt
    rw [List.map_cons, List.sum_cons]
theorem wt_one {e : Nat × Int} : wt [e] = (e.1 : Int) * e.2 := by
  unfold wt; simp
theorem wt_dgl {k : Nat} (hk : 2 ≤ k) : ∀ (f s : Nat) (c : Int), 0 ≤ c → c < 2 ^ f → wt (dgl k f s c) = (s : Int) * c
  | 0, s, c, h0, h1 => by
    have : c = 0 := by simp at h1; omega
    subst this
    simp [dgl, wt]
  | f + 1, s, c, h0, h1 => by
    have h2 := div_step hk h0 h1
    rw [dgl, wt_append, wt_dgl hk f (k * s) _ h2.1 h2.2]
    have hmod := Int.emod_nonneg c (show (k : Int) ≠ 0 by omega)
    have h3 : wt (if 0 < c % (k : Int) then [(s, c % (k : Int))] else []) = (s : Int) * (c % (k : Int)) := by
      split
      · rw [wt_one]
      · have : c % (k : Int) = 0 := by omega
        rw [this, Int.mul_zero]; rfl
    have h4 := Int.mul_ediv_add_emod c (k : Int)
    rw [h3, Int.natCast_mul, Int.mul_comm (k : Int) (s : Int), Int.mul_assoc, ← Int.mul_add, Int.add_comm, h4]
theorem wt_fEnt {k : Nat} (hk : 2 ≤ k) {e : Nat × Int} (h : Wok e) : wt (fEnt k e) = (e.1 : Int) * e.2 := by
  unfold fEnt
  split
  · rename_i hz
    rw [wt_one]
    exact (cut_weight hk h.1 hz e.2).2
  · have h1 := h.lt
    have h2 := h.2.1
    exact wt_dgl hk 17 _ _ (by omega) (by omega)
theorem wt_dn {k : Nat} (hk : 2 ≤ k) : ∀ (f s : Nat) (c : Int), 0 < s → ((dn k f s c).1 : Int) * (dn k f s c).2 = (s : Int) * c
  | 0, _, _, _ => rfl
  | f + 1, s, c, h => by
    rw [dn]
    split
    · rename_i hz
      have hcw := cut_weight hk h hz c
      rw [wt_dn hk f _ _ hcw.1, hcw.2]
    · rfl
theorem wt_bEnt {k : Nat} (hk : 2 ≤ k) {e : Nat × Int} (h : Wok e) : wt (bEnt k e) = (e.1 : Int) * e.2 := by
  unfold bEnt
  rw [wt_append]
  have h0 := h.2.1
  have hdiv : 0 ≤ e.2 / (k : Int) := Int.ediv_nonneg (by omega) (by omega)
  have hmod := Int.emod_nonneg e.2 (show (k : Int) ≠ 0 by omega)
  have h1 : wt (if 0 < e.2 / (k : Int) then [(k * e.1, e.2 / (k : Int))] else []) = (e.1 : Int) * ((k : Int) * (e.2 / (k : Int))) := by
    split
    · rw [wt_one]
      show ((k * e.1 : Nat) : Int) * (e.2 / (k : Int)) = _
      rw [Int.natCast_mul, Int.mul_comm (k : Int) (e.1 : Int), Int.mul_assoc]
    · have : e.2 / (k : Int) = 0 := by omega
      rw [this, Int.mul_zero, Int.mul_zero]; rfl
  have h2 : wt (if 0 < e.2 % (k : Int) then [dn k 17 e.1 (e.2 % (k : Int))] else []) = (e.1 : Int) * (e.2 % (k : Int)) := by
    split
    · rw [wt_one, wt_dn hk 17 _ _ h.1]
    · have : e.2 % (k : Int) = 0 := by omega
      rw [this, Int.mul_zero]; rfl
  rw [h1, h2, ← Int.mul_add, Int.mul_ediv_add_emod]
theorem wt_mem {b : List (Nat × Int)} (h : ∀ e ∈ b, 0 ≤ e.2) {e : Nat × Int} (he : e ∈ b) : (e.1 : Int) * e.2 ≤ wt b := by
  induction b with
  | nil => cases he
  | cons x r ih =>
    have h0 : ∀ r : List (Nat × Int), (∀ e ∈ r, 0 ≤ e.2) → 0 ≤ wt r := by
      intro r
      induction r with
      | nil => intro _; exact Int.le_refl _
      | cons y q ihq =>
        intro hq
        have h1 := ihq fun z hz => hq z (.tail _ hz)
        have h2 := Int.mul_nonneg (show (0 : Int) ≤ (y.1 : Int) by omega) (hq y (.head _))
        unfold wt at h1 ⊢
        rw [List.map_cons, List.sum_cons]
        omega
    have e1 : wt (x :: r) = (x.1 : Int) * x.2 + wt r := by unfold wt; rw [List.map_cons, List.sum_cons]
    rw [e1]
    rcases List.mem_cons.mp he with rfl | he
    · have := h0 r fun z hz => h z (.tail _ hz); omega
    · have h1 := ih (fun z hz => h z (.tail _ hz)) he
      have h2 := Int.mul_nonneg (show (0 : Int) ≤ (x.1 : Int) by omega) (h x (.head _))
      omega
theorem IsBag.wok {hs b : List (Nat × Int)} (h : IsBag hs b) (hp : ∀ e ∈ hs, Wok e) (hw : wt hs ≤ 100000) : ∀ e ∈ b, Wok e := by
  intro e he
  obtain ⟨c, hc⟩ := h.size he
  have hpos : ∀ x ∈ b, 0 ≤ x.2 := fun x hx => Int.le_of_lt (h.pos (fun y hy => (hp y hy).2.1) hx)
  refine ⟨(hp _ hc).1, h.pos (fun y hy => (hp y hy).2.1) he, ?_⟩
  have h1 := wt_mem hpos he
  rw [wt_tot h.told] at h1
  omega
theorem wt_fhs {k : Nat} (hk : 2 ≤ k) {b : List (Nat × Int)} (h : ∀ e ∈ b, Wok e) : wt (fhs k b) = wt b := wt_flat fun e he => wt_fEnt hk (h e he)
theorem wt_bhs {k : Nat} (hk : 2 ≤ k) {b : List (Nat × Int)} (h : ∀ e ∈ b, Wok e) : wt (bhs k b) = wt b := wt_flat fun e he => wt_bEnt hk (h e he)
/-! ## few sizes -/
theorem nodup_len {α : Type} [DecidableEq α] : ∀ {l r : List α}, l.Nodup → (∀ x ∈ l, x ∈ r) → l.length ≤ r.length
  | [], r, _, _ => Nat.zero_le _
  | a :: l, r, hn, h => by
    rw [List.nodup_cons] at hn
    have h1 := nodup_len (l := l) (r := r.erase a) hn.2 fun x hx => (List.mem_erase_of_ne (by rintro rfl; exact hn.1 hx)).mpr (h x (.tail _ hx))
    have h2 := List.length_erase_of_mem (h a (.head _))
    have h3 := List.length_pos_of_mem (h a (.head _))
    rw [List.length_cons]
    omega
theorem few_len {hs : List (Nat × Int)} (h : hs.length < 64) : FewSizes hs := fun ss hn hm => by
  have := nodup_len hn hm
  rw [List.length_map] at this
  omega
theorem few_tot {hs b : List (Nat × Int)} (hp : ∀ e ∈ hs, 0 < e.2) (ht : ∀ s, tot hs s = tot b s) (hb : b.length < 64) : FewSizes hs := fun ss hn hm => by
  have := nodup_len (r := b.map (·.1)) hn fun s hs' => by
    apply Classical.byContradiction
    intro h
    have h1 := (tot_pos hp).mpr (hm s hs')
    rw [ht, tot_none h] at h1
    omega
  rw [List.length_map] at this
  omega
theorem IsBag.len {hs b : List (Nat × Int)} (h : IsBag hs b) : b.length ≤ hs.length := by
  have := nodup_len h.nodup (r := hs.map (·.1)) fun s hs' => by
    obtain ⟨⟨s', c⟩, hp, e⟩ := List.mem_map.mp hs'
    simp only at e
    subst e
    exact ((h.2 _ _).mp hp).1
  rwa [List.length_map, List.length_map] at this
theorem IsBag.ne {hs b : List (Nat × Int)} (h : IsBag hs b) (hn : hs ≠ []) : b ≠ [] := by
  cases hs with
  | nil => exact absurd rfl hn
  | cons e r =>
    intro hb
    have := (h.2 e.1 (tot (e :: r) e.1)).mpr ⟨by simp, rfl⟩
    rw [hb] at this
    cases this
theorem ne_of_wt {hs : List (Nat × Int)} (h : 0 < wt hs) : hs ≠ [] := by
  rintro rfl
  exact absurd h (by unfold wt; simp)
theorem fhs_short {k : Nat} (hk : 2 ≤ k) : ∀ {b : List (Nat × Int)}, (∀ e ∈ b, 0 ≤ e.2 ∧ e.2 < 2 ^ 7) → (fhs k b).length ≤ 7 * b.length
  | [], _ => Nat.le_refl _
  | e :: b, h => by
    have h1 := fhs_short hk (b := b) fun x hx => h x (.tail _ hx)
    have h2 : (fEnt k e).length ≤ 7 := by
      unfold fEnt
      split
      · simp
      · exact dgl_short hk 17 7 _ _ (h e (.head _)).1 (h e (.head _)).2
    unfold fhs at h1 ⊢
    rw [List.flatMap_cons, List.length_append, List.length_cons]
    omega
theorem pow17 {k : Nat} (hk : 2 ≤ k) {d i : Nat} (hd : ¬ d % k = 0) (hs : d * k ^ i ≤ 100000) : i < 17 := by
  apply Nat.lt_of_not_le
  intro h
  have h1 : 2 ^ i ≤ k ^ i := Nat.pow_le_pow_left hk i
  have h2 : 2 ^ 17 ≤ 2 ^ i := Nat.pow_le_pow_right (by omega) (by omega)
  have h3 : 1 * k ^ i ≤ d * k ^ i := Nat.mul_le_mul_right _ (by
    rcases Nat.eq_zero_or_pos d with r | r
    · rw [r] at hd; simp at hd
    · exact r)
  omega
theorem stem_pos {k d : Nat} (hd : ¬ d % k = 0) : 0 < d := by
  rcases Nat.eq_zero_or_pos d with r | r
  · rw [r] at hd; simp at hd
  · exact r
theorem wok_in {b : List (Nat × Int)} (h : ∀ e ∈ b, Wok e) : ∀ e ∈ b, (0 < e.1 ∧ e.1 ≤ 100000) ∧ 0 ≤ e.2 := fun e he => by
  have h1 := (h e he).1
  have h2 := (h e he).2.1
  have h3 := (h e he).lt
  exact ⟨⟨h1, h3.1⟩, by omega⟩
theorem wok_in0 {b : List (Nat × Int)} (h : ∀ e ∈ b, Wok e) : ∀ e ∈ b, 0 < e.1 ∧ 0 ≤ e.2 := fun e he => ⟨(wok_in h e he).1.1, (wok_in h e he).2⟩
theorem wok_pos {b : List (Nat × Int)} (h : ∀ e ∈ b, Wok e) : ∀ e ∈ b, 0 < e.2 := fun e he => (h e he).2.1
theorem big_none {b : List (Nat × Int)} (h : ∀ e ∈ b, Wok e) {s : Nat} (hs : s = 0 ∨ 100000 < s) : tot b s = 0 := by
  apply tot_none
  intro hm
  obtain ⟨e, he, rfl⟩ := List.mem_map.mp hm
  have := (wok_in h e he).1
  omega
theorem nodup_tot_le {b : List (Nat × Int)} (hn : (b.map (·.1)).Nodup) (h : ∀ e ∈ b, Wok e) (s : Nat) : 0 ≤ tot b s ∧ tot b s < 2 ^ 17 := by
  by_cases hs : s ∈ b.map (·.1)
  · obtain ⟨⟨s', c⟩, he, rfl⟩ := List.mem_map.mp hs
    rw [tot_mem hn he]
    have h1 := (h _ he).2.1
    have h2 := (h _ he).lt
    simp only at h1 h2
    omega
  · rw [tot_none hs]; omega
theorem kpow_big {k : Nat} (hk : 2 ≤ k) : (2 : Int) ^ 17 ≤ ((k ^ 17 : Nat) : Int) := by
  have h1 : 2 ^ 17 ≤ k ^ 17 := Nat.pow_le_pow_left hk 17
  have h2 : ((2 ^ 17 : Nat) : Int) ≤ ((k ^ 17 : Nat) : Int) := Int.ofNat_le.mpr h1
  exact h2
theorem dsum_count {k : Nat} (hk : 2 ≤ k) {c : Int} (h0 : 0 ≤ c) (h1 : c < 2 ^ 17) : dsum k (fun j => c / ((k ^ j : Nat) : Int) % (k : Int)) 17 = c := by
  have h := dsum_all hk c 17
  have h2 := kpow_big hk
  rw [Int.ediv_eq_zero_of_lt h0 (Int.lt_of_lt_of_le h1 h2), Int.mul_zero, Int.add_zero] at h
  exact h
/-- back undoes forth -/
theorem back_forth {k : Nat} (hk : 2 ≤ k) {b f : List (Nat × Int)} (hn : (b.map (·.1)).Nodup) (hb : ∀ e ∈ b, Wok e) (hf : IsBag (fhs k b) f) (hfw : ∀ e ∈ f, Wok e) (s : Nat) : tot (bhs k f) s = tot b s := by
  have hmod : ∀ c : Int, 0 ≤ c % (k : Int) ∧ c % (k : Int) < (k : Int) := fun c => ⟨Int.emod_nonneg _ (by omega), Int.emod_lt_of_pos _ (by omega)⟩
  have hF : ∀ d i : Nat, ¬ d % k = 0 → i < 17 → tot f (d * k ^ i) = (k : Int) * tot b (k * (d * k ^ i)) + tot b d / ((k ^ i : Nat) : Int) % (k : Int) := fun d i hd hi => by
    rw [hf.told, forth_tot hk hn (wok_in0 hb) hd hi]
  by_cases h0 : s = 0
  · rw [big_none hb (.inl h0), big_none (bhs_ok hk hfw) (.inl h0)]
  by_cases h1 : 100000 < s
  · rw [big_none hb (.inr h1), big_none (bhs_ok hk hfw) (.inr h1)]
  obtain ⟨d, i, e, hd⟩ := stem_ex hk s (by omega)
  have hi : i < 17 := pow17 hk hd (by omega)
  cases i with
  | zero =>
    have e1 : s = d := by simpa using e
    subst e1
    rw [back_stem hk hf.nodup (wok_in hfw) hd]
    have hT := nodup_tot_le hn hb s
    rw [dsum_congr (g := fun j => tot b s / ((k ^ j : Nat) : Int) % (k : Int)), dsum_count hk hT.1 hT.2]
    intro j hj
    rw [hF s j hd hj, Int.add_comm, Int.add_mul_emod_self_left, Int.emod_emod]
  | succ i =>
    have e1 : s = k * (d * k ^ i) := by rw [e, Nat.pow_succ, Nat.mul_comm k, Nat.mul_assoc]
    rw [e1, back_mult hk hf.nodup (wok_in hfw), hF d i hd (by omega), Int.add_comm, Int.add_mul_ediv_left _ _ (show (k : Int) ≠ 0 by omega), Int.ediv_eq_zero_of_lt (hmod _).1 (hmod _).2, Int.zero_add]
/-- forth undoes back -/
theorem forth_back {k : Nat} (hk : 2 ≤ k) {b g : List (Nat × Int)} (hn : (b.map (·.1)).Nodup) (hb : ∀ e ∈ b, Wok e) (hg : IsBag (bhs k b) g) (hgw : ∀ e ∈ g, Wok e) (s : Nat) : tot (fhs k g) s = tot b s := by
  have hmod : ∀ c : Int, 0 ≤ c % (k : Int) ∧ c % (k : Int) < (k : Int) := fun c => ⟨Int.emod_nonneg _ (by omega), Int.emod_lt_of_pos _ (by omega)⟩
  by_cases h0 : s = 0
  · rw [big_none hb (.inl h0), big_none (fhs_ok hk hgw) (.inl h0)]
  by_cases h1 : 100000 < s
  · rw [big_none hb (.inr h1), big_none (fhs_ok hk hgw) (.inr h1)]
  obtain ⟨d, i, e, hd⟩ := stem_ex hk s (by omega)
  have hi : i < 17 := pow17 hk hd (by omega)
  rw [e, forth_tot hk hg.nodup (wok_in0 hgw) hd hi, hg.told, hg.told, back_mult hk hn (wok_in hb), back_stem hk hn (wok_in hb) hd, dsum_digit hk (fun j => hmod _) 17 hi, Int.mul_ediv_add_emod]
/-- what forth owes -/
theorem forth_due {k : Nat} (hk : 2 ≤ k) {ps b f : List (Nat × Int)} (hpb : IsBag ps b) (hb : ∀ e ∈ b, Wok e) (hf : IsBag (fhs k b) f) (hfw : ∀ e ∈ f, Wok e) : f.map (·.2) = f.map fun e => due ps k e.1 := by
  apply List.map_congr_left
  intro e he
  obtain ⟨d, i, e1, hd⟩ := stem_ex hk e.1 (hfw e he).1
  have h1 := (hfw e he).lt.1
  have hi : i < 17 := pow17 hk hd (by omega)
  have h2 : e.2 = tot f e.1 := (tot_mem hf.nodup he).symm
  rw [h2, hf.told, e1, forth_tot hk hpb.nodup (wok_in0 hb) hd hi]
  unfold due
  rw [sp_stem hk hd 17 i 1 (by omega), Nat.one_mul, hpb.told, hpb.told]
/-- the sizes which back gives and k divides -/
theorem back_sizes {k : Nat} (hk : 2 ≤ k) {b g : List (Nat × Int)} (hbs : b.Pairwise (fun x y => x.1 < y.1)) (hb : ∀ e ∈ b, Wok e) (hg : IsBag (bhs k b) g) :
    (g.filter fun e => e.1 % k = 0).map (·.1) = (b.filter fun e => (k : Int) ≤ e.2).map fun e => k * e.1 := by
  have hn := sorted_nodup hbs
  have hbp := wok_pos (bhs_ok hk hb)
  apply sorted_extN
  · rw [List.pairwise_map]
    exact (hg.1.filter _).imp fun h => h
  · rw [List.pairwise_map]
    exact (hbs.filter _).imp fun h => Nat.mul_lt_mul_of_pos_left h (by omega)
  · intro s
    rw [List.mem_map, List.mem_map]
    constructor
    · rintro ⟨e, he, rfl⟩
      obtain ⟨he, hz⟩ := List.mem_filter.mp he
      obtain ⟨q, hq⟩ := Nat.dvd_of_mod_eq_zero (of_decide_eq_true hz)
      have h1 := hg.pos hbp he
      rw [← tot_mem hg.nodup he, hg.told, hq, back_mult hk hn (wok_in hb)] at h1
      have h2 : (k : Int) ≤ tot b q := by
        apply Int.le_of_not_gt
        intro h
        have h3 := (nodup_tot_le hn hb q).1
        rw [Int.ediv_eq_zero_of_lt h3 h] at h1
        omega
      have h3 : q ∈ b.map (·.1) := by
        apply Classical.byContradiction
        intro h
        rw [tot_none h] at h2
        omega
      obtain ⟨x, hx, rfl⟩ := List.mem_map.mp h3
      rw [tot_mem hn hx] at h2
      exact ⟨x, List.mem_filter.mpr ⟨hx, decide_eq_true h2⟩, hq.symm⟩
    · rintro ⟨x, hx, rfl⟩
      obtain ⟨hx, hz⟩ := List.mem_filter.mp hx
      have h1 := of_decide_eq_true hz
      have h2 : 0 < tot (bhs k b) (k * x.1) := by
        rw [back_mult hk hn (wok_in hb), tot_mem hn hx]
        exact (Int.le_ediv_iff_mul_le (by omega)).mpr (by omega)
      have h3 := (tot_pos hbp).mp h2
      exact ⟨_, List.mem_filter.mpr ⟨(hg.2 _ _).mpr ⟨h3, rfl⟩, decide_eq_true (Nat.mul_mod_right _ _)⟩, rfl⟩
/-! ## the law's bags -/
/-- what is known of the parts -/
structure Parts (k : Nat) (ps : List (Nat × Int)) : Prop where
  k2 : 2 ≤ k
  k17 : k ≤ 17
  ok : ∀ e ∈ ps, 0 < e.1 ∧ e.1 ≤ 1156 ∧ 1 ≤ e.2 ∧ e.2 ≤ 20
  len : ps.length = 4
theorem wt_le {ps : List (Nat × Int)} (h : ∀ e ∈ ps, 0 < e.1 ∧ e.1 ≤ 1156 ∧ 1 ≤ e.2 ∧ e.2 ≤ 20) : (ps.length : Int) ≤ wt ps ∧ wt ps ≤ 23120 * ps.length := by
  induction ps with
  | nil => simp [wt]
  | cons e r ih =>
    have h1 := ih fun x hx => h x (.tail _ hx)
    obtain ⟨a1, a2, a3, a4⟩ := h e (.head _)
    have h2 : (e.1 : Int) * e.2 ≤ 1156 * 20 := Int.mul_le_mul (by omega) (by omega) (by omega) (by omega)
    have h3 : 1 * 1 ≤ (e.1 : Int) * e.2 := Int.mul_le_mul (by omega) (by omega) (by omega) (by omega)
    have e1 : wt (e :: r) = (e.1 : Int) * e.2 + wt r := by unfold wt; rw [List.map_cons, List.sum_cons]
    rw [e1, List.length_cons]
    omega
theorem Parts.wok {k : Nat} {ps : List (Nat × Int)} (h : Parts k ps) : ∀ e ∈ ps, Wok e := fun e he => by
  obtain ⟨a1, a2, a3, a4⟩ := h.ok e he
  have h2 : (e.1 : Int) * e.2 ≤ 1156 * 20 := Int.mul_le_mul (by omega) (by omega) (by omega) (by omega)
  exact ⟨a1, by omega, by omega⟩
theorem Parts.wt {k : Nat} {ps : List (Nat × Int)} (h : Parts k ps) : 0 < wt ps ∧ wt ps ≤ 100000 := by
  have := wt_le h.ok
  rw [h.len] at this
  omega
theorem tot_le20 {ps : List (Nat × Int)} (h : ∀ e ∈ ps, 0 < e.1 ∧ e.1 ≤ 1156 ∧ 1 ≤ e.2 ∧ e.2 ≤ 20) (s : Nat) : 0 ≤ tot ps s ∧ tot ps s ≤ 20 * ps.length := by
  induction ps with
  | nil => simp [tot_nil]
  | cons e r ih =>
    have h1 := ih fun x hx => h x (.tail _ hx)
    obtain ⟨a1, a2, a3, a4⟩ := h e (.head _)
    rw [tot_cons, List.length_cons]
    split <;> omega
theorem Parts.tot {k : Nat} {ps : List (Nat × Int)} (h : Parts k ps) (s : Nat) : 0 ≤ tot ps s ∧ tot ps s ≤ 80 := by
  have := tot_le20 h.ok s
  rw [h.len] at this
  exact this
/-- a bag that a way or the law holds -/
structure Held (w : Int) (b : List (Nat × Int)) : Prop where
  sorted : b.Pairwise (fun x y => x.1 < y.1)
  wok : ∀ e ∈ b, Wok e
  weight : wt b = w
theorem IsBag.held {w : Int} {hs b : List (Nat × Int)} (h : IsBag hs b) (hok : ∀ e ∈ hs, Wok e) (hw : wt hs = w) (hb : w ≤ 100000) : Held w b :=
  ⟨h.1, h.wok hok (by rw [hw]; exact hb), by rw [wt_tot h.told, hw]⟩
section
variable {k : Nat} {ps b f g b1 b2 : List (Nat × Int)}
theorem Parts.bag (h : Parts k ps) (hb : IsBag ps b) : Held (Mine.wt ps) b := hb.held h.wok rfl h.wt.2
theorem Parts.forth (h : Parts k ps) (hb : Held (Mine.wt ps) b) (hf : IsBag (fhs k b) f) : Held (Mine.wt ps) f := hf.held (fhs_ok h.k2 hb.wok) (by rw [wt_fhs h.k2 hb.wok, hb.weight]) h.wt.2
theorem Parts.back (h : Parts k ps) (hb : Held (Mine.wt ps) b) (hf : IsBag (bhs k b) f) : Held (Mine.wt ps) f := hf.held (bhs_ok h.k2 hb.wok) (by rw [wt_bhs h.k2 hb.wok, hb.weight]) h.wt.2
theorem Parts.ne (h : Parts k ps) : ps ≠ [] := ne_of_wt h.wt.1
theorem Parts.fne (h : Parts k ps) (hb : Held (Mine.wt ps) b) : fhs k b ≠ [] := ne_of_wt (by rw [wt_fhs h.k2 hb.wok, hb.weight]; exact h.wt.1)
theorem Parts.bne (h : Parts k ps) (hb : Held (Mine.wt ps) b) : bhs k b ≠ [] := ne_of_wt (by rw [wt_bhs h.k2 hb.wok, hb.weight]; exact h.wt.1)
theorem Parts.len4 (h : Parts k ps) (hb : IsBag ps b) : b.length ≤ 4 := by rw [← h.len]; exact hb.len
theorem Parts.fhs28 (h : Parts k ps) (hb : IsBag ps b) : (fhs k b).length ≤ 28 := by
  have h1 := fhs_short h.k2 (b := b) fun e he => by
    have h2 := (tot_mem hb.nodup he).symm
    rw [hb.told] at h2
    have h3 := h.tot e.1
    omega
  have := h.len4 hb
  omega
theorem Parts.few0 (h : Parts k ps) : FewSizes ps := few_len (by rw [h.len]; omega)
theorem Parts.fewF (h : Parts k ps) (hb : IsBag ps b) : FewSizes (fhs k b) := few_len (Nat.lt_of_le_of_lt (h.fhs28 hb) (by omega))
theorem Parts.fewB (h : Parts k ps) (hb : IsBag ps b) : FewSizes (bhs k b) := few_len (by have := bhs_len (k := k) b; have := h.len4 hb; omega)
theorem Parts.fewFB (h : Parts k ps) (hb : IsBag ps b) (hf : IsBag (fhs k b) f) : FewSizes (bhs k f) :=
  have H := h.bag hb
  have HF := h.forth H hf
  few_tot (wok_pos (bhs_ok h.k2 HF.wok)) (back_forth h.k2 hb.nodup H.wok hf HF.wok) (by have := h.len4 hb; omega)
theorem Parts.fewBF (h : Parts k ps) (hb : IsBag ps b) (hg : IsBag (bhs k b) g) : FewSizes (fhs k g) :=
  have H := h.bag hb
  have HG := h.back H hg
  few_tot (wok_pos (fhs_ok h.k2 HG.wok)) (forth_back h.k2 hb.nodup H.wok hg HG.wok) (by have := h.len4 hb; omega)
theorem Parts.f28 (h : Parts k ps) (hb : IsBag ps b) (hf : IsBag (fhs k b) f) : f.length ≤ 28 := Nat.le_trans hf.len (h.fhs28 hb)
theorem Parts.g8 (h : Parts k ps) (hb : IsBag ps b) (hg : IsBag (bhs k b) g) : g.length ≤ 8 := by
  have := hg.len
  have := bhs_len (k := k) b
  have := h.len4 hb
  omega
theorem Parts.same1 (h : Parts k ps) (hb : IsBag ps b) (hf : IsBag (fhs k b) f) (h1 : IsBag (bhs k f) b1) : b1 = b :=
  have H := h.bag hb
  have HF := h.forth H hf
  h1.eq (IsBag.self hb.1) (wok_pos (bhs_ok h.k2 HF.wok)) (wok_pos H.wok) (back_forth h.k2 hb.nodup H.wok hf HF.wok)
theorem Parts.same2 (h : Parts k ps) (hb : IsBag ps b) (hg : IsBag (bhs k b) g) (h2 : IsBag (fhs k g) b2) : b2 = b :=
  have H := h.bag hb
  have HG := h.back H hg
  h2.eq (IsBag.self hb.1) (wok_pos (fhs_ok h.k2 HG.wok)) (wok_pos H.wok) (forth_back h.k2 hb.nodup H.wok hg HG.wok)
theorem Parts.dues (h : Parts k ps) (hb : IsBag ps b) (hf : IsBag (fhs k b) f) : f.map (·.2) = f.map fun e => due ps k e.1 :=
  have H := h.bag hb
  forth_due h.k2 hb H.wok hf (h.forth H hf).wok
theorem Parts.sizes (h : Parts k ps) (hb : IsBag ps b) (hg : IsBag (bhs k b) g) : (g.filter fun e => e.1 % k = 0).map (·.1) = (b.filter fun e => (k : Int) ≤ e.2).map fun e => k * e.1 :=
  back_sizes h.k2 hb.1 (h.bag hb).wok hg
/-- the plain sums sorted are the bag -/
theorem plain_bag {l b' : List (Nat × Int)} (hb : IsBag ps b) (hl : DT ps l) (hp : b'.Pairwise fun x y => x.1 < y.1) (hm : ∀ x, x ∈ b' ↔ x ∈ l) : b = b' :=
  sorted_ext hb.1 hp fun x => by rw [hm, show x = (x.1, x.2) from rfl, hb.2, hl.2]
theorem plain_ne {l : List (Nat × Int)} (hl : DT ps l) (hn : ps ≠ []) : 1 ≤ l.length := by
  cases ps with
  | nil => exact absurd rfl hn
  | cons e r => exact List.length_pos_of_mem ((hl.2 e.1 (Mine.tot (e :: r) e.1)).mpr ⟨by simp, rfl⟩)
end
theorem Parts.l64 {k : Nat} {ps : List (Nat × Int)} (h : Parts k ps) {l : List (Nat × Int)} (hl : l.length ≤ ps.length) : l.length < 64 := by rw [h.len] at hl; omega
theorem Parts.b50 {k : Nat} {ps b : List (Nat × Int)} (h : Parts k ps) (hb : IsBag ps b) : b.length ≤ 50 := Nat.le_trans (h.len4 hb) (by decide)
theorem Parts.b400 {k : Nat} {ps b : List (Nat × Int)} (h : Parts k ps) (hb : IsBag ps b) : b.length ≤ 400 := Nat.le_trans (h.len4 hb) (by decide)
theorem Parts.sz28 {k : Nat} {ps b f : List (Nat × Int)} (h : Parts k ps) (hb : IsBag ps b) (hf : IsBag (fhs k b) f) {n : Nat} (hn : n = f.length) : n ≤ 1000 := by have := h.f28 hb hf; omega
theorem Parts.tot5 {k : Nat} {ps : List (Nat × Int)} (h : Parts k ps) (s : Nat) : 0 ≤ Mine.tot ps s ∧ Mine.tot ps s ≤ 100000 := by have := h.tot s; omega
theorem Parts.b1000 {k : Nat} {ps b : List (Nat × Int)} (h : Parts k ps) (hb : IsBag ps b) : b.length ≤ 1000 := Nat.le_trans (h.len4 hb) (by decide)
theorem Parts.f1000 {k : Nat} {ps b f : List (Nat × Int)} (h : Parts k ps) (hb : IsBag ps b) (hf : IsBag (fhs k b) f) : f.length ≤ 1000 := Nat.le_trans (h.f28 hb hf) (by decide)
theorem Parts.g1000 {k : Nat} {ps b f : List (Nat × Int)} (h : Parts k ps) (hb : IsBag ps b) (hf : IsBag (bhs k b) f) : f.length ≤ 1000 := Nat.le_trans (h.g8 hb hf) (by decide)
theorem Parts.f400 {k : Nat} {ps b f : List (Nat × Int)} (h : Parts k ps) (hb : IsBag ps b) (hf : IsBag (fhs k b) f) : f.length ≤ 400 := Nat.le_trans (h.f28 hb hf) (by decide)
theorem Parts.g50 {k : Nat} {ps b f : List (Nat × Int)} (h : Parts k ps) (hb : IsBag ps b) (hf : IsBag (bhs k b) f) : f.length ≤ 50 := Nat.le_trans (h.g8 hb hf) (by decide)
theorem pts_ok {K : Nat} (h2 : 2 ≤ K) (h17 : K ≤ 17) (c1 c2 c3 c4 : Int) : Parts K ([c1, c2, c3, c4].map (pt K)) := by
  refine ⟨h2, h17, fun e he => ?_, rfl⟩
  obtain ⟨c, _, rfl⟩ := List.mem_map.mp he
  have := pt_ok h2 h17 c
  exact ⟨this.1, this.2.1, this.2.2.1, this.2.2.2.1⟩
section
variable {prog : Program} {w : World} {A : Around} {E : Value → Shared → Prop} {s : Shared}
theorem natAbs17 {K : Nat} (h17 : K ≤ 17) : (K : Int).natAbs < 2 ^ 64 := Nat.lt_of_le_of_lt (show (K : Int).natAbs ≤ 17 by omega) (by decide)
theorem pow_pt {K : Nat} (h2 : 2 ≤ K) (h17 : K ≤ 17) {c : Int} {t u : Tok} {Q : Value → Shared → Prop} (h : ∀ P : Int, 1 ≤ P → P ≤ 289 → (K : Int) ^ ((c.fdiv 4).fmod 3).toNat = P → Q (.int P s.toks) { s with toks := s.toks + 1 }) :
    wpAny (model prog w) A (binaryOp .Pow (.int K t) (.int ((c.fdiv 4).fmod 3) u)) Q E s := by
  have h3a : 0 ≤ (c.fdiv 4).fmod 3 := Int.fmod_nonneg_of_pos _ (by decide)
  have h3b : (c.fdiv 4).fmod 3 < 3 := Int.fmod_lt_of_pos _ (by decide)
  have hp := pw_ok h2 h17 c
  exact pow_gen rfl h3a (by omega) (natAbs17 h17) (h _ hp.1 hp.2 rfl)
theorem mul_gen {a b : Int} {t u : Tok} {Q : Value → Shared → Prop} (ha : a.natAbs ≤ 1000000) (hb : b.natAbs ≤ 1000000) (h : Q (.int (a * b) s.toks) { s with toks := s.toks + 1 }) : wpAny (model prog w) A (binaryOp .Mult (.int a t) (.int b u)) Q E s :=
  mul_int h (by
    have h1 : -1000000 ≤ a ∧ a ≤ 1000000 := by omega
    have h2 : -1000000 ≤ b ∧ b ≤ 1000000 := by omega
    obtain ⟨h1, h1'⟩ := h1
    obtain ⟨h2, h2'⟩ := h2
    mul_fits)
theorem mul_pt {K : Nat} (h2 : 2 ≤ K) (h17 : K ≤ 17) {c P : Int} (h1 : 1 ≤ P) (h3 : P ≤ 289) (hP : (K : Int) ^ ((c.fdiv 4).fmod 3).toNat = P) {t u : Tok} {Q : Value → Shared → Prop} (h : Q (.int ((pt K c).1 : Int) s.toks) { s with toks := s.toks + 1 }) :
    wpAny (model prog w) A (binaryOp .Mult (.int (1 + c.fmod 4) t) (.int P u)) Q E s := by
  have h4a : 0 ≤ c.fmod 4 := Int.fmod_nonneg_of_pos _ (by decide)
  have h4b : c.fmod 4 < 4 := Int.fmod_lt_of_pos _ (by decide)
  refine mul_gen (by omega) (by omega) ?_
  have := (pt_ok h2 h17 c).2.2.2.2
  rw [← hP, ← this]
  exact h
end
theorem mem_two {α : Type} {a b p : α} {l : List α} (h : p ∈ [a, b]) : p ∈ a :: b :: l := by
  rcases List.mem_cons.mp h with rfl | h
  · exact .head _
  · rw [List.mem_singleton.mp h]; exact .tail _ (.head _)
theorem ne_lt2 {a n : Nat} (h : a < n) : a ≠ n + 1 + 1 := by omega
theorem parts_sz {K : Nat} {ps : List (Nat × Int)} (h : Parts K ps) {e : Nat × Int} (he : e ∈ ps) : 0 < (e.1 : Int) ∧ (e.1 : Int) < 2 ^ 20 ∧ 0 < e.2 ∧ e.2 < 2 ^ 20 := by
  have := h.ok e he
  omega
theorem parts_szN {K : Nat} {ps : List (Nat × Int)} (h : Parts K ps) {e : Nat × Int} (he : e ∈ ps) : 0 < e.1 ∧ e.1 < 2 ^ 20 ∧ 0 < e.2 ∧ e.2 < 2 ^ 20 := by
  have := h.ok e he
  omega
theorem take_snoc {α : Type} {l : List α} {i : Nat} {x : α} (h : l[i]? = some x) : l.take (i + 1) = l.take i ++ [x] := by
  rw [List.take_add_one, h]; rfl
theorem Parts.take {K : Nat} {ps : List (Nat × Int)} (h : Parts K ps) (i : Nat) : (ps.take i).length ≤ 1000 := by
  rw [List.length_take, h.len]; omega
theorem Parts.some {K : Nat} {ps : List (Nat × Int)} (h : Parts K ps) : ps.length ≤ 50 := by rw [h.len]; omega
theorem law_depth (env : Env) {d : Nat} (h : d ≤ 600) : (callerA.deeper env).depth + d < recursionLimit := by
  rw [depth_deeper, depth_caller]
  show 301 + 1 + d < 1000
  omega
theorem law_units (env : Env) {d : Nat} (h : d ≤ 9000) : (callerA.deeper env).units + d < cLine := by
  rw [units_deeper, units_caller]
  show 4 + 3 + d < 9900
  omega
theorem ne_data {h₀ h : Heap} {L a b : Addr} {o o' : Obj} {news : Led} (N : News h₀ L h news) (h1 : (a, o) ∈ news) (h2 : (b, o') ∈ news) (hd : o.data ≠ o'.data) : a ≠ b := by
  rintro rfl
  exact hd (by rw [news_fun N h1 h2])
theorem noCode_cell {o : Obj} {v : Option Value} (x : o.data = .cell v) : NoCode o := by
  intro vs q t h
  rw [x] at h; cases h
theorem usr_cell {o : Obj} {v : Option Value} (x : o.data = .cell v) : Usr o := .inr (.inr (.inr ⟨v, x⟩))
theorem list_ne_cell {o : Obj} {v : Option Value} {xs : Array Value} {n : Nat} (x : o.data = .cell v) : (listOf xs n).data ≠ o.data := by
  rw [x]; intro e; cases e
theorem tup_ne_cell {o : Obj} {v : Option Value} {xs : Array Value} {n : Nat} (x : o.data = .cell v) : (tupO xs n).data ≠ o.data := by
  rw [x]; intro e; cases e
theorem dict_data {prog : Program} {w : World} {o : Obj} {kvs : List (Int × Value)} (h : o.IsDictOf (PySem.intKind prog w) kvs) : ∃ es ep, o.data = .dict es ep := by
  obtain ⟨es, ep, _, h, _⟩ := h
  exact ⟨es, ep, h⟩
theorem dict_ne_cell {prog : Program} {w : World} {o o' : Obj} {kvs : List (Int × Value)} {v : Option Value} (h : o.IsDictOf (PySem.intKind prog w) kvs) (x : o'.data = .cell v) : o.data ≠ o'.data := by
  obtain ⟨es, ep, e⟩ := dict_data h
  rw [x, e]; intro e; cases e
theorem usr_dict {prog : Program} {w : World} {o : Obj} {kvs : List (Int × Value)} (h : o.IsDictOf (PySem.intKind prog w) kvs) : Usr o := .inr (.inr (.inl (dict_data h)))
theorem usr_list {xs : Array Value} {n : Nat} : Usr (listOf xs n) := .inl (by simp)
theorem usr_tup {xs : Array Value} {n : Nat} : Usr (tupO xs n) := .inl (by simp)
theorem Bag.keep {n n' : Led} {vs : List Value} {b : List (Nat × Int)} (h : Bag n vs b) (k : KeepU n n') : Bag n' vs b := h.mono fun q a hq => k _ hq usr_tup
theorem not_same (b : List (Nat × Int)) : (!decide (b = b)) = false := by simp
theorem line1000 {n : Nat} (h : n ≤ 1000) : n ≤ sizeLine := by rw [sizeLine_eq]; omega
theorem wok_abs {e : Nat × Int} (h : Wok e) : ((e.1 : Nat) : Int).natAbs ≤ 1000000 ∧ e.2.natAbs ≤ 1000000 := by
  have h1 := h.lt
  have h2 := h.2.1
  omega
theorem not_same' {α : Type} [DecidableEq α] (b : α) : (!decide (b = b)) = false := by simp
theorem filt_yes {α β : Type} {l : List α} {i : Nat} {x : α} {q : α → Bool} {f : α → β} (h : l[i]? = some x) (hq : q x = true) : ((l.take (i + 1)).filter q).map f = ((l.take i).filter q).map f ++ [f x] := by
  rw [take_snoc h, List.filter_append, List.map_append, List.filter_cons_of_pos hq]; rfl
theorem filt_no {α β : Type} {l : List α} {i : Nat} {x : α} {q : α → Bool} {f : α → β} (h : l[i]? = some x) (hq : ¬ q x = true) : ((l.take (i + 1)).filter q).map f = ((l.take i).filter q).map f := by
  rw [take_snoc h, List.filter_append, List.map_append, List.filter_cons_of_neg hq]
  simp
theorem fmod_nat {s k : Nat} (hk : 2 ≤ k) : (s : Int).fmod (k : Int) = ((s % k : Nat) : Int) := by rw [Int.fmod_eq_emod_of_nonneg _ (by omega), Int.natCast_emod]
theorem fmod_yes {s k : Nat} (hk : 2 ≤ k) (h : (s : Int).fmod (k : Int) = 0) : s % k = 0 := by
  rw [fmod_nat hk] at h; omega
theorem fmod_no {s k : Nat} (hk : 2 ≤ k) (h : ¬ (s : Int).fmod (k : Int) = 0) : ¬ s % k = 0 := by
  rw [fmod_nat hk] at h; omega
theorem abs17 {k : Nat} (h : k ≤ 17) : (k : Int).natAbs ≤ 1000000 := by omega
theorem Parts.sizesI {k : Nat} {ps b g : List (Nat × Int)} (h : Parts k ps) (hb : IsBag ps b) (hg : IsBag (bhs k b) g) : ((g.filter fun e => e.1 % k = 0).map fun e => (e.1 : Int)) = (b.filter fun e => (k : Int) ≤ e.2).map fun e => (k : Int) * (e.1 : Int) := by
  have h1 := congrArg (List.map Int.ofNat) (h.sizes hb hg)
  rw [List.map_map, List.map_map] at h1
  refine Eq.trans h1 (List.map_congr_left fun e _ => ?_)
  show ((k * e.1 : Nat) : Int) = _
  rw [Int.natCast_mul]
theorem gen_led {h₀ h : Heap} {L : Addr} {led : Led} (n : Led) {G : Prop} (N : News h₀ L h led) (hi : ∀ p ∈ n, p ∈ led) (k : ∀ n', News h₀ L h n' → (∀ p ∈ n, p ∈ n') → G) : G := k led N hi
theorem is_same {α : Type} [DecidableEq α] {a b : α} (h : a = b) : decide (a = b) = true := decide_eq_true h
theorem TabOk.is {pos : Pos} {q : PySem.Str} {o : Obj} {news : Led} (h : TabOk pos q o news) : ∃ ps, o = tabObj ps := by
  rcases h with rfl | ⟨_, _, _, _, rfl, _⟩ <;> exact ⟨_, rfl⟩
theorem Tb.grown {h₀ h : Heap} {L : Addr} {news : Led} (N : News h₀ L h news) (T : Tb news) : GrownAll [(228, 224), (235, 231), (200, 196)] h := by
  obtain ⟨o1, o2, o3, a1, b1, a2, b2, a3, b3⟩ := T
  obtain ⟨p1, rfl⟩ := b1.is
  obtain ⟨p2, rfl⟩ := b2.is
  obtain ⟨p3, rfl⟩ := b3.is
  exact ⟨.of N a2, .of N a3, .of N a1, trivial⟩
theorem law_post (ns : List Int) : PySem.Challenge.rw_ul0029_01.row.claim.post [ofPy (PyData.list (List.map PyData.int ns))] (WData.bool true) [ofPy (PyData.list (List.map PyData.int ns))] = true := by
  kc_post
local macro_rules | `(tactic| k_mem) => `(tactic| first | (refine List.Mem.tail _ ?_; assumption) | (refine List.Mem.tail _ (List.Mem.tail _ ?_); assumption))
theorem clean_MZ : True := by
  w_top off
  k_with "my_use" => (((case cB => k_asm); (case cF => k_asm); (case cX => k_asm); (case cN => k_asm); (case cT => k_asm); (case ch => exact rfl); (case cf => exact rfl); (case ck => first | exact rfl | assumption); (case cd => first | exact law_depth _ (by decide) | ((try simp only [depth_under_make, depth_under_kw, depth_in1, depth_deeper, depth_caller]); (try dsimp only [ktrTop]); omega)); (case cu => first | exact law_units _ (by decide) | ((try simp only [units_in1, units_deeper, Around.mark_units, units_caller]); (try dsimp only [ktrTop]); omega))))
  k_with "call type:enumerate" => (refine stop ?_)
  k_with "storeName" => ((k_here; (with_reducible show wpAny _ _ (storeName (envOfC _ _ _ _ _) (Str.ofString "k") _) _ _ _); refine stop ?_))
  k_with "storeName" => ((k_here; (with_reducible show wpAny _ _ (storeName (envOfC _ _ _ _ _) (Str.ofString "plain") _) _ _ _); refine stop ?_))
  k_with "binaryOp Pow int int" => (refine stop ?_)
  k_with "binaryOp Mult int int" => (refine stop ?_)
  k_with "eval Name" => ((k_here; (with_reducible show wpAny _ _ (eval (Expr.Name _ _) (envOfC _ _ _ _ _)) _ _ _); k_dflt (refine' ldCN ?Nz50 ?cz50 ?mz50 ?dz50 ?_; (case Nz50 => k_asm); (case cz50 => exact rfl); (case mz50 => k_mem); (case dz50 => k_asm); k_whole)))
  k_with "call builtin:sorted" => (refine stop ?_)
  k_with "compareOp NotEq ref ref" => (refine stop ?_)
  k_with "compareOp Eq ref ref" => (refine stop ?_)
  k_with "my call" => (refine stop ?_)
  trivial
section
local macro_rules | `(tactic| walk_at "exec While Name cons nil") => `(tactic| refine stop ?_)
theorem law_end : PySem.Challenge.rw_ul0029_01.Holds := by
  w_on
  refine holds_law said0 fun said => ?_
  refine holds_open (q := view0) (loose := [Str.ofString "tspecials", Str.ofString "_name_disallowed_re", Str.ofString "_value_disallowed_re", Str.ofString "_formatparam", Str.ofString "compute_powers"]) (Xt := fun s => xlAt view0 [] s && recOk (RowW.records PySem.Challenge.rw_ul0029_01.row.toRowW) s) (XP := XL view0 []) (Yf := Hook.obs (kmHook K0 as0 as_eq [224, 231, 196])) (Ya := Hook.val (kmHook K0 as0 as_eq [224, 231, 196])) (YP := Hook.says (kmHook K0 as0 as_eq [224, 231, 196])) (N := 3364) ?hl (Hook.of (kmHook K0 as0 as_eq [224, 231, 196])) (Hook.keeps (kmHook K0 as0 as_eq [224, 231, 196])) (fun s e => xl_of s (Bool.and_eq_true_iff.mp e).1) XL.keeps (by rfl) (by rfl) (by rfl) (fun s e => recFacts_of (Bool.and_eq_true_iff.mp e).2) (by rfl) (by first | assumption | decide +kernel) (by decide +kernel) ⟨rfl, rfl, rfl, rfl, rfl, by decide +kernel⟩ ?hw ?hc
  case hl => exact left0
  case hw => w_witness2
  case hc => clear said; exact (by
  k_go0
  all_goals try k_fold
  rename_i ww s0 s1 mg mb GG YY fa oF pm cd dc hoF hcdF hgF XM VV TM BB TE1 TW ns hs9 hl9 hl8 hr9 hl7 la1 la2 sl svs la3 hL9 ra9 w19 r09 hI hr8 hc63 hcT hD9 H1 tk1 o1 o2 o3 d1 d2 d3 X0 XX TT BK FF cA cB NN l0
  replace d1 : o1.data = .cell none := d1
  replace d2 : o2.data = .cell none := d2
  replace d3 : o3.data = .cell (some (.ref sl)) := d3
  refine gen_q fun R9 hR9 => ?_
  refine wpAny_noRaise ?_
  k_steps
  unfold Stop
  refine Assign_any (by with_unfolding_all rfl) (by intro _; rfl) rfl rfl (by decide) ?_
  k_steps
  unfold Stop
  rename_i lc hc FC NC lC
  refine comp_enum rfl (.head _) (by simp) FC NC (by decide) rfl (fun _ => rfl) (fun _ => rfl) (fun i vs => ∃ xs, IntsAre vs xs ∧ xs.length = i) ⟨[], .nil, rfl⟩ ?_ ?_
  · intro I it C D oL hoL hLC hLa i x t vs nD mC h tk oI ot hx hJ F1 N1
    clear hoL hLC hLa l0 lC
    refine gen_q fun R8 hR8 => ?_
    obtain ⟨xs, hxs, hxl⟩ := hJ
    obtain ⟨a, ta, rfl⟩ : ∃ a ta, x = .int a ta := by
      rcases i with _ | _ | _ | _ | _ | i <;> simp at hx <;> exact ⟨_, _, hx.symm⟩
    have hi5 : i < 5 := (List.getElem?_eq_some_iff.mp hx).1
    k_steps
    rename_i hS FS NS
    have hsl := News.get NS (.head _)
    have hint := hI.pick (some (i : Int)) (some 60) (some 5)
    refine sumK (vs := (slicePick svs.toArray (some (i : Int)) (some 60) (some 5)).toList) rfl FS NS ⟨_, hsl, rfl, _, by rw [Array.toArray_toList]⟩ hint ?_
    intro hT tkT tT F2 N2
    k_steps
    refine hR8 _ _ ?_
    unfold Stop
    exact ⟨_, _, _, _, rfl, F2, N2, fun p hp => .tail _ hp, xs ++ [_], hxs.append (.cons _ _ .nil), by rw [List.length_append, hxl]; rfl⟩
  · intro C oL h tk D cvs nD mC hoL hLC hDL hLa F1 N1 hlt hJ
    refine post_store hoL hLC hDL hLa F1 N1 (fun p hp => ⟨Nat.ne_of_lt (hlt p hp), (NC p hp).2.1⟩) rfl rfl fun h2 tk2 F2 N2 => ?_
    obtain ⟨xs, hxs, hxl⟩ := hJ
    obtain ⟨c0, c1, c2, c3, c4, rfl⟩ : ∃ c0 c1 c2 c3 c4, xs = [c0, c1, c2, c3, c4] := by
      match xs, hxl with
      | [a, b, c, d, e], _ => exact ⟨a, b, c, d, e, rfl⟩
    clear FC NC F1 N1 hoL hLC hDL hLa lC hxl
    have hk0 : 0 ≤ c0.fmod 16 := Int.fmod_nonneg_of_pos _ (by decide)
    have hk1 : c0.fmod 16 < 16 := Int.fmod_lt_of_pos _ (by decide)
    obtain ⟨K, hKv⟩ : ∃ K : Nat, 2 + c0.fmod 16 = (K : Int) := ⟨(2 + c0.fmod 16).toNat, by omega⟩
    have hK2 : 2 ≤ K := by omega
    have hK17 : K ≤ 17 := by omega
    k_steps
    unfold Stop
    have hKv' : 2 + ([c0, c1, c2, c3, c4].getD (Int.toNat 0) 0).fmod 16 = (K : Int) := hKv
    rw [hKv']
    clear hKv hKv' hk0 hk1
    refine take_out N2 (.tail _ (.tail _ (.tail _ (.head _)))) fun rest N3 ha hb hc => ?_
    refine stCN (own := []) (rest := rest) F2 N3 rfl d2 (by simp) ha ?_
    intro h3 o2' F3 N3' d2'
    rw [List.nil_append] at N3'
    obtain ⟨tK, d2'⟩ : ∃ t, o2'.data = .cell (some (.int K t)) := ⟨_, d2'⟩
    k_steps
    unfold Stop
    clear N2
    have nD2 : D ≠ s1.heap.objs.size + 1 + 1 := Nat.ne_of_gt (hlt _ (.tail _ (.tail _ (.head _))))
    have mCl : (D, W.listOf cvs.toArray nD) ∈ ((s1.heap.objs.size + 1 + 1, o2') :: rest) := .tail _ (hb _ (.head _) nD2)
    refine Assign_any (by with_unfolding_all rfl) (by intro _; rfl) rfl rfl (by decide) ?_
    k_steps
    unfold Stop
    rename_i D2 ws hW FW NW iW cW lW l1W
    replace iW : IntsAre ws [c1, c2, c3, c4] := iW
    refine comp_list3 rfl (.head _) (by rw [iW.length, sizeLine_eq]; show 4 ≤ 16777216; omega) FW NW (by decide) rfl (fun i vs nx => Bag nx vs (([c1, c2, c3, c4].take i).map (pt K)) ∧ ∀ p ∈ ((D2, W.listOf ws.toArray 0) :: (s1.heap.objs.size + 1 + 1, o2') :: rest : Led), p ∈ nx) (fun i vs nx hJ => hJ.2 _ (.head _)) ⟨.nil, fun p hp => hp⟩ ?_ ?_
    · intro I C D3 oL hoL hLC hLa hIL hDL hltD i v vs nD mC nx h tk dr oI hi hv hJ hn hc hz F1 N1
      clear hLC hLa hIL hDL hltD l0 nD2 mCl
      refine gen_c fun R8 hR8 => ?_
      refine Classical.byContradiction fun hG9 => ?_
      obtain ⟨hbag, hsub⟩ := hJ
      obtain ⟨c, tc, rfl, hci⟩ := iW.at i v hv
      refine hG9 ?_
      clear hG9
      have mK := List.Mem.tail (I, oI) (List.Mem.tail (D3, W.listOf vs.toArray nD) (List.Mem.tail (s1.heap.objs.size, oL) (hsub _ (.tail _ (.head _)))))
      have h3a : 0 ≤ (c.fdiv 4).fmod 3 := Int.fmod_nonneg_of_pos _ (by decide)
      have h3b : (c.fdiv 4).fmod 3 < 3 := Int.fmod_lt_of_pos _ (by decide)
      have h4a : 0 ≤ c.fmod 4 := Int.fmod_nonneg_of_pos _ (by decide)
      have h4b : c.fmod 4 < 4 := Int.fmod_lt_of_pos _ (by decide)
      k_steps
      unfold Stop
      refine pow_pt hK2 hK17 fun pw9 hp1 hp2 hpw => ?_
      k_steps
      unfold Stop
      refine mul_pt hK2 hK17 hp1 hp2 hpw ?_
      k_steps
      rename_i hT tkT DT' hT' FT NT lT
      refine hR8 _ _ ?_
      refine ⟨_, _, _, _, _, oL, rfl, FT, NT, fun p hp => .tail _ (mem_two hp), hoL, .tail _ (.tail _ (.tail _ (.head _))), fun nx9 h9 => ⟨?_, fun p hp => h9 p (.tail _ (.tail _ (.tail _ (.tail _ (hsub p hp))))) (not_hide (hn p (hsub p hp)))⟩⟩
      rw [List.take_add_one, hci, Option.toList_some, List.map_append]
      exact (hbag.mono fun q a h => h9 _ (.tail _ (.tail _ (.tail _ (.tail _ h)))) (not_hide (hn _ h))).snoc (h9 _ (.head _) (not_hide ⟨Nat.ne_of_gt lT.1, Nat.ne_of_gt lT.2.1, Nat.ne_of_gt lT.2.2.1⟩))
    · intro C oL h tk dr PL pvs nP mC nx hoL hLC hDL hLa F1 N1 hltP hn hJ
      refine post_store hoL hLC hDL hLa F1 N1 hn rfl rfl fun h2 tk2 F4 N4 => ?_
      clear hoL hLC hDL hLa
      obtain ⟨hbag, hsub⟩ := hJ
      have hParts := pts_ok hK2 hK17 c1 c2 c3 c4
      have hpl : pvs.length = 4 := by rw [(show Bag nx pvs ([c1, c2, c3, c4].map (pt K)) from by rw [iW.length] at hbag; exact hbag).length]; rfl
      replace hbag : Bag nx pvs ([c1, c2, c3, c4].map (pt K)) := by rw [iW.length] at hbag; exact hbag
      generalize [c1, c2, c3, c4].map (pt K) = ps at hbag hParts
      clear F1 N1
      have hin : ∀ p ∈ rest, p ∈ ((PL, W.listOf pvs.toArray nP) :: nx) := fun p hp => .tail _ (hsub p (.tail _ (.tail _ hp)))
      have mK := List.Mem.tail (PL, W.listOf pvs.toArray nP) (hsub _ (.tail _ (.head _)))
      have mP := hin _ (hb _ (.tail _ (.tail _ (.head _))) (Nat.succ_ne_self (s1.heap.objs.size + 1 + 1)))
      have m224 := hin _ (hb _ (.tail _ (.tail _ (.tail _ (.tail _ (.tail _ (.head _)))))) (ne_lt2 l0.1))
      have m231 := hin _ (hb _ (.tail _ (.tail _ (.tail _ (.tail _ (.tail _ (.tail _ (.head _))))))) (ne_lt2 l0.2.1))
      have m196 := hin _ (hb _ (.tail _ (.tail _ (.tail _ (.tail _ (.tail _ (.tail _ (.tail _ (.head _)))))))) (ne_lt2 l0.2.2))
      have mTb : Tb ((PL, W.listOf pvs.toArray nP) :: nx) := ⟨_, _, _, m196, .inl rfl, m224, .inl rfl, m231, .inl rfl⟩
      have mPL : (PL, W.listOf pvs.toArray nP) ∈ ((PL, W.listOf pvs.toArray nP) :: nx : Led) := .head _
      replace hbag : Bag ((PL, W.listOf pvs.toArray nP) :: nx) pvs ps := hbag.mono fun q a h => .tail _ h
      clear m224 m231 m196 hin hsub hn hltP NW FW iW l1W lW cW l0 nD2 mCl ha hb hc hpl
      generalize ((PL, W.listOf pvs.toArray nP) :: nx : Led) = n0 at N4 mK mP mTb mPL hbag
      k_with "my call" => (refine stop ?_)
      k_with "my call" => (refine' Con.use (c_new ww _) ?cB ?cF ?cX ?cN ?cT ?ch ?cf ?ck ?cd ?cu ?_; walk_at "my_use"; intro r' news' h' tk' F' N' P'; refine Classical.byContradiction fun hG9 => ?_; obtain ⟨x, dx, l, tx, rfl, rfl, hl1, hl2, hl3⟩ := P'; refine hG9 ?_; clear hG9)
      k_steps
      unfold Stop
      rename_i hF FF NF
      refine wpAny_For ?_
      k_steps
      unfold Stop
      refine for_listN rfl (.tail _ (.tail _ (.tail _ mPL))) FF NF (fun i m nx => m (PySem.Str.ofString "table") = some (.ref x) ∧ m (PySem.Str.ofString "parts") = some (.ref PL) ∧ ∃ lvs ln, (x, instObj 182 dx) ∈ nx ∧ (dx, hdrDict ww tx l) ∈ nx ∧ (l, W.listOf lvs.toArray ln) ∈ nx ∧ Ents nx lvs (ps.take i) ∧ Tb nx ∧ ∀ p ∈ n0, p ∈ nx) (fun i m nx hJ => ?_) ?_ ?_ ?_ ?_
      · obtain ⟨_, _, _, _, _, _, _, _, _, h9⟩ := hJ
        exact h9 _ mPL
      · exact ⟨rfl, rfl, [], 0, .tail _ (.head _), .tail _ (.tail _ (.head _)), .head _, .nil, mTb.sub fun p hp => .tail _ (.tail _ (.tail _ hp)), fun p hp => .tail _ (.tail _ (.tail _ hp))⟩
      · intro I i v m₁ nx h tk dr oI hI hv hJ hIne hcI hIz F1 N1
        refine gen_r fun R8 hR8 => ?_
        refine Classical.byContradiction fun hG9 => ?_
        obtain ⟨e1, e2, lvs, ln, j1, j2, j3, j4, j5, j6⟩ := hJ
        refine hG9 ?_
        clear hG9
        replace F1 := know2 F1 e1 e2
        clear FF NF
        refine Classical.byContradiction fun hG9 => ?_
        obtain ⟨q, t1, t2, sz, ct, rfl, hi, hq⟩ := hbag.at i v hv
        refine hG9 ?_
        clear hG9
        have hq2 := List.Mem.tail (I, oI) (j6 _ hq)
        have mm1 := List.Mem.tail (I, oI) j1
        have mm2 := List.Mem.tail (I, oI) j2
        have mm3 := List.Mem.tail (I, oI) j3
        have hIl : I ≠ l := fun e => hIne _ j3 e.symm
        have hIu : Usr oI := .inl (by rw [hcI]; simp)
        have hxl : x ≠ l := ne_cls N1 mm1 mm3 (by simp)
        have hdl : dx ≠ l := ne_cls N1 mm2 mm3 (by simp [hdrDict, dictOf])
        have hlz : lvs.length ≤ 1000 := by rw [j4.length]; exact hParts.take i
        have hw := parts_sz hParts (List.mem_of_getElem? hi)
        simp only at hw
        have hql6 : ∀ q a, (q, tupO a) ∈ nx → q ≠ l := fun q a h => ne_cls N1 (.tail _ h) mm3 tup_list
        have hT9 : ∀ nx9, (∀ p ∈ ((I, oI) :: nx : Led), p.1 ≠ l → p.1 ≠ I → p ∈ nx9) → Tb nx9 := fun nx9 h9 => by
          refine Tb.hide N1 (j5.sub fun p hp => .tail _ hp) [l, I] (fun a ha => ?_) fun p hp hne => ?_
          · rcases List.mem_cons.mp ha with rfl | ha
            · exact .inr ⟨_, mm3, .inl (by simp), noCode_seq rfl⟩
            · rw [List.mem_singleton.mp ha]
              exact .inr ⟨_, .head _, hIu, hIz⟩
          · simp only [List.mem_cons, List.not_mem_nil, or_false, not_or] at hne
            exact h9 p hp hne.1 hne.2
        k_with "my call" => (refine stop ?_)
        k_with "my call" => first | (refine' ConD.use (c_lay ww _ _ _ _ _ _ _ _ _ _ _ mm1 mm2 mm3 hlz hw.1 hw.2.1 hw.2.2.1 hw.2.2.2) ?cB ?cF ?cX ?cN ?cT ?ch ?cf ?ck ?cd ?cu ?_; walk_at "my_use"; intro r' news3 h' tk' dr' F' N' P'; refine Classical.byContradiction fun hG9 => ?_; obtain ⟨rfl, ⟨ql, v1, v2, hql, hl3'⟩, hkeep⟩ := P'; refine hG9 ?_; clear hG9) | (refine stop ?_)
        k_steps
        rw [Int.toNat_natCast] at hql
        have hI3 := hkeep _ (.head _) hIl
        refine hR8 _ _ ?_
        refine ⟨_, _, _, _, _, rfl, F', N', hI3, fun nx9 h9 => ⟨rfl, rfl, lvs ++ [.ref ql], ln + 1, h9 _ (hkeep _ mm1 hxl) (hIne _ j1), h9 _ (hkeep _ mm2 hdl) (hIne _ j2), h9 _ hl3' (Ne.symm hIl), ?_, ?_, fun p hp => h9 p (hkeep p (.tail _ (j6 p hp)) (Nat.ne_of_lt (Nat.lt_trans (Nat.lt_trans (hl1 p hp) hl2) hl3))) (hIne p (j6 p hp))⟩⟩
        · rw [take_snoc hi]
          exact (j4.mono fun q a h => h9 _ (hkeep _ (.tail _ h) (hql6 q a h)) (hIne _ h)).snoc (h9 _ hql (ne_cls N' hql hI3 (by rw [hcI]; simp)))
        · exact hT9 nx9 fun p hp hl hI => h9 p (hkeep p hp hl) hI
      · intro h tk dr m' nx F1 N1 hJ
        refine Classical.byContradiction fun hG9 => ?_
        obtain ⟨e1, e2, lvs, ln, j1, j2, j3, j4, j5, j6⟩ := hJ
        refine hG9 ?_
        clear hG9
        replace F1 := know2 F1 e1 e2
        clear FF NF
        rw [hbag.length, List.take_length] at j4
        have hlz : lvs.length ≤ 1000 := by rw [j4.length]; exact Nat.le_trans hParts.some (by decide)
        have nl : ∀ p ∈ n0, p.1 ≠ l := fun p hp => Nat.ne_of_lt (Nat.lt_trans (Nat.lt_trans (hl1 p hp) hl2) hl3)
        k_with "my call" => (refine stop ?_)
        k_with "my call" => first | (refine' ConD.use (c_bag ww _ _ _ _ _ _ _ _ j1 j2 j3 hlz j4 (fun e he => parts_szN hParts he) j5 hParts.few0 hParts.ne) ?cB ?cF ?cX ?cN ?cT ?ch ?cf ?ck ?cd ?cu ?_; walk_at "my_use"; intro r' news4 h' tk' dr' F' N' P'; refine Classical.byContradiction fun hG9 => ?_; obtain ⟨bl, bvs, bn, b, rfl, b1, b2, b3, b4, b5⟩ := P'; refine hG9 ?_; clear hG9) | (refine stop ?_)
        k_steps
        unfold Stop
        rename_i hB FB NB
        have mPL4 := b5 _ (j6 _ mPL) (nl _ mPL) (.inl (by simp))
        have mK4 := b5 _ (j6 _ mK) (nl _ mK) (usr_cell d2')
        have mP4 := b5 _ (j6 _ mP) (nl _ mP) (usr_cell d1)
        have hbag4 : Bag news4 pvs ps := hbag.mono fun q a h => b5 _ (j6 _ h) (nl _ h) (.inl (by simp))
        clear b5 j1 j2 j3 j4 j5 j6 nl hlz F1 N1 F' N'
        refine' ConD.use (c_plain ww _ _ _ _ _ mPL4 hbag4 hParts.some) ?cB ?cF ?cX ?cN ?cT ?ch ?cf ?ck ?cd ?cu ?_
        walk_at "my_use"
        intro r' news5 h5 tk5 dr5 F5 N5 P'
        refine Classical.byContradiction fun hG9 => ?_
        obtain ⟨d, od, kvs, dl, rfl, p1, p2, p3, p4, p5, p6, p7⟩ := P'
        refine hG9 ?_
        clear hG9
        k_with "my call" => (refine stop ?_)
        k_steps
        unfold Stop
        refine take_out N5 (p7 _ mP4) fun r2 N6 ha2 hb2 hc2 => ?_
        refine stCN (own := []) (rest := r2) F5 N6 rfl d1 (by simp) ha2 ?_
        intro h6 oP F6 N7 dP
        rw [List.nil_append] at N7
        replace dP : oP.data = .cell (some (.ref d)) := dP
        have k2 : ∀ p ∈ news4, p.1 ≠ s1.heap.objs.size + 1 + 1 + 1 → p ∈ r2 := fun p hp hne => hb2 p (p7 p hp) hne
        have mP := p7 _ mP4
        have mK := k2 _ mK4 (Nat.ne_of_lt (Nat.lt_succ_self (s1.heap.objs.size + 1 + 1)))
        have mB := k2 _ b1 (ne_data N5 (p7 _ b1) mP (list_ne_cell d1))
        have mBag : Bag r2 bvs b := b2.mono fun q a h => k2 _ h (ne_data N5 (p7 _ h) mP (tup_ne_cell d1))
        have mD := hb2 _ p1 (ne_data N5 p1 mP (dict_ne_cell p2 d1))
        have mT : Tb r2 := Tb.hide N5 (b4.sub p7) [s1.heap.objs.size + 1 + 1 + 1] (fun a ha => by rw [List.mem_singleton.mp ha]; exact .inr ⟨_, mP, usr_cell d1, noCode_cell d1⟩) fun p hp hne => hb2 p hp (by simpa using hne)
        clear N5 N6 F5 ha2 hb2 hc2 k2 mP p1 p7 b1 b2 b4 mPL4 mK4 mP4 hbag4 FB NB mPL mTb hbag
        k_with "my call" => (refine stop ?_)
        k_steps
        unfold Stop
        refine led_sortedItems rfl FV NV (.head _) (.tail _ (.tail _ mD)) p2 p3 (plain_ne p4 hParts.ne) (hParts.l64 p5) p4.1 ?_
        intro SB e8 h8 tk8 tups svs sb F8 N8 lt8 hB8 hs8 hm8
        have hbb := plain_bag b3 p4 hs8 hm8
        subst hbb
        k_steps
        unfold Stop
        have in8 : ∀ p ∈ r2, p ∈ ((SB, W.listOf svs.toArray e8) :: (tups ++ ((DV, { cls := .type "dict_items", data := .fields #[.ref d] }) :: (s1.heap.objs.size + 1 + 1 + 1, oP) :: r2)) : Led) := fun p hp => .tail _ (List.mem_append_right _ (.tail _ (.tail _ hp)))
        have mP : (s1.heap.objs.size + 1 + 1 + 1, oP) ∈ ((SB, W.listOf svs.toArray e8) :: (tups ++ ((DV, { cls := .type "dict_items", data := .fields #[.ref d] }) :: (s1.heap.objs.size + 1 + 1 + 1, oP) :: r2)) : Led) := .tail _ (List.mem_append_right _ (.tail _ (.head _)))
        replace mK := in8 _ mK
        replace mB := in8 _ mB
        replace mBag := mBag.mono fun q a h => in8 _ h
        replace mD := in8 _ mD
        replace mT := mT.sub in8
        refine led_neBag N8 mB (.head _) mBag (hB8.mono fun q a h => .tail _ h) (law_units _ (by decide)) ?_
        rw [not_same]
        clear hB8 hs8 hm8 lt8 in8 FV NV lV N7 F6
        generalize ((SB, W.listOf svs.toArray e8) :: (tups ++ ((DV, { cls := .type "dict_items", data := .fields #[.ref d] }) :: (s1.heap.objs.size + 1 + 1 + 1, oP) :: r2)) : Led) = n1 at N8 mP mK mB mBag mD mT
        have HB := hParts.bag b3
        k_with "my call" => (refine stop ?_)
        k_with "my call" => (refine stop ?_)
        k_steps
        unfold Stop
        refine' ConD.use (c_forth ww _ _ _ _ _ _ _ mB mBag (hParts.b50 b3) HB.wok hK2 hK17 mT (hParts.fewF b3) (hParts.fne HB)) ?cB ?cF ?cX ?cN ?cT ?ch ?cf ?ck ?cd ?cu ?_
        walk_at "my_use"
        intro r' n2 h9 tk9 dr9 F9 N9 P'
        refine Classical.byContradiction fun hG9 => ?_
        obtain ⟨fl, fvs, fn, f, rfl, mF, mFb, f3, f4, f5⟩ := P'
        refine hG9 ?_
        clear hG9
        replace mK := f5 _ mK (usr_cell d2')
        replace mP := f5 _ mP (usr_cell dP)
        replace mB := f5 _ mB usr_list
        replace mD := f5 _ mD (usr_dict p2)
        replace mBag := mBag.keep f5
        have HF := hParts.forth HB f3
        clear mT f5 N8 F8
        k_steps
        unfold Stop
        refine' ConD.use (c_back ww _ _ _ _ _ _ _ mB mBag (hParts.b400 b3) HB.wok hK2 hK17 f4 (hParts.fewB b3) (hParts.bne HB)) ?cB ?cF ?cX ?cN ?cT ?ch ?cf ?ck ?cd ?cu ?_
        walk_at "my_use"
        intro r' n3 h10 tk10 dr10 F10 N10 P'
        refine Classical.byContradiction fun hG9 => ?_
        obtain ⟨gl, gvs, gn, g, rfl, mG, mGb, g3, mT, f5⟩ := P'
        refine hG9 ?_
        clear hG9
        replace mK := f5 _ mK (usr_cell d2')
        replace mP := f5 _ mP (usr_cell dP)
        replace mB := f5 _ mB usr_list
        replace mF := f5 _ mF usr_list
        replace mD := f5 _ mD (usr_dict p2)
        replace mBag := mBag.keep f5
        replace mFb := mFb.keep f5
        have HG := hParts.back HB g3
        clear f4 f5
        k_with "my call" => (refine stop ?_)
        k_steps
        unfold Stop
        rename_i hX FX NX
        refine ListComp_any (by intro _; rfl) rfl rfl (by decide) ?_
        k_steps
        unfold Stop
        refine comp_list rfl mF (line1000 (hParts.sz28 b3 f3 mFb.length)) FX NX (by decide) rfl (fun i ks nx => IntsAre ks ((f.take i).map (·.2)) ∧ ∀ p ∈ n3, p ∈ nx) (fun i ks nx hJ => hJ.2 _ mF) ⟨.nil, fun p hp => hp⟩ ?_ ?_
        · intro I C DD oL hoL hLC hLa hltD i v ks nD mC nx h tk dr oI hi hP hJ hn hc F₁ N₁
          clear hLC hLa
          refine gen_c fun R8 hR8 => ?_
          refine Classical.byContradiction fun hG9 => ?_
          obtain ⟨hks, hsub⟩ := hJ
          obtain ⟨q, t1, t2, sz, ct, rfl, hh, hq⟩ := mFb.at i v hP
          refine hG9 ?_
          clear hG9
          have hq2 := List.Mem.tail (I, oI) (List.Mem.tail (DD, W.listOf ks.toArray nD) (List.Mem.tail (s1.heap.objs.size, oL) (hsub _ hq)))
          k_steps
          rename_i FQ NQ
          refine hR8 _ _ ?_
          refine comp_end_same FQ NQ hn fun nx2 h2 => ⟨?_, fun p hp => h2 p (hsub p hp)⟩
          rw [take_snoc hh, List.map_append]
          exact hks.append (.cons _ _ .nil)
        · intro h tk dr DA avs nA nx F₁ N₁ hltA hneA hJ
          obtain ⟨hks, hsub⟩ := hJ
          rw [mFb.length, List.take_length] at hks
          replace mK := hsub _ mK
          replace mP := hsub _ mP
          replace mB := hsub _ mB
          replace mF := hsub _ mF
          replace mG := hsub _ mG
          replace mD := hsub _ mD
          replace mBag := mBag.mono fun q a h => hsub _ h
          replace mFb := mFb.mono fun q a h => hsub _ h
          replace mGb := mGb.mono fun q a h => hsub _ h
          replace mT := mT.sub hsub
          k_steps
          unfold Stop
          refine ListComp_any (by intro _; rfl) rfl rfl (by decide) ?_
          k_steps
          unfold Stop
          refine comp_list2 rfl (.tail _ mF) (line1000 (hParts.sz28 b3 f3 mFb.length)) F₁ N₁ (by decide) rfl (fun i ks n9 => IntsAre ks ((f.take i).map fun e => due ps K e.1) ∧ ∀ p ∈ ((DA, W.listOf avs.toArray nA) :: nx : Led), p ∈ n9) (fun i ks n9 hJ => hJ.2 _ (.tail _ mF)) ⟨.nil, fun p hp => hp⟩ ?_ ?_
          · intro I C DD oL hoL hLC hLa hIL hDL hltD i v ks nD mC n9 h tk dr oI hi hP hJ hn hc hz F₂ N₂
            refine Classical.byContradiction fun hG9 => ?_
            obtain ⟨hks9, hsub9⟩ := hJ
            obtain ⟨q, t1, t2, sz, ct, rfl, hh, hq⟩ := mFb.at i v hP
            refine hG9 ?_
            clear hG9
            have hq2 := List.Mem.tail (I, oI) (List.Mem.tail (DD, W.listOf ks.toArray nD) (List.Mem.tail (s1.heap.objs.size, oL) (hsub9 _ (.tail _ hq))))
            have mK9 := List.Mem.tail (I, oI) (List.Mem.tail (DD, W.listOf ks.toArray nD) (List.Mem.tail (s1.heap.objs.size, oL) (hsub9 _ (.tail _ mK))))
            have mP9 := List.Mem.tail (I, oI) (List.Mem.tail (DD, W.listOf ks.toArray nD) (List.Mem.tail (s1.heap.objs.size, oL) (hsub9 _ (.tail _ mP))))
            have hw := HF.wok _ (List.mem_of_getElem? hh)
            have hLa9 : Stop _ := hLa
            have hIL9 : Stop _ := hIL
            have hDL9 : Stop _ := hDL
            clear hLa hIL hDL hLC
            refine gen_c fun R8 hR8 => ?_
            k_with "my call" => (refine stop ?_)
            k_with "my call" => (refine stop ?_)
            k_steps
            unfold Stop
            rename_i hY FY NY cY
            refine call_in_comp BK FY XX NY TT (.tail _ (.tail _ (.head _))) hoL hLa9 rfl rfl rfl (law_depth _ (by decide)) (law_units _ (by decide)) (fun nxA hinA => c_due ww nxA d od kvs dl ps sz K t1 tK (hinA _ (.tail _ (.tail _ (.tail _ (hsub9 _ (.tail _ mD))))) (hn _ (hsub9 _ (.tail _ mD))).2.2) p2 p3 p4 p6 hw.1 hw.lt.1 hK2 hK17 fun n => hParts.tot5 n) (fun nx r n P => by rw [P.2]; exact KeepU.refl) ?_
            intro nxA r3 newsA nxB oL' oC hB9 tkB drB hinA PA NA mCA hoC hoL' FB NB hinB houtB hnB
            obtain ⟨⟨tr, rfl⟩, hAA⟩ := PA
            subst hAA
            have hto : ∀ p ∈ ((I, oI) :: (DD, W.listOf ks.toArray nD) :: (s1.heap.objs.size, oL) :: n9 : Led), p.1 ≠ s1.heap.objs.size → p ∈ nxB := fun p hp hl => hinB p (hinA p hp hl) (NY p hp).2.1
            refine hR8 _ _ ?_
            refine ⟨hB9, tkB, drB, _, _, oL', rfl, FB, NB, fun p hp => .tail _ ?_, hoL', .head _, fun nx9 h9 => ⟨?_, fun p hp => ?_⟩⟩
            · rcases List.mem_cons.mp hp with rfl | hp
              · exact hto _ (.head _) hIL9
              · rw [List.mem_singleton.mp hp]
                exact hto _ (.tail _ (.head _)) hDL9
            · rw [take_snoc hh, List.map_append]
              exact hks9.append (.cons _ _ .nil)
            · have hn9 := hn p (hsub9 p hp)
              exact h9 p (.tail _ (hto p (.tail _ (.tail _ (.tail _ (hsub9 p hp)))) hn9.2.2)) (not_hide hn9)
          · intro h tk dr DB dvs nB n9 F₂ N₂ hltB hneB hJ
            obtain ⟨hks9, hsub9⟩ := hJ
            rw [mFb.length, List.take_length, ← hParts.dues b3 f3] at hks9
            k_with "my call" => (refine stop ?_)
            k_steps
            unfold Stop
            refine ne_intsK (led_list N₂ (.tail _ (hsub9 _ (.head _)))) hks (led_list N₂ (.head _)) hks9 (law_units _ (by decide)) ?_
            rw [not_same']
            have in9 : ∀ p ∈ nx, p ∈ ((DB, W.listOf dvs.toArray nB) :: n9 : Led) := fun p hp => .tail _ (hsub9 p (.tail _ hp))
            replace mK := in9 _ mK
            replace mP := in9 _ mP
            replace mB := in9 _ mB
            replace mF := in9 _ mF
            replace mG := in9 _ mG
            replace mD := in9 _ mD
            replace mBag := mBag.mono fun q a h => in9 _ h
            replace mFb := mFb.mono fun q a h => in9 _ h
            replace mGb := mGb.mono fun q a h => in9 _ h
            replace mT := mT.sub in9
            clear hks hks9 hltB hneB hltA hneA F₁ N₁ hsub hsub9 in9
            generalize ((DB, W.listOf dvs.toArray nB) :: n9 : Led) = n10 at N₂ mK mP mB mF mG mD mBag mFb mGb mT
            k_steps
            unfold Stop
            refine Assign_any (by with_unfolding_all rfl) (by intro _; rfl) rfl rfl (by decide) ?_
            k_steps
            unfold Stop
            rename_i TU hU FU NU lU
            have mBU := List.Mem.tail (TU, tupO #[.ref bl, .ref fl, .ref gl]) mB
            refine comp_tuple3 rfl (.head _) (by exact line1000 (show 3 ≤ 1000 by decide)) FU NU (by decide) rfl (fun i ks n9 => IntsAre ks ([wt b, wt f, wt g].take i) ∧ ∀ p ∈ ((TU, tupO #[.ref bl, .ref fl, .ref gl]) :: n10 : Led), p ∈ n9) (fun i ks n9 hJ => hJ.2 _ (.head _)) ⟨.nil, fun p hp => hp⟩ ?_ ?_
            · intro I C DD oL hoL hLC hLa hIL hDL hltD i v ks nD mC n9 h tk dr oI hi hP hJ hn hc hz F₁ N₁
              clear hLC hLa hIL hDL
              refine gen_c fun R8 hR8 => ?_
              obtain ⟨hks9, hsub9⟩ := hJ
              obtain ⟨al, avs, an, a, rfl, mA, mAb, hal, haw, hai⟩ : ∃ al avs an a, v = .ref al ∧ (al, W.listOf avs.toArray an) ∈ n10 ∧ Bag n10 avs a ∧ a.length ≤ 1000 ∧ (∀ e ∈ a, Wok e) ∧ [wt b, wt f, wt g][i]? = some (wt a) := by
                match i, hP with
                | 0, hP => cases hP; exact ⟨bl, bvs, bn, b, rfl, mB, mBag, hParts.b1000 b3, HB.wok, rfl⟩
                | 1, hP => cases hP; exact ⟨fl, fvs, fn, f, rfl, mF, mFb, hParts.f1000 b3 f3, HF.wok, rfl⟩
                | 2, hP => cases hP; exact ⟨gl, gvs, gn, g, rfl, mG, mGb, hParts.g1000 b3 g3, HG.wok, rfl⟩
                | _ + 3, hP => cases hP
              have mA9 := List.Mem.tail (I, oI) (List.Mem.tail (DD, W.listOf ks.toArray nD) (List.Mem.tail (s1.heap.objs.size, oL) (hsub9 _ (.tail _ mA))))
              k_with "my call" => (refine stop ?_)
              k_steps
              unfold Stop
              rename_i FW NW
              refine ListComp_any (by intro _; rfl) rfl rfl (by decide) ?_
              k_steps
              unfold Stop
              refine comp_list rfl mA9 (line1000 (by rw [mAb.length]; exact hal)) FW NW (by decide) rfl (fun j es n7 => IntsAre es ((a.take j).map fun e => (e.1 : Int) * e.2) ∧ ∀ p ∈ ((I, oI) :: (DD, W.listOf ks.toArray nD) :: (s1.heap.objs.size, oL) :: n9 : Led), p ∈ n7) (fun j es n7 hJ => hJ.2 _ mA9) ⟨.nil, fun p hp => hp⟩ ?_ ?_
              · intro I2 C2 D2 oL2 hoL2 hLC2 hLa2 hltD2 j v2 es nD2 mC2 n7 h7 tk7 dr7 oI2 hj hP2 hJ2 hn2 hc2 F₇ N₇
                clear hLC2 hLa2
                refine gen_c fun R7 hR7 => ?_
                refine Classical.byContradiction fun hG9 => ?_
                obtain ⟨hes, hsub7⟩ := hJ2
                obtain ⟨q, t1, t2, sz, ct, rfl, hh, hq⟩ := mAb.at j v2 hP2
                refine hG9 ?_
                clear hG9
                have hq2 := List.Mem.tail (I2, oI2) (List.Mem.tail (D2, W.listOf es.toArray nD2) (List.Mem.tail (C, oL2) (hsub7 _ (.tail _ (.tail _ (.tail _ (hsub9 _ (.tail _ hq))))))))
                k_steps
                unfold Stop
                rename_i FQ NQ
                have hwa := wok_abs (haw _ (List.mem_of_getElem? hh))
                refine mul_gen hwa.1 hwa.2 ?_
                refine hR7 _ _ ?_
                refine comp_end_same FQ NQ hn2 fun nx2 h2 => ⟨?_, fun p hp => h2 p (hsub7 p hp)⟩
                rw [take_snoc hh, List.map_append]
                exact hes.append (.cons _ _ .nil)
              · intro h7 tk7 dr7 D2 es nD2 n7 F₇ N₇ hltD2 hneD2 hJ2
                obtain ⟨hes, hsub7⟩ := hJ2
                rw [mAb.length, List.take_length] at hes
                k_steps
                refine hR8 _ _ ?_
                refine ⟨_, _, _, _, _, oL, rfl, FS, NS, fun p hp => .tail _ (hsub7 p (mem_two hp)), hoL, .tail _ (hsub7 _ (.tail _ (.tail _ (.head _)))), fun nx9 h9 => ⟨?_, fun p hp => h9 p (.tail _ (hsub7 p (.tail _ (.tail _ (.tail _ (hsub9 p hp)))))) (not_hide (hn p (hsub9 p hp)))⟩⟩
                rw [take_snoc hai]
                exact hks9.append (.cons _ _ .nil)
            · intro C oL h tk dr WL wvs nW mC n9 hoL hLC hDL hLa F₁ N₁ hltW hn hJ
              refine post_store hoL hLC hDL hLa F₁ N₁ hn rfl rfl fun h2 tk2 F4 N4 => ?_
              obtain ⟨hws, hsub9⟩ := hJ
              replace hws : IntsAre wvs [wt b, wt f, wt g] := hws
              rw [HB.weight, HF.weight, HG.weight] at hws
              have in9 : ∀ p ∈ n10, p ∈ ((WL, W.listOf wvs.toArray nW) :: n9 : Led) := fun p hp => .tail _ (hsub9 p (.tail _ hp))
              have mW : (WL, W.listOf wvs.toArray nW) ∈ ((WL, W.listOf wvs.toArray nW) :: n9 : Led) := .head _
              replace mK := in9 _ mK
              replace mP := in9 _ mP
              replace mB := in9 _ mB
              replace mF := in9 _ mF
              replace mG := in9 _ mG
              replace mD := in9 _ mD
              replace mBag := mBag.mono fun q a h => in9 _ h
              replace mFb := mFb.mono fun q a h => in9 _ h
              replace mGb := mGb.mono fun q a h => in9 _ h
              replace mT := mT.sub in9
              clear hltW hn F₁ N₁ hsub9 in9 FU NU lU mBU FX NX hoL hLC hDL hLa
              generalize ((WL, W.listOf wvs.toArray nW) :: n9 : Led) = n11 at N4 mW mK mP mB mF mG mD mBag mFb mGb mT
              generalize wt ps = wps at hws
              k_with "my call" => (refine stop ?_)
              k_steps
              unfold Stop
              rename_i WD wds hQ lQ iQ cQ dQ tQ tR LQ hR FR NR lR
              refine ne_intsK (ns := [wps, wps]) (ms := [wps, wps]) (led_list NR (.tail _ (.head _))) iQ (led_list (vs := [_, _]) NR (.head _)) (.cons _ _ (.cons _ _ .nil)) (law_units _ (by decide)) ?_
              rw [not_same']
              refine gen_led n11 NR (fun p hp => .tail _ (.tail _ hp)) fun n12 N12 in9 => ?_
              replace mK := in9 _ mK
              replace mP := in9 _ mP
              replace mB := in9 _ mB
              replace mF := in9 _ mF
              replace mG := in9 _ mG
              replace mD := in9 _ mD
              replace mBag := mBag.mono fun q a h => in9 _ h
              replace mFb := mFb.mono fun q a h => in9 _ h
              replace mGb := mGb.mono fun q a h => in9 _ h
              replace mT := mT.sub in9
              clear mW iQ cQ dQ lQ lR hws in9 NR
              k_steps
              unfold Stop
              refine ListComp_any (by intro _; rfl) rfl rfl (by decide) ?_
              k_steps
              unfold Stop
              refine comp_list rfl mG (line1000 (by rw [mGb.length]; exact hParts.g1000 b3 g3)) FR N12 (by decide) rfl (fun i ks nx => IntsAre ks (((g.take i).filter fun e => e.1 % K = 0).map fun e => (e.1 : Int)) ∧ ∀ p ∈ n12, p ∈ nx) (fun i ks nx hJ => hJ.2 _ mG) ⟨.nil, fun p hp => hp⟩ ?_ ?_
              · intro I C DD oL hoL hLC hLa hltD i v ks nD mC nx h tk dr oI hi hP hJ hn hc F₁ N₁
                clear hLC hLa
                refine gen_c fun R8 hR8 => ?_
                refine Classical.byContradiction fun hG9 => ?_
                obtain ⟨hks, hsub⟩ := hJ
                obtain ⟨q, t1, t2, sz, ct, rfl, hh, hq⟩ := mGb.at i v hP
                refine hG9 ?_
                clear hG9
                have hq2 := List.Mem.tail (I, oI) (List.Mem.tail (DD, W.listOf ks.toArray nD) (List.Mem.tail (s1.heap.objs.size, oL) (hsub _ hq)))
                have mK9 := List.Mem.tail (I, oI) (List.Mem.tail (DD, W.listOf ks.toArray nD) (List.Mem.tail (s1.heap.objs.size, oL) (hsub _ mK)))
                k_steps
                · rename_i FQ NQ hdz
                  refine hR8 _ _ ?_
                  refine comp_end_same FQ NQ hn fun nx2 h2 => ⟨?_, fun p hp => h2 p (hsub p hp)⟩
                  rw [filt_yes hh (decide_eq_true (fmod_yes hK2 hdz))]
                  exact hks.append (.cons _ _ .nil)
                · rename_i FQ NQ hdz
                  refine hR8 _ _ ?_
                  refine comp_end_same FQ NQ hn fun nx2 h2 => ⟨?_, fun p hp => h2 p (hsub p hp)⟩
                  rw [filt_no hh (fun e => fmod_no hK2 hdz (of_decide_eq_true e))]
                  exact hks
              · intro h tk dr DA avs nA nx F₁ N₁ hltA hneA hJ
                obtain ⟨hks, hsub⟩ := hJ
                rw [mGb.length, List.take_length] at hks
                replace mK := hsub _ mK
                replace mP := hsub _ mP
                replace mB := hsub _ mB
                replace mF := hsub _ mF
                replace mG := hsub _ mG
                replace mBag := mBag.mono fun q a h => hsub _ h
                replace mFb := mFb.mono fun q a h => hsub _ h
                replace mGb := mGb.mono fun q a h => hsub _ h
                replace mT := mT.sub hsub
                clear hsub mD
                k_steps
                unfold Stop
                refine ListComp_any (by intro _; rfl) rfl rfl (by decide) ?_
                k_steps
                unfold Stop
                refine comp_list rfl (.tail _ mB) (line1000 (by rw [mBag.length]; exact hParts.b1000 b3)) F₁ N₁ (by decide) rfl (fun i ks n9 => IntsAre ks (((b.take i).filter fun e => (K : Int) ≤ e.2).map fun e => (K : Int) * (e.1 : Int)) ∧ ∀ p ∈ ((DA, W.listOf avs.toArray nA) :: nx : Led), p ∈ n9) (fun i ks n9 hJ => hJ.2 _ (.tail _ mB)) ⟨.nil, fun p hp => hp⟩ ?_ ?_
                · intro I C DD oL hoL hLC hLa hltD i v ks nD mC n9 h tk dr oI hi hP hJ hn hc F₂ N₂
                  clear hLC hLa
                  refine gen_c fun R8 hR8 => ?_
                  refine Classical.byContradiction fun hG9 => ?_
                  obtain ⟨hks9, hsub9⟩ := hJ
                  obtain ⟨q, t1, t2, sz, ct, rfl, hh, hq⟩ := mBag.at i v hP
                  refine hG9 ?_
                  clear hG9
                  have hq2 := List.Mem.tail (I, oI) (List.Mem.tail (DD, W.listOf ks.toArray nD) (List.Mem.tail (s1.heap.objs.size, oL) (hsub9 _ (.tail _ hq))))
                  have mK9 := List.Mem.tail (I, oI) (List.Mem.tail (DD, W.listOf ks.toArray nD) (List.Mem.tail (s1.heap.objs.size, oL) (hsub9 _ (.tail _ mK))))
                  k_steps
                  · unfold Stop
                    rename_i FQ NQ hdz
                    refine mul_gen (abs17 hK17) (wok_abs (HB.wok _ (List.mem_of_getElem? hh))).1 ?_
                    refine hR8 _ _ ?_
                    refine comp_end_same FQ NQ hn fun nx2 h2 => ⟨?_, fun p hp => h2 p (hsub9 p hp)⟩
                    rw [filt_yes hh (decide_eq_true hdz)]
                    exact hks9.append (.cons _ _ .nil)
                  · rename_i FQ NQ hdz
                    refine hR8 _ _ ?_
                    refine comp_end_same FQ NQ hn fun nx2 h2 => ⟨?_, fun p hp => h2 p (hsub9 p hp)⟩
                    rw [filt_no hh (fun e => by have := of_decide_eq_true e; omega)]
                    exact hks9
                · intro h tk dr DB dvs nB n9 F₂ N₂ hltB hneB hJ
                  obtain ⟨hks9, hsub9⟩ := hJ
                  rw [mBag.length, List.take_length, ← hParts.sizesI b3 g3] at hks9
                  k_steps
                  unfold Stop
                  refine ne_intsK (led_list N₂ (.tail _ (hsub9 _ (.head _)))) hks (led_list N₂ (.head _)) hks9 (law_units _ (by decide)) ?_
                  rw [not_same']
                  refine gen_led nx N₂ (fun p hp => .tail _ (hsub9 p (.tail _ hp))) fun n13 N13 in9 => ?_
                  replace mK := in9 _ mK
                  replace mB := in9 _ mB
                  replace mF := in9 _ mF
                  replace mG := in9 _ mG
                  replace mBag := mBag.mono fun q a h => in9 _ h
                  replace mFb := mFb.mono fun q a h => in9 _ h
                  replace mGb := mGb.mono fun q a h => in9 _ h
                  replace mT := mT.sub in9
                  clear hks hks9 hltB hneB hltA hneA F₁ N₁ hsub9 in9 N₂ mP
                  k_with "my call" => (refine stop ?_)
                  k_with "my call" => (refine stop ?_)
                  k_steps
                  unfold Stop
                  refine' ConD.use (c_back ww _ _ _ _ _ _ _ mF mFb (hParts.f400 b3 f3) HF.wok hK2 hK17 mT (hParts.fewFB b3 f3) (hParts.bne HF)) ?cB ?cF ?cX ?cN ?cT ?ch ?cf ?ck ?cd ?cu ?_
                  walk_at "my_use"
                  intro r' n14 h14 tk14 dr14 F14 N14 P'
                  refine Classical.byContradiction fun hG9 => ?_
                  obtain ⟨ul, uvs, un, u, rfl, mU, mUb, u3, u4, u5⟩ := P'
                  refine hG9 ?_
                  clear hG9
                  replace mK := u5 _ mK (usr_cell d2')
                  replace mB := u5 _ mB usr_list
                  replace mG := u5 _ mG usr_list
                  replace mBag := mBag.keep u5
                  replace mGb := mGb.keep u5
                  k_steps
                  unfold Stop
                  refine led_eqBag N14 mU mB mUb mBag (law_units _ (by decide)) ?_
                  rw [is_same (hParts.same1 b3 f3 u3)]
                  k_steps
                  unfold Stop
                  refine' ConD.use (c_forth ww _ _ _ _ _ _ _ mG mGb (hParts.g50 b3 g3) HG.wok hK2 hK17 u4 (hParts.fewBF b3 g3) (hParts.fne HG)) ?cB ?cF ?cX ?cN ?cT ?ch ?cf ?ck ?cd ?cu ?_
                  walk_at "my_use"
                  intro r' n15 h15 tk15 dr15 F15 N15 P'
                  refine Classical.byContradiction fun hG9 => ?_
                  obtain ⟨zl, zvs, zn, z, rfl, mZ, mZb, z3, z4, z5⟩ := P'
                  refine hG9 ?_
                  clear hG9
                  replace mB := z5 _ mB usr_list
                  replace mBag := mBag.keep z5
                  k_with "my call" => (refine stop ?_)
                  k_steps
                  unfold Stop
                  refine led_eqBag N15 mZ mB mZb mBag (law_units _ (by decide)) ?_
                  rw [is_same (hParts.same2 b3 g3 z3)]
                  refine hR9 _ _ ?_
                  refine ⟨goodW_bool F15 hgF ?_ ?_, Tb.grown N15 z4⟩
                  · intro cls
                    rfl
                  · exact law_post ns
      · passes_own)
end
end Mine
theorem PySem.Challenge.cw_ul0029_01_holds : PySem.Challenge.rw_ul0029_01.Holds := by
  exact Mine.law_end
