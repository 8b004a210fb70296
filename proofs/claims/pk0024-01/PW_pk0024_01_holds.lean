import PyProof.Rows.All
import Wide.All
import OpenK.AllK
import Wide.FinOn
import Lean
import PySem.Challenge.RW_pk0024_01
set_option Elab.async false

-- Hd0
section PartHd0
open PySem PySem.W PyProof.Rows
set_option Elab.async false
set_option maxRecDepth 100000
set_option linter.unusedVariables false
namespace Mine
abbrev St (s : String) : Str := Str.ofString s
abbrev pw : Program := PySem.Challenge.pw_pk0024_01
def stm (i : Nat) : Stmt := pw.main.body.getD i (.Pass default)
def mem (i j : Nat) : Stmt := match stm i with
  | .ClassDef _ _ _ b _ _ _ _ _ _ _ => b.getD j (.Pass default)
  | _ => .Pass default
def fdAt (st : Stmt) (qual : Str) (globals : Addr) (pm code : Value) : FuncData := match st with
  | .FunctionDef n a b _ _ _ sc _ _ _ => { name := n, qualname := qual, params := a, body := .stmts b, scope := sc, globals := globals, closure := [], defaults := .none, kwdefaults := .none, doc := .none, pyModule := pm, annotations := none, code := code, closureTuple := .none, builtins := 0 }
  | _ => default
def ob3 (P : Params) : Obj := ⟨(.type "dict"), none, (.dict #[⟨PyData.keyHash P (St "__name__"), (.str (St "__name__") 165), (.str (St "law_pk0024_01") 323)⟩, ⟨PyData.keyHash P (St "__doc__"), (.str (St "__doc__") 166), .none⟩, ⟨PyData.keyHash P (St "__package__"), (.str (St "__package__") 167), .none⟩, ⟨PyData.keyHash P (St "__loader__"), (.str (St "__loader__") 168), (.builtin "__main__.__loader__#opaque")⟩, ⟨PyData.keyHash P (St "__spec__"), (.str (St "__spec__") 169), .none⟩, ⟨PyData.keyHash P (St "__annotations__"), (.str (St "__annotations__") 170), (.ref 6)⟩, ⟨PyData.keyHash P (St "__builtins__"), (.str (St "__builtins__") 171), (.ref 4)⟩, ⟨PyData.keyHash P (St "__file__"), (.str (St "__file__") 173), (.str (St "/claim/cut.py") 172)⟩, ⟨PyData.keyHash P (St "__cached__"), (.str (St "__cached__") 174), .none⟩, ⟨PyData.keyHash P (St "_wall"), (.str (St "_wall") 193), (.ref 21)⟩, ⟨PyData.keyHash P (St "b1_set"), (.str (St "b1_set") 255), (.ref 29)⟩, ⟨PyData.keyHash P (St "in_table_b1"), (.str (St "in_table_b1") 262), (.ref 39)⟩, ⟨PyData.keyHash P (St "_netrclex"), (.str (St "_netrclex") 322), (.ref 77)⟩, ⟨PyData.keyHash P (St "_law_held"), (.str (St "_law_held") 331), (.ref 88)⟩, ⟨PyData.keyHash P (St "_law_strange"), (.str (St "_law_strange") 339), (.ref 95)⟩, ⟨PyData.keyHash P (St "_law_row"), (.str (St "_law_row") 349), (.ref 102)⟩, ⟨PyData.keyHash P (St "_law_word"), (.str (St "_law_word") 355), (.ref 107)⟩, ⟨PyData.keyHash P (St "_law_joined"), (.str (St "_law_joined") 361), (.ref 112)⟩, ⟨PyData.keyHash P (St "_law_left"), (.str (St "_law_left") 367), (.ref 117)⟩, ⟨PyData.keyHash P (St "_law_stream"), (.str (St "_law_stream") 378), (.ref 124)⟩, ⟨PyData.keyHash P (St "_law_written"), (.str (St "_law_written") 390), (.ref 131)⟩, ⟨PyData.keyHash P (St "_law_again"), (.str (St "_law_again") 407), (.ref 138)⟩, ⟨PyData.keyHash P (St "_law_twos"), (.str (St "_law_twos") 419), (.ref 145)⟩, ⟨PyData.keyHash P (St "law"), (.str (St "law") 425), (.ref 150)⟩] 24), #[]⟩
def ob11 (P : Params) : Obj := ⟨(.type "tuple"), none, (.seq #[] 0), #[]⟩
def ob12 (P : Params) : Obj := ⟨.none, none, (.fields #[(.int (1) 0), (.int (0) 0), (.ref 20), (.int (6) 0), (.int (0) 0), (.ref 38), (.int (9) 0), (.int (0) 0), (.ref 45), (.int (53) 0), (.int (0) 0), (.ref 87), (.int (57) 0), (.int (0) 0), (.ref 94), (.int (62) 0), (.int (0) 0), (.ref 101), (.int (66) 0), (.int (0) 0), (.ref 106), (.int (68) 0), (.int (0) 0), (.ref 111), (.int (70) 0), (.int (0) 0), (.ref 116), (.int (75) 0), (.int (0) 0), (.ref 123), (.int (85) 0), (.int (0) 0), (.ref 130), (.int (98) 0), (.int (0) 0), (.ref 137), (.int (106) 0), (.int (0) 0), (.ref 144), (.int (116) 0), (.int (0) 0), (.ref 149)]), #[]⟩
def ob13 (P : Params) : Obj := ⟨(.type "code"), none, (.fields #[(.str (St "<module>") 182), (.str (St "<module>") 183), (.str (St "/claim/cut.py") 184), (.int (1) 0), (.int (0) 0), (.int (0) 0), (.int (0) 0), (.int (0) 0), (.ref 11), (.bool false), (.int (181) 0), (.ref 12), .none, .none, .none, .none, (.int (185) 0), (.int (1) 0), (.str (St "/claim/cut.py") 186)]), #[]⟩
def ob14 (P : Params) : Obj := ⟨(.type "frame"), none, .plain, #[(some (.ref 13)), (some (.ref 3)), (some (.ref 3)), none, (some (.str (St "__main__") 164)), none, (some (.ref 0))]⟩
def ob15 (P : Params) : Obj := ⟨(.type "tuple"), none, (.seq #[] 0), #[]⟩
def ob16 (P : Params) : Obj := ⟨.none, none, (.fields #[]), #[]⟩
def ob17 (P : Params) : Obj := ⟨(.type "tuple"), none, (.seq #[(.str (St "k") 190)] 0), #[]⟩
def ob18 (P : Params) : Obj := ⟨(.type "tuple"), none, (.seq #[] 0), #[]⟩
def ob19 (P : Params) : Obj := ⟨.none, none, (.func (fdAt (stm 0) (St "_wall") 0 .none .none)), #[]⟩
def ob20 (P : Params) : Obj := ⟨(.type "code"), none, (.fields #[(.str (St "_wall") 187), (.str (St "_wall") 188), (.str (St "/claim/cut.py") 189), (.int (1) 0), (.int (1) 0), (.int (0) 0), (.int (0) 0), (.int (3) 0), (.ref 15), (.bool true), (.int (181) 0), (.ref 16), .none, (.ref 17), (.ref 18), (.ref 19), (.int (191) 0), (.int (1) 0), (.str (St "/claim/cut.py") 192)]), #[]⟩
def ob21 (P : Params) : Obj := ⟨(.type "function"), none, (.func (fdAt (stm 0) (St "_wall") 3 (.str (St "__main__") 164) (.ref 20))), #[]⟩
def ob22 (P : Params) : Obj := ⟨(.type "list"), none, (.seq #[(.int (173) 196), (.int (847) 197), (.int (6150) 198), (.int (6155) 199), (.int (6156) 200), (.int (6157) 201), (.int (8203) 202), (.int (8204) 203), (.int (8205) 204), (.int (8288) 205), (.int (65279) 206)] 0), #[]⟩
def ob23 (P : Params) : Obj := ⟨(.type "range"), none, (.fields #[(.int (65024) 207), (.int (65040) 208), (.int (1) 209)]), #[]⟩
def ob24 (P : Params) : Obj := ⟨(.type "list"), none, (.seq #[(.int (65024) 212), (.int (65025) 213), (.int (65026) 214), (.int (65027) 215), (.int (65028) 216), (.int (65029) 217), (.int (65030) 218), (.int (65031) 219), (.int (65032) 220), (.int (65033) 221), (.int (65034) 222), (.int (65035) 223), (.int (65036) 224), (.int (65037) 225), (.int (65038) 226), (.int (65039) 227)] 18), #[]⟩
def ob25 (P : Params) : Obj := ⟨(.type "range_iterator"), none, (.fields #[(.int (65040) 0), (.int (0) 0), (.int (1) 0)]), #[]⟩
def ob26 (P : Params) : Obj := ⟨(.type "tuple"), none, (.seq #[] 0), #[]⟩
def ob27 (P : Params) : Obj := ⟨(.type "StopIteration"), none, (.fields #[(.ref 26), .none, .none, .none, (.bool false), .none]), #[]⟩
def ob28 (P : Params) : Obj := ⟨(.type "list"), none, (.seq #[(.int (173) 196), (.int (847) 197), (.int (6150) 198), (.int (6155) 199), (.int (6156) 200), (.int (6157) 201), (.int (8203) 202), (.int (8204) 203), (.int (8205) 204), (.int (8288) 205), (.int (65279) 206), (.int (65024) 212), (.int (65025) 213), (.int (65026) 214), (.int (65027) 215), (.int (65028) 216), (.int (65029) 217), (.int (65030) 218), (.int (65031) 219), (.int (65032) 220), (.int (65033) 221), (.int (65034) 222), (.int (65035) 223), (.int (65036) 224), (.int (65037) 225), (.int (65038) 226), (.int (65039) 227)] 0), #[]⟩
def ob29 (P : Params) : Obj := ⟨(.type "set"), none, (.set #[(65024, (.int (65024) 212)), (65025, (.int (65025) 213)), (65026, (.int (65026) 214)), (65027, (.int (65027) 215)), (65028, (.int (65028) 216)), (65029, (.int (65029) 217)), (6150, (.int (6150) 198)), (65030, (.int (65030) 218)), (65031, (.int (65031) 219)), (65032, (.int (65032) 220)), (65033, (.int (65033) 221)), (6155, (.int (6155) 199)), (6156, (.int (6156) 200)), (6157, (.int (6157) 201)), (8203, (.int (8203) 202)), (8204, (.int (8204) 203)), (8205, (.int (8205) 204)), (65034, (.int (65034) 222)), (65035, (.int (65035) 223)), (65036, (.int (65036) 224)), (65037, (.int (65037) 225)), (65038, (.int (65038) 226)), (65039, (.int (65039) 227)), (173, (.int (173) 196)), (847, (.int (847) 197)), (8288, (.int (8288) 205)), (65279, (.int (65279) 206))] 29 ⟨127, #[0, 1, 2, 3, 4, 5, 6, 7, 8, 9, 10, 11, 12, 13, 14, 15, 16, 17, 18, 19, 20, 21, 22, 45, 79, 96, 127], #[], 0, !P.followText "set-order", 2, true⟩), #[]⟩
def ob30 (P : Params) : Obj := ⟨(.type "list_iterator"), none, (.fields #[.none, (.int (27) 0)]), #[]⟩
def ob31 (P : Params) : Obj := ⟨(.type "tuple"), none, (.seq #[] 0), #[]⟩
def ob32 (P : Params) : Obj := ⟨(.type "StopIteration"), none, (.fields #[(.ref 31), .none, .none, .none, (.bool false), .none]), #[]⟩
def ob33 (P : Params) : Obj := ⟨(.type "tuple"), none, (.seq #[] 0), #[]⟩
def ob34 (P : Params) : Obj := ⟨.none, none, (.fields #[]), #[]⟩
def ob35 (P : Params) : Obj := ⟨(.type "tuple"), none, (.seq #[(.str (St "code") 259)] 0), #[]⟩
def ob36 (P : Params) : Obj := ⟨(.type "tuple"), none, (.seq #[] 0), #[]⟩
def ob37 (P : Params) : Obj := ⟨.none, none, (.func (fdAt (stm 3) (St "in_table_b1") 0 .none .none)), #[]⟩
def ob38 (P : Params) : Obj := ⟨(.type "code"), none, (.fields #[(.str (St "in_table_b1") 256), (.str (St "in_table_b1") 257), (.str (St "/claim/cut.py") 258), (.int (6) 0), (.int (1) 0), (.int (0) 0), (.int (0) 0), (.int (3) 0), (.ref 33), (.bool true), (.int (181) 0), (.ref 34), .none, (.ref 35), (.ref 36), (.ref 37), (.int (260) 0), (.int (6) 0), (.str (St "/claim/cut.py") 261)]), #[]⟩
def ob39 (P : Params) : Obj := ⟨(.type "function"), none, (.func (fdAt (stm 3) (St "in_table_b1") 3 (.str (St "cpy313.stringprep") 194) (.ref 38))), #[]⟩
def ob40 (P : Params) : Obj := ⟨(.type "tuple"), none, (.seq #[] 0), #[]⟩
def ob41 (P : Params) : Obj := ⟨(.type "builtin_function_or_method"), none, (.fields #[(.builtin "type.__prepare__"), (.type "type")]), #[]⟩
def ob42 (P : Params) : Obj := ⟨(.type "dict"), none, (.dict #[⟨PyData.keyHash P (St "__module__"), (.str (St "__module__") 272), (.str (St "cpy313.netrc") 263)⟩, ⟨PyData.keyHash P (St "__qualname__"), (.str (St "__qualname__") 274), (.str (St "_netrclex") 273)⟩, ⟨PyData.keyHash P (St "__firstlineno__"), (.str (St "__firstlineno__") 276), (.int (9) 275)⟩, ⟨PyData.keyHash P (St "__init__"), (.str (St "__init__") 284), (.ref 53)⟩, ⟨PyData.keyHash P (St "_read_char"), (.str (St "_read_char") 292), (.ref 60)⟩, ⟨PyData.keyHash P (St "get_token"), (.str (St "get_token") 302), (.ref 67)⟩, ⟨PyData.keyHash P (St "push_token"), (.str (St "push_token") 310), (.ref 74)⟩, ⟨PyData.keyHash P (St "__static_attributes__"), (.str (St "__static_attributes__") 315), (.ref 75)⟩] 8), #[]⟩
def ob43 (P : Params) : Obj := ⟨(.type "tuple"), none, (.seq #[] 0), #[]⟩
def ob44 (P : Params) : Obj := ⟨.none, none, (.fields #[(.int (11) 0), (.int (4) 0), (.ref 52), (.int (17) 0), (.int (4) 0), (.ref 59), (.int (23) 0), (.int (4) 0), (.ref 66), (.int (50) 0), (.int (4) 0), (.ref 73)]), #[]⟩
def ob45 (P : Params) : Obj := ⟨(.type "code"), none, (.fields #[(.str (St "_netrclex") 267), (.str (St "_netrclex") 268), (.str (St "/claim/cut.py") 269), (.int (9) 0), (.int (0) 0), (.int (0) 0), (.int (0) 0), (.int (0) 0), (.ref 43), (.bool false), (.int (181) 0), (.ref 44), .none, .none, .none, .none, (.int (270) 0), (.int (9) 0), (.str (St "/claim/cut.py") 271)]), #[]⟩
def ob46 (P : Params) : Obj := ⟨(.type "frame"), none, .plain, #[(some (.ref 45)), (some (.ref 3)), (some (.ref 42)), none, (some (.str (St "cpy313.netrc") 263)), none, (some (.ref 0))]⟩
def ob47 (P : Params) : Obj := ⟨(.type "tuple"), none, (.seq #[] 0), #[]⟩
def ob48 (P : Params) : Obj := ⟨.none, none, (.fields #[]), #[]⟩
def ob49 (P : Params) : Obj := ⟨(.type "tuple"), none, (.seq #[(.str (St "self") 280), (.str (St "fp") 281)] 0), #[]⟩
def ob50 (P : Params) : Obj := ⟨(.type "tuple"), none, (.seq #[] 0), #[]⟩
def ob51 (P : Params) : Obj := ⟨.none, none, (.func (fdAt (mem 5 0) (St "_netrclex.__init__") 0 .none .none)), #[]⟩
def ob52 (P : Params) : Obj := ⟨(.type "code"), none, (.fields #[(.str (St "__init__") 277), (.str (St "_netrclex.__init__") 278), (.str (St "/claim/cut.py") 279), (.int (11) 0), (.int (2) 0), (.int (0) 0), (.int (0) 0), (.int (3) 0), (.ref 47), (.bool true), (.int (181) 0), (.ref 48), .none, (.ref 49), (.ref 50), (.ref 51), (.int (282) 0), (.int (11) 0), (.str (St "/claim/cut.py") 283)]), #[]⟩
def ob53 (P : Params) : Obj := ⟨(.type "function"), none, (.func (fdAt (mem 5 0) (St "_netrclex.__init__") 3 (.str (St "cpy313.netrc") 263) (.ref 52))), #[]⟩
def ob54 (P : Params) : Obj := ⟨(.type "tuple"), none, (.seq #[] 0), #[]⟩
def ob55 (P : Params) : Obj := ⟨.none, none, (.fields #[]), #[]⟩
def ob56 (P : Params) : Obj := ⟨(.type "tuple"), none, (.seq #[(.str (St "self") 288), (.str (St "ch") 289)] 0), #[]⟩
def ob57 (P : Params) : Obj := ⟨(.type "tuple"), none, (.seq #[] 0), #[]⟩
def ob58 (P : Params) : Obj := ⟨.none, none, (.func (fdAt (mem 5 1) (St "_netrclex._read_char") 0 .none .none)), #[]⟩
def ob59 (P : Params) : Obj := ⟨(.type "code"), none, (.fields #[(.str (St "_read_char") 285), (.str (St "_netrclex._read_char") 286), (.str (St "/claim/cut.py") 287), (.int (17) 0), (.int (1) 0), (.int (0) 0), (.int (0) 0), (.int (3) 0), (.ref 54), (.bool true), (.int (181) 0), (.ref 55), .none, (.ref 56), (.ref 57), (.ref 58), (.int (290) 0), (.int (17) 0), (.str (St "/claim/cut.py") 291)]), #[]⟩
def ob60 (P : Params) : Obj := ⟨(.type "function"), none, (.func (fdAt (mem 5 1) (St "_netrclex._read_char") 3 (.str (St "cpy313.netrc") 263) (.ref 59))), #[]⟩
def ob61 (P : Params) : Obj := ⟨(.type "tuple"), none, (.seq #[] 0), #[]⟩
def ob62 (P : Params) : Obj := ⟨.none, none, (.fields #[]), #[]⟩
def ob63 (P : Params) : Obj := ⟨(.type "tuple"), none, (.seq #[(.str (St "self") 296), (.str (St "token") 297), (.str (St "fiter") 298), (.str (St "ch") 299)] 0), #[]⟩
def ob64 (P : Params) : Obj := ⟨(.type "tuple"), none, (.seq #[] 0), #[]⟩
def ob65 (P : Params) : Obj := ⟨.none, none, (.func (fdAt (mem 5 2) (St "_netrclex.get_token") 0 .none .none)), #[]⟩
def ob66 (P : Params) : Obj := ⟨(.type "code"), none, (.fields #[(.str (St "get_token") 293), (.str (St "_netrclex.get_token") 294), (.str (St "/claim/cut.py") 295), (.int (23) 0), (.int (1) 0), (.int (0) 0), (.int (0) 0), (.int (3) 0), (.ref 61), (.bool true), (.int (181) 0), (.ref 62), .none, (.ref 63), (.ref 64), (.ref 65), (.int (300) 0), (.int (23) 0), (.str (St "/claim/cut.py") 301)]), #[]⟩
def ob67 (P : Params) : Obj := ⟨(.type "function"), none, (.func (fdAt (mem 5 2) (St "_netrclex.get_token") 3 (.str (St "cpy313.netrc") 263) (.ref 66))), #[]⟩
def ob68 (P : Params) : Obj := ⟨(.type "tuple"), none, (.seq #[] 0), #[]⟩
def ob69 (P : Params) : Obj := ⟨.none, none, (.fields #[]), #[]⟩
def ob70 (P : Params) : Obj := ⟨(.type "tuple"), none, (.seq #[(.str (St "self") 306), (.str (St "token") 307)] 0), #[]⟩
def ob71 (P : Params) : Obj := ⟨(.type "tuple"), none, (.seq #[] 0), #[]⟩
def ob72 (P : Params) : Obj := ⟨.none, none, (.func (fdAt (mem 5 3) (St "_netrclex.push_token") 0 .none .none)), #[]⟩
def ob73 (P : Params) : Obj := ⟨(.type "code"), none, (.fields #[(.str (St "push_token") 303), (.str (St "_netrclex.push_token") 304), (.str (St "/claim/cut.py") 305), (.int (50) 0), (.int (2) 0), (.int (0) 0), (.int (0) 0), (.int (3) 0), (.ref 68), (.bool true), (.int (181) 0), (.ref 69), .none, (.ref 70), (.ref 71), (.ref 72), (.int (308) 0), (.int (50) 0), (.str (St "/claim/cut.py") 309)]), #[]⟩
def ob74 (P : Params) : Obj := ⟨(.type "function"), none, (.func (fdAt (mem 5 3) (St "_netrclex.push_token") 3 (.str (St "cpy313.netrc") 263) (.ref 73))), #[]⟩
def ob75 (P : Params) : Obj := ⟨(.type "tuple"), none, (.seq #[(.str (St "instream") 311), (.str (St "lineno") 312), (.str (St "pushback") 313), (.str (St "whitespace") 314)] 0), #[]⟩
def ob76 (P : Params) : Obj := ⟨(.type "dict"), none, (.dict #[⟨PyData.keyHash P (St "__module__"), (.str (St "__module__") 272), (.str (St "cpy313.netrc") 263)⟩, ⟨PyData.keyHash P (St "__firstlineno__"), (.str (St "__firstlineno__") 276), (.int (9) 275)⟩, ⟨PyData.keyHash P (St "__init__"), (.str (St "__init__") 284), (.ref 53)⟩, ⟨PyData.keyHash P (St "_read_char"), (.str (St "_read_char") 292), (.ref 60)⟩, ⟨PyData.keyHash P (St "get_token"), (.str (St "get_token") 302), (.ref 67)⟩, ⟨PyData.keyHash P (St "push_token"), (.str (St "push_token") 310), (.ref 74)⟩, ⟨PyData.keyHash P (St "__static_attributes__"), (.str (St "__static_attributes__") 315), (.ref 75)⟩, ⟨PyData.keyHash P (St "__dict__"), (.str (St "__dict__") 317), (.ref 78)⟩, ⟨PyData.keyHash P (St "__weakref__"), (.str (St "__weakref__") 319), (.ref 79)⟩, ⟨PyData.keyHash P (St "__doc__"), (.str (St "__doc__") 320), .none⟩] 4), #[]⟩
def ob77 (P : Params) : Obj := ⟨(.type "type"), none, (.cls { name := (St "_netrclex"), bases := [(.type "object")], mro := [(.ref 77), (.type "object")], ns := 76, qualname := (St "_netrclex"), hasDict := true, slotNames := [], subclasses := [], abstract := false, collection := none, hasDel := false }), #[none, none, (some (.str (St "_netrclex") 265)), (some (.str (St "_netrclex") 273)), (some (.builtin "object.__new__")), (some (.bool true))]⟩
def ob78 (P : Params) : Obj := ⟨(.type "getset_descriptor"), none, (.fields #[(.str (St "__dict__") 316), (.ref 77), (.builtin "function.__dict__"), (.builtin "function.__dict__#set")]), #[]⟩
def ob79 (P : Params) : Obj := ⟨(.type "getset_descriptor"), none, (.fields #[(.str (St "__weakref__") 318), (.ref 77), (.builtin "ExceptionGroup.__weakref__"), .none]), #[]⟩
def ob80 (P : Params) : Obj := ⟨(.type "super"), none, (.fields #[(.ref 77), (.ref 77), (.ref 77)]), #[]⟩
def ob81 (P : Params) : Obj := ⟨(.type "builtin_function_or_method"), none, (.fields #[(.builtin "object.__init_subclass__"), (.ref 77)]), #[]⟩
def ob82 (P : Params) : Obj := ⟨(.type "tuple"), none, (.seq #[] 0), #[]⟩
def ob83 (P : Params) : Obj := ⟨.none, none, (.fields #[]), #[]⟩
def ob84 (P : Params) : Obj := ⟨(.type "tuple"), none, (.seq #[(.str (St "number") 328)] 0), #[]⟩
def ob85 (P : Params) : Obj := ⟨(.type "tuple"), none, (.seq #[] 0), #[]⟩
def ob86 (P : Params) : Obj := ⟨.none, none, (.func (fdAt (stm 7) (St "_law_held") 0 .none .none)), #[]⟩
def ob87 (P : Params) : Obj := ⟨(.type "code"), none, (.fields #[(.str (St "_law_held") 325), (.str (St "_law_held") 326), (.str (St "/claim/cut.py") 327), (.int (53) 0), (.int (1) 0), (.int (0) 0), (.int (0) 0), (.int (3) 0), (.ref 82), (.bool true), (.int (181) 0), (.ref 83), .none, (.ref 84), (.ref 85), (.ref 86), (.int (329) 0), (.int (53) 0), (.str (St "/claim/cut.py") 330)]), #[]⟩
def ob88 (P : Params) : Obj := ⟨(.type "function"), none, (.func (fdAt (stm 7) (St "_law_held") 3 (.str (St "law_pk0024_01") 323) (.ref 87))), #[]⟩
def ob89 (P : Params) : Obj := ⟨(.type "tuple"), none, (.seq #[] 0), #[]⟩
def ob90 (P : Params) : Obj := ⟨.none, none, (.fields #[]), #[]⟩
def ob91 (P : Params) : Obj := ⟨(.type "tuple"), none, (.seq #[(.str (St "code") 335), (.str (St "sign") 336)] 0), #[]⟩
def ob92 (P : Params) : Obj := ⟨(.type "tuple"), none, (.seq #[] 0), #[]⟩
def ob93 (P : Params) : Obj := ⟨.none, none, (.func (fdAt (stm 8) (St "_law_strange") 0 .none .none)), #[]⟩
def ob94 (P : Params) : Obj := ⟨(.type "code"), none, (.fields #[(.str (St "_law_strange") 332), (.str (St "_law_strange") 333), (.str (St "/claim/cut.py") 334), (.int (57) 0), (.int (1) 0), (.int (0) 0), (.int (0) 0), (.int (3) 0), (.ref 89), (.bool true), (.int (181) 0), (.ref 90), .none, (.ref 91), (.ref 92), (.ref 93), (.int (337) 0), (.int (57) 0), (.str (St "/claim/cut.py") 338)]), #[]⟩
def ob95 (P : Params) : Obj := ⟨(.type "function"), none, (.func (fdAt (stm 8) (St "_law_strange") 3 (.str (St "law_pk0024_01") 323) (.ref 94))), #[]⟩
def ob96 (P : Params) : Obj := ⟨(.type "tuple"), none, (.seq #[] 0), #[]⟩
def ob97 (P : Params) : Obj := ⟨.none, none, (.fields #[]), #[]⟩
def ob98 (P : Params) : Obj := ⟨(.type "tuple"), none, (.seq #[(.str (St "number") 343), (.str (St "one") 344), (.str (St "two") 345), (.str (St "last") 346)] 0), #[]⟩
def ob99 (P : Params) : Obj := ⟨(.type "tuple"), none, (.seq #[] 0), #[]⟩
def ob100 (P : Params) : Obj := ⟨.none, none, (.func (fdAt (stm 9) (St "_law_row") 0 .none .none)), #[]⟩
def ob101 (P : Params) : Obj := ⟨(.type "code"), none, (.fields #[(.str (St "_law_row") 340), (.str (St "_law_row") 341), (.str (St "/claim/cut.py") 342), (.int (62) 0), (.int (1) 0), (.int (0) 0), (.int (0) 0), (.int (3) 0), (.ref 96), (.bool true), (.int (181) 0), (.ref 97), .none, (.ref 98), (.ref 99), (.ref 100), (.int (347) 0), (.int (62) 0), (.str (St "/claim/cut.py") 348)]), #[]⟩
def ob102 (P : Params) : Obj := ⟨(.type "function"), none, (.func (fdAt (stm 9) (St "_law_row") 3 (.str (St "law_pk0024_01") 323) (.ref 101))), #[]⟩
def ob103 (P : Params) : Obj := ⟨(.type "tuple"), none, (.seq #[] 0), #[]⟩
def ob104 (P : Params) : Obj := ⟨.none, none, (.fields #[]), #[]⟩
def ob105 (P : Params) : Obj := ⟨.none, none, (.func (fdAt (stm 10) (St "_law_word") 0 .none .none)), #[]⟩
def ob106 (P : Params) : Obj := ⟨(.type "code"), none, (.fields #[(.str (St "_law_word") 350), (.str (St "_law_word") 351), (.str (St "/claim/cut.py") 352), (.int (66) 0), (.int (2) 0), (.int (0) 0), (.int (0) 0), (.int (3) 0), (.ref 103), (.bool true), (.int (181) 0), (.ref 104), .none, .none, .none, (.ref 105), (.int (353) 0), (.int (66) 0), (.str (St "/claim/cut.py") 354)]), #[]⟩
def ob107 (P : Params) : Obj := ⟨(.type "function"), none, (.func (fdAt (stm 10) (St "_law_word") 3 (.str (St "law_pk0024_01") 323) (.ref 106))), #[]⟩
def ob108 (P : Params) : Obj := ⟨(.type "tuple"), none, (.seq #[] 0), #[]⟩
def ob109 (P : Params) : Obj := ⟨.none, none, (.fields #[]), #[]⟩
def ob110 (P : Params) : Obj := ⟨.none, none, (.func (fdAt (stm 11) (St "_law_joined") 0 .none .none)), #[]⟩
def ob111 (P : Params) : Obj := ⟨(.type "code"), none, (.fields #[(.str (St "_law_joined") 356), (.str (St "_law_joined") 357), (.str (St "/claim/cut.py") 358), (.int (68) 0), (.int (2) 0), (.int (0) 0), (.int (0) 0), (.int (3) 0), (.ref 108), (.bool true), (.int (181) 0), (.ref 109), .none, .none, .none, (.ref 110), (.int (359) 0), (.int (68) 0), (.str (St "/claim/cut.py") 360)]), #[]⟩
def ob112 (P : Params) : Obj := ⟨(.type "function"), none, (.func (fdAt (stm 11) (St "_law_joined") 3 (.str (St "law_pk0024_01") 323) (.ref 111))), #[]⟩
def ob113 (P : Params) : Obj := ⟨(.type "tuple"), none, (.seq #[] 0), #[]⟩
def ob114 (P : Params) : Obj := ⟨.none, none, (.fields #[]), #[]⟩
def ob115 (P : Params) : Obj := ⟨.none, none, (.func (fdAt (stm 12) (St "_law_left") 0 .none .none)), #[]⟩
def ob116 (P : Params) : Obj := ⟨(.type "code"), none, (.fields #[(.str (St "_law_left") 362), (.str (St "_law_left") 363), (.str (St "/claim/cut.py") 364), (.int (70) 0), (.int (1) 0), (.int (0) 0), (.int (0) 0), (.int (3) 0), (.ref 113), (.bool true), (.int (181) 0), (.ref 114), .none, .none, .none, (.ref 115), (.int (365) 0), (.int (70) 0), (.str (St "/claim/cut.py") 366)]), #[]⟩
def ob117 (P : Params) : Obj := ⟨(.type "function"), none, (.func (fdAt (stm 12) (St "_law_left") 3 (.str (St "law_pk0024_01") 323) (.ref 116))), #[]⟩
def ob118 (P : Params) : Obj := ⟨(.type "tuple"), none, (.seq #[] 0), #[]⟩
def ob119 (P : Params) : Obj := ⟨.none, none, (.fields #[]), #[]⟩
def ob120 (P : Params) : Obj := ⟨(.type "tuple"), none, (.seq #[(.str (St "text") 371), (.str (St "box") 372), (.str (St "_law_read") 373)] 0), #[]⟩
def ob121 (P : Params) : Obj := ⟨(.type "tuple"), none, (.seq #[(.str (St "text") 374), (.str (St "seat") 375)] 0), #[]⟩
def ob122 (P : Params) : Obj := ⟨.none, none, (.func (fdAt (stm 13) (St "_law_stream") 0 .none .none)), #[]⟩
def ob123 (P : Params) : Obj := ⟨(.type "code"), none, (.fields #[(.str (St "_law_stream") 368), (.str (St "_law_stream") 369), (.str (St "/claim/cut.py") 370), (.int (75) 0), (.int (1) 0), (.int (0) 0), (.int (0) 0), (.int (3) 0), (.ref 118), (.bool true), (.int (181) 0), (.ref 119), .none, (.ref 120), (.ref 121), (.ref 122), (.int (376) 0), (.int (75) 0), (.str (St "/claim/cut.py") 377)]), #[]⟩
def ob124 (P : Params) : Obj := ⟨(.type "function"), none, (.func (fdAt (stm 13) (St "_law_stream") 3 (.str (St "law_pk0024_01") 323) (.ref 123))), #[]⟩
def ob125 (P : Params) : Obj := ⟨(.type "tuple"), none, (.seq #[] 0), #[]⟩
def ob126 (P : Params) : Obj := ⟨.none, none, (.fields #[]), #[]⟩
def ob127 (P : Params) : Obj := ⟨(.type "tuple"), none, (.seq #[(.str (St "words") 382), (.str (St "rows") 383), (.str (St "turn") 384), (.str (St "text") 385), (.str (St "ends") 386), (.str (St "k") 387)] 0), #[]⟩
def ob128 (P : Params) : Obj := ⟨(.type "tuple"), none, (.seq #[] 0), #[]⟩
def ob129 (P : Params) : Obj := ⟨.none, none, (.func (fdAt (stm 14) (St "_law_written") 0 .none .none)), #[]⟩
def ob130 (P : Params) : Obj := ⟨(.type "code"), none, (.fields #[(.str (St "_law_written") 379), (.str (St "_law_written") 380), (.str (St "/claim/cut.py") 381), (.int (85) 0), (.int (3) 0), (.int (0) 0), (.int (0) 0), (.int (3) 0), (.ref 125), (.bool true), (.int (181) 0), (.ref 126), .none, (.ref 127), (.ref 128), (.ref 129), (.int (388) 0), (.int (85) 0), (.str (St "/claim/cut.py") 389)]), #[]⟩
def ob131 (P : Params) : Obj := ⟨(.type "function"), none, (.func (fdAt (stm 14) (St "_law_written") 3 (.str (St "law_pk0024_01") 323) (.ref 130))), #[]⟩
def ob132 (P : Params) : Obj := ⟨(.type "tuple"), none, (.seq #[] 0), #[]⟩
def ob133 (P : Params) : Obj := ⟨.none, none, (.fields #[]), #[]⟩
def ob134 (P : Params) : Obj := ⟨(.type "tuple"), none, (.seq #[(.str (St "words") 394), (.str (St "rows") 395), (.str (St "turn") 396), (.str (St "text") 397), (.str (St "ends") 398), (.str (St "box") 399), (.str (St "seat") 400), (.str (St "lexer") 401), (.str (St "told") 402), (.str (St "end") 403), (.str (St "word") 404)] 0), #[]⟩
def ob135 (P : Params) : Obj := ⟨(.type "tuple"), none, (.seq #[] 0), #[]⟩
def ob136 (P : Params) : Obj := ⟨.none, none, (.func (fdAt (stm 15) (St "_law_again") 0 .none .none)), #[]⟩
def ob137 (P : Params) : Obj := ⟨(.type "code"), none, (.fields #[(.str (St "_law_again") 391), (.str (St "_law_again") 392), (.str (St "/claim/cut.py") 393), (.int (98) 0), (.int (3) 0), (.int (0) 0), (.int (0) 0), (.int (3) 0), (.ref 132), (.bool true), (.int (181) 0), (.ref 133), .none, (.ref 134), (.ref 135), (.ref 136), (.int (405) 0), (.int (98) 0), (.str (St "/claim/cut.py") 406)]), #[]⟩
def ob138 (P : Params) : Obj := ⟨(.type "function"), none, (.func (fdAt (stm 15) (St "_law_again") 3 (.str (St "law_pk0024_01") 323) (.ref 137))), #[]⟩
def ob139 (P : Params) : Obj := ⟨(.type "tuple"), none, (.seq #[] 0), #[]⟩
def ob140 (P : Params) : Obj := ⟨.none, none, (.fields #[]), #[]⟩
def ob141 (P : Params) : Obj := ⟨(.type "tuple"), none, (.seq #[(.str (St "runs") 411), (.str (St "coefficient") 412), (.str (St "total") 413), (.str (St "twos") 414), (.str (St "run") 415), (.str (St "k") 416)] 0), #[]⟩
def ob142 (P : Params) : Obj := ⟨(.type "tuple"), none, (.seq #[] 0), #[]⟩
def ob143 (P : Params) : Obj := ⟨.none, none, (.func (fdAt (stm 16) (St "_law_twos") 0 .none .none)), #[]⟩
def ob144 (P : Params) : Obj := ⟨(.type "code"), none, (.fields #[(.str (St "_law_twos") 408), (.str (St "_law_twos") 409), (.str (St "/claim/cut.py") 410), (.int (106) 0), (.int (1) 0), (.int (0) 0), (.int (0) 0), (.int (3) 0), (.ref 139), (.bool true), (.int (181) 0), (.ref 140), .none, (.ref 141), (.ref 142), (.ref 143), (.int (417) 0), (.int (106) 0), (.str (St "/claim/cut.py") 418)]), #[]⟩
def ob145 (P : Params) : Obj := ⟨(.type "function"), none, (.func (fdAt (stm 16) (St "_law_twos") 3 (.str (St "law_pk0024_01") 323) (.ref 144))), #[]⟩
def ob146 (P : Params) : Obj := ⟨(.type "tuple"), none, (.seq #[] 0), #[]⟩
def ob147 (P : Params) : Obj := ⟨.none, none, (.fields #[]), #[]⟩
def ob148 (P : Params) : Obj := ⟨.none, none, (.func (fdAt (stm 17) (St "law") 0 .none .none)), #[]⟩
def ob149 (P : Params) : Obj := ⟨(.type "code"), none, (.fields #[(.str (St "law") 420), (.str (St "law") 421), (.str (St "/claim/cut.py") 422), (.int (116) 0), (.int (1) 0), (.int (0) 0), (.int (0) 0), (.int (3) 0), (.ref 146), (.bool true), (.int (181) 0), (.ref 147), .none, .none, .none, (.ref 148), (.int (423) 0), (.int (116) 0), (.str (St "/claim/cut.py") 424)]), #[]⟩
def ob150 (P : Params) : Obj := ⟨(.type "function"), none, (.func (fdAt (stm 17) (St "law") 3 (.str (St "law_pk0024_01") 323) (.ref 149))), #[]⟩
noncomputable def topObjs (P : Params) : List Obj := [boot_o_0 P, boot_o_1 P, boot_o_2 P, ob3 P, boot_o_4 P, boot_o_5 P, boot_o_6 P, boot_o_7 P, boot_o_8 P, boot_o_9 P, boot_o_10 P, ob11 P, ob12 P, ob13 P, ob14 P, ob15 P, ob16 P, ob17 P, ob18 P, ob19 P, ob20 P, ob21 P, ob22 P, ob23 P, ob24 P, ob25 P, ob26 P, ob27 P, ob28 P, ob29 P, ob30 P, ob31 P, ob32 P, ob33 P, ob34 P, ob35 P, ob36 P, ob37 P, ob38 P, ob39 P, ob40 P, ob41 P, ob42 P, ob43 P, ob44 P, ob45 P, ob46 P, ob47 P, ob48 P, ob49 P, ob50 P, ob51 P, ob52 P, ob53 P, ob54 P, ob55 P, ob56 P, ob57 P, ob58 P, ob59 P, ob60 P, ob61 P, ob62 P, ob63 P, ob64 P, ob65 P, ob66 P, ob67 P, ob68 P, ob69 P, ob70 P, ob71 P, ob72 P, ob73 P, ob74 P, ob75 P, ob76 P, ob77 P, ob78 P, ob79 P, ob80 P, ob81 P, ob82 P, ob83 P, ob84 P, ob85 P, ob86 P, ob87 P, ob88 P, ob89 P, ob90 P, ob91 P, ob92 P, ob93 P, ob94 P, ob95 P, ob96 P, ob97 P, ob98 P, ob99 P, ob100 P, ob101 P, ob102 P, ob103 P, ob104 P, ob105 P, ob106 P, ob107 P, ob108 P, ob109 P, ob110 P, ob111 P, ob112 P, ob113 P, ob114 P, ob115 P, ob116 P, ob117 P, ob118 P, ob119 P, ob120 P, ob121 P, ob122 P, ob123 P, ob124 P, ob125 P, ob126 P, ob127 P, ob128 P, ob129 P, ob130 P, ob131 P, ob132 P, ob133 P, ob134 P, ob135 P, ob136 P, ob137 P, ob138 P, ob139 P, ob140 P, ob141 P, ob142 P, ob143 P, ob144 P, ob145 P, ob146 P, ob147 P, ob148 P, ob149 P, ob150 P]
noncomputable def topHeap (P : Params) : Heap := ⟨⟨topObjs P⟩, {}⟩
end Mine
end PartHd0

-- He0
section PartHe0
open PySem PySem.W PyProof.Rows
set_option Elab.async false
set_option maxRecDepth 100000
set_option linter.unusedVariables false
namespace Mine
noncomputable def ob12_atP (P : Params) : Obj := ⟨.none, none, (.fields #[]), #[]⟩
noncomputable def heap_atP (P : Params) : Heap := ⟨⟨[boot_o_0 P, boot_o_1 P, boot_o_2 P, boot_o_3 P, boot_o_4 P, boot_o_5 P, boot_o_6 P, boot_o_7 P, boot_o_8 P, boot_o_9 P, boot_o_10 P, ob11 P, ob12_atP P, ob13 P, ob14 P]⟩, {}⟩
noncomputable def ob3_at1 (P : Params) : Obj := ⟨(.type "dict"), none, (.dict #[⟨PyData.keyHash P (St "__name__"), (.str (St "__name__") 165), (.str (St "cpy313.stringprep") 194)⟩, ⟨PyData.keyHash P (St "__doc__"), (.str (St "__doc__") 166), .none⟩, ⟨PyData.keyHash P (St "__package__"), (.str (St "__package__") 167), .none⟩, ⟨PyData.keyHash P (St "__loader__"), (.str (St "__loader__") 168), (.builtin "__main__.__loader__#opaque")⟩, ⟨PyData.keyHash P (St "__spec__"), (.str (St "__spec__") 169), .none⟩, ⟨PyData.keyHash P (St "__annotations__"), (.str (St "__annotations__") 170), (.ref 6)⟩, ⟨PyData.keyHash P (St "__builtins__"), (.str (St "__builtins__") 171), (.ref 4)⟩, ⟨PyData.keyHash P (St "__file__"), (.str (St "__file__") 173), (.str (St "/claim/cut.py") 172)⟩, ⟨PyData.keyHash P (St "__cached__"), (.str (St "__cached__") 174), .none⟩, ⟨PyData.keyHash P (St "_wall"), (.str (St "_wall") 193), (.ref 21)⟩] 10), #[]⟩
noncomputable def ob12_at1 (P : Params) : Obj := ⟨.none, none, (.fields #[(.int (1) 0), (.int (0) 0), (.ref 20)]), #[]⟩
noncomputable def heap_at1 (P : Params) : Heap := ⟨⟨[boot_o_0 P, boot_o_1 P, boot_o_2 P, ob3_at1 P, boot_o_4 P, boot_o_5 P, boot_o_6 P, boot_o_7 P, boot_o_8 P, boot_o_9 P, boot_o_10 P, ob11 P, ob12_at1 P, ob13 P, ob14 P, ob15 P, ob16 P, ob17 P, ob18 P, ob19 P, ob20 P, ob21 P]⟩, {}⟩
noncomputable def ob3_at2 (P : Params) : Obj := ⟨(.type "dict"), none, (.dict #[⟨PyData.keyHash P (St "__name__"), (.str (St "__name__") 165), (.str (St "cpy313.stringprep") 194)⟩, ⟨PyData.keyHash P (St "__doc__"), (.str (St "__doc__") 166), .none⟩, ⟨PyData.keyHash P (St "__package__"), (.str (St "__package__") 167), .none⟩, ⟨PyData.keyHash P (St "__loader__"), (.str (St "__loader__") 168), (.builtin "__main__.__loader__#opaque")⟩, ⟨PyData.keyHash P (St "__spec__"), (.str (St "__spec__") 169), .none⟩, ⟨PyData.keyHash P (St "__annotations__"), (.str (St "__annotations__") 170), (.ref 6)⟩, ⟨PyData.keyHash P (St "__builtins__"), (.str (St "__builtins__") 171), (.ref 4)⟩, ⟨PyData.keyHash P (St "__file__"), (.str (St "__file__") 173), (.str (St "/claim/cut.py") 172)⟩, ⟨PyData.keyHash P (St "__cached__"), (.str (St "__cached__") 174), .none⟩, ⟨PyData.keyHash P (St "_wall"), (.str (St "_wall") 193), (.ref 21)⟩, ⟨PyData.keyHash P (St "b1_set"), (.str (St "b1_set") 255), (.ref 29)⟩] 11), #[]⟩
noncomputable def ob12_at2 (P : Params) : Obj := ⟨.none, none, (.fields #[(.int (1) 0), (.int (0) 0), (.ref 20)]), #[]⟩
noncomputable def heap_at2 (P : Params) : Heap := ⟨⟨[boot_o_0 P, boot_o_1 P, boot_o_2 P, ob3_at2 P, boot_o_4 P, boot_o_5 P, boot_o_6 P, boot_o_7 P, boot_o_8 P, boot_o_9 P, boot_o_10 P, ob11 P, ob12_at2 P, ob13 P, ob14 P, ob15 P, ob16 P, ob17 P, ob18 P, ob19 P, ob20 P, ob21 P, ob22 P, ob23 P, ob24 P, ob25 P, ob26 P, ob27 P, ob28 P, ob29 P, ob30 P, ob31 P, ob32 P]⟩, {}⟩
noncomputable def ob3_at4 (P : Params) : Obj := ⟨(.type "dict"), none, (.dict #[⟨PyData.keyHash P (St "__name__"), (.str (St "__name__") 165), (.str (St "cpy313.netrc") 263)⟩, ⟨PyData.keyHash P (St "__doc__"), (.str (St "__doc__") 166), .none⟩, ⟨PyData.keyHash P (St "__package__"), (.str (St "__package__") 167), .none⟩, ⟨PyData.keyHash P (St "__loader__"), (.str (St "__loader__") 168), (.builtin "__main__.__loader__#opaque")⟩, ⟨PyData.keyHash P (St "__spec__"), (.str (St "__spec__") 169), .none⟩, ⟨PyData.keyHash P (St "__annotations__"), (.str (St "__annotations__") 170), (.ref 6)⟩, ⟨PyData.keyHash P (St "__builtins__"), (.str (St "__builtins__") 171), (.ref 4)⟩, ⟨PyData.keyHash P (St "__file__"), (.str (St "__file__") 173), (.str (St "/claim/cut.py") 172)⟩, ⟨PyData.keyHash P (St "__cached__"), (.str (St "__cached__") 174), .none⟩, ⟨PyData.keyHash P (St "_wall"), (.str (St "_wall") 193), (.ref 21)⟩, ⟨PyData.keyHash P (St "b1_set"), (.str (St "b1_set") 255), (.ref 29)⟩, ⟨PyData.keyHash P (St "in_table_b1"), (.str (St "in_table_b1") 262), (.ref 39)⟩] 12), #[]⟩
noncomputable def ob12_at4 (P : Params) : Obj := ⟨.none, none, (.fields #[(.int (1) 0), (.int (0) 0), (.ref 20), (.int (6) 0), (.int (0) 0), (.ref 38)]), #[]⟩
noncomputable def heap_at4 (P : Params) : Heap := ⟨⟨[boot_o_0 P, boot_o_1 P, boot_o_2 P, ob3_at4 P, boot_o_4 P, boot_o_5 P, boot_o_6 P, boot_o_7 P, boot_o_8 P, boot_o_9 P, boot_o_10 P, ob11 P, ob12_at4 P, ob13 P, ob14 P, ob15 P, ob16 P, ob17 P, ob18 P, ob19 P, ob20 P, ob21 P, ob22 P, ob23 P, ob24 P, ob25 P, ob26 P, ob27 P, ob28 P, ob29 P, ob30 P, ob31 P, ob32 P, ob33 P, ob34 P, ob35 P, ob36 P, ob37 P, ob38 P, ob39 P]⟩, {}⟩
noncomputable def ob3_at5 (P : Params) : Obj := ⟨(.type "dict"), none, (.dict #[⟨PyData.keyHash P (St "__name__"), (.str (St "__name__") 165), (.str (St "cpy313.netrc") 263)⟩, ⟨PyData.keyHash P (St "__doc__"), (.str (St "__doc__") 166), .none⟩, ⟨PyData.keyHash P (St "__package__"), (.str (St "__package__") 167), .none⟩, ⟨PyData.keyHash P (St "__loader__"), (.str (St "__loader__") 168), (.builtin "__main__.__loader__#opaque")⟩, ⟨PyData.keyHash P (St "__spec__"), (.str (St "__spec__") 169), .none⟩, ⟨PyData.keyHash P (St "__annotations__"), (.str (St "__annotations__") 170), (.ref 6)⟩, ⟨PyData.keyHash P (St "__builtins__"), (.str (St "__builtins__") 171), (.ref 4)⟩, ⟨PyData.keyHash P (St "__file__"), (.str (St "__file__") 173), (.str (St "/claim/cut.py") 172)⟩, ⟨PyData.keyHash P (St "__cached__"), (.str (St "__cached__") 174), .none⟩, ⟨PyData.keyHash P (St "_wall"), (.str (St "_wall") 193), (.ref 21)⟩, ⟨PyData.keyHash P (St "b1_set"), (.str (St "b1_set") 255), (.ref 29)⟩, ⟨PyData.keyHash P (St "in_table_b1"), (.str (St "in_table_b1") 262), (.ref 39)⟩, ⟨PyData.keyHash P (St "_netrclex"), (.str (St "_netrclex") 322), (.ref 77)⟩] 13), #[]⟩
noncomputable def ob12_at5 (P : Params) : Obj := ⟨.none, none, (.fields #[(.int (1) 0), (.int (0) 0), (.ref 20), (.int (6) 0), (.int (0) 0), (.ref 38), (.int (9) 0), (.int (0) 0), (.ref 45)]), #[]⟩
noncomputable def heap_at5 (P : Params) : Heap := ⟨⟨[boot_o_0 P, boot_o_1 P, boot_o_2 P, ob3_at5 P, boot_o_4 P, boot_o_5 P, boot_o_6 P, boot_o_7 P, boot_o_8 P, boot_o_9 P, boot_o_10 P, ob11 P, ob12_at5 P, ob13 P, ob14 P, ob15 P, ob16 P, ob17 P, ob18 P, ob19 P, ob20 P, ob21 P, ob22 P, ob23 P, ob24 P, ob25 P, ob26 P, ob27 P, ob28 P, ob29 P, ob30 P, ob31 P, ob32 P, ob33 P, ob34 P, ob35 P, ob36 P, ob37 P, ob38 P, ob39 P, ob40 P, ob41 P, ob42 P, ob43 P, ob44 P, ob45 P, ob46 P, ob47 P, ob48 P, ob49 P, ob50 P, ob51 P, ob52 P, ob53 P, ob54 P, ob55 P, ob56 P, ob57 P, ob58 P, ob59 P, ob60 P, ob61 P, ob62 P, ob63 P, ob64 P, ob65 P, ob66 P, ob67 P, ob68 P, ob69 P, ob70 P, ob71 P, ob72 P, ob73 P, ob74 P, ob75 P, ob76 P, ob77 P, ob78 P, ob79 P, ob80 P, ob81 P]⟩, {}⟩
noncomputable def ob3_at11 (P : Params) : Obj := ⟨(.type "dict"), none, (.dict #[⟨PyData.keyHash P (St "__name__"), (.str (St "__name__") 165), (.str (St "law_pk0024_01") 323)⟩, ⟨PyData.keyHash P (St "__doc__"), (.str (St "__doc__") 166), .none⟩, ⟨PyData.keyHash P (St "__package__"), (.str (St "__package__") 167), .none⟩, ⟨PyData.keyHash P (St "__loader__"), (.str (St "__loader__") 168), (.builtin "__main__.__loader__#opaque")⟩, ⟨PyData.keyHash P (St "__spec__"), (.str (St "__spec__") 169), .none⟩, ⟨PyData.keyHash P (St "__annotations__"), (.str (St "__annotations__") 170), (.ref 6)⟩, ⟨PyData.keyHash P (St "__builtins__"), (.str (St "__builtins__") 171), (.ref 4)⟩, ⟨PyData.keyHash P (St "__file__"), (.str (St "__file__") 173), (.str (St "/claim/cut.py") 172)⟩, ⟨PyData.keyHash P (St "__cached__"), (.str (St "__cached__") 174), .none⟩, ⟨PyData.keyHash P (St "_wall"), (.str (St "_wall") 193), (.ref 21)⟩, ⟨PyData.keyHash P (St "b1_set"), (.str (St "b1_set") 255), (.ref 29)⟩, ⟨PyData.keyHash P (St "in_table_b1"), (.str (St "in_table_b1") 262), (.ref 39)⟩, ⟨PyData.keyHash P (St "_netrclex"), (.str (St "_netrclex") 322), (.ref 77)⟩, ⟨PyData.keyHash P (St "_law_held"), (.str (St "_law_held") 331), (.ref 88)⟩, ⟨PyData.keyHash P (St "_law_strange"), (.str (St "_law_strange") 339), (.ref 95)⟩, ⟨PyData.keyHash P (St "_law_row"), (.str (St "_law_row") 349), (.ref 102)⟩, ⟨PyData.keyHash P (St "_law_word"), (.str (St "_law_word") 355), (.ref 107)⟩, ⟨PyData.keyHash P (St "_law_joined"), (.str (St "_law_joined") 361), (.ref 112)⟩] 18), #[]⟩
noncomputable def ob12_at11 (P : Params) : Obj := ⟨.none, none, (.fields #[(.int (1) 0), (.int (0) 0), (.ref 20), (.int (6) 0), (.int (0) 0), (.ref 38), (.int (9) 0), (.int (0) 0), (.ref 45), (.int (53) 0), (.int (0) 0), (.ref 87), (.int (57) 0), (.int (0) 0), (.ref 94), (.int (62) 0), (.int (0) 0), (.ref 101), (.int (66) 0), (.int (0) 0), (.ref 106), (.int (68) 0), (.int (0) 0), (.ref 111)]), #[]⟩
noncomputable def heap_at11 (P : Params) : Heap := ⟨⟨[boot_o_0 P, boot_o_1 P, boot_o_2 P, ob3_at11 P, boot_o_4 P, boot_o_5 P, boot_o_6 P, boot_o_7 P, boot_o_8 P, boot_o_9 P, boot_o_10 P, ob11 P, ob12_at11 P, ob13 P, ob14 P, ob15 P, ob16 P, ob17 P, ob18 P, ob19 P, ob20 P, ob21 P, ob22 P, ob23 P, ob24 P, ob25 P, ob26 P, ob27 P, ob28 P, ob29 P, ob30 P, ob31 P, ob32 P, ob33 P, ob34 P, ob35 P, ob36 P, ob37 P, ob38 P, ob39 P, ob40 P, ob41 P, ob42 P, ob43 P, ob44 P, ob45 P, ob46 P, ob47 P, ob48 P, ob49 P, ob50 P, ob51 P, ob52 P, ob53 P, ob54 P, ob55 P, ob56 P, ob57 P, ob58 P, ob59 P, ob60 P, ob61 P, ob62 P, ob63 P, ob64 P, ob65 P, ob66 P, ob67 P, ob68 P, ob69 P, ob70 P, ob71 P, ob72 P, ob73 P, ob74 P, ob75 P, ob76 P, ob77 P, ob78 P, ob79 P, ob80 P, ob81 P, ob82 P, ob83 P, ob84 P, ob85 P, ob86 P, ob87 P, ob88 P, ob89 P, ob90 P, ob91 P, ob92 P, ob93 P, ob94 P, ob95 P, ob96 P, ob97 P, ob98 P, ob99 P, ob100 P, ob101 P, ob102 P, ob103 P, ob104 P, ob105 P, ob106 P, ob107 P, ob108 P, ob109 P, ob110 P, ob111 P, ob112 P]⟩, {}⟩
noncomputable def topEnv : Env := { scope := pw.main.scope, locals := mainNs, globals := mainNs, cells := [], code := .ref 13, frame := some 14 }
noncomputable abbrev pos0 : Pos := ⟨0, 0, 0, 0⟩
noncomputable abbrev stA (h : Heap) (k : Nat) (os : OsState) : Shared := ⟨h, ⟨[]⟩, boot_drawn, k, os⟩
noncomputable def tb1 : List Stmt := pw.main.body.take 2
noncomputable def tb2 : List Stmt := (pw.main.body.drop 2).take 1
noncomputable def tb3 : List Stmt := (pw.main.body.drop 3).take 2
noncomputable def tb4 : List Stmt := (pw.main.body.drop 5).take 1
noncomputable def tb5 : List Stmt := (pw.main.body.drop 6).take 6
noncomputable def tb6 : List Stmt := pw.main.body.drop 12
theorem top_parts : behindTheImports pw = tb1 ++ (tb2 ++ (tb3 ++ (tb4 ++ (tb5 ++ (tb6 ++ []))))) := by kernel_rfl
theorem run_pre (w : World) (os : OsState) : topGo treeTable pw w 11 (some (.ref 6)) 12 ⟨boot_heap w.params, ⟨[]⟩, boot_drawn, boot_toks, os⟩ (topStub pw) = some (stA (heap_atP w.params) 187 os, ⟨denote treeTable (.body (behindTheImports pw) topEnv), .body (behindTheImports pw) topEnv, pos0, [topFrame pos0]⟩) := by
  kernel_rfl
theorem run_block (w : World) (os : OsState) : segRun treeTable pw w 11 (some (.ref 6)) 1 1 (stA (heap_atP w.params) 187 os) (blockOf (behindTheImports pw) topEnv (.body (behindTheImports pw) topEnv) pos0 [topFrame pos0]) = some (.next, stA (heap_atP w.params) 187 os, .body (behindTheImports pw) topEnv, pos0) := by
  kernel_rfl
theorem run_p1 (w : World) (os : OsState) (b : List Stmt) : segRun treeTable pw w 11 (some (.ref 6)) 1 39 (stA (heap_atP w.params) 187 os) (piecesOf tb1 topEnv (.body b topEnv) ⟨0, 0, 0, 0⟩ [topFrame pos0]) = some (.next, stA (heap_at1 w.params) 196 os, .body b topEnv, ⟨4, 0, 4, 8⟩) := by
  rw [PySem.W.Fast.te14374325043358763698, PySem.W.Fast.te14364793385576792824]
  kernel_rfl
theorem run_p2t (w : World) (os : OsState) (b : List Stmt) : segRun treeTable pw (w.withFollow "special-get-raises" true) 11 (some (.ref 6)) 1 999 (stA (heap_at1 w.params) 196 os) (piecesOf tb2 topEnv (.body b topEnv) ⟨4, 0, 4, 8⟩ [topFrame pos0]) = some (.next, stA (heap_at2 w.params) 256 os, .body b topEnv, ⟨5, 0, 5, 6⟩) := by
  rw [PySem.W.Fast.te14374325043358763698, PySem.W.Fast.te14364793385576792824]
  kernel_rfl
theorem run_p2f (w : World) (os : OsState) (b : List Stmt) : segRun treeTable pw (w.withFollow "special-get-raises" false) 11 (some (.ref 6)) 1 999 (stA (heap_at1 w.params) 196 os) (piecesOf tb2 topEnv (.body b topEnv) ⟨4, 0, 4, 8⟩ [topFrame pos0]) = some (.next, stA (heap_at2 w.params) 256 os, .body b topEnv, ⟨5, 0, 5, 6⟩) := by
  rw [PySem.W.Fast.te14374325043358763698, PySem.W.Fast.te14364793385576792824]
  kernel_rfl
theorem run_p2 (w : World) (os : OsState) (b : List Stmt) : segRun treeTable pw w 11 (some (.ref 6)) 1 999 (stA (heap_at1 w.params) 196 os) (piecesOf tb2 topEnv (.body b topEnv) ⟨4, 0, 4, 8⟩ [topFrame pos0]) = some (.next, stA (heap_at2 w.params) 256 os, .body b topEnv, ⟨5, 0, 5, 6⟩) := by
  have h : ∀ v, segRun treeTable pw (w.withFollow "special-get-raises" v) 11 (some (.ref 6)) 1 999 (stA (heap_at1 w.params) 196 os) (piecesOf tb2 topEnv (.body b topEnv) ⟨4, 0, 4, 8⟩ [topFrame pos0]) = some (.next, stA (heap_at2 w.params) 256 os, .body b topEnv, ⟨5, 0, 5, 6⟩) := fun v => by
    cases v
    · exact run_p2f w os b
    · exact run_p2t w os b
  have h := h (w.params.followText "special-get-raises")
  rw [World.withFollow_self] at h
  exact h
theorem run_p3 (w : World) (os : OsState) (b : List Stmt) : segRun treeTable pw w 11 (some (.ref 6)) 1 39 (stA (heap_at2 w.params) 256 os) (piecesOf tb3 topEnv (.body b topEnv) ⟨5, 0, 5, 6⟩ [topFrame pos0]) = some (.next, stA (heap_at4 w.params) 265 os, .body b topEnv, ⟨8, 0, 8, 8⟩) := by
  rw [PySem.W.Fast.te14374325043358763698, PySem.W.Fast.te14364793385576792824]
  kernel_rfl
theorem run_p4 (w : World) (os : OsState) (b : List Stmt) : segRun treeTable pw w 11 (some (.ref 6)) 1 324 (stA (heap_at4 w.params) 265 os) (piecesOf tb4 topEnv (.body b topEnv) ⟨8, 0, 8, 8⟩ [topFrame pos0]) = some (.next, stA (heap_at5 w.params) 323 os, .body b topEnv, ⟨9, 0, 51, 16⟩) := by
  rw [PySem.W.Fast.te14374325043358763698, PySem.W.Fast.te14364793385576792824]
  kernel_rfl
theorem run_p5 (w : World) (os : OsState) (b : List Stmt) : segRun treeTable pw w 11 (some (.ref 6)) 1 153 (stA (heap_at5 w.params) 323 os) (piecesOf tb5 topEnv (.body b topEnv) ⟨9, 0, 51, 16⟩ [topFrame pos0]) = some (.next, stA (heap_at11 w.params) 362 os, .body b topEnv, ⟨68, 0, 69, 72⟩) := by
  rw [PySem.W.Fast.te14374325043358763698, PySem.W.Fast.te14364793385576792824]
  kernel_rfl
theorem run_p6 (w : World) (os : OsState) (b : List Stmt) : segRun treeTable pw w 11 (some (.ref 6)) 1 193 (stA (heap_at11 w.params) 362 os) (piecesOf tb6 topEnv (.body b topEnv) ⟨68, 0, 69, 72⟩ [topFrame pos0]) = some (.next, stA (topHeap w.params) 426 os, .body b topEnv, ⟨116, 0, 132, 54⟩) := by
  rw [PySem.W.Fast.te14374325043358763698, PySem.W.Fast.te14364793385576792824]
  kernel_rfl
theorem run_fin (w : World) (os : OsState) (b : List Stmt) : topRun treeTable pw w 11 (some (.ref 6)) 2 (stA (topHeap w.params) 426 os) ⟨doneF .next, .body b topEnv, ⟨116, 0, 132, 54⟩, [topFrame pos0]⟩ = some ⟨topHeap w.params, ⟨[]⟩, boot_drawn, 426, os⟩ := by
  kernel_rfl
theorem run_all (w : World) (os : OsState) : topRun treeTable pw w 11 (some (.ref 6)) (12 + (1 + (39 + (999 + (39 + (324 + (153 + (193 + 2)))))))) ⟨boot_heap w.params, ⟨[]⟩, boot_drawn, boot_toks, os⟩ (topStub pw) = some ⟨topHeap w.params, ⟨[]⟩, boot_drawn, 426, os⟩ := by
  refine go_top (run_pre w os) (piece_block (run_block w os) ?_)
  rw [top_parts]
  exact piece_app (run_p1 w os _) (piece_app (run_p2 w os _) (piece_app (run_p3 w os _) (piece_app (run_p4 w os _) (piece_app (run_p5 w os _) (piece_app (run_p6 w os _) (piece_nil (run_fin w os _)))))))
end Mine
end PartHe0

-- B0
section PartB0
open PySem PySem.W PyProof.Rows PySem.Calls
set_option Elab.async false
set_option maxRecDepth 100000
set_option linter.unusedVariables false
namespace Mine

/-- the heap alone: tokens forgotten, nothing is raised -/
noncomputable def Wp {α : Type} (w : World) (A : Around) (t : Sem α) (Q : α → Heap → Prop) (h : Heap) : Prop :=
  ∀ (s : Shared) (E : Value → Shared → Prop), s.heap = h → wpAny (model pw w) A t (fun a s' => (∃ tk, s' = { s with heap := s'.heap, toks := tk }) ∧ Q a s'.heap) E s

noncomputable def Cd (w : World) (A : Around) (c : Code) (R : Result → Heap → Prop) (h : Heap) : Prop :=
  ∀ (s : Shared), s.heap = h → codeAny (model pw w) A c (fun r s' => (∃ tk, s' = { s with heap := s'.heap, toks := tk }) ∧ R r s'.heap) s

section
variable {α β : Type} {w : World} {A : Around} {h : Heap}

theorem Wp.mk {t : Sem α} {Q : α → Heap → Prop}
    (H : ∀ (s : Shared) (Q' : α → Shared → Prop) (E : Value → Shared → Prop), s.heap = h → (∀ a h' tk, Q a h' → Q' a { s with heap := h', toks := tk }) → wpAny (model pw w) A t Q' E s) : Wp w A t Q h :=
  fun s E hs => H s _ E hs fun a h' tk q => ⟨⟨tk, rfl⟩, q⟩
theorem Wp.use {t : Sem α} {Q : α → Heap → Prop} {s : Shared} {Q' : α → Shared → Prop} {E : Value → Shared → Prop}
    (H : Wp w A t Q s.heap) (k : ∀ a h' tk, Q a h' → Q' a { s with heap := h', toks := tk }) : wpAny (model pw w) A t Q' E s :=
  wpAny_mono (H s E rfl) (fun a s' hq => by
    obtain ⟨⟨tk, e⟩, q⟩ := hq
    have := k a s'.heap tk q
    rw [← e] at this
    exact this) fun _ _ e => e
theorem Cd.mk {c : Code} {R : Result → Heap → Prop}
    (H : ∀ (s : Shared) (R' : Result → Shared → Prop), s.heap = h → (∀ r h' tk, R r h' → R' r { s with heap := h', toks := tk }) → codeAny (model pw w) A c R' s) : Cd w A c R h :=
  fun s hs => H s _ hs fun r h' tk q => ⟨⟨tk, rfl⟩, q⟩
theorem Cd.use {c : Code} {R : Result → Heap → Prop} {s : Shared} {R' : Result → Shared → Prop}
    (H : Cd w A c R s.heap) (k : ∀ r h' tk, R r h' → R' r { s with heap := h', toks := tk }) : codeAny (model pw w) A c R' s :=
  codeAny_mono (H s rfl) (fun r s' hq => by
    obtain ⟨⟨tk, e⟩, q⟩ := hq
    have := k r s'.heap tk q
    rw [← e] at this
    exact this)
theorem Wp.on {t : Sem α} {Q : α → Heap → Prop} {s : Shared} {h₁ : Heap} {tk₁ : Nat} {Q' : α → Shared → Prop} {E : Value → Shared → Prop}
    (H : Wp w A t Q h₁) (k : ∀ a h' tk, Q a h' → Q' a { s with heap := h', toks := tk }) : wpAny (model pw w) A t Q' E { s with heap := h₁, toks := tk₁ } :=
  Wp.use (s := { s with heap := h₁, toks := tk₁ }) H k
theorem Cd.on {c : Code} {R : Result → Heap → Prop} {s : Shared} {h₁ : Heap} {tk₁ : Nat} {R' : Result → Shared → Prop}
    (H : Cd w A c R h₁) (k : ∀ r h' tk, R r h' → R' r { s with heap := h', toks := tk }) : codeAny (model pw w) A c R' { s with heap := h₁, toks := tk₁ } :=
  Cd.use (s := { s with heap := h₁, toks := tk₁ }) H k
theorem Wp.mono {t : Sem α} {Q Q' : α → Heap → Prop} (H : Wp w A t Q h) (k : ∀ a h', Q a h' → Q' a h') : Wp w A t Q' h :=
  Wp.mk fun s Q'' E hs kk => by subst hs; exact H.use fun a h' tk q => kk a h' tk (k a h' q)
theorem Cd.mono {c : Code} {R R' : Result → Heap → Prop} (H : Cd w A c R h) (k : ∀ a h', R a h' → R' a h') : Cd w A c R' h :=
  Cd.mk fun s Q'' hs kk => by subst hs; exact H.use fun a h' tk q => kk a h' tk (k a h' q)
theorem Wp.pure {a : α} {Q : α → Heap → Prop} (q : Q a h) : Wp w A (Pure.pure a) Q h :=
  Wp.mk fun s Q' E hs k => by subst hs; exact wpAny_pure (k a s.heap s.toks q)
theorem Wp.eq {t : Sem α} {a : α} {Q : α → Heap → Prop} (e : t = Pure.pure a) (q : Q a h) : Wp w A t Q h := e ▸ Wp.pure q
theorem Wp.bind {m : Sem α} {f : α → Sem β} {Q : β → Heap → Prop} (H : Wp w A m (fun a h' => Wp w A (f a) Q h') h) : Wp w A (m >>= f) Q h :=
  Wp.mk fun s Q' E hs k => by subst hs; exact wpAny_bind (H.use fun a h' tk q => q.on k)
theorem Wp.holding {vs : List Value} {m : Sem α} {Q : α → Heap → Prop} (H : Wp w A m Q h) : Wp w A (PySem.holding vs m) Q h :=
  Wp.mk fun s Q' E hs k => by subst hs; exact wpAny_holding (H.use k)
theorem Wp.standAt {p : Pos} {Q : Unit → Heap → Prop} (q : Q () h) : Wp w A (PySem.standAt p) Q h :=
  Wp.mk fun s Q' E hs k => by subst hs; exact wpAny_standAt (k () s.heap s.toks q)
theorem Wp.rule {t : String} {Q : Unit → Heap → Prop} (q : Q () h) : Wp w A (PySem.rule t) Q h :=
  Wp.mk fun s Q' E hs k => by subst hs; exact wpAny_rule (k () s.heap s.toks q)
theorem Wp.load {a : Addr} {o : Obj} {Q : Obj → Heap → Prop} (e : h.get? a = some o) (q : Q o h) : Wp w A (PySem.load a) Q h :=
  Wp.mk fun s Q' E hs k => by subst hs; exact wpAny_load e (k o s.heap s.toks q)
theorem Wp.call {f : Value} {pos : List Value} {Q : Value → Heap → Prop}
    (H : Cd w A (.call f ⟨pos, []⟩) (fun r h' => match r with | .ok (.ret v) => Q v h' | .ok _ => False | .error _ => False) h) : Wp w A (PySem.call f pos) Q h :=
  Wp.mk fun s Q' E hs k => by
    subst hs
    refine wpAny_call (H.use fun r h' tk q => ?_)
    cases r with
    | ok f => cases f with
      | ret v => exact k v h' tk q
      | _ => exact q.elim
    | error e => exact q.elim
end
end Mine
end PartB0

-- B1
section PartB1
open PySem PySem.W PyProof.Rows PySem.Calls
set_option Elab.async false
set_option maxRecDepth 100000
set_option linter.unusedVariables false
namespace Mine
section
variable {w : World} {A : Around} {h : Heap} {env : Env}

-- statements
theorem W_nil {Q : Flow → Heap → Prop} (q : Q .next h) : Wp w A (execs [] env) Q h := Wp.eq rfl q
theorem W_cons {st : Stmt} {rest : List Stmt} {Q : Flow → Heap → Prop}
    (H : Wp w A (exec st env) (fun f h' => match f with | .next => Wp w A (execs rest env) Q h' | f => Q f h') h) : Wp w A (execs (st :: rest) env) Q h :=
  Wp.mk fun s Q' E hs k => by
    subst hs
    refine wpAny_execs_cons (H.use fun f h' tk q => ?_)
    cases f with
    | next => exact Wp.on q k
    | brk => exact k _ _ _ q
    | cont => exact k _ _ _ q
    | ret v => exact k _ _ _ q
theorem W_If {test : Expr} {body orelse : List Stmt} {pos : Pos} {Q : Flow → Heap → Prop}
    (H : Wp w A (isTrue test env (eval test env)) (fun b h' => (b = true → Wp w A (execs body env) Q h') ∧ (b = false → Wp w A (execs orelse env) Q h')) h) : Wp w A (exec (.If test body orelse pos) env) Q h :=
  Wp.mk fun s Q' E hs k => by
    subst hs
    refine wpAny_If (H.use fun b h' tk q => ?_)
    cases b
    · exact Wp.on (q.2 rfl) k
    · exact Wp.on (q.1 rfl) k
theorem W_Return {e : Expr} {pos : Pos} {Q : Flow → Heap → Prop} (H : Wp w A (eval e env) (fun v h' => Q (.ret v) h') h) : Wp w A (exec (.Return (some e) pos) env) Q h :=
  Wp.mk fun s Q' E hs k => by subst hs; exact wpAny_Return_some (H.use fun v h' tk q => k _ _ _ q)
theorem W_Continue {pos : Pos} {Q : Flow → Heap → Prop} (q : Q .cont h) : Wp w A (exec (.Continue pos) env) Q h :=
  Wp.mk fun s Q' E hs k => by subst hs; exact wpAny_Continue (k _ s.heap s.toks q)
theorem W_Assign {x : Str} {pos' pos : Pos} {value : Expr} {Q : Flow → Heap → Prop}
    (hs' : swapsWith value (some (.Name x pos')) pos.line env = Pure.pure false)
    (H : Wp w A (eval value env) (fun v h₁ => Wp w A (storeName env x v) (fun _ h₂ => Q .next h₂) h₁) h) : Wp w A (exec (.Assign [.Name x pos'] value pos) env) Q h :=
  Wp.mk fun s Q' E hs k => by subst hs; exact wpAny_Assign_Name (H.use fun v h₁ tk q => q.on fun _ h₂ tk₂ q₂ => k _ _ _ q₂) hs'
theorem W_AugName {x : Str} {pos' pos : Pos} {op : Operator} {value : Expr} {Q : Flow → Heap → Prop}
    (H : Wp w A (loadName env x) (fun old h₁ => Wp w A (eval value env) (fun v h₂ => Wp w A (inplaceOp op old v) (fun r h₃ => Wp w A (storeName env x r) (fun _ h₄ => Q .next h₄) h₃) h₂) h₁) h) :
    Wp w A (exec (.AugAssign (.Name x pos') op value pos) env) Q h :=
  Wp.mk fun s Q' E hs k => by subst hs; exact wpAny_AugAssign_Name (H.use fun v h₁ tk q => q.on fun _ h₂ tk₂ q₂ => q₂.on fun _ _ _ q₃ => q₃.on fun _ _ _ q₄ => k _ _ _ q₄)

-- expressions
theorem W_int {i : Int} {k : Nat} {pos : Pos} {Q : Value → Heap → Prop} (q : ∀ t, Q (.int i t) h) : Wp w A (eval (.Constant (.int i) k pos) env) Q h :=
  Wp.mk fun s Q' E hs k => by subst hs; exact wpAny_Constant_int (k _ s.heap _ (q _))
theorem W_str {x : Str} {k : Nat} {pos : Pos} {Q : Value → Heap → Prop} (q : ∀ t, Q (.str x t) h) : Wp w A (eval (.Constant (.str x) k pos) env) Q h :=
  Wp.mk fun s Q' E hs k => by subst hs; exact wpAny_Constant_str (k _ s.heap _ (q _))
theorem W_none {k : Nat} {pos : Pos} {Q : Value → Heap → Prop} (q : Q .none h) : Wp w A (eval (.Constant .none k pos) env) Q h :=
  Wp.mk fun s Q' E hs k => by subst hs; exact wpAny_Constant_none (k _ s.heap s.toks q)
theorem W_bool {b : Bool} {k : Nat} {pos : Pos} {Q : Value → Heap → Prop} (q : Q (.bool b) h) : Wp w A (eval (.Constant (.bool b) k pos) env) Q h :=
  Wp.mk fun s Q' E hs k => by subst hs; exact wpAny_Constant_bool (k _ s.heap s.toks q)
theorem W_BinOp {l r : Expr} {op : Operator} {pos : Pos} {Q : Value → Heap → Prop}
    (H : Wp w A (eval l env) (fun a h₁ => Wp w A (eval r env) (fun b h₂ => Wp w A (binaryOp op a b) Q h₂) h₁) h) : Wp w A (eval (.BinOp l op r pos) env) Q h :=
  Wp.mk fun s Q' E hs k => by subst hs; exact wpAny_BinOp (H.use fun a h₁ tk q => q.on fun b h₂ tk₂ q₂ => q₂.on k)
theorem W_Compare1 {l r : Expr} {op : CmpOp} {pos : Pos} {Q : Value → Heap → Prop} (hm : behindInMarks op r = false)
    (H : Wp w A (eval l env) (fun a h₁ => Wp w A (eval r env) (fun b h₂ => Wp w A (compareOp op a b) Q h₂) h₁) h) : Wp w A (eval (.Compare l [op] [r] pos) env) Q h :=
  Wp.mk fun s Q' E hs k => by subst hs; exact wpAny_Compare1 (H.use fun a h₁ tk q => q.on fun b h₂ tk₂ q₂ => q₂.on k) hm
theorem W_test1 {l r : Expr} {op : CmpOp} {pos : Pos} {whole : Sem Value} {Q : Bool → Heap → Prop} (hm : behindInMarks op r = false)
    (H : Wp w A (eval l env) (fun a h₁ => Wp w A (eval r env) (fun b h₂ => Wp w A (compareOp op a b) (fun c h₃ => Wp w A (truthy c) Q h₃) h₂) h₁) h) : Wp w A (isTrue (.Compare l [op] [r] pos) env whole) Q h :=
  Wp.mk fun s Q' E hs k => by subst hs; exact wpAny_isTrue_Compare1 (H.use fun a h₁ tk q => q.on fun b h₂ tk₂ q₂ => q₂.on fun c h₃ tk₃ q₃ => q₃.on k) hm
theorem W_IfExp {test body orelse : Expr} {pos : Pos} {Q : Value → Heap → Prop}
    (H : Wp w A (isTrue test env (eval test env)) (fun b h' => (b = true → Wp w A (eval body env) Q h') ∧ (b = false → Wp w A (eval orelse env) Q h')) h) : Wp w A (eval (.IfExp test body orelse pos) env) Q h :=
  Wp.mk fun s Q' E hs k => by
    subst hs
    refine wpAny_IfExp (H.use fun b h' tk q => ?_)
    cases b
    · exact Wp.on (q.2 rfl) k
    · exact Wp.on (q.1 rfl) k
theorem W_truthyB {b : Bool} {Q : Bool → Heap → Prop} (q : Q b h) : Wp w A (truthy (.bool b)) Q h :=
  Wp.mk fun s Q' E hs k => by subst hs; exact wpAny_truthy_bool (k _ s.heap s.toks q)
theorem W_isTrue {e : Expr} {whole : Sem Value} {Q : Bool → Heap → Prop} (he : isTrue e env whole = (do let v ← whole; standAt e.pos; holding [v] (truthy v)))
    (H : Wp w A whole (fun v h₁ => Wp w A (truthy v) Q h₁) h) : Wp w A (isTrue e env whole) Q h :=
  Wp.mk fun s Q' E hs k => by subst hs; exact wpAny_isTrue_value (H.use fun v h₁ tk q => q.on k) he
theorem W_items_nil {pos : Pos} {Q : List Value → Heap → Prop} (q : Q [] h) : Wp w A (spliced (backTo pos (starEach [] env))) Q h := Wp.eq rfl q
theorem W_items_cons {pos : Pos} {e : Expr} {rest : List Expr} {Q : List Value → Heap → Prop} (he : starEach (e :: rest) env = (false, eval e env) :: starEach rest env)
    (H : Wp w A (eval e env) (fun v h₁ => Wp w A (spliced (backTo pos (starEach rest env))) (fun vs h₂ => Q (v :: vs) h₂) h₁) h) : Wp w A (spliced (backTo pos (starEach (e :: rest) env))) Q h :=
  Wp.mk fun s Q' E hs k => by subst hs; exact wpAny_items_cons (H.use fun v h₁ tk q => q.on fun vs h₂ tk₂ q₂ => k _ _ _ q₂) he
theorem W_newTuple {vs : List Value} {Q : Value → Heap → Prop} (hz : vs.length ≤ sizeLine)
    (q : Q (.ref h.objs.size) (h.push { cls := .type "tuple", data := .seq vs.toArray })) : Wp w A (newTuple vs) Q h :=
  Wp.mk fun s Q' E hs k => by
    subst hs
    exact wpAny_newObj_type (k _ _ s.toks q) (by show vs.toArray.size ≤ sizeLine; rw [List.size_toArray]; exact hz)
theorem W_newList {vs : List Value} {Q : Value → Heap → Prop} (hz : vs.length ≤ sizeLine)
    (q : Q (.ref h.objs.size) (h.push { cls := .type "list", data := .seq vs.toArray })) : Wp w A (newList vs) Q h :=
  Wp.mk fun s Q' E hs k => by
    subst hs
    exact wpAny_newObj_type (k _ _ s.toks q) (by show vs.toArray.size ≤ sizeLine; rw [List.size_toArray]; exact hz)
theorem W_Tuple {elts : List Expr} {k : Nat} {pos : Pos} {Q : Value → Heap → Prop} (H : Wp w A (spliced (backTo pos (starEach elts env))) (fun vs h₁ => Wp w A (newTuple vs) Q h₁) h) :
    Wp w A (eval (.Tuple elts k pos) env) Q h :=
  Wp.mk fun s Q' E hs k => by subst hs; exact Tuple_ (H.use fun vs h₁ tk q => q.on k)
theorem W_List {elts : List Expr} {pos : Pos} {Q : Value → Heap → Prop} (H : Wp w A (spliced (backTo pos (starEach elts env))) (fun vs h₁ => Wp w A (newList vs) Q h₁) h) :
    Wp w A (eval (.List elts pos) env) Q h :=
  Wp.mk fun s Q' E hs k => by subst hs; exact List_ (H.use fun vs h₁ tk q => q.on k)

-- names
noncomputable def lk (l : List (Str × Value)) : Str → Option Value := fun x => l.lookup x
noncomputable def put : List (Str × Value) → Str → Value → List (Str × Value)
  | [], x, v => [(x, v)]
  | (k, v') :: r, x, v => if k == x then (x, v) :: r else (k, v') :: put r x v
theorem lk_put (l : List (Str × Value)) (x : Str) (v : Value) : (fun y => if y = x then some v else lk l y) = lk (put l x v) := by
  funext y
  unfold lk
  induction l with
  | nil =>
    simp only [put, List.lookup_cons, List.lookup_nil]
    by_cases hy : y = x
    · simp [hy]
    · have : (y == x) = false := beq_eq_false_iff_ne.mpr hy
      simp [hy, this]
  | cons p r ih =>
    obtain ⟨k, v'⟩ := p
    simp only [put]
    by_cases hk : k = x
    · subst hk
      simp only [beq_self_eq_true, if_true, List.lookup_cons]
      by_cases hy : y = k
      · simp [hy]
      · have : (y == k) = false := beq_eq_false_iff_ne.mpr hy
        simp [hy, this]
    · have hkx : (k == x) = false := beq_eq_false_iff_ne.mpr hk
      simp only [hkx, Bool.false_eq_true, if_false, List.lookup_cons]
      by_cases hyk : y = k
      · subst hyk
        simp [hk]
      · have : (y == k) = false := beq_eq_false_iff_ne.mpr hyk
        simp only [this]
        exact ih
theorem W_Name {x : Str} {pos : Pos} {Q : Value → Heap → Prop} (hd : (x == ("__debug__" : Str)) = false) (H : Wp w A (loadName env x) Q h) : Wp w A (eval (.Name x pos) env) Q h :=
  Wp.mk fun s Q' E hs k => by subst hs; exact wpAny_Name (H.use k) hd
theorem W_loadLocal {x : Str} {l : List (Str × Value)} {v : Value} {Q : Value → Heap → Prop} (hk : env.scope.kind = .function) (hl : env.kindOf x = some .local) (hn : h.Ns env.locals (lk l))
    (hv : lk l x = some v) (q : Q v h) : Wp w A (loadName env x) Q h :=
  Wp.mk fun s Q' E hs k => by subst hs; exact wpAny_loadName_local hk hl hn hv (k _ s.heap s.toks q)
theorem W_local {x : Str} {pos : Pos} {l : List (Str × Value)} {v : Value} {Q : Value → Heap → Prop} (hn : h.Ns env.locals (lk l)) (hk : env.scope.kind = .function) (hl : env.kindOf x = some .local)
    (hd : (x == ("__debug__" : Str)) = false) (hv : lk l x = some v) (q : Q v h) : Wp w A (eval (.Name x pos) env) Q h := W_Name hd (W_loadLocal hk hl hn hv q)
theorem W_loadCell {x : Str} {c : Addr} {v : Value} {Q : Value → Heap → Prop} (hk : env.scope.kind = .function) (hl : env.kindOf x = some .cell) (hc : env.cells.lookup x = some c) (hn : h.IsCell c (some v))
    (q : Q v h) : Wp w A (loadName env x) Q h :=
  Wp.mk fun s Q' E hs k => by subst hs; exact wpAny_loadName_cell hk hl hc hn (k _ s.heap s.toks q)
theorem W_cell {x : Str} {pos : Pos} {c : Addr} {v : Value} {Q : Value → Heap → Prop} (hn : h.IsCell c (some v)) (hk : env.scope.kind = .function) (hl : env.kindOf x = some .cell) (hc : env.cells.lookup x = some c)
    (hd : (x == ("__debug__" : Str)) = false) (q : Q v h) : Wp w A (eval (.Name x pos) env) Q h := W_Name hd (W_loadCell hk hl hc hn q)
theorem W_free {x : Str} {pos : Pos} {c : Addr} {v : Value} {Q : Value → Heap → Prop} (hn : h.IsCell c (some v)) (hk : env.scope.kind = .function) (hl : env.kindOf x = some .free) (hc : env.cells.lookup x = some c)
    (hd : (x == ("__debug__" : Str)) = false) (hcd : (x == ("__classdict__" : Str)) = false) (q : Q v h) : Wp w A (eval (.Name x pos) env) Q h :=
  W_Name hd (Wp.mk fun s Q' E hs k => by subst hs; exact wpAny_loadName_free hk hl hc hn (k _ s.heap s.toks q) hcd)
theorem W_global {x : Str} {pos : Pos} {mg : Str → Option Value} {v : Value} {Q : Value → Heap → Prop} (hg : h.Ns env.globals mg) (hk : env.scope.kind = .function) (hx : env.kindOf x = some .globalImplicit)
    (hd : (x == ("__debug__" : Str)) = false) (hv : mg x = some v) (q : Q v h) : Wp w A (eval (.Name x pos) env) Q h :=
  Wp.mk fun s Q' E hs k => by subst hs; exact Name_function_global hk hx (loadGlobal_global hg hv (k _ s.heap s.toks q)) hd
theorem W_builtin {x : Str} {pos : Pos} {mg mb : Str → Option Value} {v : Value} {Q : Value → Heap → Prop} (hg : h.Ns env.globals mg) (hb : h.Ns env.builtins mb) (hk : env.scope.kind = .function)
    (hx : env.kindOf x = some .globalImplicit) (hd : (x == ("__debug__" : Str)) = false) (hm : mg x = none) (hv : mb x = some v) (q : Q v h) : Wp w A (eval (.Name x pos) env) Q h :=
  Wp.mk fun s Q' E hs k => by subst hs; exact Name_function_global hk hx (loadGlobal_builtin hg hm hb hv (k _ s.heap s.toks q)) hd
theorem W_store {x : Str} {v : Value} {l : List (Str × Value)} {Q : Unit → Heap → Prop} (hn : h.Ns env.locals (lk l)) (hl : env.kindOf x = some .local)
    (hp : (env.scope.kind == .class || (env.scope.kind == .module && env.locals != env.globals)) = false)
    (q : ∀ h', h'.Ns env.locals (lk (put l x v)) → Heap.SameBut env.locals h h' → Q () h') : Wp w A (storeName env x v) Q h :=
  Wp.mk fun s Q' E hs k => by subst hs; exact wpAny_storeName_local hl hn (fun h' hn' hs' => k _ _ _ (q h' (lk_put l x v ▸ hn') hs')) hp
theorem W_storeCell {x : Str} {c : Addr} {v : Value} {v₀ : Option Value} {Q : Unit → Heap → Prop} (hn : h.IsCell c v₀) (hk : env.scope.kind = .function) (hl : env.kindOf x = some .cell) (hc : env.cells.lookup x = some c)
    (q : ∀ h', h'.IsCell c (some v) → Heap.SameBut c h h' → Q () h') : Wp w A (storeName env x v) Q h :=
  Wp.mk fun s Q' E hs k => by subst hs; exact wpAny_storeName_cell hk hl hc hn (fun h' hn' hs' => k _ _ s.toks (q h' hn' hs'))
end
end Mine
end PartB1

-- B2
section PartB2
open PySem PySem.W PyProof.Rows PySem.Calls
set_option Elab.async false
set_option maxRecDepth 100000
set_option linter.unusedVariables false
namespace Mine

/-- room in frames and C units; nothing is being handled -/
structure Rm (A : Around) (k : Nat) : Prop where
  hd : A.handled = none
  dp : A.depth + k < recursionLimit
  un : A.units + 20 * k < cLine
theorem Rm.deeper {A : Around} {k : Nat} {env : Env} (r : Rm A (k + 1)) : Rm (A.deeper env) k :=
  ⟨r.hd, by have := r.dp; show A.depth + 1 + k < _; omega, by have := r.un; show A.units + 3 + 20 * k < _; omega⟩
theorem Rm.in1 {A : Around} {k : Nat} (r : Rm A (k + 1)) : Rm A.in1 k :=
  ⟨r.hd, by have := r.dp; show A.depth + k < _; omega, by have := r.un; show A.units + 1 + 20 * k < _; omega⟩
theorem Rm.le {A : Around} {k j : Nat} (r : Rm A k) (h : j ≤ k) : Rm A j := ⟨r.hd, by have := r.dp; omega, by have := r.un; omega⟩
theorem Rm.room {A : Around} {k : Nat} (r : Rm A k) : A.depth < recursionLimit := by have := r.dp; omega
theorem Rm.units {A : Around} {k : Nat} (r : Rm A k) : A.units < cLine := by have := r.un; omega

/-- all that stands is kept, but the addresses X -/
noncomputable def Kp (X : List Addr) (h h' : Heap) : Prop := ∀ b o, b ∉ X → h.get? b = some o → h'.get? b = some o
theorem Kp.refl {X : List Addr} {h : Heap} : Kp X h h := fun _ _ _ e => e
theorem Kp.trans {X : List Addr} {h₁ h₂ h₃ : Heap} (x : Kp X h₁ h₂) (y : Kp X h₂ h₃) : Kp X h₁ h₃ := fun b o hx e => y b o hx (x b o hx e)
theorem Kp.sub {X Y : List Addr} {h h' : Heap} (x : Kp X h h') (s : ∀ a ∈ X, a ∈ Y) : Kp Y h h' := fun b o hb e => x b o (fun m => hb (s b m)) e
theorem Kp.of0 {Y : List Addr} {h h' : Heap} (x : Kp [] h h') : Kp Y h h' := x.sub fun _ m => nomatch m
theorem Kp.all {X : List Addr} {h h' : Heap} (k : ∀ b o, h.get? b = some o → h'.get? b = some o) : Kp X h h' := fun b o _ e => k b o e
theorem Kp.push {X : List Addr} {h : Heap} (o : Obj) : Kp X h (h.push o) := .all fun _ _ e => Heap.get?_push_of_some o e
theorem Kp.same {a : Addr} {h h' : Heap} (x : Heap.SameBut a h h') : Kp [a] h h' := fun b o hb e => (x.2 b (fun q => hb (by simp [q]))).trans e
/-- a change at places that the base does not hold -/
theorem Kp.local {Z X : List Addr} {h₀ h h' : Heap} (k : Kp Z h₀ h) (x : Kp X h h') (n : ∀ a ∈ X, h₀.get? a = none) : Kp Z h₀ h' :=
  fun b o hb e => x b o (fun m => by rw [n b m] at e; cases e) (k b o hb e)
theorem Kp.get {X : List Addr} {h h' : Heap} (x : Kp X h h') {a : Addr} {o : Obj} (e : h.get? a = some o) (hx : a ∉ X) : h'.get? a = some o := x a o hx e
theorem Kp.ns {X : List Addr} {h h' : Heap} (x : Kp X h h') {a : Addr} {m : Str → Option Value} (n : h.Ns a m) (hx : a ∉ X) : h'.Ns a m := n.at' fun o e => x a o hx e
theorem fresh_size (h : Heap) (a : Addr) (e : h.objs.size ≤ a) : h.get? a = none := by
  cases q : h.get? a with
  | none => rfl
  | some o => exact absurd (Heap.lt_size q) (Nat.not_lt.mpr e)

/-- the text's own objects stand -/
noncomputable def TH (w : World) (h : Heap) : Prop := ∀ b o, b ≠ 119 → (topHeap w.params).get? b = some o → h.get? b = some o
theorem TH.keep {w : World} {X : List Addr} {h h' : Heap} (t : TH w h) (k : Kp X h h') (hx : ∀ a ∈ X, 151 ≤ a ∨ a = 119) : TH w h' := fun b o ht e =>
  k b o (fun m => by
    rcases hx b m with h1 | h1
    · have h2 := Heap.lt_size e
      have h3 : (topHeap w.params).objs.size = 151 := by kernel_rfl
      exact absurd (Nat.lt_of_lt_of_le h2 (h3 ▸ h1)) (Nat.lt_irrefl _)
    · exact ht h1) (t b o ht e)
theorem TH.keep0 {w : World} {h h' : Heap} (t : TH w h) (k : Kp [] h h') : TH w h' := t.keep k fun _ m => nomatch m
theorem TH.keep9 {w : World} {h h' : Heap} (t : TH w h) (k : Kp [119] h h') : TH w h' := t.keep k fun _ m => .inr (List.mem_singleton.mp m)
noncomputable def mgT (w : World) : Str → Option Value := (topHeap w.params).nsMap 3
noncomputable def mbT (w : World) : Str → Option Value := (topHeap w.params).nsMap 0
theorem TH.glob {w : World} {h : Heap} (t : TH w h) : h.Ns 3 (mgT w) := (Heap.Ns.of_isNs (by kernel_rfl : (topHeap w.params).isNs 3 = true)).at' fun o e => t 3 o (by decide) e
theorem TH.blt {w : World} {h : Heap} (t : TH w h) : h.Ns 0 (mbT w) := (Heap.Ns.of_isNs (by kernel_rfl : (topHeap w.params).isNs 0 = true)).at' fun o e => t 0 o (by decide) e
theorem TH.lim {w : World} {h : Heap} (t : TH w h) : h.NoLimit :=
  ⟨_, (Heap.Ns.of_isNs (by kernel_rfl : (topHeap w.params).isNs 2 = true)).at' fun o e => t 2 o (by decide) e, by kernel_rfl⟩
theorem TH.codeRec {w : World} {h : Heap} (t : TH w h) {c : Addr} {q : Str} {o : Obj} {vs : Array Value} {tk : Tok} (hc : c ≠ 119) (e : (topHeap w.params).get? c = some o) (d : o.data = .fields vs) (i : vs[1]? = some (.str q tk)) :
    h.CodeRec (.ref c) q := ⟨c, o, vs, tk, rfl, t c o hc e, d, i⟩

section
variable {w : World} {A : Around} {h : Heap} {env : Env}

/-- a def of the text is called: no cells -/
theorem C_def {R : Result → Heap → Prop} {a : Addr} {o : Obj} {fd : FuncData} {body : List Stmt} {vals : List Value} {binds : List (Str × Value)}
    (hroom : A.depth < recursionLimit) (ho : h.get? a = some o) (hdata : o.data = .func fd) (hlim : h.NoLimit) (hcd : h.CodeRec fd.code fd.qualname) (hbody : fd.body = .stmts body)
    (hbind : bindArgs fd ⟨vals, []⟩ = Pure.pure binds) (hcell : fd.scope.names.all (fun x => x.2 != .cell) = true) (hloc : binds.all (fun x => fd.scope.names.lookup x.1 == some .local) = true)
    (hco : fd.scope.isCoroutine = false) (hgen : fd.scope.isGenerator = false) (hk : fd.scope.kind = .function)
    (H : ∀ h₁ L, h.get? L = none → h₁.Ns L (lk binds.reverse) → Kp [] h h₁ →
      Wp w (A.deeper (callEnv fd L a)) (execs body (callEnv fd L a)) (fun f h' => R (.ok (.ret (match f with | .ret v => v | _ => .none))) h') h₁) : Cd w A (.call (.ref a) ⟨vals, []⟩) R h :=
  Cd.mk fun s R' hs k => by
    subst hs
    refine codeAny_call_def hroom ho hdata hlim hcd hbody (.of_eq hbind) (fun x hx => by simpa using List.all_eq_true.mp hcell x hx) (fun x hx => by simpa using List.all_eq_true.mp hloc x hx) (fun h₀ hns hkp => ?_) hco hgen hk
    exact (H h₀ _ (fresh_size _ _ (Nat.le_refl _)) hns (.all hkp)).on fun f h' tk q => k _ _ _ q

-- calls by name
theorem W_evalArgs {f : Value} {x : Sem Value} {rest : List (Bool × Sem Value)} {Q : Args → Heap → Prop} (H : Wp w A (spliced ((false, x) :: rest)) (fun vs h' => Q ⟨vs, []⟩ h') h) :
    Wp w A (evalArgs f true ((false, x) :: rest) []) Q h :=
  Wp.mk fun s Q' E hs k => by subst hs; exact evalArgs_plain (H.use fun vs h' tk q => k _ _ _ q)
theorem W_callWithFn {pos : Pos} {a : Addr} {o : Obj} {fd : FuncData} {x : Sem Value} {rest : List (Bool × Sem Value)} {first : List Value} {Q : Value → Heap → Prop} (d : o.data = .func fd)
    (H : Wp w A (spliced ((false, x) :: rest)) (fun vs h₁ => h₁.get? a = some o ∧ Wp w A (call (.ref a) (first ++ vs)) Q h₁) h) : Wp w A (callWith pos (.ref a) first ((false, x) :: rest) []) Q h :=
  Wp.mk fun s Q' E hs k => by
    subst hs
    exact callWith_function (o := o) (fd := fd) (evalArgs_plain (H.use fun vs h₁ tk q => ⟨⟨q.1, d⟩, q.2.on k⟩))
theorem W_callWithFn0 {pos : Pos} {a : Addr} {o : Obj} {fd : FuncData} {first : List Value} {Q : Value → Heap → Prop} (d : o.data = .func fd)
    (H : h.get? a = some o ∧ Wp w A (call (.ref a) first) Q h) : Wp w A (callWith pos (.ref a) first [] []) Q h :=
  Wp.mk fun s Q' E hs k => by
    subst hs
    refine callWith_function (o := o) (fd := fd) (evalArgs_kw_nil (by rfl) (wpAny_pure ⟨⟨H.1, d⟩, ?_⟩))
    rw [List.append_nil]
    exact H.2.use k
/-- what is no object of the heap: a built-in, a type -/
theorem W_callWithV {pos : Pos} {f : Value} {x : Sem Value} {rest : List (Bool × Sem Value)} {first : List Value} {Q : Value → Heap → Prop} (hf : keeperOf f = Pure.pure .machine) (hp : ((false, x) :: rest).any (·.1) = false)
    (H : Wp w A (spliced ((false, x) :: rest)) (fun vs h₁ => Wp w A (call f (first ++ vs)) Q h₁) h) : Wp w A (callWith pos f first ((false, x) :: rest) []) Q h := by
  unfold callWith
  refine Wp.bind (Wp.holding (Wp.mono (W_evalArgs (Q := fun a h₁ => Wp w A (call f (first ++ a.pos) a.kw) Q h₁) H) fun a h₁ q => Wp.bind (Wp.standAt ?_)))
  simp only [hp, List.any_nil, Bool.or_false]
  refine Wp.bind (Wp.eq hf ?_)
  exact Wp.bind (q.mono fun r h₂ q₂ => Wp.bind (Wp.holding (Wp.mk fun s Q' E hs k => by subst hs; exact wpAny_point (k _ s.heap s.toks (Wp.pure q₂)))))
theorem W_fn {pos : Pos} {a : Addr} {o : Obj} {fd : FuncData} {e : Expr} {es : List Expr} {first : List Value} {Q : Value → Heap → Prop} (d : o.data = .func fd) (he : starEach (e :: es) env = (false, eval e env) :: starEach es env)
    (H : Wp w A (spliced (backTo pos (starEach (e :: es) env))) (fun vs h₁ => h₁.get? a = some o ∧ Wp w A (call (.ref a) (first ++ vs)) Q h₁) h) : Wp w A (callWith pos (.ref a) first (backTo pos (starEach (e :: es) env)) []) Q h := by
  rw [he] at H ⊢
  exact W_callWithFn d H
theorem W_fv {pos : Pos} {f : Value} {e : Expr} {es : List Expr} {first : List Value} {Q : Value → Heap → Prop} (hf : keeperOf f = Pure.pure .machine) (he : starEach (e :: es) env = (false, eval e env) :: starEach es env)
    (hp : (backTo pos (starEach (e :: es) env)).any (·.1) = false)
    (H : Wp w A (spliced (backTo pos (starEach (e :: es) env))) (fun vs h₁ => Wp w A (call f (first ++ vs)) Q h₁) h) : Wp w A (callWith pos f first (backTo pos (starEach (e :: es) env)) []) Q h := by
  rw [he] at H hp ⊢
  exact W_callWithV hf hp H
theorem W_CallName {id : Str} {p pos : Pos} {args : List Expr} {Q : Value → Heap → Prop}
    (H : Wp w A (eval (.Name id p) env) (fun f h₁ => Wp w A (callWith pos f [] (backTo pos (starEach args env)) []) Q h₁) h) : Wp w A (eval (.Call (.Name id p) args [] pos) env) Q h :=
  Wp.mk fun s Q' E hs k => by subst hs; exact wpAny_Call_Name_kw (H.use fun f h₁ tk q => q.on k)
end
end Mine
end PartB2

-- B3
section PartB3
open PySem PySem.W PyProof.Rows PySem.Calls
set_option Elab.async false
set_option maxRecDepth 100000
set_option linter.unusedVariables false
namespace Mine

/-- a text by its signs' numbers -/
noncomputable def S (l : List Nat) : Str := ⟨⟨l⟩⟩
theorem S_cps (l : List Nat) : (S l).cps.toList = l := rfl
theorem S_len (l : List Nat) : (S l).length = l.length := rfl
theorem S_append (a b : List Nat) : S a ++ S b = S (a ++ b) := Str.ext' (by rw [Str.cps_append]; exact Array.toList_inj.mp (by rw [Array.toList_append]; rfl))
theorem S_of (x : Str) : x = S x.cps.toList := rfl
theorem sizeLine_is : sizeLine = 16777216 := by decide

theorem slice_idx (a b n : Nat) : Builtin.Str.strSliceIndices (some (a : Int)) (some (b : Int)) 1 n = Builtin.Str.strSliceIndices (some ((min a n : Nat) : Int)) (some ((min b n : Nat) : Int)) 1 n := by
  have h1 : ¬ ((a : Int) < 0) := by omega
  have h2 : ¬ ((b : Int) < 0) := by omega
  have h3 : ¬ (((min a n : Nat) : Int) < 0) := by omega
  have h4 : ¬ (((min b n : Nat) : Int) < 0) := by omega
  have e1 : max (0 : Int) (min (a : Int) (n : Int)) = max (0 : Int) (min ((min a n : Nat) : Int) (n : Int)) := by omega
  have e2 : max (0 : Int) (min (b : Int) (n : Int)) = max (0 : Int) (min ((min b n : Nat) : Int) (n : Int)) := by omega
  simp only [Builtin.Str.strSliceIndices, h1, h2, h3, h4, if_false, e1, e2, show ((1 : Int) > 0) = True from by simp, if_true]
theorem slice_list (l : List Nat) (a b : Nat) : Txt.slice (S l) (some (a : Int)) (some (b : Int)) = S ((l.drop a).take (b - a)) := by
  have key : ((Builtin.Str.strSliceIndices (some (a : Int)) (some (b : Int)) 1 (S l).length).filterMap ((S l).cps[·]?)) = (l.drop a).take (b - a) := by
    rw [slice_idx]
    by_cases hab : a ≤ b
    · rw [StrLaws.sliced_plain (S l) (a := min a (S l).length) (b := min b (S l).length) (by omega) (by omega), S_cps, S_len]
      rw [List.take_eq_take_iff.mpr rfl]
      apply List.ext_getElem?
      intro i
      simp only [List.getElem?_take, List.getElem?_drop]
      by_cases ha : a ≤ l.length
      · have e : min a l.length = a := by omega
        rw [e]
        by_cases h1 : i < min b l.length - a
        · rw [if_pos h1, if_pos (by omega)]
        · rw [if_neg h1]
          by_cases h2 : i < b - a
          · rw [if_pos h2, List.getElem?_eq_none (by omega)]
          · rw [if_neg h2]
      · have e1 : min b l.length - min a l.length = 0 := by omega
        rw [e1, if_neg (by omega)]
        by_cases h2 : i < b - a
        · rw [if_pos h2, List.getElem?_eq_none (by omega)]
        · rw [if_neg h2]
    · have e : b - a = 0 := by omega
      have h3 : ¬ (((min a (S l).length : Nat) : Int) < 0) := by omega
      have h4 : ¬ (((min b (S l).length : Nat) : Int) < 0) := by omega
      have e1 : max (0 : Int) (min ((min a (S l).length : Nat) : Int) ((S l).length : Int)) = (min a (S l).length : Nat) := by omega
      have e2 : max (0 : Int) (min ((min b (S l).length : Nat) : Int) ((S l).length : Int)) = (min b (S l).length : Nat) := by omega
      have hlt : ¬ (((min a (S l).length : Nat) : Int) < ((min b (S l).length : Nat) : Int)) := by omega
      simp only [Builtin.Str.strSliceIndices, sliceRange, h3, h4, if_false, e1, e2, show ((1 : Int) > 0) = True from by simp, if_true, hlt, e]
      simp
  unfold Txt.slice
  split
  · rename_i hc
    have hlen : (Builtin.Str.strSliceIndices (some (a : Int)) (some (b : Int)) 1 (S l).length).length = (S l).length := by simpa using hc
    have h2 : ((l.drop a).take (b - a)).length = l.length := by
      rw [← key]
      have hle : ∀ i ∈ Builtin.Str.strSliceIndices (some (a : Int)) (some (b : Int)) 1 (S l).length, i < l.length := by
        rw [slice_idx]
        intro i hi
        by_cases hab : min a (S l).length ≤ min b (S l).length
        · rw [StrLaws.strSliceIndices_plain hab (by omega)] at hi
          obtain ⟨k, hk, rfl⟩ := List.mem_map.mp hi
          have := List.mem_range.mp hk
          rw [S_len] at this ⊢
          omega
        · have h3 : ¬ (((min a (S l).length : Nat) : Int) < 0) := by omega
          have h4 : ¬ (((min b (S l).length : Nat) : Int) < 0) := by omega
          have e1 : max (0 : Int) (min ((min a (S l).length : Nat) : Int) ((S l).length : Int)) = (min a (S l).length : Nat) := by omega
          have e2 : max (0 : Int) (min ((min b (S l).length : Nat) : Int) ((S l).length : Int)) = (min b (S l).length : Nat) := by omega
          have hlt : ¬ (((min a (S l).length : Nat) : Int) < ((min b (S l).length : Nat) : Int)) := by omega
          simp only [Builtin.Str.strSliceIndices, sliceRange, h3, h4, if_false, e1, e2, show ((1 : Int) > 0) = True from by simp, if_true, hlt] at hi
          simp at hi
      have all : ∀ (is : List Nat), (∀ i ∈ is, i < l.length) → (is.filterMap ((S l).cps[·]?)).length = is.length := by
        intro is
        induction is with
        | nil => intro _; rfl
        | cons i is ih =>
          intro h
          have hi : i < l.length := h i (List.mem_cons_self ..)
          have : (S l).cps[i]? = some (l[i]) := by
            show (⟨l⟩ : Array Nat)[i]? = _
            simp [hi]
          rw [List.filterMap_cons, this]
          simp only [List.length_cons]
          rw [ih fun j hj => h j (List.mem_cons_of_mem _ hj)]
      rw [all _ hle, hlen, S_len]
    have hl : l.length = 0 ∨ (a = 0 ∧ l.length ≤ b) := by
      rw [List.length_take, List.length_drop] at h2
      omega
    rcases hl with h0 | ⟨rfl, hb⟩
    · have : l = [] := List.length_eq_zero_iff.mp h0
      subst this
      simp
    · rw [List.drop_zero, Nat.sub_zero, List.take_of_length_le hb]
  · rw [key]; rfl
theorem slice_to (l : List Nat) (b : Nat) : Txt.slice (S l) none (some (b : Int)) = S (l.take b) := by
  have e : Txt.slice (S l) none (some (b : Int)) = Txt.slice (S l) (some ((0 : Nat) : Int)) (some (b : Int)) := by
    have : Builtin.Str.strSliceIndices none (some (b : Int)) 1 (S l).length = Builtin.Str.strSliceIndices (some ((0 : Nat) : Int)) (some (b : Int)) 1 (S l).length := by
      have e1 : max (0 : Int) (min ((0 : Nat) : Int) ((S l).length : Int)) = 0 := by omega
      have h0 : ¬ (((0 : Nat) : Int) < 0) := by omega
      simp only [Builtin.Str.strSliceIndices, show ((1 : Int) > 0) = True from by simp, if_true, h0, if_false, e1]
    unfold Txt.slice
    rw [this]
  rw [e, slice_list, List.drop_zero, Nat.sub_zero]
theorem slice_butlast (l : List Nat) : Txt.slice (S l) none (some (-1)) = S (l.take (l.length - 1)) := by
  rw [slice_to_neg (by decide)]
  have : max (0 : Int) (((S l).length : Int) + -1) = ((l.length - 1 : Nat) : Int) := by rw [S_len]; omega
  rw [this, slice_to]
theorem item_list (l : List Nat) (i : Nat) (hi : i < l.length) : Txt.charAt (S l) (i : Int) = some l[i] := by
  unfold Txt.charAt
  rw [seqIndex_of (by omega) (by rw [S_len]; omega)]
  show ((⟨l⟩ : Array Nat)[((i : Int)).toNat]?) = _
  simp [hi]
theorem mul_list (c : Nat) (n : Nat) : Txt.mul (S [c]) (n : Int) = S (List.replicate n c) := by
  have fold : ∀ (k : Nat) (acc : Array Nat), ((List.replicate k (S [c]).cps).foldl (· ++ ·) acc).toList = acc.toList ++ List.replicate k c := by
    intro k
    induction k with
    | zero => intro acc; simp
    | succ k ih =>
      intro acc
      rw [List.replicate_succ, List.foldl_cons, ih, Array.toList_append, S_cps]
      simp [List.replicate_succ]
  unfold Txt.mul
  split
  · have : n = 0 := by omega
    subst this; rfl
  · split
    · rename_i h1 h2
      have h3 : (n : Int) = 1 := by simpa [S_len] using h2
      have : n = 1 := by omega
      subst this; rfl
    · refine Str.ext' (Array.toList_inj.mp ?_)
      rw [fold]
      simp [S_cps]
theorem mulOk (c : Nat) (n : Nat) (h : n ≤ 1000) : MulOk (S [c]) (n : Int) := by
  refine ⟨?_, fun h1 h2 => ?_, fun h1 h2 => ?_⟩
  · rw [decide_eq_false (by omega), decide_eq_false (by omega)]; rfl
  · rw [S_len]
    have : (1 : Int) ≤ (2 ^ 63 - 1) / (n : Int) := by
      apply Int.le_ediv_of_mul_le
      · omega
      · omega
    simp only [List.length_cons, List.length_nil]
    omega
  · unfold Builtin.Str.tooLong
    rw [S_len]
    simp only [List.length_cons, List.length_nil]
    have e : (n : Int).toNat = n := by omega
    have := sizeLine_is
    rw [e]
    simp
    omega
theorem count_list (l : List Nat) (c : Nat) : Txt.count (S l) (S [c]) = ((l.filter (· == c)).length : Int) := by
  show Txt.count (S l) ⟨#[c]⟩ = _
  rw [count_is, S_cps]
  show cnt c l = _
  induction l with
  | nil => rfl
  | cons n r ih =>
    rw [cnt_cons, ih, List.filter_cons]
    by_cases h : n = c
    · simp [h]; omega
    · simp [h]
theorem contains_list (l : List Nat) (c : Nat) : Txt.contains (S l) (S [c]) = l.contains c := by
  show (!(Builtin.Str.occurrences (S l) ⟨#[c]⟩ 0 (S l).length 1).isEmpty) = _
  rw [StrLaws.found_one, S_cps]
  rw [Bool.eq_iff_iff]
  simp
end Mine
end PartB3

-- B4
section PartB4
open PySem PySem.W PyProof.Rows PySem.Calls
set_option Elab.async false
set_option maxRecDepth 100000
set_option linter.unusedVariables false
namespace Mine
section
variable {w : World} {A : Around} {h : Heap} {env : Env} {a b : Int} {t u : Tok} {Q : Value → Heap → Prop}
-- ints
theorem W_addI (q : ∀ t, Q (.int (a + b) t) h) : Wp w A (binaryOp .Add (.int a t) (.int b u)) Q h := Wp.mk fun s Q' E hs k => by subst hs; exact P.add_int (k _ s.heap _ (q _))
theorem W_subI (q : ∀ t, Q (.int (a - b) t) h) : Wp w A (binaryOp .Sub (.int a t) (.int b u)) Q h := Wp.mk fun s Q' E hs k => by subst hs; exact P.sub_int (k _ s.heap _ (q _))
theorem W_mulI (hm : IntMulOk a b) (q : ∀ t, Q (.int (a * b) t) h) : Wp w A (binaryOp .Mult (.int a t) (.int b u)) Q h := Wp.mk fun s Q' E hs k => by subst hs; exact P.mul_int (k _ s.heap _ (q _)) hm
theorem W_modI (hb : b ≠ 0) (q : ∀ t, Q (.int (a.fmod b) t) h) : Wp w A (binaryOp .Mod (.int a t) (.int b u)) Q h := Wp.mk fun s Q' E hs k => by subst hs; exact mod_int hb (k _ s.heap _ (q _))
theorem W_divI (hb : b ≠ 0) (hp : b.natAbs < 1073741824) (q : ∀ t, Q (.int (a.fdiv b) t) h) : Wp w A (binaryOp .FloorDiv (.int a t) (.int b u)) Q h :=
  Wp.mk fun s Q' E hs k => by subst hs; exact floordiv_int hb (k _ s.heap _ (q _)) (.inl (PyProof.noPylong_small hp))
theorem W_powI (hn : 0 ≤ b) (hn2 : b ≤ 1000000) (ha : a.natAbs < 2 ^ 64) (q : ∀ t, Q (.int (a ^ b.toNat) t) h) : Wp w A (binaryOp .Pow (.int a t) (.int b u)) Q h :=
  Wp.mk fun s Q' E hs k => by subst hs; exact pow_int_small hn hn2 ha (k _ s.heap _ (q _))
theorem W_iaddI (q : ∀ t, Q (.int (a + b) t) h) : Wp w A (inplaceOp .Add (.int a t) (.int b u)) Q h := Wp.mk fun s Q' E hs k => by subst hs; exact P.iadd_int (k _ s.heap _ (q _))
theorem W_negI (q : ∀ t, Q (.int (-a) t) h) : Wp w A (unaryOp .USub (.int a t)) Q h := Wp.mk fun s Q' E hs k => by subst hs; exact P.neg_int (k _ s.heap _ (q _))
theorem W_ltI (q : Q (.bool (decide (a < b))) h) : Wp w A (compareOp .Lt (.int a t) (.int b u)) Q h := Wp.mk fun s Q' E hs k => by subst hs; exact P.lt_int (k _ s.heap s.toks q)
theorem W_leI (q : Q (.bool (decide (a ≤ b))) h) : Wp w A (compareOp .LtE (.int a t) (.int b u)) Q h := Wp.mk fun s Q' E hs k => by subst hs; exact P.le_int (k _ s.heap s.toks q)
theorem W_eqI (q : Q (.bool (a == b)) h) : Wp w A (compareOp .Eq (.int a t) (.int b u)) Q h := Wp.mk fun s Q' E hs k => by subst hs; exact P.eq_int (k _ s.heap s.toks q)
theorem W_UnaryOp {op : UnaryOp} {x : Expr} {pos : Pos} (H : Wp w A (eval x env) (fun v h₁ => Wp w A (unaryOp op v) Q h₁) h) : Wp w A (eval (.UnaryOp op x pos) env) Q h :=
  Wp.mk fun s Q' E hs k => by subst hs; exact wpAny_UnaryOp (H.use fun v h₁ tk q => q.on k)
-- texts
theorem W_strS {z : Str} {k : Nat} {pos : Pos} (l : List Nat) (e : z = S l) (q : ∀ t, Q (.str (S l) t) h) : Wp w A (eval (.Constant (.str z) k pos) env) Q h := by subst e; exact W_str q
variable {x y : List Nat}
theorem W_addS (hz : x.length + y.length ≤ sizeLine) (q : ∀ t, Q (.str (S (x ++ y)) t) h) : Wp w A (binaryOp .Add (.str (S x) t) (.str (S y) u)) Q h :=
  Wp.mk fun s Q' E hs k => by subst hs; exact SB.add (fun t' k' => by rw [S_append]; exact k _ s.heap _ (q _)) hz
theorem W_iaddS (hz : x.length + y.length ≤ sizeLine) (q : ∀ t, Q (.str (S (x ++ y)) t) h) : Wp w A (inplaceOp .Add (.str (S x) t) (.str (S y) u)) Q h :=
  Wp.mk fun s Q' E hs k => by subst hs; exact SB.iadd (fun t' k' => by rw [S_append]; exact k _ s.heap _ (q _)) hz
theorem W_mulS {c n : Nat} (hn : n ≤ 1000) (q : ∀ t, Q (.str (S (List.replicate n c)) t) h) : Wp w A (binaryOp .Mult (.str (S [c]) t) (.int (n : Int) u)) Q h :=
  Wp.mk fun s Q' E hs k => by subst hs; exact SB.mul (mulOk c n hn) (fun t' k' => by rw [mul_list]; exact k _ s.heap _ (q _))
theorem W_eqS (q : Q (.bool (x == y)) h) : Wp w A (compareOp .Eq (.str (S x) t) (.str (S y) u)) Q h := Wp.mk fun s Q' E hs k => by subst hs; exact P.eq_str (k _ s.heap s.toks q)
theorem W_neS (q : Q (.bool (x != y)) h) : Wp w A (compareOp .NotEq (.str (S x) t) (.str (S y) u)) Q h := Wp.mk fun s Q' E hs k => by subst hs; exact P.ne_str (k _ s.heap s.toks q)
theorem W_inS {c : Nat} (q : Q (.bool (x.contains c)) h) : Wp w A (compareOp .In (.str (S [c]) u) (.str (S x) t)) Q h :=
  Wp.mk fun s Q' E hs k => by subst hs; exact SB.contains (by rw [contains_list]; exact k _ s.heap s.toks q)
theorem W_chr {i : Nat} (hi : i ≤ 1114111) (q : ∀ t, Q (.str (S [i]) t) h) : Wp w A (call (.builtin "chr") [.int (i : Int) t]) Q h :=
  Wp.mk fun s Q' E hs k => by subst hs; exact chr_of_range (by omega) (by omega) (by rw [show ((i : Int)).toNat = i by omega]; exact k _ s.heap _ (q _))
theorem W_ord {c : Nat} (q : ∀ t, Q (.int c t) h) : Wp w A (call (.builtin "ord") [.str (S [c]) t]) Q h :=
  Wp.mk fun s Q' E hs k => by subst hs; exact P.ord_of_char (k _ s.heap _ (q _))
theorem fits_nat {i : Nat} (hi : i < 2 ^ 62) : fitsSsize (i : Int) = true := by
  unfold fitsSsize
  rw [decide_eq_false (by omega), decide_eq_false (by omega)]; rfl
theorem W_getS {i : Nat} (hi : i < x.length) (hf : i < 2 ^ 62) (q : ∀ t, Q (.str (S [x[i]]) t) h) : Wp w A (getItem (.str (S x) t) (.int (i : Int) u)) Q h :=
  Wp.mk fun s Q' E hs k => by
    subst hs
    have e : Txt.item (S x) (i : Int) = S [x[i]] := by unfold Txt.item; rw [item_list x i hi]; rfl
    exact SB.getItem (fits_nat hf) (by rw [item_list x i hi]; rfl) (by rw [e]; exact k _ s.heap _ (q _))
-- subscripts
theorem W_letGo {base : Expr} {o r : Value} {Q : Unit → Heap → Prop} (q : Q () h) : Wp w A (letTemporaryGo base o r) Q h := Wp.mk fun s Q' E hs k => by subst hs; exact wpAny_letTemporaryGo (k _ s.heap s.toks q)
theorem W_Subscript {value slice : Expr} {pos : Pos} (H : Wp w A (eval value env) (fun o h₁ => Wp w A (eval slice env) (fun i h₂ => Wp w A (subscriptTail value slice o i) Q h₂) h₁) h) : Wp w A (eval (.Subscript value slice pos) env) Q h :=
  Wp.mk fun s Q' E hs k => by subst hs; exact Subscript_ (H.use fun o h₁ tk q => q.on fun i h₂ tk₂ q₂ => q₂.on k)
theorem W_operate {vs : List Value} {m : Sem Value} (H : Wp w A m Q h) : Wp w A (operate vs m) Q h := Wp.mk fun s Q' E hs k => by subst hs; exact wpAny_operating (H.use k)
theorem W_tail {value slice : Expr} {o i : Value} {T id : String} (hT : ∀ s : Shared, s.heap = h → s.TypeIs o T) (hl : typeLookup (.type T) "__getitem__" = Pure.pure (some (.builtin id)))
    (hs' : subscripted slice false o i = operate [o, i] (getItem o i)) (H : Wp w A (getItem o i) Q h) : Wp w A (subscriptTail value slice o i) Q h := by
  unfold subscriptTail
  refine Wp.bind ?_
  refine Wp.mk fun s Q' E hs k => ?_
  subst hs
  rw [getitemInPython_of_ne (hT s rfl).not_modules]
  have fin : Wp w A (subscripted slice false o i) (fun r h₃ => Wp w A (letTemporaryGo value o r >>= fun _ => Pure.pure r) Q h₃) s.heap := by
    rw [hs']
    exact W_operate (H.mono fun r h₃ q => Wp.bind (W_letGo (Wp.pure q)))
  exact wpAny_bind (wpAny_specialOf (hT s rfl) hl (wpAny_pure (k _ s.heap s.toks (Wp.bind fin))))
theorem W_tailS {value slice : Expr} {i : Value} {z : Str} (hs' : subscripted slice false (.str z t) i = operate [.str z t, i] (getItem (.str z t) i)) (H : Wp w A (getItem (.str z t) i) Q h) : Wp w A (subscriptTail value slice (.str z t) i) Q h :=
  W_tail (fun s _ => typeIs_str s z t) F.slot_str_getitem.lookup hs' H
theorem W_tailL {value slice : Expr} {i : Value} {l : Addr} {items : Array Value} (hL : h.IsList l items) (hs' : subscripted slice false (.ref l) i = operate [.ref l, i] (getItem (.ref l) i)) (H : Wp w A (getItem (.ref l) i) Q h) :
    Wp w A (subscriptTail value slice (.ref l) i) Q h := W_tail (fun s hs => by subst hs; exact hL.typeIs) slot_list_getitem.lookup hs' H
theorem W_tailT {value slice : Expr} {i : Value} {l : Addr} {items : Array Value} (hL : IsTup h l items) (hs' : subscripted slice false (.ref l) i = operate [.ref l, i] (getItem (.ref l) i)) (H : Wp w A (getItem (.ref l) i) Q h) :
    Wp w A (subscriptTail value slice (.ref l) i) Q h := W_tail (fun s hs => by subst hs; exact hL.typeIs) slot_tuple_getitem.lookup hs' H
theorem W_getL {l : Addr} {items : Array Value} {i : Nat} {v : Value} (hL : h.IsList l items) (hf : i < 2 ^ 62) (hx : items[i]? = some v) (q : Q v h) : Wp w A (getItem (.ref l) (.int (i : Int) t)) Q h :=
  Wp.mk fun s Q' E hs k => by subst hs; exact wpAny_getItem_list hL (by omega) (by omega) (by simpa using hx) (k _ s.heap s.toks q)
theorem W_getT {l : Addr} {items : Array Value} {i : Nat} {v : Value} (hL : IsTup h l items) (hf : i < 2 ^ 62) (hx : items[i]? = some v) (q : Q v h) : Wp w A (getItem (.ref l) (.int (i : Int) t)) Q h :=
  Wp.mk fun s Q' E hs k => by
    subst hs
    have hlt : i < items.size := by
      rcases Nat.lt_or_ge i items.size with h1 | h1
      · exact h1
      · rw [Array.getElem?_eq_none h1] at hx; cases hx
    exact PyProof.Rows.getItem_tuple hL (by omega) (by omega) (seqIndex_of (by omega) (by omega)) (by simpa using hx) (k _ s.heap s.toks q)
end
end Mine
end PartB4

-- F1
section PartF1
open PySem PySem.W PyProof.Rows PySem.Calls
set_option Elab.async false
set_option maxRecDepth 100000
set_option linter.unusedVariables false
namespace Mine
noncomputable def b1L : List Int := [173, 847, 6150, 6155, 6156, 6157, 8203, 8204, 8205, 8288, 65279, 65024, 65025, 65026, 65027, 65028, 65029, 65030, 65031, 65032, 65033, 65034, 65035, 65036, 65037, 65038, 65039]
noncomputable def inB1 (k : Int) : Bool := b1L.contains k
noncomputable def fB1 : FuncData := fdAt (stm 3) (St "in_table_b1") 3 (.str (St "cpy313.stringprep") 194) (.ref 38)
theorem TH.set {w : World} {h : Heap} (t : TH w h) : h.SetOf (intKind pw w) 29 inB1 27 := by
  refine ⟨ob29 w.params, _, _, _, t 29 _ (by decide) (by kernel_rfl), ⟨rfl, rfl, rfl⟩, rfl, ?_, ?_, ?_, ?_, ?_⟩
  · intro e he
    simp only [List.mem_cons, List.not_mem_nil, or_false] at he
    rcases he with rfl | rfl | rfl | rfl | rfl | rfl | rfl | rfl | rfl | rfl | rfl | rfl | rfl | rfl | rfl | rfl | rfl | rfl | rfl | rfl | rfl | rfl | rfl | rfl | rfl | rfl | rfl <;>
      exact ⟨⟨_, intKind_is _ _ _ _, by kernel_rfl⟩, rfl⟩
  · intro k
    simp only [inB1, b1L, List.contains_iff_mem, List.mem_cons, List.not_mem_nil, or_false, exists_eq_or_imp, exists_eq_left, intKind, Value.isInt, beq_iff_eq]
    omega
  · show 27 < scanBound; decide
  · kernel_rfl
  · rfl
section
variable {w : World} {A : Around} {h : Heap}
theorem W_inSet {k : Int} {t : Tok} {a : Addr} {S : Int → Bool} {n : Nat} {Q : Value → Heap → Prop} (hS : h.SetOf (intKind pw w) a S n) (q : Q (.bool (S k)) h) : Wp w A (compareOp .In (.int k t) (.ref a)) Q h :=
  Wp.mk fun s Q' E hs kk => by subst hs; exact wpAny_inSet_of (intKind_is _ _ _ _) rfl hS (kk _ s.heap _ q)
/-- in_table_b1(code) -/
theorem C_b1 {c : Nat} {t : Tok} {Q : Value → Heap → Prop} (r : Rm A 1) (T : TH w h) (q : ∀ h', Kp [] h h' → Q (.bool (inB1 c)) h') : Wp w A (call (.ref 39) [.str (S [c]) t]) Q h := by
  refine Wp.call (C_def (fd := fB1) (binds := [(St "code", .str (S [c]) t)]) r.room (T 39 (ob39 w.params) (by decide) (by kernel_rfl)) rfl T.lim (T.codeRec (o := ob38 w.params) (by decide) (by kernel_rfl) rfl (by rfl)) (by rfl) (by kernel_rfl) (by kernel_rfl) (by kernel_rfl) (by kernel_rfl) (by kernel_rfl) (by kernel_rfl) ?_)
  intro h₁ L hL hn k₁
  have T₁ := T.keep0 k₁
  refine W_cons (W_Return (W_Compare1 (by kernel_rfl) ?_))
  refine W_CallName (W_builtin (mg := mgT w) (mb := mbT w) T₁.glob T₁.blt (by kernel_rfl) (by kernel_rfl) (by kernel_rfl) (by kernel_rfl) (v := .builtin "ord") (by kernel_rfl) ?_)
  refine W_fv (by rfl) (by rfl) (by rfl) (W_items_cons (by rfl) (W_local hn (by kernel_rfl) (by kernel_rfl) (by kernel_rfl) (by rfl) (W_items_nil ?_)))
  refine W_ord fun t' => ?_
  refine W_global (mg := mgT w) T₁.glob (by kernel_rfl) (by kernel_rfl) (by kernel_rfl) (v := .ref 29) (by kernel_rfl) ?_
  exact W_inSet T₁.set (q _ k₁)
end
end Mine
end PartF1

-- F2
section PartF2
open PySem PySem.W PyProof.Rows PySem.Calls
set_option Elab.async false
set_option maxRecDepth 100000
set_option linter.unusedVariables false
namespace Mine
local macro_rules | `(tactic| walk_at "ml") => `(tactic| refine W_local (by assumption) (by kernel_rfl) (by kernel_rfl) (by kernel_rfl) (by rfl) ?_)
local macro_rules | `(tactic| walk_at "mb") => `(tactic| (refine W_builtin (TH.glob (by assumption)) (TH.blt (by assumption)) (by kernel_rfl) (by kernel_rfl) (by kernel_rfl) (by kernel_rfl) (by rfl) ?_))
noncomputable def b1S : List Nat := [173, 847, 6150, 6155, 6156, 6157, 8203, 8204, 8205, 8288, 65279]
noncomputable def heldT : List Nat := [65024, 65025, 65026, 65027, 65028, 65029, 65030, 65031, 65032, 65033, 65034, 65035, 65036, 65037, 65038, 65039, 173, 847, 6150, 6155, 6156, 6157, 8203, 8204, 8205, 8288, 65279]
noncomputable def heldC (n : Int) : Nat := heldT.getD (n % 27).toNat 0
noncomputable def fHeld : FuncData := fdAt (stm 7) (St "_law_held") 3 (.str (St "law_pk0024_01") 323) (.ref 87)
section
variable {w : World} {A : Around} {h : Heap}
theorem fmod_e (a : Int) {b : Int} (hb : 0 ≤ b) : a.fmod b = a % b := Int.fmod_eq_emod_of_nonneg a hb
theorem fdiv_e (a : Int) {b : Int} (hb : 0 ≤ b) : a.fdiv b = a / b := Int.fdiv_eq_ediv_of_nonneg a hb
theorem C_held {n : Int} {t : Tok} {Q : Value → Heap → Prop} (r : Rm A 1) (T : TH w h) (q : ∀ h' t', Kp [] h h' → Q (.str (S [heldC n]) t') h') : Wp w A (call (.ref 88) [.int n t]) Q h := by
  refine Wp.call (C_def (fd := fHeld) (binds := [(St "number", .int n t)]) r.room (T 88 (ob88 w.params) (by decide) (by kernel_rfl)) rfl T.lim (T.codeRec (o := ob87 w.params) (by decide) (by kernel_rfl) rfl (by rfl)) (by rfl) (by kernel_rfl) (by kernel_rfl) (by kernel_rfl) (by kernel_rfl) (by kernel_rfl) (by kernel_rfl) ?_)
  intro h₁ L hL hn k₁
  have T₁ := T.keep0 k₁
  obtain ⟨m, hm⟩ : ∃ m : Nat, (m : Int) = n % 27 := ⟨(n % 27).toNat, by omega⟩
  have hlt : m < 27 := by omega
  have hC : heldC n = heldT.getD m 0 := by unfold heldC; rw [← hm]; rfl
  refine W_cons (W_If (W_test1 (by kernel_rfl) (W_BinOp ?_)))
  walk_at "ml"
  refine W_int fun t₁ => W_modI (by decide) fun t₂ => W_int fun t₃ => W_ltI (W_truthyB ?_)
  rw [fmod_e n (by decide), ← hm]
  refine ⟨fun hc => ?_, fun hc => ?_⟩
  · have hc : m < 16 := by have := of_decide_eq_true hc; omega
    refine W_cons (W_Return (W_CallName ?_))
    walk_at "mb"
    refine W_fv (by rfl) (by rfl) (by rfl) (W_items_cons (by rfl) (W_BinOp (W_int fun t₄ => W_BinOp ?_)))
    walk_at "ml"
    refine W_int fun t₅ => W_modI (by decide) fun t₆ => W_addI fun t₇ => W_items_nil ?_
    rw [fmod_e n (by decide), ← hm]
    have e : (65024 : Int) + (m : Int) = ((65024 + m : Nat) : Int) := by omega
    rw [e]
    refine W_chr (by omega) fun t₈ => ?_
    have e2 : heldC n = 65024 + m := by
      rw [hC]
      have : ∀ m, m < 16 → heldT.getD m 0 = 65024 + m := by decide
      exact this m hc
    rw [← e2]
    exact q _ _ k₁
  · have hc : ¬ m < 16 := by have := of_decide_eq_false hc; omega
    refine W_nil (W_cons (W_Return (W_Subscript (W_strS b1S (by kernel_rfl) fun t₄ => W_BinOp (W_BinOp ?_)))))
    walk_at "ml"
    refine W_int fun t₅ => W_modI (by decide) fun t₆ => W_int fun t₇ => W_subI fun t₈ => ?_
    rw [fmod_e n (by decide), ← hm]
    have e : (m : Int) - 16 = ((m - 16 : Nat) : Int) := by omega
    rw [e]
    have hi : m - 16 < b1S.length := by show m - 16 < 11; omega
    refine W_tailS (by rfl) (W_getS hi (by omega) fun t₉ => ?_)
    have e2 : heldC n = b1S[m - 16] := by
      rw [hC]
      have : ∀ m, (h1 : m < 27) → (h2 : ¬ m < 16) → heldT.getD m 0 = b1S.getD (m - 16) 0 := by decide
      rw [this m hlt hc]
      simp [List.getD, hi]
    rw [← e2]
    exact q _ _ k₁
end
end Mine
end PartF2

-- F3
section PartF3
open PySem PySem.W PyProof.Rows PySem.Calls
set_option Elab.async false
set_option maxRecDepth 100000
set_option linter.unusedVariables false
namespace Mine
local macro_rules | `(tactic| walk_at "ml") => `(tactic| refine W_local (by assumption) (by kernel_rfl) (by kernel_rfl) (by kernel_rfl) (by rfl) ?_)
local macro_rules | `(tactic| walk_at "mb") => `(tactic| (refine W_builtin (TH.glob (by assumption)) (TH.blt (by assumption)) (by kernel_rfl) (by kernel_rfl) (by kernel_rfl) (by kernel_rfl) (by rfl) ?_))
section
variable {w : World} {A : Around} {h : Heap} {env : Env}
theorem W_point {Q : Unit → Heap → Prop} (q : Q () h) : Wp w A point Q h := Wp.mk fun s Q' E hs k => by subst hs; exact wpAny_point (k _ s.heap s.toks q)
theorem W_release {vs keep : List Value} {Q : Unit → Heap → Prop} (q : Q () h) : Wp w A (release vs keep) Q h :=
  Wp.mk fun s Q' E hs k => by subst hs; exact fun Γ p hΓ => by rw [Sem.wp_release]; exact k _ s.heap s.toks q
theorem W_or {x y : Expr} {pos : Pos} {whole : Sem Value} {Q : Bool → Heap → Prop}
    (H : Wp w A (isTrue x env (eval x env)) (fun b h₁ => (b = true → Q true h₁) ∧ (b = false → Wp w A (isTrue y env (eval y env)) (fun b h₂ => Q b h₂) h₁)) h) : Wp w A (isTrue (.BoolOp .Or [x, y] pos) env whole) Q h :=
  Wp.mk fun s Q' E hs k => by
    subst hs
    refine wpAny_isTrue_BoolOp (wpAny_allTrue_Or_cons (H.use fun b h₁ tk q => ?_))
    cases b with
    | true => exact k _ _ _ (q.1 rfl)
    | false =>
      refine wpAny_allTrue_Or_cons ((q.2 rfl).on fun b h₂ tk₂ q₂ => ?_)
      cases b with
      | true => exact k _ _ _ q₂
      | false => exact wpAny_allTrue_Or_nil (k _ _ _ q₂)
theorem W_test2 {l m r : Expr} {op₁ op₂ : CmpOp} {pos : Pos} {whole : Sem Value} {Q : Bool → Heap → Prop} (hm : markedEach [op₁, op₂] [m, r] (evalEach [m, r] env) = [eval m env, eval r env])
    (H : Wp w A (eval l env) (fun a h₁ => Wp w A (eval m env) (fun b h₂ => Wp w A (compareOp op₁ a b) (fun c h₃ => Wp w A (truthy c) (fun tb h₄ =>
      (tb = true → Wp w A (eval r env) (fun d h₅ => Wp w A (compareOp op₂ b d) (fun e h₆ => Wp w A (truthy e) Q h₆) h₅) h₄) ∧ (tb = false → Q false h₄)) h₃) h₂) h₁) h) :
    Wp w A (isTrue (.Compare l [op₁, op₂] [m, r] pos) env whole) Q h := by
  rw [arm_isTrue_Compare, hm]
  refine Wp.bind (H.mono fun a h₁ H₁ => ?_)
  unfold testChain
  refine Wp.bind (Wp.holding (H₁.mono fun b h₂ H₂ => Wp.bind (Wp.standAt (Wp.bind (Wp.holding (H₂.mono fun c h₃ H₃ => Wp.bind (W_release (Wp.bind (Wp.holding (H₃.mono fun tb h₄ H₄ => ?_))))))))))
  cases tb with
  | false => exact Wp.pure (H₄.2 rfl)
  | true =>
    show Wp w A (testChain pos b [op₂] [eval r env]) Q h₄
    unfold testChain
    exact Wp.bind (Wp.holding ((H₄.1 rfl).mono fun d h₅ H₅ => Wp.bind (Wp.standAt (Wp.bind (W_operate (H₅.mono fun e h₆ H₆ => Wp.holding H₆))))))
end
noncomputable def signC (c : Nat) : Nat := if c < 55296 then c else c + 2048
noncomputable def whiteL : List Nat := [32, 10, 9, 13, 34, 92]
noncomputable def strangeC (c : Nat) : Nat := if whiteL.contains (signC c) = true ∨ b1S.contains (signC c) = true ∨ (65024 ≤ signC c ∧ signC c < 65040) then 97 else signC c
noncomputable def fStrange : FuncData := fdAt (stm 8) (St "_law_strange") 3 (.str (St "law_pk0024_01") 323) (.ref 94)
section
variable {w : World} {A : Around} {h : Heap}
theorem C_strange {c : Nat} {t : Tok} {Q : Value → Heap → Prop} (hc : c < 1112064) (r : Rm A 1) (T : TH w h) (q : ∀ h' t', Kp [] h h' → Q (.str (S [strangeC c]) t') h') : Wp w A (call (.ref 95) [.int (c : Int) t]) Q h := by
  refine Wp.call (C_def (fd := fStrange) (binds := [(St "code", .int (c : Int) t)]) r.room (T 95 (ob95 w.params) (by decide) (by kernel_rfl)) rfl T.lim (T.codeRec (o := ob94 w.params) (by decide) (by kernel_rfl) rfl (by rfl)) (by rfl) (by kernel_rfl) (by kernel_rfl) (by kernel_rfl) (by kernel_rfl) (by kernel_rfl) (by kernel_rfl) ?_)
  intro h₁ L hL hn k₁
  have T₁ := T.keep0 k₁
  have rest : ∀ h₂ t', h₂.Ns L (lk (put [(St "code", .int (c : Int) t)] (St "sign") (.str (S [signC c]) t'))) → Kp [] h h₂ → TH w h₂ → Wp w (A.deeper (callEnv fStrange L 95)) (execs ((match (stm 8) with | .FunctionDef _ _ b _ _ _ _ _ _ _ => b | _ => []).drop 1) (callEnv fStrange L 95)) (fun f h' => match (Except.ok (.ret (match f with | .ret v => v | _ => .none)) : Result) with | .ok (.ret v) => Q v h' | .ok _ => False | .error _ => False) h₂ := by
    intro h₂ t' hn₂ k₂ T₂
    refine W_cons (W_If (W_or (W_test1 (by kernel_rfl) ?_)))
    walk_at "ml"
    refine W_strS whiteL (by kernel_rfl) fun t₁ => W_inS (W_truthyB ⟨fun e => ⟨fun _ => ?_, fun x => nomatch x⟩, fun e => W_test1 (by kernel_rfl) ?_⟩)
    · refine W_cons (W_Return (W_strS [97] (by kernel_rfl) fun t₂ => ?_))
      have : strangeC c = 97 := by unfold strangeC; rw [if_pos (.inl e)]
      rw [← this]; exact q _ _ k₂
    · walk_at "ml"
      refine W_strS b1S (by kernel_rfl) fun t₁ => W_inS (W_truthyB ⟨fun e' => ?_, fun e' => ?_⟩)
      · refine W_cons (W_Return (W_strS [97] (by kernel_rfl) fun t₂ => ?_))
        have : strangeC c = 97 := by unfold strangeC; rw [if_pos (.inr (.inl e'))]
        rw [← this]; exact q _ _ k₂
      · refine W_nil (W_cons (W_Return (W_IfExp (W_test2 (by rfl) (W_int fun t₂ => W_CallName ?_)))))
        walk_at "mb"
        refine W_fv (by rfl) (by rfl) (by rfl) (W_items_cons (by rfl) ?_)
        walk_at "ml"
        refine W_items_nil (W_ord fun t₃ => W_leI (W_truthyB ⟨fun e₁ => W_int fun t₄ => W_ltI (W_truthyB ⟨fun e₂ => ?_, fun e₂ => ?_⟩), fun e₁ => ⟨fun x => (nomatch x), fun _ => ?_⟩⟩))
        · refine W_strS [97] (by kernel_rfl) fun t₂ => ?_
          have h1 := of_decide_eq_true e₁
          have h2 := of_decide_eq_true e₂
          have : strangeC c = 97 := by unfold strangeC; rw [if_pos (.inr (.inr ⟨by omega, by omega⟩))]
          rw [← this]; exact q _ _ k₂
        · walk_at "ml"
          have h2 := of_decide_eq_false e₂
          have : strangeC c = signC c := by
            unfold strangeC
            rw [if_neg]
            rintro (x | x | x)
            · rw [e] at x; cases x
            · rw [e'] at x; cases x
            · omega
          rw [← this]; exact q _ _ k₂
        · walk_at "ml"
          have h1 := of_decide_eq_false e₁
          have : strangeC c = signC c := by
            unfold strangeC
            rw [if_neg]
            rintro (x | x | x)
            · rw [e] at x; cases x
            · rw [e'] at x; cases x
            · omega
          rw [← this]; exact q _ _ k₂
  refine W_cons (W_Assign (by rfl) (W_CallName ?_))
  walk_at "mb"
  refine W_fv (by rfl) (by rfl) (by rfl) (W_items_cons (by rfl) (W_IfExp (W_test1 (by kernel_rfl) ?_)))
  walk_at "ml"
  have fin : ∀ h₂ (t₁ : Tok), h₂ = h₁ → Wp w (A.deeper (callEnv fStrange L 95)) (call (.builtin "chr") [.int ((signC c : Nat) : Int) t₁]) (fun v h₃ => Wp w (A.deeper (callEnv fStrange L 95)) (storeName (callEnv fStrange L 95) (St "sign") v) (fun _ h₄ => Wp w (A.deeper (callEnv fStrange L 95)) (execs ((match (stm 8) with | .FunctionDef _ _ b _ _ _ _ _ _ _ => b | _ => []).drop 1) (callEnv fStrange L 95)) (fun f h' => match (Except.ok (.ret (match f with | .ret v => v | _ => .none)) : Result) with | .ok (.ret v) => Q v h' | .ok _ => False | .error _ => False) h₄) h₃) h₂ := by
    intro h₂ t₁ e
    subst e
    refine W_chr (by unfold signC; split <;> omega) fun t₂ => W_store hn (by kernel_rfl) (by kernel_rfl) fun h₃ hn₃ hs₃ => ?_
    have k₃ := k₁.local (Kp.same hs₃) (fun a ha => by rw [List.mem_singleton.mp ha]; exact hL)
    exact rest h₃ t₂ hn₃ k₃ (T.keep0 k₃)
  refine W_int fun t₁ => W_ltI (W_truthyB ⟨fun e => ?_, fun e => ?_⟩)
  · walk_at "ml"
    have h1 := of_decide_eq_true e
    have e2 : signC c = c := by unfold signC; rw [if_pos (by omega)]
    refine W_items_nil ?_
    have := fin h₁ t rfl
    rw [e2] at this
    exact this
  · refine W_BinOp ?_
    walk_at "ml"
    have h1 := of_decide_eq_false e
    have e2 : signC c = c + 2048 := by unfold signC; rw [if_neg (by omega)]
    refine W_int fun t₂ => W_addI fun t₃ => W_items_nil ?_
    have := fin h₁ t₃ rfl
    rw [e2] at this
    exact this
end
end Mine
end PartF3

-- B5
section PartB5
open PySem PySem.W PyProof.Rows PySem.Calls
set_option Elab.async false
set_option maxRecDepth 100000
set_option linter.unusedVariables false
namespace Mine
/-- a list, a tuple of the call's own -/
structure LI (h : Heap) (a : Addr) (vs : List Value) : Prop where
  lo : 151 ≤ a
  is : h.IsList a vs.toArray
structure TI (h : Heap) (a : Addr) (vs : List Value) : Prop where
  lo : 151 ≤ a
  is : IsTup h a vs.toArray
theorem ne119 {a : Addr} (h : 151 ≤ a) : a ≠ 119 := fun e => by rw [e] at h; exact absurd h (by decide)
theorem LI.keep {h h' : Heap} {a : Addr} {vs : List Value} {X : List Addr} (x : LI h a vs) (k : Kp X h h') (hx : a ∉ X) : LI h' a vs := ⟨x.lo, x.is.at fun o e => k a o hx e⟩
theorem TI.keep {h h' : Heap} {a : Addr} {vs : List Value} {X : List Addr} (x : TI h a vs) (k : Kp X h h') (hx : a ∉ X) : TI h' a vs := by
  obtain ⟨o, ho, r⟩ := x.is
  exact ⟨x.lo, o, k a o hx ho, r⟩
theorem LI.keep0 {h h' : Heap} {a : Addr} {vs : List Value} (x : LI h a vs) (k : Kp [] h h') : LI h' a vs := x.keep k (fun m => nomatch m)
theorem TI.keep0 {h h' : Heap} {a : Addr} {vs : List Value} (x : TI h a vs) (k : Kp [] h h') : TI h' a vs := x.keep k (fun m => nomatch m)
theorem LI.lt {h : Heap} {a : Addr} {vs : List Value} (x : LI h a vs) : a < h.objs.size := let ⟨_, e, _⟩ := x.is; Heap.lt_size e
theorem TI.lt {h : Heap} {a : Addr} {vs : List Value} (x : TI h a vs) : a < h.objs.size := let ⟨_, e, _⟩ := x.is; Heap.lt_size e
theorem TH.size {w : World} {h : Heap} (t : TH w h) : 151 ≤ h.objs.size := Heap.lt_size (t 150 (ob150 w.params) (by decide) (by kernel_rfl))
theorem nin1 {a b : Addr} (h : a ≠ b) : a ∉ [b] := fun m => h (List.mem_singleton.mp m)
theorem IsCell.keep {h h' : Heap} {c : Addr} {v : Option Value} {X : List Addr} (x : h.IsCell c v) (k : Kp X h h') (hx : c ∉ X) (lo : 151 ≤ c) : h'.IsCell c v := let ⟨o, ho, hd⟩ := x; ⟨o, k c o hx ho, hd⟩

/-- within a call: what stood before stands, the names are l, the cells cs -/
structure Fr (w : World) (Z : List Addr) (h₀ h : Heap) (L : Nat) (l : List (Str × Value)) (cs : List (Option Value)) : Prop where
  k : Kp Z h₀ h
  fr : h₀.objs.size ≤ L
  lo : 151 ≤ L
  ns : h.Ns L (lk l)
  cell : ∀ (i : Nat) v, cs[i]? = some v → h.IsCell (L + 1 + i) v
  T : TH w h
section
variable {w : World} {A : Around} {Z : List Addr} {h₀ h h' : Heap} {L : Nat} {l : List (Str × Value)} {cs : List (Option Value)}
theorem Fr.step (f : Fr w Z h₀ h L l cs) (k : Kp [] h h') : Fr w Z h₀ h' L l cs :=
  ⟨f.k.trans k.of0, f.fr, f.lo, k.ns f.ns (fun m => nomatch m), fun i v e => IsCell.keep (f.cell i v e) k (fun m => nomatch m) (by have := f.lo; show 151 ≤ _; exact Nat.le_trans this (by show L ≤ L + 1 + i; omega)), f.T.keep0 k⟩
theorem Fr.step9 (f : Fr w [119] h₀ h L l cs) (k : Kp [119] h h') : Fr w [119] h₀ h' L l cs :=
  ⟨f.k.trans k, f.fr, f.lo, k.ns f.ns (nin1 (ne119 f.lo)), fun i v e => IsCell.keep (f.cell i v e) k (nin1 (ne119 (Nat.le_trans f.lo (by show L ≤ L + 1 + i; omega)))) (by have := f.lo; show 151 ≤ _; exact Nat.le_trans this (by show L ≤ L + 1 + i; omega)), f.T.keep9 k⟩
theorem Fr.lt (f : Fr w Z h₀ h L l cs) : L + cs.length < h.objs.size := by
  cases hc : cs.length with
  | zero => exact f.ns.lt
  | succ n =>
    have := (f.cell n (cs[n]'(by omega)) (by simp)).lt
    have e : L + (n + 1) = L + 1 + n := by omega
    rw [e]; exact this
theorem Fr.upd {X : List Addr} (f : Fr w Z h₀ h L l cs) (k : Kp X h h') (hX : ∀ a : Nat, a ∈ X → h₀.objs.size ≤ a ∧ 151 ≤ a ∧ (a < L ∨ L + cs.length < a)) : Fr w Z h₀ h' L l cs := by
  refine ⟨f.k.local k fun a ha => fresh_size _ _ (hX a ha).1, f.fr, f.lo, k.ns f.ns (fun m => ?_), fun i v e => IsCell.keep (f.cell i v e) k (fun m => ?_) (by have := f.lo; show 151 ≤ _; exact Nat.le_trans this (by show L ≤ L + 1 + i; omega)), f.T.keep k fun a ha => .inl (hX a ha).2.1⟩
  · have := (hX _ m).2.2
    rcases this with q | q
    · exact Nat.lt_irrefl _ q
    · exact absurd q (by omega)
  · have q : L + 1 + i < L ∨ L + cs.length < L + 1 + i := (hX (L + 1 + i) m).2.2
    have hi : (i : Nat) < cs.length := (List.getElem?_eq_some_iff.mp e).1
    omega
theorem Fr.st {x : Str} {v : Value} (f : Fr w Z h₀ h L l cs) (hn : h'.Ns L (lk (put l x v))) (s : Heap.SameBut L h h') : Fr w Z h₀ h' L (put l x v) cs :=
  ⟨f.k.local (Kp.same s) fun a ha => by rw [List.mem_singleton.mp ha]; exact fresh_size _ _ f.fr, f.fr, f.lo, hn, fun i v e => (f.cell i v e).sameBut s (Nat.ne_of_gt (by omega : L < L + 1 + i)), f.T.keep (Kp.same s) fun a ha => by rw [List.mem_singleton.mp ha]; left; exact f.lo⟩
theorem Fr.stC {i : Nat} {v : Value} (f : Fr w Z h₀ h L l cs) (hn : h'.IsCell (L + 1 + i) (some v)) (s : Heap.SameBut (L + 1 + i) h h') : Fr w Z h₀ h' L l (cs.set i (some v)) :=
  ⟨f.k.local (Kp.same s) fun a ha => by rw [List.mem_singleton.mp ha]; exact fresh_size _ _ (Nat.le_trans f.fr (by omega : L ≤ L + 1 + i)), f.fr, f.lo, f.ns.sameBut s (Nat.ne_of_lt (by omega : L < L + 1 + i)), fun j u e => by
    by_cases hj : j = i
    · subst hj
      rw [List.getElem?_set] at e
      simp only [if_true] at e
      split at e
      · cases e; exact hn
      · cases e
    · rw [List.getElem?_set_ne (fun q => hj q.symm)] at e
      exact (f.cell j u e).sameBut s (fun q => hj (by have q' : L + 1 + j = L + 1 + i := q; omega)), f.T.keep (Kp.same s) fun a ha => by rw [List.mem_singleton.mp ha]; left; exact Nat.le_trans f.lo (by omega : L ≤ L + 1 + i)⟩
variable {env : Env}
theorem W_st {x : Str} {v : Value} {Q : Unit → Heap → Prop} (f : Fr w Z h₀ h env.locals l cs) (hl : env.kindOf x = some .local)
    (hp : (env.scope.kind == .class || (env.scope.kind == .module && env.locals != env.globals)) = false)
    (q : ∀ h', Fr w Z h₀ h' env.locals (put l x v) cs → Kp [env.locals] h h' → Q () h') : Wp w A (storeName env x v) Q h := W_store f.ns hl hp fun h' hn hs => q h' (f.st hn hs) (Kp.same hs)
theorem W_stC {x : Str} {v : Value} {v₀ : Option Value} {Q : Unit → Heap → Prop} (i : Nat) (f : Fr w Z h₀ h L l cs) (hi : cs[i]? = some v₀) (hk : env.scope.kind = .function) (hl : env.kindOf x = some .cell) (hc : env.cells.lookup x = some (L + 1 + i))
    (q : ∀ h', Fr w Z h₀ h' L l (cs.set i (some v)) → Kp [L + 1 + i] h h' → Q () h') : Wp w A (storeName env x v) Q h := W_storeCell (f.cell i _ hi) hk hl hc fun h' hn hs => q h' (f.stC hn hs) (Kp.same hs)

/-- a def of the text is called: no cells -/
theorem C_fn {Q : Value → Heap → Prop} {a : Addr} {o : Obj} {fd : FuncData} {body : List Stmt} {vals : List Value} {binds : List (Str × Value)}
    (T : TH w h) (hroom : A.depth < recursionLimit) (ho : h.get? a = some o) (hdata : o.data = .func fd) (hcd : h.CodeRec fd.code fd.qualname) (hbody : fd.body = .stmts body)
    (hbind : bindArgs fd ⟨vals, []⟩ = Pure.pure binds) (hcell : fd.scope.names.all (fun x => x.2 != .cell) = true) (hloc : binds.all (fun x => fd.scope.names.lookup x.1 == some .local) = true)
    (hco : fd.scope.isCoroutine = false) (hgen : fd.scope.isGenerator = false) (hk : fd.scope.kind = .function)
    (H : ∀ h₁ L, Fr w Z h h₁ L binds.reverse [] →
      Wp w (A.deeper (callEnv fd L a)) (execs body (callEnv fd L a)) (fun f h' => Q (match f with | .ret v => v | _ => .none) h') h₁) : Wp w A (call (.ref a) vals) Q h :=
  Wp.call (Cd.mk fun s R' hs k => by
    subst hs
    refine codeAny_call_def hroom ho hdata T.lim hcd hbody (.of_eq hbind) (fun x hx => by simpa using List.all_eq_true.mp hcell x hx) (fun x hx => by simpa using List.all_eq_true.mp hloc x hx) (fun h₀ hns hkp => ?_) hco hgen hk
    exact (H h₀ _ ⟨.all hkp, Nat.le_refl _, T.size, hns, fun i v e => (by cases e), T.keep0 (.all hkp)⟩).on fun f h' tk q => k _ _ _ q)
/-- names bound, as lists -/
noncomputable def bl (kf : Str → Option NameKind) : List (Str × Value) → List (Str × Value) → List (Str × Value)
  | [], l => l
  | (n, v) :: r, l => bl kf r (if kf n = some .local then put l n v else l)
theorem bindL_lk (kf : Str → Option NameKind) : ∀ (b l : List (Str × Value)), bindL kf b (lk l) = lk (bl kf b l)
  | [], l => rfl
  | (n, v) :: r, l => by
    unfold bindL bl
    by_cases hk : kf n = some .local
    · rw [if_pos hk, if_pos hk, lk_put, bindL_lk]
    · rw [if_neg hk, if_neg hk, bindL_lk]
/-- a def of the text is called: with cells -/
theorem C_fc {Q : Value → Heap → Prop} {a : Addr} {o : Obj} {fd : FuncData} {body : List Stmt} {vals : List Value} {binds l : List (Str × Value)} {cs : List (Option Value)} (ns : List Str)
    (T : TH w h) (hroom : A.depth < recursionLimit) (ho : h.get? a = some o) (hdata : o.data = .func fd) (hcd : h.CodeRec fd.code fd.qualname) (hbody : fd.body = .stmts body)
    (hbind : bindArgs fd ⟨vals, []⟩ = Pure.pure binds) (hclo : fd.closure = [])
    (hco : fd.scope.isCoroutine = false) (hgen : fd.scope.isGenerator = false) (hk : fd.scope.kind = .function)
    (hkind : ∀ L : Nat, binds.all (fun x => fd.scope.names.lookup x.1 == some .local || (fd.scope.names.lookup x.1 == some .cell && ((cellsFrom (L + 1) fd.scope.names []).lookup x.1).isSome)) = true)
    (hl : ∀ L : Nat, bl (callEnvC fd L a).kindOf binds [] = l)
    (hcs : ∀ L : Nat, ns.map (bindC (callEnvC fd L a).kindOf binds fun _ => none) = cs)
    (hcn : ∀ L : Nat, ns.map (fun n => (cellsFrom (L + 1) fd.scope.names []).lookup n) = (List.range ns.length).map (fun i => some (L + 1 + i)))
    (H : ∀ h₁ L, Fr w Z h h₁ L l cs →
      Wp w (A.deeper (callEnvC fd L a)) (execs body (callEnvC fd L a)) (fun f h' => Q (match f with | .ret v => v | _ => .none) h') h₁) : Wp w A (call (.ref a) vals) Q h :=
  Wp.call (Cd.mk fun s R' hs k => by
    subst hs
    refine codeAny_call_cells hroom ho hdata T.lim hcd hbody hbind hclo (fun x hx => ?_) (fun s₁ x => ?_) hco hgen hk
    · have := List.all_eq_true.mp (hkind s.heap.objs.size) x hx
      rw [Bool.or_eq_true, Bool.and_eq_true, beq_iff_eq, beq_iff_eq] at this
      exact this
    · have kp : Kp Z s.heap s₁.heap := .all x.toInCall.keep
      have hlen : cs.length = ns.length := by rw [← hcs s.heap.objs.size, List.length_map]
      have f : Fr w Z s.heap s₁.heap s.heap.objs.size l cs := ⟨kp, Nat.le_refl _, T.size, by
          have := x.toInCall.ns
          have e : (fun _ => none : Str → Option Value) = lk [] := rfl
          rw [e, bindL_lk, hl] at this
          exact this, fun i v e => by
          have hi : i < ns.length := by
            rw [← hlen]
            rcases Nat.lt_or_ge i cs.length with q | q
            · exact q
            · rw [List.getElem?_eq_none q] at e; cases e
          have e1 : (cellsFrom (s.heap.objs.size + 1) fd.scope.names []).lookup ns[i] = some (s.heap.objs.size + 1 + i) := by
            have := congrArg (fun z => z[i]?) (hcn s.heap.objs.size)
            simp only [List.getElem?_map, List.getElem?_eq_getElem hi, List.getElem?_range hi, Option.map_some] at this
            exact Option.some.inj this
          have := x.cell _ _ e1
          have e2 : bindC (callEnvC fd s.heap.objs.size a).kindOf binds (fun _ => none) ns[i] = v := by
            have q := congrArg (fun z => z[i]?) (hcs s.heap.objs.size)
            simp only [List.getElem?_map, List.getElem?_eq_getElem hi, Option.map_some, e] at q
            exact Option.some.inj q
          rw [e2] at this
          exact this, T.keep0 (.all x.toInCall.keep)⟩
      have e := x.toInCall.same
      obtain ⟨h', tk, rfl⟩ := e
      exact (H h' _ f).on fun f h' tk q => k _ _ _ q)
theorem W_newL {vs : List Value} {Q : Value → Heap → Prop} (T : TH w h) (hz : vs.length ≤ sizeLine) (q : ∀ h' a, h.objs.size ≤ a → LI h' a vs → Kp [] h h' → Q (.ref a) h') : Wp w A (newList vs) Q h :=
  W_newList hz (q _ _ (Nat.le_refl _) ⟨T.size, _, Heap.get?_push_size _ rfl, rfl, 0, rfl⟩ (Kp.push _))
theorem W_newT {vs : List Value} {Q : Value → Heap → Prop} (T : TH w h) (hz : vs.length ≤ sizeLine) (q : ∀ h' a, h.objs.size ≤ a → TI h' a vs → Kp [] h h' → Q (.ref a) h') : Wp w A (newTuple vs) Q h :=
  W_newTuple hz (q _ _ (Nat.le_refl _) ⟨T.size, _, Heap.get?_push_size _ rfl, rfl, 0, rfl⟩ (Kp.push _))
theorem W_AssignSw {elts : List Expr} {k : Nat} {tpos pos : Pos} {value : Expr} {Q : Flow → Heap → Prop} (names : List Str) (hs' : swapsWithSole [.Tuple elts k tpos] value pos.line env = Pure.pure false)
    (hw : swappedStores [.Tuple elts k tpos] value env = Pure.pure (some names))
    (H : Wp w A (eval value env) (fun v h₁ => Wp w A (unpackItems v names.length none) (fun items h₂ => Wp w A (assignInOrder (names.reverse.map fun n => bindName env n) items.reverse) (fun _ h₃ => Q .next h₃) h₂) h₁) h) :
    Wp w A (exec (.Assign [.Tuple elts k tpos] value pos) env) Q h :=
  Wp.mk fun s Q' E hs kk => by subst hs; exact Assign_Tuple_swapped (H.use fun v h₁ tk q => q.on fun it h₂ tk₂ q₂ => q₂.on fun _ _ _ q₃ => kk _ _ _ q₃) hs' hw
theorem W_AssignTup {elts : List Expr} {k : Nat} {tpos pos : Pos} {value : Expr} {Q : Flow → Heap → Prop} (hs' : swapsWithSole [.Tuple elts k tpos] value pos.line env = Pure.pure false)
    (hw : swappedStores [.Tuple elts k tpos] value env = Pure.pure none)
    (H : Wp w A (eval value env) (fun v h₁ => Wp w A (assign (.Tuple elts k tpos) env v) (fun _ h₂ => Q .next h₂) h₁) h) :
    Wp w A (exec (.Assign [.Tuple elts k tpos] value pos) env) Q h :=
  Wp.mk fun s Q' E hs kk => by subst hs; exact Assign_Tuple (H.use fun v h₁ tk q => q.on fun _ _ _ q₃ => kk _ _ _ q₃) hs' hw
theorem W_unpackT {t : Addr} {vs : List Value} {n : Nat} {Q : List Value → Heap → Prop} (hh : A.handled = none) (ht : TI h t vs) (hn : n = vs.length) (q : ∀ h', Kp [] h h' → Q vs h') : Wp w A (unpackItems (.ref t) n none) Q h :=
  Wp.mk fun s Q' E hs k => by
    subst hs
    have e : n = vs.toArray.size := by rw [hn]; simp
    subst e
    exact unpackItems_tuple hh ht.is (fun h' he => k _ h' s.toks (q h' (.all fun b o e => he b o (Nat.ne_of_lt (Heap.lt_size e)) e)))
theorem W_ao_nil {xs : List Value} {Q : Unit → Heap → Prop} (q : Q () h) : Wp w A (assignInOrder [] xs) Q h := by
  cases xs <;> exact Wp.eq rfl q
theorem W_bindName {x : Str} {v : Value} {Q : Unit → Heap → Prop} (H : Wp w A (storeName env x v) Q h) : Wp w A (bindName env x v) Q h := Wp.mk fun s Q' E hs k => by subst hs; exact wpAny_bindName (H.use k)
theorem W_ao {t : Value → Sem Unit} {ts : List (Value → Sem Unit)} {x : Value} {xs : List Value} {Q : Unit → Heap → Prop} (H : Wp w A (t x) (fun _ h₁ => Wp w A (assignInOrder ts xs) Q h₁) h) :
    Wp w A (assignInOrder (t :: ts) (x :: xs)) Q h := by
  rw [assignInOrder]
  exact Wp.bind (Wp.holding H)
end
end Mine
end PartB5

-- B6
section PartB6
open PySem PySem.W PyProof.Rows PySem.Calls
set_option Elab.async false
set_option maxRecDepth 100000
set_option linter.unusedVariables false
namespace Mine
/-- a walk over n things has been opened -/
noncomputable def Iter (w : World) (A : Around) (h₁ : Heap) (it : Value) (n : Nat) (P : Nat → Value → Prop) (F : List Addr) (h₂ : Heap) : Prop :=
  ∃ (I : Nat) (St : Nat → Heap → Prop), it = .ref I ∧ Walks pw w A I (I :: F) [I] n P St ∧ St 0 h₂ ∧ (∀ i h, St i h → ∃ o, h.get? I = some o) ∧ h₁.objs.size ≤ I ∧ Kp [] h₁ h₂ ∧ (∀ b : Nat, b ∈ (I :: F : List Addr) → b < h₂.objs.size ∧ 151 ≤ b)
section
variable {w : World} {A : Around} {h : Heap} {env : Env}
theorem W_iterL {l : Addr} {vs : List Value} {Q : Value → Heap → Prop} (hh : A.handled = none) (T : TH w h) (x : LI h l vs) (q : ∀ it h', Iter w A h it vs.length (fun i v => vs[i]? = some v) [l] h' → Kp [] h h' → Q it h') : Wp w A (pyIter (.ref l)) Q h :=
  Wp.mk fun s Q' E hs k => by
    subst hs
    refine wpAny_pyIter_list x.is (k _ _ s.toks (q _ _ ?_ (Kp.push _)))
    have hne : l ≠ s.heap.objs.size := Nat.ne_of_lt x.lt
    have W := Walks.list (prog := pw) (w := w) hh s.heap.objs.size l hne vs.toArray
    simp only [List.size_toArray, List.getElem?_toArray] at W
    refine ⟨s.heap.objs.size, _, rfl, W, ⟨⟨_, Heap.get?_push_size _ rfl, rfl, rfl⟩, x.is.at fun o e => Heap.get?_push_of_some _ e⟩, fun i h st => (let ⟨o, e, _⟩ := st.1; ⟨o, e⟩), Nat.le_refl _, Kp.push _, ?_⟩
    · intro b hb
      rw [Heap.size_push]
      rcases List.mem_cons.mp hb with e | e
      · rw [e]; exact ⟨Nat.lt_succ_self _, T.size⟩
      · rw [List.mem_singleton.mp e]; exact ⟨Nat.lt_succ_of_lt x.lt, x.lo⟩
theorem W_iterS {z : List Nat} {t : Tok} {Q : Value → Heap → Prop} (hh : A.handled = none) (T : TH w h) (q : ∀ it h', Iter w A h it z.length (fun i v => ∃ c u, z[i]? = some c ∧ v = .str (S [c]) u) [] h' → Kp [] h h' → Q it h') : Wp w A (pyIter (.str (S z) t)) Q h :=
  Wp.mk fun s Q' E hs k => by
    subst hs
    have fin : ∀ (o : Obj) (St : Nat → Heap → Prop), Walks pw w A s.heap.objs.size [s.heap.objs.size] [s.heap.objs.size] (S z).cps.size (SignAt (S z)) St → (∀ i h, St i h → ∃ o, h.get? s.heap.objs.size = some o) → St 0 (s.heap.push o) → Q' (.ref s.heap.objs.size) { s with heap := s.heap.push o } := by
      intro o St W hex h0
      refine k _ _ s.toks (q _ _ ⟨s.heap.objs.size, St, rfl, ?_, h0, hex, Nat.le_refl _, Kp.push _, ?_⟩ (Kp.push _))
      · have := W
        have e1 : (S z).cps.size = z.length := rfl
        have e2 : SignAt (S z) = fun i v => ∃ c u, z[i]? = some c ∧ v = .str (S [c]) u := by
          funext i v
          unfold SignAt
          have : (S z).cps[i]? = z[i]? := by show (⟨z⟩ : Array Nat)[i]? = _; simp
          rw [this]; rfl
        rw [e1, e2] at this
        exact this
      · intro b hb
        rw [Heap.size_push, List.mem_singleton.mp hb]
        exact ⟨Nat.lt_succ_self _, T.size⟩
    cases ha : (S z).cps.all (· < 128)
    · exact wpAny_pyIter_wide ha (fin _ _ (Walks.strWide hh _ _ t) (fun i h st => (let ⟨o, e, _⟩ := st; ⟨o, e⟩)) ⟨_, Heap.get?_push_size _ rfl, rfl, rfl⟩)
    · exact wpAny_pyIter_ascii ha (fin _ _ (Walks.strAscii hh _ _ t) (fun i h st => (let ⟨o, e, _⟩ := st; ⟨o, e⟩)) ⟨_, Heap.get?_push_size _ rfl, rfl, rfl⟩)
/-- range(a, b) -/
noncomputable def RG (h : Heap) (r : Nat) (a b : Int) : Prop := ∃ t u v, IsRange h r a b 1 t u v
theorem W_range1 {n : Int} {t : Tok} {Q : Value → Heap → Prop} (q : ∀ h' r, RG h' r 0 n → Kp [] h h' → Q (.ref r) h') : Wp w A (call (.type "range") [.int n t]) Q h :=
  Wp.mk fun s Q' E hs k => by subst hs; exact call_range_1 (k _ _ _ (q _ _ ⟨_, _, _, IsRange.new _ _ _ _ _ _ _⟩ (Kp.push _)))
theorem W_range2 {a b : Int} {t u : Tok} {Q : Value → Heap → Prop} (q : ∀ h' r, RG h' r a b → Kp [] h h' → Q (.ref r) h') : Wp w A (call (.type "range") [.int a t, .int b u]) Q h :=
  Wp.mk fun s Q' E hs k => by subst hs; exact call_range_2 (k _ _ _ (q _ _ ⟨_, _, _, IsRange.new _ _ _ _ _ _ _⟩ (Kp.push _)))
theorem W_iterR {r : Nat} {a b n : Nat} {Q : Value → Heap → Prop} (hh : A.handled = none) (T : TH w h) (x : RG h r a b) (hb : a < 2 ^ 60) (hb : b < 2 ^ 60) (hn : n = b - a) (q : ∀ it h', Iter w A h it n (fun i v => ∃ t, v = .int ((a + i : Nat) : Int) t) [] h' → Kp [] h h' → Q it h') : Wp w A (pyIter (.ref r)) Q h :=
  Wp.mk fun s Q' E hs k => by
    subst hs
    obtain ⟨t, u, v, hr⟩ := x
    refine wpAny_pyIter_range hr (small_one (by omega) (by omega) (by omega) (by omega)) (k _ _ s.toks (q _ _ ?_ (Kp.push _)))
    have W := Walks.range (prog := pw) (w := w) hh s.heap.objs.size (a : Int) 1 n
    have e1 : (fun (i : Nat) (v : Value) => ∃ t, v = .int ((a : Int) + (i : Int) * 1) t) = (fun i v => ∃ t, v = .int ((a + i : Nat) : Int) t) := by
      funext i v
      rw [show (a : Int) + (i : Int) * 1 = ((a + i : Nat) : Int) by omega]
    rw [e1] at W
    refine ⟨s.heap.objs.size, _, rfl, W, ?_, fun i h st => ⟨_, st⟩, Nat.le_refl _, Kp.push _, ?_⟩
    · show IsRangeIter _ _ _ _ _
      rw [rangeSize_one]
      have : (if (a : Int) < (b : Int) then (b : Int) - a else 0) = (n : Int) - ((0 : Nat) : Int) := by split <;> omega
      rw [this, show (a : Int) + ((0 : Nat) : Int) * 1 = a by omega]
      exact Heap.get?_push_size _ rfl
    · intro b hb
      rw [Heap.size_push, List.mem_singleton.mp hb]
      exact ⟨Nat.lt_succ_self _, T.size⟩

-- comprehensions
noncomputable def tests (ifs : List Expr) (env : Env) : Sem Bool := forIn ifs true fun c r => if r = true then do let ok ← isTrue c env (eval c env); Pure.pure (ForInStep.yield ok) else Pure.pure (ForInStep.yield r)
theorem W_tests0 {Q : Bool → Heap → Prop} (q : Q true h) : Wp w A (tests [] env) Q h := Wp.eq (by unfold tests; rw [List.forIn_nil]) q
theorem W_tests1 {c : Expr} {Q : Bool → Heap → Prop} (H : Wp w A (isTrue c env (eval c env)) Q h) : Wp w A (tests [c] env) Q h := by
  unfold tests
  rw [List.forIn_cons]
  simp only [if_true]
  exact Wp.bind (Wp.bind (H.mono fun b h' q => Wp.pure (by show Wp w A (forIn [] b _) Q h'; rw [List.forIn_nil]; exact Wp.pure q)))
/-- what a comprehension does with each thing -/
structure CB (w : World) (A : Around) (env : Env) (scope : Scope) (cl : List (Str × Addr)) (x : Str) (ifs : List Expr) (elt : Expr) (h₁ : Heap) (n : Nat) (P : Nat → Value → Prop) (J : Nat → List Value → Heap → Prop) : Prop where
  zero : ∀ h, J 0 [] h
  step : ∀ i ys v X (C : Nat) h, i < n → P i v → h.Ns C (lk [(x, v)]) → 151 ≤ C → h₁.objs.size ≤ C → Kp [] h₁ h → (∀ a ∈ X, ∃ o, h.get? a = some o) → (∀ h', Kp X h h' → J i ys h') →
    Wp w A (tests ifs (compEnvC scope cl C env)) (fun ok h₃ => Kp [] h h₃ ∧ (ok = false → ∀ h', Kp X h₃ h' → J (i + 1) ys h') ∧
      (ok = true → Wp w A (eval elt (compEnvC scope cl C env)) (fun y h₄ => Kp [] h h₄ ∧ ∀ h', Kp X h₄ h' → J (i + 1) (ys ++ [y]) h') h₃)) h
theorem C_comp {elt iter : Expr} {x : Str} {px : Pos} {ifs : List Expr} {scope : Scope} {cl : List (Str × Addr)} {pos : Pos} {h₁ h₂ : Heap} {it : Value} {n : Nat} {P : Nat → Value → Prop} {F : List Addr} {J : Nat → List Value → Heap → Prop} {X : List Addr}
    {Fin : Heap → Prop} {D C : Nat} {St : Nat → Heap → Prop} {I : Nat} (W : Walks pw w A I (I :: F) [I] n P St) (hex : ∀ i h, St i h → ∃ o, h.get? I = some o) (hF : ∀ b : Nat, b ∈ (I :: F : List Addr) → b < h₂.objs.size ∧ 151 ≤ b) (hI : h₁.objs.size ≤ I) (hsz : n ≤ sizeLine) (cb : CB w A env scope cl x ifs elt h₁ n P J)
    (hkind : scope.kind = .function) (hx : scope.names.lookup x = some .local) (hD : h₂.objs.size ≤ D) (hC : D < C)
    (hX : ∀ a : Nat, a ∈ X → 151 ≤ a ∧ a ≠ I ∧ a ≠ C ∧ a ≠ D ∧ ∃ o, h.get? a = some o)
    (hst : St 0 h) (k : Kp [] h₁ h) (hDl : h.PlainList D #[]) (hn : h.Ns C (lk []))
    (fin : ∀ h' ys, (∀ h'', Kp (I :: C :: D :: X) h' h'' → J n ys h'') → h'.PlainList D ys.toArray → (∃ m, h'.Ns C m) → Kp [] h₁ h' → Fin h') :
    Cd w A (.compLoop (.ListComp elt [⟨.Name x px, iter, ifs, 0⟩] scope pos) 0 (.ref I) (.ref D) (compEnvC scope cl C env)) (fun r h' => r = .ok .next ∧ Fin h') h :=
  Cd.mk fun s R' hs kk => by
    subst hs
    have hI2 := (hF I (List.mem_cons_self ..))
    have hDI : I < D := Nat.lt_of_lt_of_le hI2.1 hD
    have loI := hI2.2
    have loD : 151 ≤ D := Nat.le_trans hI2.2 (Nat.le_of_lt hDI)
    have loC : 151 ≤ C := Nat.le_trans loD (Nat.le_of_lt hC)
    have hDF : ∀ b : Nat, b ∈ (I :: F : List Addr) → b ≠ D ∧ b ≠ C := fun b hb => by have := (hF b hb).1; omega
    have fI : h₁.get? I = none := fresh_size _ _ hI
    have fD : h₁.get? D = none := fresh_size _ _ (Nat.le_trans hI (Nat.le_of_lt hDI))
    have fC : h₁.get? C = none := fresh_size _ _ (Nat.le_trans hI (Nat.le_of_lt (Nat.lt_trans hDI hC)))
    have hCI : C ≠ I := by omega
    have hCD : C ≠ D := by omega
    have hDI' : D ≠ I := by omega
    refine codeAny_compLoop_tests
      (fun m s' => ∃ h' tk i ys l, s' = { s with heap := h', toks := tk } ∧ St i h' ∧ h'.PlainList D ys.toArray ∧ ys.length ≤ i ∧ h'.Ns C (lk l) ∧ (l = [] ∨ ∃ v, l = [(x, v)]) ∧ i ≤ n ∧ m = n + 1 - i ∧ Kp [] h₁ h' ∧
        (∀ a ∈ X, ∃ o, h'.get? a = some o) ∧ (∀ h'', Kp (I :: C :: D :: X) h' h'' → J i ys h'')) ?_ (n + 1)
      ⟨s.heap, s.toks, 0, [], [], rfl, hst, hDl, Nat.le_refl _, hn, .inl rfl, Nat.zero_le _, rfl, k, fun a ha => (hX a ha).2.2.2.2, fun _ _ => cb.zero _⟩
    rintro m s' ⟨H, tk, i, ys, l, rfl, hst', hD', hlen, hn', hl, hi, rfl, k', hX', hJ⟩
    by_cases hlt : i < n
    · refine W.item i _ _ _ hlt hst' fun v h₃ tk₃ hP hst₃ hk₃ => ?_
      have kI : Kp [I] H h₃ := fun b o hb e => hk₃ b o hb e
      have hn₃ : h₃.Ns C (lk l) := kI.ns hn' (nin1 hCI)
      refine wpAny_assign_Name (wpAny_storeName_local (env := compEnvC scope cl C env) (lookup_relabel_local hx) hn₃ (fun h₄ hn₄ hs₄ => ?_) (by simp [compEnvC, relabel, hkind]))
      have hn₅ : h₄.Ns C (lk [(x, v)]) := by
        have e := hn₄
        rw [lk_put] at e
        rcases hl with rfl | ⟨v', rfl⟩
        · exact e
        · have : put [(x, v')] x v = [(x, v)] := by simp [put]
          rw [this] at e; exact e
      have kC : Kp [C] h₃ h₄ := Kp.same hs₄
      have k₄ : Kp [I, C] H h₄ := (kI.sub fun a ha => by simp at ha; simp [ha]).trans (kC.sub fun a ha => by simp at ha; simp [ha])
      have kb₄ : Kp [] h₁ h₄ := k'.local k₄ fun a ha => by simp at ha; rcases ha with rfl | rfl; exact fI; exact fC
      have hst₄ : St (i + 1) h₄ := W.frame _ _ _ hst₃ fun b hb o e => hs₄.extBut b o (hDF b hb).2 e
      have hD₄ : h₄.PlainList D ys.toArray := by
        obtain ⟨nn, e⟩ := hD'
        exact ⟨nn, k₄ D _ (by simp [hDI', Ne.symm hCD]) e⟩
      have hX₄ : ∀ a ∈ (I :: C :: D :: X), ∃ o, h₄.get? a = some o := by
        intro a ha
        rcases List.mem_cons.mp ha with rfl | ha
        · exact hex _ _ hst₄
        rcases List.mem_cons.mp ha with rfl | ha
        · obtain ⟨o, _, _, e, _⟩ := hn₅; exact ⟨o, e⟩
        rcases List.mem_cons.mp ha with rfl | ha
        · obtain ⟨nn, e⟩ := hD₄; exact ⟨_, e⟩
        · obtain ⟨o, e⟩ := hX' a ha
          have q := hX a ha
          exact ⟨o, k₄ a o (by simp [q.2.1, q.2.2.1]) e⟩
      have st := cb.step i ys v (I :: C :: D :: X) C h₄ hlt hP hn₅ loC (Nat.le_trans hI (Nat.le_of_lt (Nat.lt_trans hDI hC))) kb₄ hX₄ fun h' q => hJ h' ((k₄.sub fun a ha => by simp at ha; rcases ha with rfl | rfl <;> simp).trans q)
      refine (st.on fun ok h₅ tk₅ q => ?_)
      obtain ⟨k₅, q0, q1⟩ := q
      have fin' : ∀ (ys' : List Value) (h₆ : Heap) tk₆, ys'.length ≤ i + 1 → Kp [D] h₄ h₆ → h₆.PlainList D ys'.toArray → (∀ h', Kp (I :: C :: D :: X) h₆ h' → J (i + 1) ys' h') → ∃ m, m < n + 1 - i ∧ ∃ h' tk i ys l, ({ s with heap := h₆, toks := tk₆ } : Shared) = { s with heap := h', toks := tk } ∧ St i h' ∧ h'.PlainList D ys.toArray ∧ ys.length ≤ i ∧ h'.Ns C (lk l) ∧ (l = [] ∨ ∃ v, l = [(x, v)]) ∧ i ≤ n ∧ m = n + 1 - i ∧ Kp [] h₁ h' ∧
        (∀ a ∈ X, ∃ o, h'.get? a = some o) ∧ (∀ h'', Kp (I :: C :: D :: X) h' h'' → J i ys h'') := by
        intro ys' h₆ tk₆ hl' k₆ hD₆ hJ₆
        refine ⟨n + 1 - (i + 1), by omega, h₆, tk₆, i + 1, ys', [(x, v)], rfl, ?_, hD₆, hl', k₆.ns hn₅ (nin1 hCD), .inr ⟨v, rfl⟩, hlt, rfl, kb₄.local k₆ fun a ha => by rw [List.mem_singleton.mp ha]; exact fD, ?_, hJ₆⟩
        · exact W.frame _ _ _ hst₄ fun b hb o e => k₆ b o (nin1 (hDF b hb).1) e
        · intro a ha
          obtain ⟨o, e⟩ := hX₄ a (by simp [ha])
          have q := hX a ha
          exact ⟨o, k₆ a o (nin1 q.2.2.2.1) e⟩
      cases ok with
      | false =>
        simp only [Bool.false_eq_true, if_false]
        refine fin' ys h₅ _ (by omega) k₅.of0 ?_ (q0 rfl)
        obtain ⟨nn, e⟩ := hD₄
        exact ⟨nn, k₅ D _ (fun m => nomatch m) e⟩
      | true =>
        simp only [if_true]
        refine ((q1 rfl).on fun y h₆ tk₆ q => ?_)
        obtain ⟨k₆, hJ₆⟩ := q
        have hD₆ : h₆.PlainList D ys.toArray := by
          obtain ⟨nn, e⟩ := hD₄
          exact ⟨nn, k₆ D _ (fun m => nomatch m) e⟩
        refine wpAny_list_append_plain (hsz := by simp; omega) hD₆ fun h₇ hD₇ hs₇ => ?_
        refine fin' (ys ++ [y]) h₇ _ (by simp; omega) (k₆.of0.trans (Kp.same hs₇)) (by simpa using hD₇) fun h' q => hJ₆ h' (((Kp.same hs₇).sub fun a ha => by simp at ha; simp [ha]).trans q)
    · have hin : i = n := by omega
      subst hin
      refine W.done _ _ _ hst' fun h₃ tk₃ hk₃ => ?_
      have kI : Kp [I] H h₃ := fun b o hb e => hk₃ b o hb e
      refine kk (.ok .next) h₃ tk₃ ⟨rfl, (fin h₃ ys (fun h'' q => hJ h'' ((kI.sub fun a ha => by simp at ha; simp [ha]).trans q)) ?_ ⟨_, kI.ns hn' (nin1 hCI)⟩ (k'.local kI fun a ha => by rw [List.mem_singleton.mp ha]; exact fI))⟩
      obtain ⟨nn, e⟩ := hD'
      exact ⟨nn, kI D _ (nin1 hDI') e⟩
end
end Mine
end PartB6

-- B7
section PartB7
open PySem PySem.W PyProof.Rows PySem.Calls
set_option Elab.async false
set_option maxRecDepth 100000
set_option linter.unusedVariables false
namespace Mine
section
variable {w : World} {A : Around} {h : Heap} {env : Env}
theorem W_compBody {elt iter : Expr} {x : Str} {px : Pos} {ifs : List Expr} {scope : Scope} {cl : List (Str × Addr)} {pos : Pos} {X : List Addr} {s : Shared} {E : Value → Shared → Prop} {h₁ : Heap} {it : Value} {n : Nat} {P : Nat → Value → Prop} {F : List Addr} {J : Nat → List Value → Heap → Prop}
    {RR : Value → Addr → Result → Shared → Prop}
    (hcell : ∀ y ∈ scope.names, y.2 ≠ .cell) (hkind : scope.kind = .function) (hx : scope.names.lookup x = some .local)
    (hi : Iter w A h₁ it n P F s.heap) (hsz : n ≤ sizeLine) (cb : CB w A env scope cl x ifs elt h₁ n P J)
    (hX : ∀ a : Nat, a ∈ X → 151 ≤ a ∧ a < h₁.objs.size ∧ ∃ o, h₁.get? a = some o)
    (fin : ∀ (D C : Nat) h' tk ys, (∀ h'', Kp (C :: D :: X) h' h'' → J n ys h'') → h'.PlainList D ys.toArray → (∃ m, h'.Ns C m) → Kp [] h₁ h' → h₁.objs.size ≤ D → D < C → 151 ≤ D → RR (.ref D) C (.ok .next) { s with heap := h', toks := tk }) :
    wpAny (model pw w) A (newList []) (fun acc s₃ => wpAny (model pw w) A (newFunctionEnv scope env.globals cl [] env.qual none .none (some env)) (fun cenv s₄ =>
      codeAny (model pw w) A (.compStart (.ListComp elt [⟨.Name x px, iter, ifs, 0⟩] scope pos) 0 it acc { cenv with scope := relabel scope env }) (RR acc cenv.locals) s₄) E s₃) E s := by
  obtain ⟨I, St, rfl, W, hst, hex, hI, k, hF⟩ := hi
  refine wpAny_newObj_type (wpAny_newFunctionEnv hcell (by intro y hy; simp at hy) (fun h₂ hns₂ hsb₂ => ?_) hkind)
  dsimp only at hns₂ hsb₂ ⊢
  generalize hH2 : s.heap.push { cls := .type "list", dict := none, data := .seq ([] : List Value).toArray } = H2 at hns₂ hsb₂ ⊢
  have hC : H2.objs.size = s.heap.objs.size + 1 := by rw [← hH2, Heap.size_push]
  have hlt : I < s.heap.objs.size := (hF I (List.mem_cons_self ..)).1
  have old : ∀ b o, s.heap.get? b = some o → h₂.get? b = some o := fun b o e => hsb₂.extBut b o (Nat.ne_of_lt (by rw [hC]; exact Nat.lt_succ_of_lt (Heap.lt_size e))) (Heap.get?_push_of_some _ (hH2 ▸ Heap.get?_push_of_some _ e))
  have hDl : h₂.PlainList s.heap.objs.size #[] := ⟨_, hsb₂.extBut _ _ (Nat.ne_of_lt (by rw [hC]; exact Nat.lt_succ_self _)) (Heap.get?_push_of_some _ (hH2 ▸ Heap.get?_push_size _ rfl))⟩
  have k₂ : Kp [] h₁ h₂ := k.trans (.all old)
  have hst₂ : St 0 h₂ := W.frame _ _ _ hst fun b _ o e => old b o e
  have loop : ∀ s₃ : Shared, s₃ = { s with heap := h₂, toks := s.toks + ([] : List (Str × Value)).length } →
      codeAny (model pw w) A (.compLoop (.ListComp elt [⟨.Name x px, iter, ifs, 0⟩] scope pos) 0 (.ref I) (.ref s.heap.objs.size) (compEnvC scope cl H2.objs.size env)) (RR (.ref s.heap.objs.size) H2.objs.size) s₃ := by
    rintro s₃ rfl
    refine (C_comp (h₁ := h₁) (h₂ := s.heap) (X := X) (D := s.heap.objs.size) (C := H2.objs.size) (it := .ref I) (Fin := fun h' => ∀ tk, RR (.ref s.heap.objs.size) H2.objs.size (.ok .next) { s with heap := h', toks := tk }) W hex hF hI hsz cb hkind hx (Nat.le_refl _) (by rw [hC]; exact Nat.lt_succ_self _) ?_ hst₂ k₂ hDl hns₂ ?_).on (fun r h' tk q => ?_)
    · intro a ha
      obtain ⟨lo, hlt', o, e⟩ := hX a ha
      exact ⟨lo, by omega, by omega, by omega, o, k₂ a o (fun m => nomatch m) e⟩
    · intro h' ys hJ hD hn kb tk
      refine fin s.heap.objs.size H2.objs.size h' tk ys (fun h'' q => hJ h'' (q.sub fun a ha => List.mem_cons_of_mem _ ha)) hD hn kb (Nat.le_trans hI (Nat.le_of_lt hlt)) (by rw [hC]; exact Nat.lt_succ_self _) (Nat.le_trans (hF I (List.mem_cons_self ..)).2 (Nat.le_of_lt hlt))
    · obtain ⟨rfl, q⟩ := q
      exact q tk
  exact codeAny_compStart_list (loop _ rfl) (W.self 0 _ _ _ hst₂ (loop _ rfl))
/-- [elt for x in iter if ..] -/
theorem W_ListComp {elt iter : Expr} {x : Str} {px : Pos} {ifs : List Expr} {scope : Scope} {cl : List (Str × Addr)} {pos : Pos} {Q : Value → Heap → Prop} (J : Nat → List Value → Heap → Prop)
    (hclos : closureFor scope env = Pure.pure cl) (hcell : scope.names.all (fun y => y.2 != .cell) = true) (hkind : scope.kind = .function)
    (hnames : scope.names.all (fun y => y.2 != .local || scope.names.lookup y.1 == some .local) = true) (hx : scope.names.lookup x = some .local) (hs : ∀ x, foldedSetIterable iter env x = Pure.pure x)
    (H : Wp w A (eval iter env) (fun xv h₁ => Wp w A (pyIter xv) (fun it h₂ => ∃ n P F, Iter w A h₁ it n P F h₂ ∧ n ≤ sizeLine ∧ CB w A env scope cl x ifs elt h₁ n P J ∧
      ∀ D h' ys, J n ys h' → LI h' D ys → h₁.objs.size ≤ D → Kp [] h₁ h' → Q (.ref D) h') h₁) h) :
    Wp w A (eval (.ListComp elt [⟨.Name x px, iter, ifs, 0⟩] scope pos) env) Q h :=
  Wp.mk fun s Q' E hs' kk => by
    subst hs'
    rw [eval_ListComp]
    refine wpAny_comprehension_free (use := none) rfl hs hclos hkind (fun y hy hl => ?_) (H.use fun xv h₁ tk q => q.on fun it h₂ tk₂ q₂ => ?_)
    · have := List.all_eq_true.mp hnames y hy
      simpa [hl] using this
    obtain ⟨n, P, F, hi, hsz, cb, fin⟩ := q₂
    refine W_compBody (X := []) (s := { s with heap := h₂, toks := tk₂ }) (RR := fun acc C => compPost (model pw w) A E none Q' acc C) (fun y hy => by simpa using List.all_eq_true.mp hcell y hy) hkind hx hi hsz cb (fun a ha => nomatch ha) ?_
    intro D C h' tk' ys hJ hD hn kb hD1 hDC loD
    obtain ⟨m, hn⟩ := hn
    refine ⟨m, hn, fun h'' hs'' => kk _ h'' tk' (fin D h'' ys (hJ h'' ((Kp.same hs'').sub fun a ha => by simp at ha; simp [ha])) ⟨loD, ?_⟩ hD1 (kb.local (Kp.same hs'') fun a ha => by rw [List.mem_singleton.mp ha]; exact fresh_size _ _ (Nat.le_trans hD1 (Nat.le_of_lt hDC))))⟩
    exact hD.isList.extBut hs''.extBut (Nat.ne_of_lt hDC)
/-- y = [elt for x in iter if ..], y a local name -/
theorem W_AssignComp {elt iter : Expr} {x y : Str} {px py : Pos} {ifs : List Expr} {scope : Scope} {cl : List (Str × Addr)} {pos spos : Pos} {Q : Flow → Heap → Prop} {Z : List Addr} {h₀ : Heap} {l : List (Str × Value)} {cs : List (Option Value)} (J : Nat → List Value → Heap → Prop)
    (hsw : swapsWith (.ListComp elt [⟨.Name x px, iter, ifs, 0⟩] scope pos) (some (.Name y py)) spos.line env = Pure.pure true)
    (hclos : closureFor scope env = Pure.pure cl) (hcell : scope.names.all (fun y => y.2 != .cell) = true) (hkind : scope.kind = .function)
    (hnames : scope.names.all (fun y => y.2 != .local || scope.names.lookup y.1 == some .local) = true) (hx : scope.names.lookup x = some .local) (hs : ∀ x, foldedSetIterable iter env x = Pure.pure x)
    (hy : env.kindOf y = some .local) (hp : (env.scope.kind == .class || (env.scope.kind == .module && env.locals != env.globals)) = false)
    (H : Wp w A (eval iter env) (fun xv h₁ => Wp w A (pyIter xv) (fun it h₂ => Fr w Z h₀ h₁ env.locals l cs ∧ ∃ n P F, Iter w A h₁ it n P F h₂ ∧ n ≤ sizeLine ∧ CB w A env scope cl x ifs elt h₁ n P J ∧
      ∀ D h' ys, J n ys h' → LI h' D ys → h₁.objs.size ≤ D → Kp [env.locals] h₁ h' → Fr w Z h₀ h' env.locals (put l y (.ref D)) cs → Q .next h') h₁) h) :
    Wp w A (exec (.Assign [.Name y py] (.ListComp elt [⟨.Name x px, iter, ifs, 0⟩] scope pos) spos) env) Q h :=
  Wp.mk fun s Q' E hs' kk => by
    subst hs'
    rw [exec_Assign_Name_used _ _ _ _ hsw]
    refine wpAny_bind (wpAny_standAt (wpAny_bind ?_))
    show wpAny _ A (do let _ ← comprehension (.ListComp elt [⟨.Name x px, iter, ifs, 0⟩] scope pos) scope env _ (newList []) false (eval iter env) (some (assign (.Name y py) env))) _ _ s
    refine wpAny_bind (wpAny_mono (wpAny_comprehension_free (use := some (assign (.Name y py) env)) (Q := fun _ s' => Q' .next s') rfl hs hclos hkind (fun y hy hl => ?_)
      (H.use fun xv h₁ tk q => q.on fun it h₂ tk₂ q₂ => ?_)) (fun _ s' hq => wpAny_pure (wpAny_pure hq)) fun _ _ e => e)
    · have := List.all_eq_true.mp hnames y hy
      simpa [hl] using this
    obtain ⟨f, n, P, F, hi, hsz, cb, fin⟩ := q₂
    obtain ⟨oL, _, _, hoL, _⟩ := id f.ns
    have hLlt : env.locals < h₁.objs.size := f.ns.lt
    refine W_compBody (X := [env.locals]) (s := { s with heap := h₂, toks := tk₂ }) (RR := fun acc C => compPost (model pw w) A E (some (assign (.Name y py) env)) (fun _ s' => Q' .next s') acc C) (fun y hy => by simpa using List.all_eq_true.mp hcell y hy) hkind hx hi hsz cb (fun a ha => by rw [List.mem_singleton.mp ha]; exact ⟨f.lo, hLlt, oL, hoL⟩) ?_
    intro D C h' tk' ys hJ hD hn kb hD1 hDC loD
    obtain ⟨m, hn⟩ := hn
    have f' := f.step kb
    have hLD : env.locals ≠ D := Nat.ne_of_lt (Nat.lt_of_lt_of_le hLlt hD1)
    have hLC : env.locals ≠ C := Nat.ne_of_lt (Nat.lt_trans (Nat.lt_of_lt_of_le hLlt hD1) hDC)
    show wpAny _ A (assign (.Name y py) env (.ref D)) _ _ _
    refine wpAny_assign_Name ((W_st f' hy hp fun h₃ f₃ k₃ => ?_ : Wp w A (storeName env y (.ref D)) (fun _ h₃ => Fr w Z h₀ h₃ env.locals (put l y (.ref D)) cs ∧ Kp [env.locals] h' h₃) h').on fun _ h₃ tk₃ q => ?_)
    · exact ⟨f₃, k₃⟩
    obtain ⟨f₃, k₃⟩ := q
    have loC : 151 ≤ C := Nat.le_trans loD (Nat.le_of_lt hDC)
    refine ⟨m, k₃.ns hn (nin1 (Ne.symm hLC)), fun h'' hs'' => kk _ h'' tk₃ (fin D h'' ys (hJ h'' ?_) ⟨loD, ?_⟩ hD1 ?_ ?_)⟩
    · exact (k₃.sub fun a ha => by simp at ha; simp [ha]).trans ((Kp.same hs'').sub fun a ha => by simp at ha; simp [ha])
    · have : h₃.IsList D ys.toArray := hD.isList.at fun o e => k₃ D o (nin1 (Ne.symm hLD)) e
      exact this.extBut hs''.extBut (Nat.ne_of_lt hDC)
    · intro b o hb e
      have hbC : b ≠ C := fun q => by rw [q, fresh_size _ _ (Nat.le_trans hD1 (Nat.le_of_lt hDC))] at e; cases e
      exact hs''.extBut b o hbC (k₃ b o hb (kb b o (fun m => nomatch m) e))
    · have hc := f.lt
      exact f₃.upd (Kp.same hs'') fun a ha => by
        rw [List.mem_singleton.mp ha]
        exact ⟨Nat.le_trans f.fr (Nat.le_of_lt (Nat.lt_trans (Nat.lt_of_lt_of_le hLlt hD1) hDC)), loC, .inr (by omega)⟩
/-- all up to I is kept, but X -/
noncomputable def Ku (X : List Addr) (I : Nat) (h h' : Heap) : Prop := ∀ (b : Nat) o, b ∉ X → b ≤ I → h.get? b = some o → h'.get? b = some o
theorem Ku.refl {X : List Addr} {I : Nat} {h : Heap} : Ku X I h h := fun _ _ _ _ e => e
theorem Ku.trans {X : List Addr} {I : Nat} {h h' h'' : Heap} (x : Ku X I h h') (y : Ku X I h' h'') : Ku X I h h'' := fun b o hb hi e => y b o hb hi (x b o hb hi e)
theorem Ku.of {X Y : List Addr} {I : Nat} {h h' : Heap} (k : Kp Y h h') (hY : ∀ b : Nat, b ∈ Y → b ∈ X ∨ I < b) : Ku X I h h' := fun b o hb hi e => k b o (fun m => by
  rcases hY b m with q | q
  · exact hb q
  · omega) e
theorem Ku.of0 {X : List Addr} {I : Nat} {h h' : Heap} (k : Kp [] h h') : Ku X I h h' := .of k fun _ m => nomatch m
theorem Ku.get {X : List Addr} {I : Nat} {h h' : Heap} (k : Ku X I h h') {b : Nat} (hb : b ∉ X) (hi : b ≤ I) {o : Obj} (e : h.get? b = some o) : h'.get? b = some o := k b o hb hi e
/-- for target in iter: body -/
theorem W_For {target iter : Expr} {body : List Stmt} {pos : Pos} {Q : Flow → Heap → Prop} (K : Nat → Nat → Heap → Prop) (hs : ∀ x, foldedSetIterable iter env x = Pure.pure x) (ht : ∀ it v, letOwnedTupleGo target it v = Pure.pure ())
    (H : Wp w A (eval iter env) (fun xv h₁ => Wp w A (pyIter xv) (fun it h₂ => ∃ n P F, Iter w A h₁ it n P F h₂ ∧ (∀ I : Nat, it = .ref I → h₁.objs.size ≤ I → 151 ≤ I → K I 0 h₂) ∧
      (∀ i v (I : Nat) h₃ h₄, it = .ref I → h₁.objs.size ≤ I → 151 ≤ I → (∃ o, h₄.get? I = some o) → i < n → P i v → K I i h₃ → Kp [I] h₃ h₄ → Wp w A (assign target env v) (fun _ h₅ => Wp w A (execs body env) (fun f h₆ => match f with
        | .next | .cont => K I (i + 1) h₆ ∧ ∀ b : Nat, b ∈ (I :: F : List Addr) → ∀ o, h₄.get? b = some o → h₆.get? b = some o
        | .brk => Q .next h₆
        | .ret v => Q (.ret v) h₆) h₅) h₄) ∧
      (∀ (I : Nat) h₃ h₄, h₁.objs.size ≤ I → 151 ≤ I → K I n h₃ → Kp [I] h₃ h₄ → Q .next h₄)) h₁) h) :
    Wp w A (exec (.For target iter body [] pos) env) Q h :=
  Wp.mk fun s Q' E hs' kk => by
    subst hs'
    refine wpAny_For (H.use fun xv h₁ tk q => q.on fun it h₂ tk₂ q₂ => ?_) hs
    obtain ⟨n, P, F, ⟨I, St, rfl, W, hst, hex, hI, k, hF⟩, k0, step, fin⟩ := q₂
    have loI := (hF I (List.mem_cons_self ..)).2
    refine codeAny_forLoop_any (fun m s' => ∃ h' tk i, s' = { s with heap := h', toks := tk } ∧ St i h' ∧ K I i h' ∧ i ≤ n ∧ m = n + 1 - i) ?_ (n + 1) ⟨h₂, tk₂, 0, rfl, hst, k0 I rfl hI loI, Nat.zero_le _, rfl⟩
    rintro m s' ⟨H, tk, i, rfl, hst', hK, hi, rfl⟩
    by_cases hlt : i < n
    · refine W.item i _ _ _ hlt hst' fun v h₃ tk₃ hP hst₃ hk₃ => wpAny_of_eq (ht _ v) ?_
      have kI : Kp [I] H h₃ := fun b o hb e => hk₃ b o hb e
      refine (step i v I H h₃ rfl hI loI (hex _ _ hst₃) hlt hP hK kI).on fun _ h₄ tk₄ q => q.on fun f h₅ tk₅ q => ?_
      have nxt : (K I (i + 1) h₅ ∧ ∀ b : Nat, b ∈ (I :: F : List Addr) → ∀ o, h₃.get? b = some o → h₅.get? b = some o) → ∃ m, m < n + 1 - i ∧ ∃ h' tk i, ({ s with heap := h₅, toks := tk₅ } : Shared) = { s with heap := h', toks := tk } ∧ St i h' ∧ K I i h' ∧ i ≤ n ∧ m = n + 1 - i := by
        rintro ⟨hK', kX⟩
        exact ⟨n + 1 - (i + 1), by omega, h₅, tk₅, i + 1, rfl, W.frame _ _ _ hst₃ fun b hb o e => kX b hb o e, hK', hlt, rfl⟩
      cases f with
      | next => exact nxt q
      | cont => exact nxt q
      | brk => exact kk _ _ _ q
      | ret v => exact kk _ _ _ q
    · have hin : i = n := by omega
      subst hin
      refine W.done _ _ _ hst' fun h₃ tk₃ hk₃ => wpAny_execs_nil (kk _ _ _ (fin I H h₃ hI loI hK fun b o hb e => hk₃ b o hb e))
theorem W_assignName {x : Str} {p : Pos} {v : Value} {Q : Unit → Heap → Prop} (H : Wp w A (storeName env x v) Q h) : Wp w A (assign (.Name x p) env v) Q h := Wp.mk fun s Q' E hs k => by subst hs; exact wpAny_assign_Name (H.use k)
/-- while test: body; K falls in m -/
theorem W_While {test : Expr} {body : List Stmt} {pos : Pos} {Q : Flow → Heap → Prop} (K : Nat → Heap → Prop) (m : Nat) (k0 : K m h)
    (step : ∀ m h₁, K m h₁ → Wp w A (isTrue test env (eval test env)) (fun b h₂ => (b = true → Wp w A (execs body env) (fun f h₃ => match f with
        | .next | .cont => ∃ m', m' < m ∧ K m' h₃
        | .brk => Q .next h₃
        | .ret v => Q (.ret v) h₃) h₂) ∧ (b = false → Q .next h₂)) h₁) : Wp w A (exec (.While test body [] pos) env) Q h :=
  Wp.mk fun s Q' E hs' kk => by
    subst hs'
    refine wpAny_While (codeAny_whileLoop (fun m s' => ∃ h' tk, s' = { s with heap := h', toks := tk } ∧ K m h') ?_ m ⟨s.heap, s.toks, rfl, k0⟩)
    rintro m s' ⟨H, tk, rfl, hK⟩
    refine (step m H hK).on fun b h₂ tk₂ q => ?_
    cases b with
    | false => simp only [Bool.false_eq_true, if_false]; exact wpAny_execs_nil (kk _ _ _ (q.2 rfl))
    | true =>
      simp only [if_true]
      refine (q.1 rfl).on fun f h₃ tk₃ q => ?_
      cases f with
      | next => obtain ⟨m', hm, hk⟩ := q; exact ⟨m', hm, h₃, tk₃, rfl, hk⟩
      | cont => obtain ⟨m', hm, hk⟩ := q; exact ⟨m', hm, h₃, tk₃, rfl, hk⟩
      | brk => exact kk _ _ _ q
      | ret v => exact kk _ _ _ q
end
end Mine
end PartB7

-- B8
section PartB8
open PySem PySem.W PyProof.Rows PySem.Calls
set_option Elab.async false
set_option maxRecDepth 100000
set_option linter.unusedVariables false
namespace Mine
/-- a list of the call's own, in full -/
structure LP (h : Heap) (a : Addr) (vs : List Value) : Prop where
  lo : 151 ≤ a
  is : h.PlainList a vs.toArray
theorem LP.li {h : Heap} {a : Addr} {vs : List Value} (x : LP h a vs) : LI h a vs := ⟨x.lo, x.is.isList⟩
theorem LP.keep {h h' : Heap} {a : Addr} {vs : List Value} {X : List Addr} (x : LP h a vs) (k : Kp X h h') (hx : a ∉ X) : LP h' a vs := ⟨x.lo, x.is.at fun o e => k a o hx e⟩
theorem LP.keep0 {h h' : Heap} {a : Addr} {vs : List Value} (x : LP h a vs) (k : Kp [] h h') : LP h' a vs := x.keep k (fun m => nomatch m)
/-- texts, ints, one by one -/
inductive SV : List Value → List (List Nat) → Prop
  | nil : SV [] []
  | cons {vs : List Value} {ls : List (List Nat)} {x : List Nat} {t : Tok} : SV vs ls → SV (.str (S x) t :: vs) (x :: ls)
theorem SV.are {vs : List Value} {ls : List (List Nat)} (h : SV vs ls) : StrsAre vs (ls.map S) := by
  induction h with
  | nil => exact .nil
  | cons _ ih => exact .cons _ _ ih
theorem SV.snoc {x : List Nat} {t : Tok} {vs : List Value} {ls : List (List Nat)} (h : SV vs ls) : SV (vs ++ [.str (S x) t]) (ls ++ [x]) := by
  induction h with
  | nil => exact .cons .nil
  | cons _ ih => exact .cons ih
theorem SV.len {vs : List Value} {ls : List (List Nat)} (h : SV vs ls) : vs.length = ls.length := by
  induction h with
  | nil => rfl
  | cons _ ih => simp [ih]
theorem SV.get {vs : List Value} {ls : List (List Nat)} (h : SV vs ls) : ∀ {i : Nat} {x : List Nat}, ls[i]? = some x → ∃ t, vs[i]? = some (.str (S x) t) := by
  induction h with
  | nil => intro i x e; simp at e
  | @cons vs ls x t h ih =>
    intro i y e
    cases i with
    | zero => simp at e; subst e; exact ⟨t, rfl⟩
    | succ i => simp at e; simpa using ih e
inductive IV : List Value → List Int → Prop
  | nil : IV [] []
  | cons {vs : List Value} {ls : List Int} {x : Int} {t : Tok} : IV vs ls → IV (.int x t :: vs) (x :: ls)
theorem IV.snoc {x : Int} {t : Tok} {vs : List Value} {ls : List Int} (h : IV vs ls) : IV (vs ++ [.int x t]) (ls ++ [x]) := by
  induction h with
  | nil => exact .cons .nil
  | cons _ ih => exact .cons ih
theorem IV.len {vs : List Value} {ls : List Int} (h : IV vs ls) : vs.length = ls.length := by
  induction h with
  | nil => rfl
  | cons _ ih => simp [ih]
theorem IV.get {vs : List Value} {ls : List Int} (h : IV vs ls) : ∀ {i : Nat} {x : Int}, ls[i]? = some x → ∃ t, vs[i]? = some (.int x t) := by
  induction h with
  | nil => intro i x e; simp at e
  | @cons vs ls x t h ih =>
    intro i y e
    cases i with
    | zero => simp at e; subst e; exact ⟨t, rfl⟩
    | succ i => simp at e; simpa using ih e
theorem IV.get' {vs : List Value} {ls : List Int} (h : IV vs ls) {i : Nat} {v : Value} (e : vs[i]? = some v) : ∃ x t, ls[i]? = some x ∧ v = .int x t := by
  have hi : i < ls.length := by rw [← h.len]; exact (List.getElem?_eq_some_iff.mp e).1
  obtain ⟨t, e'⟩ := h.get (List.getElem?_eq_getElem hi)
  rw [e] at e'
  exact ⟨_, t, List.getElem?_eq_getElem hi, Option.some.inj e'⟩
theorem preSum_is (ls : List Int) : ∀ n, n ≤ ls.length → preSum (fun i => ls.getD i 0) n = (ls.take n).sum
  | 0, _ => by simp [preSum]
  | n + 1, h => by
    rw [preSum, preSum_is ls n (by omega), List.take_add_one, List.sum_append]
    simp [List.getElem?_eq_getElem (show n < ls.length by omega), List.getD]
theorem join_list_S : ∀ ls : List (List Nat), Txt.join (S []) (ls.map S) = S ls.flatten
  | [] => rfl
  | [x] => by show Txt.join (S []) [S x] = _; rw [Txt.join, StrLaws.glued_eq_join]; show S x = _; simp
  | x :: y :: r => by
    have ih := join_list_S (y :: r)
    rw [Txt.join, StrLaws.glued_eq_join] at ih ⊢
    show S x ++ S [] ++ Str.join (S []) ((y :: r).map S) = _
    rw [ih, S_append, S_append]
    simp
section
variable {w : World} {A : Around} {h : Heap} {env : Env}
theorem W_CallAttr {o : Expr} {name : Str} {apos pos : Pos} {args : List Expr} {Q : Value → Heap → Prop} (hbase : attributeBase o name env (eval o env) = eval o env)
    (hform : methodCallForm args.length (backTo pos (starEach args env)) [] = true) (hline : (apos.endLine == pos.line) = true)
    (H : Wp w A (eval o env) (fun ov h₁ => ∀ pl, Wp w A (getMethod ov name pl) (fun p h₂ => Wp w A (callWith pos p.1 p.2 (backTo pos (starEach args env)) []) Q h₂) h₁) h) :
    Wp w A (eval (.Call (.Attribute o name apos) args [] pos) env) Q h := by
  rw [arm_eval_Call, hbase]
  refine Wp.bind (H.mono fun ov h₁ q => Wp.bind (Wp.standAt ?_))
  have hpos : methodCallPos true o env apos pos = Pure.pure pos := by unfold methodCallPos; simp [hline]
  unfold methodCall
  have hform' : methodCallForm (args.length + ([] : List Keyword).length) (backTo pos (starEach args env)) (backToKw pos (keywordEach [] env)) = true := hform
  rw [hform']
  refine Wp.bind (Wp.holding ?_)
  show Wp w A (getMethod ov name _) _ _
  exact (q _).mono fun p h₂ q => Wp.bind (Wp.eq hpos q)
theorem W_gmJoin {x : Str} {t : Tok} {pl : Sem Bool} {Q : Value × List Value → Heap → Prop} (q : Q (.builtin "str.join", [.str x t]) h) : Wp w A (getMethod (.str x t) "join" pl) Q h :=
  Wp.mk fun s Q' E hs k => by subst hs; exact GM.join (k _ s.heap s.toks q)
theorem W_gmCount {x : Str} {t : Tok} {pl : Sem Bool} {Q : Value × List Value → Heap → Prop} (q : Q (.builtin "str.count", [.str x t]) h) : Wp w A (getMethod (.str x t) "count" pl) Q h :=
  Wp.mk fun s Q' E hs k => by subst hs; exact GM.count (k _ s.heap s.toks q)
theorem W_gmAppend {a : Addr} {vs : List Value} {pl : Sem Bool} {Q : Value × List Value → Heap → Prop} (x : LP h a vs) (q : Q (.builtin "list.append", [.ref a]) h) : Wp w A (getMethod (.ref a) "append" pl) Q h :=
  Wp.mk fun s Q' E hs k => by
    subst hs
    have hd : ∀ b, Value.ref a = .ref b → ∃ o, s.heap.get? b = some o ∧ o.dict = none := fun b e => by
      cases e
      obtain ⟨n, e⟩ := x.is
      exact ⟨_, e, rfl⟩
    with_reducible exact getMethod_builtin x.li.is.typeIs F.plainAttrs_list F.slot_list_append F.type_list_append hd (k _ s.heap s.toks q)
theorem W_join {D : Addr} {vs : List Value} {ls : List (List Nat)} {t : Tok} {Q : Value → Heap → Prop} (x : LI h D vs) (sv : SV vs ls) (hz : ls.flatten.length ≤ 1000000) (hz2 : ls.length ≤ 40000) (q : ∀ t', Q (.str (S ls.flatten) t') h) : Wp w A (call (.builtin "str.join") [.str (S []) t, .ref D]) Q h :=
  Wp.mk fun s Q' E hs k => by
    subst hs
    refine join_listW x.is sv.are (by decide) ?_ fun t' kk => by rw [join_list_S]; exact k _ s.heap _ (q _)
    have e : ((ls.map S).map (·.length)).sum = ls.flatten.length := by
      rw [List.map_map, List.length_flatten]
      rfl
    rw [e, List.length_map]
    omega
theorem W_newLP {vs : List Value} {Q : Value → Heap → Prop} (T : TH w h) (hz : vs.length ≤ sizeLine) (q : ∀ h' a, h.objs.size ≤ a → LP h' a vs → Kp [] h h' → Q (.ref a) h') : Wp w A (newList vs) Q h :=
  W_newList hz (q _ _ (Nat.le_refl _) ⟨T.size, 0, Heap.get?_push_size _ rfl⟩ (Kp.push _))
theorem W_append {a : Addr} {vs : List Value} {v : Value} {Q : Value → Heap → Prop} (x : LP h a vs) (hz : vs.length ≤ sizeLine) (q : ∀ h', LP h' a (vs ++ [v]) → Kp [a] h h' → Q .none h') : Wp w A (call (.builtin "list.append") [.ref a, v]) Q h :=
  Wp.mk fun s Q' E hs k => by
    subst hs
    exact wpAny_list_append_plain (hsz := by simpa using hz) x.is fun h' hl hs' => k _ h' s.toks (q h' ⟨x.lo, by simpa using hl⟩ (Kp.same hs'))
theorem W_lenL {a : Addr} {vs : List Value} {Q : Value → Heap → Prop} (x : LI h a vs) (hz : vs.length < 2 ^ 60) (q : ∀ t, Q (.int (vs.length : Int) t) h) : Wp w A (call (.builtin "len") [.ref a]) Q h :=
  Wp.mk fun s Q' E hs k => by
    subst hs
    have e : (vs.toArray.size : Int) = (vs.length : Int) := by simp
    exact call_len_list x.is (by rw [e]; omega) (by rw [e]; exact k _ s.heap _ (q _))
theorem W_lenS {x : List Nat} {t : Tok} {Q : Value → Heap → Prop} (hz : x.length < 2 ^ 60) (q : ∀ t, Q (.int (x.length : Int) t) h) : Wp w A (call (.builtin "len") [.str (S x) t]) Q h :=
  Wp.mk fun s Q' E hs k => by subst hs; exact P.len_str (by show ¬ ((x.length : Nat) : Int) ≥ _; omega) (k _ s.heap _ (q _))
theorem W_isBool {b : Bool} {Q : Value → Heap → Prop} (q : Q (.bool true) h) : Wp w A (call (.builtin "isinstance") [.bool b, .type "bool"]) Q h := Wp.mk fun s Q' E hs k => by subst hs; exact IsiPair.bool_bool (k _ s.heap s.toks q)
theorem W_isNot {x : Expr} {pos : Pos} {whole : Sem Value} {Q : Bool → Heap → Prop} (H : Wp w A (isTrue x env (eval x env)) (fun b h₁ => Q (!b) h₁) h) : Wp w A (isTrue (.UnaryOp .Not x pos) env whole) Q h :=
  Wp.mk fun s Q' E hs k => by subst hs; exact wpAny_isTrue_Not (H.use fun b h₁ tk q => k _ _ _ q)
theorem W_count {x : List Nat} {c : Nat} {t u : Tok} {Q : Value → Heap → Prop} (q : ∀ t, Q (.int ((x.filter (· == c)).length : Int) t) h) : Wp w A (call (.builtin "str.count") [.str (S x) t, .str (S [c]) u]) Q h :=
  Wp.mk fun s Q' E hs k => by subst hs; exact SC.count (by rw [count_list]; exact k _ s.heap _ (q _))
theorem W_evalNone {Q : Value → Heap → Prop} (q : Q .none h) : Wp w A (evalPart none env) Q h := Wp.eq rfl q
theorem W_sliceS {value : Expr} {lower upper : Option Expr} {p pos : Pos} {Q : Value → Heap → Prop} (ht : ∀ o r, letTemporaryGo value o r = Pure.pure ())
    (H : Wp w A (eval value env) (fun o h₁ => Wp w A (evalPart lower env) (fun vl h₂ => Wp w A (evalPart upper env) (fun vu h₃ =>
      ∃ x t l u, o = .str x t ∧ vl = partValue l ∧ vu = partValue u ∧ x.length ≤ sizeLine ∧ ∀ h' t', Kp [] h₃ h' → Q (.str (Txt.slice x (l.map (·.1)) (u.map (·.1))) t') h') h₂) h₁) h) :
    Wp w A (eval (.Subscript value (.Slice lower upper none p) pos) env) Q h :=
  Wp.mk fun s Q' E hs k => by
    subst hs
    refine wpAny_Subscript_str_slice (H.use fun o h₁ tk q => q.on fun vl h₂ tk₂ q => q.on fun vu h₃ tk₃ q => ?_) ht
    obtain ⟨x, t, l, u, rfl, rfl, rfl, hz, q⟩ := q
    refine ⟨x, t, l, u, rfl, rfl, rfl, post_val_or_str ⟨Nat.le_trans (Txt.slice_le x _ _) hz, fun t' kk => k _ _ _ (q _ t' (Kp.push _))⟩⟩
theorem W_sum {D : Addr} {vs : List Value} {ns : List Int} {Q : Value → Heap → Prop} (r : A.handled = none) (T : TH w h) (x : LI h D vs) (hv : IV vs ns) (q : ∀ h' t, Kp [] h h' → Q (.int ns.sum t) h') : Wp w A (call (.builtin "sum") [.ref D]) Q h :=
  Wp.mk fun s Q' E hs k => by
    subst hs
    refine call_sum_walkG ((W_iterL (A := A.in1) (Q := fun it h' => Iter w A.in1 s.heap it vs.length (fun i v => vs[i]? = some v) [D] h') r T x fun it h' hi _ => hi).use fun it h₂ tk hi => ?_)
    obtain ⟨I, St, rfl, W, hst, hex, hI, kk, hF⟩ := hi
    refine ⟨I, _, _, _, _, St, fun i => ns.getD i 0, rfl, W, hst, fun b hb => (hF b hb).1, fun i v e => ?_, fun h' tk t' hk => ?_⟩
    · obtain ⟨x, t, e1, e2⟩ := hv.get' e
      exact ⟨t, by rw [e2]; simp [List.getD, e1]⟩
    have e : preSum (fun i => ns.getD i 0) vs.length = ns.sum := by
      rw [preSum_is _ _ (by rw [hv.len]; exact Nat.le_refl _), hv.len, List.take_length]
    rw [e]
    refine k _ h' _ (q h' t' (kk.local (X := [I]) (fun b o hb e => hk b o hb e) fun a ha => by rw [List.mem_singleton.mp ha]; exact fresh_size _ _ hI))
end
end Mine
end PartB8

-- B9
section PartB9
open PySem PySem.W PyProof.Rows PySem.Calls
set_option Elab.async false
set_option maxRecDepth 100000
set_option linter.unusedVariables false
namespace Mine
section
variable {w : World}
theorem mb_range : mbT w (Str.ofString "range") = some (.type "range") := by kernel_rfl
theorem mb_len : mbT w (Str.ofString "len") = some (.builtin "len") := by kernel_rfl
theorem mb_sum : mbT w (Str.ofString "sum") = some (.builtin "sum") := by kernel_rfl
theorem mb_isinstance : mbT w (Str.ofString "isinstance") = some (.builtin "isinstance") := by kernel_rfl
theorem mb_bool : mbT w (Str.ofString "bool") = some (.type "bool") := by kernel_rfl
theorem mb_iter : mbT w (Str.ofString "iter") = some (.builtin "iter") := by kernel_rfl
theorem mg_b1 : mgT w (Str.ofString "in_table_b1") = some (.ref 39) := by kernel_rfl
theorem mg_lex : mgT w (Str.ofString "_netrclex") = some (.ref 77) := by kernel_rfl
theorem mg_held : mgT w (Str.ofString "_law_held") = some (.ref 88) := by kernel_rfl
theorem mg_row : mgT w (Str.ofString "_law_row") = some (.ref 102) := by kernel_rfl
theorem mg_word : mgT w (Str.ofString "_law_word") = some (.ref 107) := by kernel_rfl
theorem mg_joined : mgT w (Str.ofString "_law_joined") = some (.ref 112) := by kernel_rfl
theorem mg_left : mgT w (Str.ofString "_law_left") = some (.ref 117) := by kernel_rfl
theorem mg_stream : mgT w (Str.ofString "_law_stream") = some (.ref 124) := by kernel_rfl
theorem mg_written : mgT w (Str.ofString "_law_written") = some (.ref 131) := by kernel_rfl
theorem mg_again : mgT w (Str.ofString "_law_again") = some (.ref 138) := by kernel_rfl
theorem mg_twos : mgT w (Str.ofString "_law_twos") = some (.ref 145) := by kernel_rfl
end
end Mine
end PartB9

-- F4
section PartF4
open PySem PySem.W PyProof.Rows PySem.Calls
set_option Elab.async false
set_option maxRecDepth 100000
set_option linter.unusedVariables false
namespace Mine
local macro_rules | `(tactic| walk_at "ml") => `(tactic| refine W_local (Fr.ns (by assumption)) (by kernel_rfl) (by kernel_rfl) (by kernel_rfl) (by rfl) ?_)
local macro_rules | `(tactic| walk_at "mb") => `(tactic| (refine W_builtin (TH.glob (Fr.T (by assumption))) (TH.blt (Fr.T (by assumption))) (by kernel_rfl) (by kernel_rfl) (by kernel_rfl) (by kernel_rfl) (by rfl) ?_))
local macro_rules | `(tactic| walk_at "mg") => `(tactic| (refine W_global (TH.glob (Fr.T (by assumption))) (by kernel_rfl) (by kernel_rfl) (by kernel_rfl) (by rfl) ?_))
local macro_rules | `(tactic| walk_at "mdm") => `(tactic| (refine W_BinOp (W_BinOp ?_); walk_at "ml"; refine W_int fun _ => W_divI (by decide) (by decide) fun _ => W_int fun _ => W_modI (by decide) fun _ => ?_))
local macro_rules | `(tactic| walk_at "ms") => `(tactic| refine W_st (by assumption) (by kernel_rfl) (by kernel_rfl) ?_)
theorem szl {n : Nat} (h : n ≤ 100) : n ≤ sizeLine := Nat.le_trans h (by decide)
/-- what the law makes of a number -/
structure Row where
  r : Nat
  s : Nat
  t : Nat
  a : List Nat
  b : List Nat
  c : List Nat
  f : Nat
noncomputable def rowOf (n : Int) : Row where
  r := (n % 8).toNat
  s := (n / 8 % 8).toNat
  t := (n / 64 % 8).toNat
  a := [heldC (n / 512 % 32)]
  b := [heldC (n / 16384 % 32), heldC (n / 512 % 32)]
  c := [strangeC ((97 + n / 16777216) % 1112064).toNat]
  f := (n / 524288 % 32).toNat
/-- where a row stands, all of it at lo or above -/
noncomputable def RowAt (lo : Nat) (h : Heap) (v : Value) (R : Row) : Prop := ∃ (a l₁ l₂ : Nat) (t₁ t₂ t₃ t₄ t₅ t₆ t₇ : Tok), v = .ref a ∧ lo ≤ a ∧ lo ≤ l₁ ∧ lo ≤ l₂ ∧ TI h a [.ref l₁, .ref l₂, .int R.f t₁] ∧ LI h l₁ [.int R.r t₂, .int R.s t₃, .int R.t t₄] ∧ LI h l₂ [.str (S R.a) t₅, .str (S R.b) t₆, .str (S R.c) t₇]
theorem RowAt.keep {lo : Nat} {h h' : Heap} {v : Value} {R : Row} {X : List Addr} (x : RowAt lo h v R) (k : Kp X h h') (hX : ∀ a : Nat, a ∈ X → a < lo) : RowAt lo h' v R := by
  obtain ⟨a, l₁, l₂, t₁, t₂, t₃, t₄, t₅, t₆, t₇, e, y1, y2, y3, x1, x2, x3⟩ := x
  exact ⟨a, l₁, l₂, t₁, t₂, t₃, t₄, t₅, t₆, t₇, e, y1, y2, y3, x1.keep k fun m => by have := hX a m; omega, x2.keep k fun m => by have := hX l₁ m; omega, x3.keep k fun m => by have := hX l₂ m; omega⟩
theorem RowAt.keep0 {lo : Nat} {h h' : Heap} {v : Value} {R : Row} (x : RowAt lo h v R) (k : Kp [] h h') : RowAt lo h' v R := x.keep k fun _ m => nomatch m
theorem RowAt.le {lo lo' : Nat} {h : Heap} {v : Value} {R : Row} (x : RowAt lo h v R) (k : lo' ≤ lo) : RowAt lo' h v R := by
  obtain ⟨a, l₁, l₂, t₁, t₂, t₃, t₄, t₅, t₆, t₇, e, y1, y2, y3, x1, x2, x3⟩ := x
  exact ⟨a, l₁, l₂, t₁, t₂, t₃, t₄, t₅, t₆, t₇, e, by omega, by omega, by omega, x1, x2, x3⟩
noncomputable def fRow : FuncData := fdAt (stm 9) (St "_law_row") 3 (.str (St "law_pk0024_01") 323) (.ref 101)
section
variable {w : World} {A : Around} {h : Heap}
theorem C_row {n : Int} {t : Tok} {Q : Value → Heap → Prop} (r : Rm A 2) (T : TH w h) (q : ∀ h' v, Kp [] h h' → RowAt h.objs.size h' v (rowOf n) → Q v h') : Wp w A (call (.ref 102) [.int n t]) Q h := by
  refine C_fn (Z := []) (fd := fRow) (binds := [(St "number", .int n t)]) T r.room (T 102 (ob102 w.params) (by decide) (by kernel_rfl)) rfl (T.codeRec (o := ob101 w.params) (by decide) (by kernel_rfl) rfl (by rfl)) (by rfl) (by kernel_rfl) (by kernel_rfl) (by kernel_rfl) (by kernel_rfl) (by kernel_rfl) (by kernel_rfl) ?_
  intro h₁ L f
  have r' := r.deeper (env := callEnv fRow L 102)
  refine W_cons (W_AssignSw [St "one", St "two"] (by rfl) (by rfl) (W_Tuple (W_items_cons (by rfl) (W_CallName ?_))))
  walk_at "mg"
  refine W_fn (o := ob88 w.params) (by rfl) (by rfl) (W_items_cons (by rfl) ?_)
  walk_at "mdm"
  refine W_items_nil ⟨f.T 88 _ (by decide) (by kernel_rfl), C_held r' f.T fun h₂ t₂ k₂ => ?_⟩
  have f₂ := f.step k₂
  refine W_items_cons (by rfl) (W_CallName ?_)
  walk_at "mg"
  refine W_fn (o := ob88 w.params) (by rfl) (by rfl) (W_items_cons (by rfl) ?_)
  walk_at "mdm"
  refine W_items_nil ⟨f₂.T 88 _ (by decide) (by kernel_rfl), C_held r' f₂.T fun h₃ t₃ k₃ => W_items_nil (W_newT (f₂.step k₃).T (szl (by simp)) fun h₄ a ha ta k₄ => W_unpackT r'.hd ta rfl fun h₅ k₅ => ?_)⟩
  have f₅ := ((f₂.step k₃).step k₄).step k₅
  refine W_ao (W_bindName ?_)
  walk_at "ms"
  intro h₆ f₆ k₆
  refine W_ao (W_bindName ?_)
  walk_at "ms"
  intro h₇ f₇ k₇
  refine W_ao_nil ?_
  refine W_cons (W_Assign (by rfl) (W_CallName ?_))
  walk_at "mg"
  refine W_fn (o := ob95 w.params) (by rfl) (by rfl) (W_items_cons (by rfl) (W_BinOp (W_BinOp (W_int fun _ => W_BinOp ?_))))
  walk_at "ml"
  refine W_int fun _ => W_divI (by decide) (by decide) fun _ => W_addI fun _ => W_int fun _ => W_modI (by decide) fun _ => W_items_nil ⟨f₇.T 95 _ (by decide) (by kernel_rfl), ?_⟩
  rw [fmod_e _ (by decide), fdiv_e _ (by decide)]
  obtain ⟨c, hc⟩ : ∃ c : Nat, (c : Int) = (97 + n / 16777216) % 1112064 := ⟨((97 + n / 16777216) % 1112064).toNat, by omega⟩
  rw [← hc]
  refine C_strange (by omega) r' f₇.T fun h₈ t₈ k₈ => ?_
  have f₈ := f₇.step k₈
  walk_at "ms"
  intro h₉ f₉ k₉
  refine W_cons (W_Return (W_Tuple (W_items_cons (by rfl) (W_List (W_items_cons (by rfl) (W_BinOp ?_))))))
  walk_at "ml"
  refine W_int fun _ => W_modI (by decide) fun _ => W_items_cons (by rfl) ?_
  walk_at "mdm"
  refine W_items_cons (by rfl) ?_
  walk_at "mdm"
  refine W_items_nil (W_newL f₉.T (szl (by simp)) fun hA l₁ hl₁ x₁ kA => ?_)
  have fA := f₉.step kA
  refine W_items_cons (by rfl) (W_List (W_items_cons (by rfl) ?_))
  walk_at "ml"
  refine W_items_cons (by rfl) (W_BinOp ?_)
  walk_at "ml"
  walk_at "ml"
  refine W_addS (by rw [sizeLine_is]; show 1 + 1 ≤ _; decide) fun _ => W_items_cons (by rfl) ?_
  walk_at "ml"
  refine W_items_nil (W_newL fA.T (szl (by simp)) fun hB l₂ hl₂ x₂ kB => ?_)
  have fB := fA.step kB
  refine W_items_cons (by rfl) ?_
  walk_at "mdm"
  refine W_items_nil (W_newT fB.T (szl (by simp)) fun hC a ha x₃ kC => ?_)
  have fC := fB.step kC
  refine q _ _ fC.k ?_
  have lt1 : h.objs.size < h₉.objs.size := Nat.lt_of_le_of_lt f₉.fr f₉.lt
  have lt2 : h.objs.size < hA.objs.size := Nat.lt_of_le_of_lt fA.fr fA.lt
  have lt3 : h.objs.size < hB.objs.size := Nat.lt_of_le_of_lt fB.fr fB.lt
  have x₁' := (x₁.keep0 kB).keep0 kC
  have x₂' := x₂.keep0 kC
  simp only [fmod_e _ (show (0:Int) ≤ 8 by decide), fmod_e _ (show (0:Int) ≤ 32 by decide), fdiv_e _ (show (0:Int) ≤ 8 by decide), fdiv_e _ (show (0:Int) ≤ 64 by decide), fdiv_e _ (show (0:Int) ≤ 512 by decide), fdiv_e _ (show (0:Int) ≤ 16384 by decide), fdiv_e _ (show (0:Int) ≤ 524288 by decide)] at x₁' x₂' x₃
  have e1 : n % 8 = ((n % 8).toNat : Int) := by omega
  have e2 : n / 8 % 8 = ((n / 8 % 8).toNat : Int) := by omega
  have e3 : n / 64 % 8 = ((n / 64 % 8).toNat : Int) := by omega
  have e4 : n / 524288 % 32 = ((n / 524288 % 32).toNat : Int) := by omega
  have e5 : c = ((97 + n / 16777216) % 1112064).toNat := by omega
  rw [e1, e2, e3] at x₁'
  rw [e4] at x₃
  rw [e5] at x₂'
  exact ⟨a, l₁, l₂, _, _, _, _, _, _, _, rfl, Nat.le_trans (Nat.le_of_lt lt3) ha, Nat.le_trans (Nat.le_of_lt lt1) hl₁, Nat.le_trans (Nat.le_of_lt lt2) hl₂, x₃, x₁', x₂'⟩
end
end Mine
end PartF4

-- F5
section PartF5
open PySem PySem.W PyProof.Rows PySem.Calls
set_option Elab.async false
set_option maxRecDepth 100000
set_option maxHeartbeats 4000000
set_option linter.unusedVariables false
namespace Mine
local macro_rules | `(tactic| walk_at "ml") => `(tactic| refine W_local (Fr.ns (by assumption)) (by kernel_rfl) (by kernel_rfl) (by kernel_rfl) (by rfl) ?_)
local macro_rules | `(tactic| walk_at "mn") => `(tactic| refine W_local (by assumption) (by kernel_rfl) (by kernel_rfl) (by kernel_rfl) (by rfl) ?_)
local macro_rules | `(tactic| walk_at "mb") => `(tactic| (refine W_builtin (TH.glob (Fr.T (by assumption))) (TH.blt (Fr.T (by assumption))) (by kernel_rfl) (by kernel_rfl) (by kernel_rfl) (by kernel_rfl) (by first | with_reducible exact mb_range | with_reducible exact mb_len | with_reducible exact mb_sum | with_reducible exact mb_isinstance | with_reducible exact mb_bool | with_reducible exact mb_iter) ?_))
local macro_rules | `(tactic| walk_at "mg") => `(tactic| (refine W_global (TH.glob (Fr.T (by assumption))) (by kernel_rfl) (by kernel_rfl) (by kernel_rfl) (by first | with_reducible exact mg_b1 | with_reducible exact mg_lex | with_reducible exact mg_row | with_reducible exact mg_word | with_reducible exact mg_joined | with_reducible exact mg_left | with_reducible exact mg_stream | with_reducible exact mg_written | with_reducible exact mg_again | with_reducible exact mg_twos) ?_))
local macro_rules | `(tactic| walk_at "ms") => `(tactic| refine W_st (by assumption) (by kernel_rfl) (by kernel_rfl) ?_)
noncomputable def Row.run (R : Row) (k : Nat) : Nat := [R.r, R.s, R.t].getD k 0
noncomputable def Row.sgn (R : Row) (k : Nat) : List Nat := [R.a, R.b, R.c].getD k []
noncomputable def Row.piece (R : Row) (n k : Nat) : List Nat := List.replicate (R.run k / 2 ^ n) 92 ++ R.sgn k
noncomputable def Row.word (R : Row) (n : Nat) : List Nat := ((List.range 3).map (R.piece n)).flatten
noncomputable def Row.joined (R : Row) (n : Nat) : List Nat := List.replicate (R.r / 2 ^ n + R.s / 2 ^ n + R.t / 2 ^ n) 92 ++ R.c
structure Row.Sz (R : Row) : Prop where
  r : R.r < 8
  s : R.s < 8
  t : R.t < 8
  f : R.f < 32
  a : R.a.length = 1
  b : R.b.length = 2
  c : R.c.length = 1
theorem Row.Sz.run {R : Row} (z : R.Sz) (k : Nat) : R.run k < 8 := by
  have h1 := z.r; have h2 := z.s; have h3 := z.t
  match k with
  | 0 => exact h1
  | 1 => exact h2
  | 2 => exact h3
  | _ + 3 => simp [Row.run]
theorem Row.Sz.sgn {R : Row} (z : R.Sz) (k : Nat) : (R.sgn k).length ≤ 2 := by
  have h1 := z.a; have h2 := z.b; have h3 := z.c
  match k with
  | 0 => show R.a.length ≤ 2; omega
  | 1 => show R.b.length ≤ 2; omega
  | 2 => show R.c.length ≤ 2; omega
  | _ + 3 => simp [Row.sgn]
theorem Row.Sz.piece {R : Row} (z : R.Sz) (n k : Nat) : (R.piece n k).length ≤ 9 := by
  have h1 := z.run k; have h2 := z.sgn k
  have h3 : R.run k / 2 ^ n ≤ R.run k := Nat.div_le_self _ _
  unfold Row.piece
  rw [List.length_append, List.length_replicate]
  omega
theorem Row.Sz.word {R : Row} (z : R.Sz) (n : Nat) : (R.word n).length ≤ 27 := by
  have h0 := z.piece n 0; have h1 := z.piece n 1; have h2 := z.piece n 2
  show ([R.piece n 0, R.piece n 1, R.piece n 2].flatten).length ≤ 27
  simp only [List.flatten_cons, List.flatten_nil, List.length_append, List.length_nil]
  omega
theorem Row.Sz.joined {R : Row} (z : R.Sz) (n : Nat) : (R.joined n).length ≤ 22 := by
  have h1 := z.r; have h2 := z.s; have h3 := z.t; have h4 := z.c
  have e1 : R.r / 2 ^ n ≤ R.r := Nat.div_le_self _ _
  have e2 : R.s / 2 ^ n ≤ R.s := Nat.div_le_self _ _
  have e3 : R.t / 2 ^ n ≤ R.t := Nat.div_le_self _ _
  unfold Row.joined
  rw [List.length_append, List.length_replicate]
  omega
theorem div_pow_e (a n : Nat) : ((a : Int)).fdiv ((2 : Int) ^ ((n : Int)).toNat) = ((a / 2 ^ n : Nat) : Int) := by
  have e : (2 : Int) ^ ((n : Int)).toNat = ((2 ^ n : Nat) : Int) := by simp
  rw [e, fdiv_e _ (Int.natCast_nonneg _)]
  exact (Int.natCast_ediv a (2 ^ n)).symm
theorem pow_ok (n : Nat) (h : n ≤ 5) : (2 : Int) ^ ((n : Int)).toNat ≠ 0 ∧ ((2 : Int) ^ ((n : Int)).toNat).natAbs < 1073741824 := by
  have : n = 0 ∨ n = 1 ∨ n = 2 ∨ n = 3 ∨ n = 4 ∨ n = 5 := by omega
  rcases this with rfl | rfl | rfl | rfl | rfl | rfl <;> decide
noncomputable def fWord : FuncData := fdAt (stm 10) (St "_law_word") 3 (.str (St "law_pk0024_01") 323) (.ref 106)
noncomputable def fJoined : FuncData := fdAt (stm 11) (St "_law_joined") 3 (.str (St "law_pk0024_01") 323) (.ref 111)
section
variable {w : World} {A : Around} {h : Heap} {env : Env}
theorem base_const {c : Const} {k : Nat} {p : Pos} {n : Str} {env : Env} {m : Sem Value} : attributeBase (.Constant c k p) n env m = m := rfl
theorem base_name {x : Str} {p : Pos} {n : Str} {env : Env} {m : Sem Value} : attributeBase (.Name x p) n env m = m := rfl
theorem W_row0 {value slice : Expr} {R : Row} {lo : Nat} {a : Nat} {t : Tok} {Q : Value → Heap → Prop} (x : RowAt lo h (.ref a) R) (hs' : ∀ i, subscripted slice false (.ref a) i = operate [.ref a, i] (getItem (.ref a) i))
    (q : ∀ l₁, (∃ t₂ t₃ t₄, LI h l₁ [.int R.r t₂, .int R.s t₃, .int R.t t₄]) → Q (.ref l₁) h) : Wp w A (subscriptTail value slice (.ref a) (.int 0 t)) Q h := by
  obtain ⟨a', l₁, l₂, t₁, t₂, t₃, t₄, t₅, t₆, t₇, e, y1, y2, y3, x1, x2, x3⟩ := x
  cases e
  exact W_tailT x1.is (hs' _) (W_getT (i := 0) x1.is (by decide) rfl (q _ ⟨_, _, _, x2⟩))
theorem W_row1 {value slice : Expr} {R : Row} {lo : Nat} {a : Nat} {t : Tok} {Q : Value → Heap → Prop} (x : RowAt lo h (.ref a) R) (hs' : ∀ i, subscripted slice false (.ref a) i = operate [.ref a, i] (getItem (.ref a) i))
    (q : ∀ l₁, (∃ t₂ t₃ t₄, LI h l₁ [.str (S R.a) t₂, .str (S R.b) t₃, .str (S R.c) t₄]) → Q (.ref l₁) h) : Wp w A (subscriptTail value slice (.ref a) (.int 1 t)) Q h := by
  obtain ⟨a', l₁, l₂, t₁, t₂, t₃, t₄, t₅, t₆, t₇, e, y1, y2, y3, x1, x2, x3⟩ := x
  cases e
  exact W_tailT x1.is (hs' _) (W_getT (i := 1) x1.is (by decide) rfl (q _ ⟨_, _, _, x3⟩))
theorem W_row2 {value slice : Expr} {R : Row} {lo : Nat} {a : Nat} {t : Tok} {Q : Value → Heap → Prop} (x : RowAt lo h (.ref a) R) (hs' : ∀ i, subscripted slice false (.ref a) i = operate [.ref a, i] (getItem (.ref a) i))
    (q : ∀ t, Q (.int R.f t) h) : Wp w A (subscriptTail value slice (.ref a) (.int 2 t)) Q h := by
  obtain ⟨a', l₁, l₂, t₁, t₂, t₃, t₄, t₅, t₆, t₇, e, y1, y2, y3, x1, x2, x3⟩ := x
  cases e
  exact W_tailT x1.is (hs' _) (W_getT (i := 2) x1.is (by decide) rfl (q _))
theorem C_word {R : Row} {lo : Nat} {a : Nat} {n : Nat} {t : Tok} {Q : Value → Heap → Prop} (z : R.Sz) (hn : n ≤ 5) (r : Rm A 1) (T : TH w h) (x : RowAt lo h (.ref a) R) (q : ∀ h' t', Kp [] h h' → Q (.str (S (R.word n)) t') h') :
    Wp w A (call (.ref 107) [.ref a, .int (n : Int) t]) Q h := by
  refine C_fc (Z := []) (fd := fWord) (binds := [(St "row", .ref a), (St "times", .int (n : Int) t)]) (l := []) (cs := [some (.ref a), some (.int (n : Int) t)]) [St "row", St "times"] T r.room (T 107 (ob107 w.params) (by decide) (by kernel_rfl)) rfl (T.codeRec (o := ob106 w.params) (by decide) (by kernel_rfl) rfl (by rfl)) (by rfl) (by kernel_rfl) (by kernel_rfl) (by kernel_rfl) (by kernel_rfl) (by kernel_rfl) (fun L => by kernel_rfl) (fun L => by kernel_rfl) (fun L => by kernel_rfl) (fun L => by kernel_rfl) ?_
  intro h₁ L f
  have r' := r.deeper (env := callEnvC fWord L 107)
  refine W_cons (W_Return ?_)
  refine W_CallAttr base_const (by kernel_rfl) (by kernel_rfl) ?_
  refine W_strS [] (by kernel_rfl) fun t₀ pl => ?_
  refine W_gmJoin ?_
  refine W_fv (by rfl) (by rfl) (by rfl) (W_items_cons (by rfl) ?_)
  refine W_ListComp (fun i ys _ => SV ys ((List.range i).map (R.piece n))) (by rfl) (by kernel_rfl) (by kernel_rfl) (by kernel_rfl) (by kernel_rfl) (fun _ => by rfl) (W_CallName ?_)
  walk_at "mb"
  refine W_fv (by rfl) (by rfl) (by rfl) (W_items_cons (by rfl) (W_int fun t₁ => W_items_nil (W_range1 fun h₂ rg xr k₂ => ?_)))
  have f₂ := f.step k₂
  refine W_iterR (a := 0) (b := 3) (n := 3) r'.hd f₂.T xr (by decide) (by decide) rfl fun it h₃ hi k₃ => ⟨3, _, _, hi, by rw [sizeLine_is]; decide, ⟨fun _ => SV.nil, ?_⟩, ?_⟩
  · intro i ys v X C h₄ hlt hP hC loC hCh k₄ hX hJ
    obtain ⟨u, rfl⟩ := hP
    refine W_tests0 ⟨Kp.refl, fun e => (nomatch e), fun _ => W_BinOp (W_BinOp (W_strS [92] (by kernel_rfl) fun t₂ => W_BinOp (W_Subscript (W_Subscript ?_))))⟩
    have f₄ := f₂.step k₄
    have x₄ : RowAt lo h₄ (.ref a) R := x.keep0 f₄.k
    refine W_cell (c := L + 1 + 0) (f₄.cell 0 _ rfl) (by kernel_rfl) (by kernel_rfl) (by kernel_rfl) (by kernel_rfl) ?_
    refine W_int fun t₃ => W_row0 x₄ (by intro i; rfl) fun l₁ ⟨t₄, t₅, t₆, x1⟩ => ?_
    walk_at "mn"
    have e1 : (0 + i) = i := Nat.zero_add i
    rw [e1]
    have g1 : ∃ t, ([.int (R.r : Int) t₄, .int (R.s : Int) t₅, .int (R.t : Int) t₆] : List Value).toArray[i]? = some (.int (R.run i : Int) t) := by
      have : i = 0 ∨ i = 1 ∨ i = 2 := by omega
      rcases this with rfl | rfl | rfl <;> exact ⟨_, rfl⟩
    obtain ⟨t₇, g1⟩ := g1
    refine W_tailL x1.is (by rfl) (W_getL x1.is (by omega) g1 (W_BinOp (W_int fun t₈ => ?_)))
    refine W_cell (c := L + 1 + 1) (f₄.cell 1 _ rfl) (by kernel_rfl) (by kernel_rfl) (by kernel_rfl) (by kernel_rfl) ?_
    refine W_powI (by omega) (by omega) (by decide) fun t₉ => W_divI (pow_ok n hn).1 (pow_ok n hn).2 fun t₁₀ => ?_
    rw [div_pow_e]
    have h8 := z.run i
    have hle : R.run i / 2 ^ n ≤ R.run i := Nat.div_le_self _ _
    refine W_mulS (by omega) fun t₁₁ => W_Subscript (W_Subscript ?_)
    refine W_cell (c := L + 1 + 0) (f₄.cell 0 _ rfl) (by kernel_rfl) (by kernel_rfl) (by kernel_rfl) (by kernel_rfl) ?_
    refine W_int fun t₁₂ => W_row1 x₄ (by intro i; rfl) fun l₂ ⟨t₄, t₅, t₆, x2⟩ => ?_
    walk_at "mn"
    rw [e1]
    have g2 : ∃ t, ([.str (S R.a) t₄, .str (S R.b) t₅, .str (S R.c) t₆] : List Value).toArray[i]? = some (.str (S (R.sgn i)) t) := by
      have : i = 0 ∨ i = 1 ∨ i = 2 := by omega
      rcases this with rfl | rfl | rfl <;> exact ⟨_, rfl⟩
    obtain ⟨t₁₃, g2⟩ := g2
    have hz := z.piece n i
    refine W_tailL x2.is (by rfl) (W_getL x2.is (by omega) g2 (W_addS (by have := hz; unfold Row.piece at this; rw [List.length_append] at this; rw [sizeLine_is]; omega) fun t₁₄ => ⟨Kp.refl, fun h' _ => ?_⟩))
    rw [List.range_succ, List.map_append]
    exact (hJ h₄ Kp.refl).snoc
  · intro D h₄ ys hJ hD hlo k₄
    have hz := z.word n
    refine W_items_nil (W_join hD hJ (by show (R.word n).length ≤ _; omega) (by simp) fun t' => ?_)
    exact q _ _ (f₂.k.trans k₄)
theorem C_joined {R : Row} {lo : Nat} {a : Nat} {n : Nat} {t : Tok} {Q : Value → Heap → Prop} (z : R.Sz) (hn : n ≤ 5) (r : Rm A 1) (T : TH w h) (x : RowAt lo h (.ref a) R) (q : ∀ h' t', Kp [] h h' → Q (.str (S (R.joined n)) t') h') :
    Wp w A (call (.ref 112) [.ref a, .int (n : Int) t]) Q h := by
  refine C_fc (Z := []) (fd := fJoined) (binds := [(St "row", .ref a), (St "times", .int (n : Int) t)]) (l := [(St "row", .ref a)]) (cs := [some (.int (n : Int) t)]) [St "times"] T r.room (T 112 (ob112 w.params) (by decide) (by kernel_rfl)) rfl (T.codeRec (o := ob111 w.params) (by decide) (by kernel_rfl) rfl (by rfl)) (by rfl) (by kernel_rfl) (by kernel_rfl) (by kernel_rfl) (by kernel_rfl) (by kernel_rfl) (fun L => by kernel_rfl) (fun L => by kernel_rfl) (fun L => by kernel_rfl) (fun L => by kernel_rfl) ?_
  intro h₁ L f
  have r' := r.deeper (env := callEnvC fJoined L 112)
  have x₁ := x.keep0 f.k
  refine W_cons (W_Return (W_BinOp (W_BinOp (W_strS [92] (by kernel_rfl) fun t₀ => W_CallName ?_))))
  walk_at "mb"
  refine W_fv (by rfl) (by rfl) (by rfl) (W_items_cons (by rfl) ?_)
  refine W_ListComp (fun i ys _ => IV ys ((List.range i).map fun k => ((R.run k / 2 ^ n : Nat) : Int))) (by rfl) (by kernel_rfl) (by kernel_rfl) (by kernel_rfl) (by kernel_rfl) (fun _ => by rfl) (W_Subscript ?_)
  walk_at "ml"
  refine W_int fun t₁ => W_row0 x₁ (by intro i; rfl) fun l₁ ⟨t₄, t₅, t₆, x1⟩ => W_iterL r'.hd f.T x1 fun it h₃ hi k₃ => ⟨_, _, _, hi, szl (by simp), ⟨fun _ => IV.nil, ?_⟩, ?_⟩
  · intro i ys v X C h₄ hlt hP hC loC hCh k₄ hX hJ
    have f₄ := f.step k₄
    have g1 : ∃ t, ([.int (R.r : Int) t₄, .int (R.s : Int) t₅, .int (R.t : Int) t₆] : List Value)[i]? = some (.int (R.run i : Int) t) := by
      have : i = 0 ∨ i = 1 ∨ i = 2 := by have : i < 3 := hlt; omega
      rcases this with rfl | rfl | rfl <;> exact ⟨_, rfl⟩
    obtain ⟨t₇, g1⟩ := g1
    rw [hP] at g1
    obtain rfl := Option.some.inj g1
    refine W_tests0 ⟨Kp.refl, fun e => (nomatch e), fun _ => W_BinOp ?_⟩
    walk_at "mn"
    refine W_BinOp (W_int fun t₈ => ?_)
    refine W_cell (c := L + 1 + 0) (f₄.cell 0 _ rfl) (by kernel_rfl) (by kernel_rfl) (by kernel_rfl) (by kernel_rfl) ?_
    refine W_powI (by omega) (by omega) (by decide) fun t₉ => W_divI (pow_ok n hn).1 (pow_ok n hn).2 fun t₁₀ => ⟨Kp.refl, fun h' _ => ?_⟩
    rw [div_pow_e, List.range_succ, List.map_append]
    exact (hJ h₄ Kp.refl).snoc
  · intro D h₄ ys hJ hD hlo k₄
    have f₄ := f.step k₄
    refine W_items_nil (W_sum r'.hd f₄.T hD hJ fun h₅ t₈ k₅ => ?_)
    have f₅ := f₄.step k₅
    have e : ((List.range 3).map fun k => ((R.run k / 2 ^ n : Nat) : Int)).sum = ((R.r / 2 ^ n + R.s / 2 ^ n + R.t / 2 ^ n : Nat) : Int) := by
      show (R.r / 2 ^ n : Nat) + (((R.s / 2 ^ n : Nat) : Int) + (((R.t / 2 ^ n : Nat) : Int) + 0)) = _
      omega
    show Wp w _ (binaryOp .Mult (.str (S [92]) t₀) (.int ((List.range 3).map fun k => ((R.run k / 2 ^ n : Nat) : Int)).sum t₈)) _ _
    rw [e]
    have hz := z.joined n
    unfold Row.joined at hz
    rw [List.length_append, List.length_replicate] at hz
    refine W_mulS (by omega) fun t₉ => W_Subscript (W_Subscript ?_)
    walk_at "ml"
    refine W_int fun t₁₂ => W_row1 (x.keep0 f₅.k) (by intro i; rfl) fun l₂ ⟨t₄, t₅, t₆, x2⟩ => W_int fun t₁₃ => ?_
    refine W_tailL x2.is (by rfl) (W_getL (i := 2) x2.is (by decide) rfl (W_addS (by rw [List.length_replicate, sizeLine_is]; omega) fun t₁₄ => ?_))
    exact q _ _ f₅.k
end
end Mine
end PartF5

-- F6
section PartF6
open PySem PySem.W PyProof.Rows PySem.Calls
set_option Elab.async false
set_option maxRecDepth 100000
set_option maxHeartbeats 4000000
set_option linter.unusedVariables false
namespace Mine
local macro_rules | `(tactic| walk_at "ml") => `(tactic| refine W_local (Fr.ns (by assumption)) (by kernel_rfl) (by kernel_rfl) (by kernel_rfl) (by rfl) ?_)
local macro_rules | `(tactic| walk_at "mn") => `(tactic| refine W_local (by assumption) (by kernel_rfl) (by kernel_rfl) (by kernel_rfl) (by rfl) ?_)
local macro_rules | `(tactic| walk_at "mb") => `(tactic| (refine W_builtin (TH.glob (Fr.T (by assumption))) (TH.blt (Fr.T (by assumption))) (by kernel_rfl) (by kernel_rfl) (by kernel_rfl) (by kernel_rfl) (by first | with_reducible exact mb_range | with_reducible exact mb_len | with_reducible exact mb_sum | with_reducible exact mb_isinstance | with_reducible exact mb_bool | with_reducible exact mb_iter) ?_))
local macro_rules | `(tactic| walk_at "mg") => `(tactic| (refine W_global (TH.glob (Fr.T (by assumption))) (by kernel_rfl) (by kernel_rfl) (by kernel_rfl) (by first | with_reducible exact mg_b1 | with_reducible exact mg_lex | with_reducible exact mg_row | with_reducible exact mg_word | with_reducible exact mg_joined | with_reducible exact mg_left | with_reducible exact mg_stream | with_reducible exact mg_written | with_reducible exact mg_again | with_reducible exact mg_twos) ?_))
local macro_rules | `(tactic| walk_at "ms") => `(tactic| refine W_st (by assumption) (by kernel_rfl) (by kernel_rfl) ?_)
section
variable {w : World} {A : Around} {h : Heap} {env : Env}
theorem all_true (n : Nat) : (List.range n).all (fun _ => true) = true := by simp
theorem SV.same {vs ws : List Value} {ls : List (List Nat)} (x : SV vs ls) (y : SV ws ls) (j : Nat) (h1 : j < vs.toArray.size) (h2 : j < ws.toArray.size) : MeetsSeq.EqGives vs.toArray[j] ws.toArray[j] true := by
  have hj : j < ls.length := by rw [← x.len]; simpa using h1
  obtain ⟨t, e1⟩ := x.get (List.getElem?_eq_getElem hj)
  obtain ⟨u, e2⟩ := y.get (List.getElem?_eq_getElem hj)
  have g1 : vs.toArray[j] = .str (S ls[j]) t := by
    have := (List.getElem?_eq_some_iff.mp e1).2
    simpa using this
  have g2 : ws.toArray[j] = .str (S ls[j]) u := by
    have := (List.getElem?_eq_some_iff.mp e2).2
    simpa using this
  rw [g1, g2]
  have := SeqRoads2.EqGives.str (S ls[j]) (S ls[j]) t u
  simpa using this
theorem IV.same {vs ws : List Value} {ls : List Int} (x : IV vs ls) (y : IV ws ls) (j : Nat) (h1 : j < vs.toArray.size) (h2 : j < ws.toArray.size) : MeetsSeq.EqGives vs.toArray[j] ws.toArray[j] true := by
  have hj : j < ls.length := by rw [← x.len]; simpa using h1
  obtain ⟨t, e1⟩ := x.get (List.getElem?_eq_getElem hj)
  obtain ⟨u, e2⟩ := y.get (List.getElem?_eq_getElem hj)
  have g1 : vs.toArray[j] = .int ls[j] t := by
    have := (List.getElem?_eq_some_iff.mp e1).2
    simpa using this
  have g2 : ws.toArray[j] = .int ls[j] u := by
    have := (List.getElem?_eq_some_iff.mp e2).2
    simpa using this
  rw [g1, g2]
  have := MeetsSeq.EqGives.int ls[j] ls[j] t u
  simpa using this
theorem W_neSV {a b : Addr} {vs ws : List Value} {ls : List (List Nat)} {Q : Value → Heap → Prop} (hu : A.units < cLine) (x : LI h a vs) (y : LI h b ws) (sx : SV vs ls) (sy : SV ws ls) (q : Q (.bool false) h) : Wp w A (compareOp .NotEq (.ref a) (.ref b)) Q h :=
  Wp.mk fun s Q' E hs k => by
    subst hs
    have := SeqAt.RcNeAt.lists (A := A) (s := s) (e := fun _ => true) x.is y.is (by simp [sx.len, sy.len]) hu (fun j h1 h2 => (sx.same sy j h1 h2).at _ _)
    rw [all_true] at this
    exact this pw w E Q' (k _ s.heap s.toks q)
theorem W_eqIV {a b : Addr} {vs ws : List Value} {ls : List Int} {Q : Value → Heap → Prop} (hu : A.units < cLine) (x : LI h a vs) (y : LI h b ws) (sx : IV vs ls) (sy : IV ws ls) (q : Q (.bool true) h) : Wp w A (compareOp .Eq (.ref a) (.ref b)) Q h :=
  Wp.mk fun s Q' E hs k => by
    subst hs
    have := SeqAt.RcAt.lists (A := A) (s := s) (e := fun _ => true) x.is y.is (by simp [sx.len, sy.len]) hu (fun j h1 h2 => (sx.same sy j h1 h2).at _ _)
    rw [all_true] at this
    exact this pw w E Q' (k _ s.heap s.toks q)
end
noncomputable def fLeft : FuncData := fdAt (stm 12) (St "_law_left") 3 (.str (St "law_pk0024_01") 323) (.ref 116)
section
variable {w : World} {A : Around} {h : Heap} {env : Env}
theorem C_left {z : List Nat} {t : Tok} {Q : Value → Heap → Prop} (hz : z.length ≤ 1000) (r : Rm A 2) (T : TH w h) (q : ∀ h' t', Kp [] h h' → Q (.str (S (z.filter fun c : Nat => !inB1 (c : Int))) t') h') : Wp w A (call (.ref 117) [.str (S z) t]) Q h := by
  refine C_fc (Z := []) (fd := fLeft) (binds := [(St "text", .str (S z) t)]) (l := []) (cs := [some (.str (S z) t), none]) [St "text", St "held"] T r.room (T 117 (ob117 w.params) (by decide) (by kernel_rfl)) rfl (T.codeRec (o := ob116 w.params) (by decide) (by kernel_rfl) rfl (by rfl)) (by rfl) (by kernel_rfl) (by kernel_rfl) (by kernel_rfl) (by kernel_rfl) (by kernel_rfl) (fun L => by kernel_rfl) (fun L => by kernel_rfl) (fun L => by kernel_rfl) (fun L => by kernel_rfl) ?_
  intro h₁ L f
  have r' := r.deeper (env := callEnvC fLeft L 117)
  have sl := sizeLine_is
  refine W_cons (W_Assign (by rfl) ?_)
  refine W_ListComp (fun i ys _ => ys = (z.take i).map fun c => .bool (inB1 c)) (by rfl) (by kernel_rfl) (by kernel_rfl) (by kernel_rfl) (by kernel_rfl) (fun _ => by rfl) ?_
  refine W_cell (c := L + 1 + 0) (f.cell 0 _ rfl) (by kernel_rfl) (by kernel_rfl) (by kernel_rfl) (by kernel_rfl) ?_
  refine W_iterS r'.hd f.T fun it h₃ hi k₃ => ⟨_, _, _, hi, by omega, ⟨fun _ => rfl, ?_⟩, ?_⟩
  · intro i ys v X C h₄ hlt hP hC loC hCh k₄ hX hJ
    obtain ⟨c, u, hc, rfl⟩ := hP
    have f₄ := f.step k₄
    refine W_tests0 ⟨Kp.refl, fun e => (nomatch e), fun _ => W_CallName ?_⟩
    walk_at "mg"
    refine W_fn (o := ob39 w.params) (by rfl) (by rfl) (W_items_cons (by rfl) ?_)
    walk_at "mn"
    refine W_items_nil ⟨f₄.T 39 _ (by decide) (by kernel_rfl), C_b1 r' f₄.T fun h₅ k₅ => ⟨k₅, fun h' k' => ?_⟩⟩
    have e := hJ h₄ Kp.refl
    rw [e, List.take_add_one, List.map_append, hc]
    rfl
  · intro D h₄ ys hJ hD hlo k₄
    rw [List.take_length] at hJ
    have f₄ := f.step k₄
    have hLD : L + 2 < D := Nat.lt_of_lt_of_le f.lt hlo
    refine W_stC 1 f₄ rfl (by kernel_rfl) (by kernel_rfl) (by kernel_rfl) fun h₅ f₅ k₅ => ?_
    have hD₅ : LI h₅ D ys := hD.keep k₅ (nin1 (Nat.ne_of_gt (show L + 1 + 1 < D by omega)))
    refine W_cons (W_If (W_test1 (by kernel_rfl) ?_))
    refine W_ListComp (fun i ys _ => ys = []) (by rfl) (by kernel_rfl) (by kernel_rfl) (by kernel_rfl) (by kernel_rfl) (fun _ => by rfl) ?_
    refine W_cell (c := L + 1 + 1) (f₅.cell 1 _ rfl) (by kernel_rfl) (by kernel_rfl) (by kernel_rfl) (by kernel_rfl) ?_
    have hyl : ys.length = z.length := by rw [hJ]; simp
    refine W_iterL r'.hd f₅.T hD₅ fun it h₆ hi k₆ => ⟨_, _, _, hi, by omega, ⟨fun _ => rfl, ?_⟩, ?_⟩
    · intro i ys' v X C h₇ hlt hP hC loC hCh k₇ hX hJ'
      have hb : ∃ b, v = .bool b := by
        rw [hJ, List.getElem?_map] at hP
        cases hz' : z[i]? with
        | none => rw [hz'] at hP; cases hP
        | some c => rw [hz'] at hP; cases hP; exact ⟨_, rfl⟩
      obtain ⟨b, rfl⟩ := hb
      have f₇ := f₅.step k₇
      refine W_tests1 (W_isNot (W_isTrue (by rfl) (W_CallName ?_)))
      walk_at "mb"
      refine W_fv (by rfl) (by rfl) (by rfl) (W_items_cons (by rfl) ?_)
      walk_at "mn"
      refine W_items_cons (by rfl) ?_
      walk_at "mb"
      refine W_items_nil (W_isBool (W_truthyB ⟨Kp.refl, fun _ h' k' => hJ' h' k', fun e => (nomatch e)⟩))
    · intro D₂ h₇ ys₂ hJ₂ hD₂ hlo₂ k₇
      subst hJ₂
      have f₇ := f₅.step k₇
      refine W_List (W_items_nil (W_newL f₇.T (szl (by simp)) fun h₈ D₃ hlo₃ hD₃ k₈ => ?_))
      have f₈ := f₇.step k₈
      refine W_neSV r'.units (hD₂.keep0 k₈) hD₃ SV.nil SV.nil (W_truthyB ⟨fun e => (nomatch e), fun _ => W_nil ?_⟩)
      refine W_cons (W_Return ?_)
      refine W_CallAttr base_const (by kernel_rfl) (by kernel_rfl) ?_
      refine W_strS [] (by kernel_rfl) fun t₀ pl => ?_
      refine W_gmJoin ?_
      refine W_fv (by rfl) (by rfl) (by rfl) (W_items_cons (by rfl) ?_)
      refine W_ListComp (fun i ys _ => SV ys (((z.take i).filter fun c : Nat => !inB1 (c : Int)).map fun c => [c])) (by rfl) (by kernel_rfl) (by kernel_rfl) (by kernel_rfl) (by kernel_rfl) (fun _ => by rfl) (W_CallName ?_)
      walk_at "mb"
      refine W_fv (by rfl) (by rfl) (by rfl) (W_items_cons (by rfl) (W_CallName ?_))
      walk_at "mb"
      refine W_fv (by rfl) (by rfl) (by rfl) (W_items_cons (by rfl) ?_)
      refine W_cell (c := L + 1 + 0) (f₈.cell 0 _ rfl) (by kernel_rfl) (by kernel_rfl) (by kernel_rfl) (by kernel_rfl) ?_
      refine W_items_nil (W_lenS (by omega) fun t₁ => W_items_nil (W_range1 fun h₉ rg xr k₉ => ?_))
      have f₉ := f₈.step k₉
      have hD₉ : LI h₉ D ys := ((hD₅.keep0 k₇).keep0 k₈).keep0 k₉
      refine W_iterR (a := 0) (b := z.length) (n := z.length) r'.hd f₉.T xr (by decide) (by omega) (by omega) fun it hA hi kA => ⟨_, _, _, hi, by omega, ⟨fun _ => SV.nil, ?_⟩, ?_⟩
      · intro i ys' v X C hB hlt hP hC loC hCh kB hX hJ'
        obtain ⟨u, rfl⟩ := hP
        have e0 : 0 + i = i := Nat.zero_add i
        rw [e0] at hC
        have fB := f₉.step kB
        have hDB := hD₉.keep0 kB
        have hyi : ys.toArray[i]? = some (.bool (inB1 z[i])) := by
          rw [hJ]; simp [hlt]
        refine W_tests1 (W_isNot (W_isTrue (by rfl) (W_Subscript ?_)))
        refine W_cell (c := L + 1 + 1) (fB.cell 1 _ rfl) (by kernel_rfl) (by kernel_rfl) (by kernel_rfl) (by kernel_rfl) ?_
        walk_at "mn"
        refine W_tailL hDB.is (by rfl) (W_getL hDB.is (by omega) hyi (W_truthyB ⟨Kp.refl, fun e h' k' => ?_, fun e => W_Subscript ?_⟩))
        · have e' : inB1 z[i] = true := by simpa using e
          have := hJ' h' k'
          rw [take_succ_filter _ z i z[i] (List.getElem?_eq_getElem hlt)]
          simpa only [e', Bool.not_true, Bool.false_eq_true, if_false, List.append_nil] using this
        · have e' : inB1 z[i] = false := by simpa using e
          refine W_cell (c := L + 1 + 0) (fB.cell 0 _ rfl) (by kernel_rfl) (by kernel_rfl) (by kernel_rfl) (by kernel_rfl) ?_
          walk_at "mn"
          refine W_tailS (by rfl) (W_getS hlt (by omega) fun t₃ => ⟨Kp.refl, fun h' k' => ?_⟩)
          rw [take_succ_filter _ z i z[i] (List.getElem?_eq_getElem hlt)]
          have := (hJ' h' k').snoc (x := [z[i]]) (t := t₃)
          simpa only [e', Bool.not_false, if_true, List.map_append, List.map_cons, List.map_nil] using this
      · intro D₄ hB ys₄ hJ₄ hD₄ hlo₄ kB
        rw [List.take_length] at hJ₄
        have e : (((z.filter fun c : Nat => !inB1 (c : Int)).map fun c => [c]) : List (List Nat)).flatten = z.filter fun c : Nat => !inB1 (c : Int) := by
          generalize (z.filter fun c : Nat => !inB1 (c : Int)) = y
          induction y with
          | nil => rfl
          | cons a y ih => simp [ih]
        have hle : (z.filter fun c : Nat => !inB1 (c : Int)).length ≤ z.length := List.length_filter_le _ _
        refine W_items_nil (W_join hD₄ hJ₄ (by rw [e]; omega) (by simp; omega) fun t' => ?_)
        rw [e]
        exact q _ _ (f₉.step kB).k
end
end Mine
end PartF6

-- F7
section PartF7
open PySem PySem.W PyProof.Rows PySem.Calls
set_option Elab.async false
set_option maxRecDepth 100000
set_option maxHeartbeats 4000000
set_option linter.unusedVariables false
namespace Mine
local macro_rules | `(tactic| walk_at "ml") => `(tactic| refine W_local (Fr.ns (by assumption)) (by kernel_rfl) (by kernel_rfl) (by kernel_rfl) (by rfl) ?_)
local macro_rules | `(tactic| walk_at "mn") => `(tactic| refine W_local (by assumption) (by kernel_rfl) (by kernel_rfl) (by kernel_rfl) (by rfl) ?_)
local macro_rules | `(tactic| walk_at "mb") => `(tactic| (refine W_builtin (TH.glob (Fr.T (by assumption))) (TH.blt (Fr.T (by assumption))) (by kernel_rfl) (by kernel_rfl) (by kernel_rfl) (by kernel_rfl) (by first | with_reducible exact mb_range | with_reducible exact mb_len | with_reducible exact mb_sum | with_reducible exact mb_isinstance | with_reducible exact mb_bool | with_reducible exact mb_iter) ?_))
local macro_rules | `(tactic| walk_at "mg") => `(tactic| (refine W_global (TH.glob (Fr.T (by assumption))) (by kernel_rfl) (by kernel_rfl) (by kernel_rfl) (by first | with_reducible exact mg_b1 | with_reducible exact mg_lex | with_reducible exact mg_row | with_reducible exact mg_word | with_reducible exact mg_joined | with_reducible exact mg_left | with_reducible exact mg_stream | with_reducible exact mg_written | with_reducible exact mg_again | with_reducible exact mg_twos) ?_))
local macro_rules | `(tactic| walk_at "ms") => `(tactic| refine W_st (by assumption) (by kernel_rfl) (by kernel_rfl) ?_)
theorem lk_self {l : List (Str × Value)} {x : Str} {v : Value} : lk (put l x v) x = some v := by rw [← lk_put]; simp
theorem lk_ne {l : List (Str × Value)} {x y : Str} {v : Value} {r : Option Value} (h : (y == x) = false) (e : lk l y = r) : lk (put l x v) y = r := by
  rw [← lk_put]
  have : ¬ y = x := by simpa using h
  simp [this, e]
noncomputable def coefRun (p : Nat × Nat) : Nat → Nat × Nat
  | 0 => p
  | j + 1 => ((coefRun p j).1 * ((coefRun p j).2 + 1) / (j + 1), (coefRun p j).2 + 1)
theorem coefRun_2 (p : Nat × Nat) : ∀ j, (coefRun p j).2 = p.2 + j
  | 0 => rfl
  | j + 1 => by show (coefRun p j).2 + 1 = _; rw [coefRun_2 p j]; omega
noncomputable def coefO (R : Row) : Nat → Nat × Nat
  | 0 => (1, 0)
  | i + 1 => coefRun (coefO R i) (R.run i)
noncomputable def v2 : Nat → Nat → Nat
  | 0, _ => 0
  | f + 1, c => if c % 2 = 0 then v2 f (c / 2) + 1 else 0
noncomputable def coefN (r s t : Nat) : Nat := (coefRun (coefRun (coefRun (1, 0) r) s) t).1
theorem coefN_ok : ((List.range 8).all fun r => (List.range 8).all fun s => (List.range 8).all fun t => decide (0 < coefN r s t ∧ coefN r s t < 2 ^ 40)) = true := by kernel_rfl
theorem coef_ok {R : Row} (z : R.Sz) : 0 < (coefO R 3).1 ∧ (coefO R 3).1 < 2 ^ 40 := by
  have := coefN_ok
  rw [List.all_eq_true] at this
  have := this R.r (List.mem_range.mpr z.r)
  rw [List.all_eq_true] at this
  have := this R.s (List.mem_range.mpr z.s)
  rw [List.all_eq_true] at this
  have := this R.t (List.mem_range.mpr z.t)
  exact of_decide_eq_true this
noncomputable def Row.twos (R : Row) : Nat := v2 40 (coefO R 3).1
theorem coefO_2 {R : Row} (z : R.Sz) : ∀ i, (coefO R i).2 ≤ 7 * i
  | 0 => Nat.le_refl _
  | i + 1 => by
    show (coefRun (coefO R i) (R.run i)).2 ≤ _
    rw [coefRun_2]
    have := coefO_2 z i
    have := z.run i
    omega
theorem bits_small : ∀ n : Nat, n ≤ 32 → Builtin.Int.intBits ((n : Nat) : Int) ≤ 64 := by decide
section
variable {w : World} {A : Around} {h : Heap} {env : Env}
theorem W_assignTup {elts : List Expr} {k : Nat} {p : Pos} {t : Addr} {vs : List Value} {Q : Unit → Heap → Prop} (hh : A.handled = none) (x : TI h t vs) (hn : (assignEach elts env).length = vs.length) (hstar : (assignEach elts env).findIdx? (·.1) = none)
    (H : ∀ h', Kp [] h h' → Wp w A (assignInOrder ((assignEach elts env).map (·.2)) vs) Q h') : Wp w A (assign (.Tuple elts k p) env (.ref t)) Q h :=
  Wp.mk fun s Q' E hs kk => by
    subst hs
    refine wpAny_assign_Tuple hh x.is (by simpa using hn) hstar fun h' he => ?_
    exact (H h' (.all fun b o e => he b o (Nat.ne_of_lt (Heap.lt_size e)) e)).on (tk₁ := s.toks) kk
end
noncomputable def fTwos : FuncData := fdAt (stm 16) (St "_law_twos") 3 (.str (St "law_pk0024_01") 323) (.ref 144)
noncomputable def TwS (w : World) (h₀ h : Heap) (L : Nat) (p : Nat × Nat) (k : Nat) : Prop := ∃ l t₁ t₂ t₃, Fr w [] h₀ h L l [] ∧ lk l (Str.ofString "coefficient") = some (.int p.1 t₁) ∧ lk l (Str.ofString "total") = some (.int p.2 t₂) ∧ lk l (Str.ofString "twos") = some (.int k t₃)
section
variable {w : World} {A : Around} {h : Heap} {env : Env}
theorem C_twos {R : Row} {l₁ : Nat} {t₄ t₅ t₆ : Tok} {Q : Value → Heap → Prop} (z : R.Sz) (r : Rm A 2) (T : TH w h) (x : LI h l₁ [.int R.r t₄, .int R.s t₅, .int R.t t₆]) (q : ∀ h' t', Kp [] h h' → Q (.int (R.twos : Int) t') h') : Wp w A (call (.ref 145) [.ref l₁]) Q h := by
  refine C_fn (Z := []) (fd := fTwos) (binds := [(St "runs", .ref l₁)]) T r.room (T 145 (ob145 w.params) (by decide) (by kernel_rfl)) rfl (T.codeRec (o := ob144 w.params) (by decide) (by kernel_rfl) rfl (by rfl)) (by rfl) (by kernel_rfl) (by kernel_rfl) (by kernel_rfl) (by kernel_rfl) (by kernel_rfl) (by kernel_rfl) ?_
  intro h₁ L f
  have r' := r.deeper (env := callEnv fTwos L 145)
  refine W_cons (W_AssignTup (by rfl) (by rfl) (W_Tuple (W_items_cons (by rfl) (W_int fun _ => W_items_cons (by rfl) (W_int fun _ => W_items_cons (by rfl) (W_int fun _ => W_items_nil (W_newT f.T (szl (by simp)) fun h₂ a ha ta k₂ => W_assignTup r'.hd ta (by rfl) (by rfl) fun h₃ k₃ => ?_)))))))
  have f₃ := (f.step k₂).step k₃
  refine W_ao (W_assignName ?_)
  walk_at "ms"
  intro h₄ f₄ k₄
  refine W_ao (W_assignName ?_)
  walk_at "ms"
  intro h₅ f₅ k₅
  refine W_ao (W_assignName ?_)
  walk_at "ms"
  intro h₆ f₆ k₆
  refine W_ao_nil ?_
  have hl₁ : l₁ < L := Nat.lt_of_lt_of_le x.lt f.fr
  refine W_cons (W_For (fun _ i hx => TwS w h hx L (coefO R i) 0) (fun _ => by rfl) (fun _ _ => by rfl) ?_)
  walk_at "ml"
  have x₆ := x.keep0 f₆.k
  refine W_iterL r'.hd f₆.T x₆ fun it h₇ hi k₇ => ⟨_, _, _, hi, fun _ _ _ _ => ⟨_, _, _, _, f₆.step k₇, rfl, rfl, rfl⟩, ?_, ?_⟩
  · rintro i v I h₈ h₉ - hI loI ⟨oI, hoI⟩ hlt hP ⟨l, u₁, u₂, u₃, f₈, e₁, e₂, e₃⟩ k₉
    have hLI : L < I := Nat.lt_of_lt_of_le f₆.lt hI
    have f₉ := f₈.upd k₉ fun a ha => by rw [List.mem_singleton.mp ha]; exact ⟨Nat.le_trans f.fr (Nat.le_of_lt hLI), loI, .inr hLI⟩
    have hlt3 : i < 3 := hlt
    have hv : ∃ t, v = .int (R.run i : Int) t := by
      have : i = 0 ∨ i = 1 ∨ i = 2 := by omega
      rcases this with rfl | rfl | rfl <;> exact ⟨_, (Option.some.inj hP).symm⟩
    obtain ⟨tv, rfl⟩ := hv
    have hLI' : I ≠ L := Nat.ne_of_gt hLI
    refine W_assignName (W_st f₉ (by kernel_rfl) (by kernel_rfl) fun hA fA kA => ?_)
    have hoA := kA I oI (nin1 hLI') hoI
    have hIA : I < hA.objs.size := Heap.lt_size hoA
    refine W_cons (W_For (fun _ j hx => TwS w h hx L (coefRun (coefO R i) j) 0 ∧ Ku [L] I h₉ hx) (fun _ => by rfl) (fun _ _ => by rfl) (W_CallName ?_))
    walk_at "mb"
    refine W_fv (by rfl) (by rfl) (by rfl) (W_items_cons (by rfl) (W_int fun _ => W_items_cons (by rfl) (W_BinOp ?_)))
    refine W_local fA.ns (by kernel_rfl) (by kernel_rfl) (by kernel_rfl) lk_self ?_
    refine W_int fun _ => W_addI fun _ => W_items_nil (W_range2 fun hB rg xr kB => ?_)
    have fB := fA.step kB
    have e4 : ((R.run i : Int) + 1) = ((R.run i + 1 : Nat) : Int) := by omega
    rw [e4] at xr
    have h8 := z.run i
    have hIB : I < hB.objs.size := Heap.lt_size (kB I oI (fun m => nomatch m) hoA)
    refine W_iterR (a := 1) (b := R.run i + 1) (n := R.run i) r'.hd fB.T xr (by decide) (by omega) (by omega) fun it hC hi kC => ⟨_, _, _, hi, fun _ _ _ _ => ⟨⟨_, _, _, _, fB.step kC, lk_ne (by kernel_rfl) e₁, lk_ne (by kernel_rfl) e₂, lk_ne (by kernel_rfl) e₃⟩, ?_⟩, ?_, ?_⟩
    · exact (Ku.of kA fun b hb => .inl hb).trans ((Ku.of0 kB).trans (Ku.of0 kC))
    · rintro j v J hD hE - hJ loJ ⟨oJ, hoJ⟩ hlt' ⟨tj, rfl⟩ ⟨⟨l', v₁, v₂, v₃, fD, d₁, d₂, d₃⟩, kD⟩ kE
      have hIJ : I < J := Nat.lt_of_lt_of_le hIB hJ
      have hLJ : L < J := Nat.lt_trans hLI hIJ
      have fE := fD.upd kE fun a ha => by rw [List.mem_singleton.mp ha]; exact ⟨Nat.le_trans f.fr (Nat.le_of_lt hLJ), loJ, .inr hLJ⟩
      refine W_assignName (W_st fE (by kernel_rfl) (by kernel_rfl) fun hF fF kF => ?_)
      refine W_cons (W_AugName (W_loadLocal (by kernel_rfl) (by kernel_rfl) fF.ns (lk_ne (by kernel_rfl) d₂) (W_int fun _ => W_iaddI fun _ => W_st fF (by kernel_rfl) (by kernel_rfl) fun hG fG kG => ?_)))
      refine W_cons (W_Assign (by rfl) (W_BinOp (W_BinOp ?_)))
      refine W_local fG.ns (by kernel_rfl) (by kernel_rfl) (by kernel_rfl) (lk_ne (by kernel_rfl) (lk_ne (by kernel_rfl) d₁)) ?_
      refine W_local fG.ns (by kernel_rfl) (by kernel_rfl) (by kernel_rfl) lk_self ?_
      have et : ((coefRun (coefO R i) j).2 : Int) + 1 = (((coefRun (coefO R i) j).2 + 1 : Nat) : Int) := by omega
      have hb : (coefRun (coefO R i) j).2 + 1 ≤ 32 := by
        rw [coefRun_2]
        have := coefO_2 z i
        omega
      rw [et]
      refine W_mulI (IntMulOk.of_right (bits_small _ hb)) fun _ => ?_
      refine W_local fG.ns (by kernel_rfl) (by kernel_rfl) (by kernel_rfl) (lk_ne (by kernel_rfl) lk_self) ?_
      refine W_divI (by omega) (by omega) fun _ => ?_
      have ed : (((coefRun (coefO R i) j).1 : Int) * (((coefRun (coefO R i) j).2 + 1 : Nat) : Int)).fdiv ((1 + j : Nat) : Int) = (((coefRun (coefO R i) (j + 1)).1 : Nat) : Int) := by
        rw [fdiv_e _ (Int.natCast_nonneg _), ← Int.natCast_mul, ← Int.natCast_ediv, Nat.add_comm 1 j]
        rfl
      rw [ed]
      refine W_st fG (by kernel_rfl) (by kernel_rfl) fun hH fH kH => W_nil ⟨⟨⟨_, _, _, _, fH, lk_self, lk_ne (by kernel_rfl) lk_self, lk_ne (by kernel_rfl) (lk_ne (by kernel_rfl) (lk_ne (by kernel_rfl) d₃))⟩, ?_⟩, ?_⟩
      · exact kD.trans ((Ku.of kE fun b hb => .inr (by rw [List.mem_singleton.mp hb]; exact hIJ)).trans ((Ku.of kF fun b hb => .inl hb).trans ((Ku.of kG fun b hb => .inl hb).trans (Ku.of kH fun b hb => .inl hb))))
      · intro b hb o e
        obtain rfl := List.mem_singleton.mp hb
        have hne : b ∉ ([L] : List Addr) := nin1 (Nat.ne_of_gt hLJ)
        exact kH b o hne (kG b o hne (kF b o hne e))
    · rintro J hD hE hJ loJ ⟨⟨l', v₁, v₂, v₃, fD, d₁, d₂, d₃⟩, kD⟩ kE
      have hIJ : I < J := Nat.lt_of_lt_of_le hIB hJ
      have hLJ : L < J := Nat.lt_trans hLI hIJ
      have fE := fD.upd kE fun a ha => by rw [List.mem_singleton.mp ha]; exact ⟨Nat.le_trans f.fr (Nat.le_of_lt hLJ), loJ, .inr hLJ⟩
      have kE' := kD.trans (Ku.of kE fun b hb => .inr (by rw [List.mem_singleton.mp hb]; exact hIJ))
      refine W_nil ⟨⟨_, _, _, _, fE, d₁, d₂, d₃⟩, fun b hb o e => ?_⟩
      rcases List.mem_cons.mp hb with rfl | hb
      · exact kE'.get (nin1 hLI') (Nat.le_refl _) e
      · obtain rfl := List.mem_singleton.mp hb
        exact kE'.get (nin1 (Nat.ne_of_lt hl₁)) (Nat.le_of_lt (Nat.lt_trans hl₁ hLI)) e
  · rintro I h₈ h₉ hI loI ⟨l, u₁, u₂, u₃, f₈, e₁, e₂, e₃⟩ k₉
    have hLI : L < I := Nat.lt_of_lt_of_le f₆.lt hI
    have f₉ := f₈.upd k₉ fun a ha => by rw [List.mem_singleton.mp ha]; exact ⟨Nat.le_trans f.fr (Nat.le_of_lt hLI), loI, .inr hLI⟩
    have ok := coef_ok z
    refine W_cons (W_While (fun m hx => ∃ k fu tot, 0 < m ∧ m < 2 ^ fu ∧ k + v2 fu m = R.twos ∧ TwS w h hx L (m, tot) k) (coefO R 3).1 ⟨0, 40, _, ok.1, ok.2, by simp [Row.twos], _, _, _, _, f₉, e₁, e₂, e₃⟩ ?_)
    rintro m hA ⟨k, fu, tot, m0, mf, hk, l', v₁, v₂, v₃, fA, d₁, d₂, d₃⟩
    refine W_test1 (by kernel_rfl) (W_BinOp ?_)
    refine W_local fA.ns (by kernel_rfl) (by kernel_rfl) (by kernel_rfl) d₁ ?_
    refine W_int fun _ => W_modI (by decide) fun _ => W_int fun _ => W_eqI (W_truthyB ⟨fun e => ?_, fun e => ?_⟩)
    · have em : m % 2 = 0 := by
        have := of_decide_eq_true e
        rw [fmod_e _ (by decide)] at this
        have q : ((m : Nat) : Int) % 2 = 0 := this
        omega
      refine W_cons (W_Assign (by rfl) (W_BinOp ?_))
      refine W_local fA.ns (by kernel_rfl) (by kernel_rfl) (by kernel_rfl) d₁ ?_
      refine W_int fun _ => W_divI (by decide) (by decide) fun _ => ?_
      have ed : ((m : Nat) : Int).fdiv 2 = ((m / 2 : Nat) : Int) := by rw [fdiv_e _ (by decide)]; omega
      show Wp w _ (storeName _ _ (.int (((m : Nat) : Int).fdiv 2) _)) _ _
      rw [ed]
      refine W_st fA (by kernel_rfl) (by kernel_rfl) fun hB fB kB => ?_
      refine W_cons (W_AugName (W_loadLocal (by kernel_rfl) (by kernel_rfl) fB.ns (lk_ne (by kernel_rfl) d₃) (W_int fun _ => W_iaddI fun _ => W_st fB (by kernel_rfl) (by kernel_rfl) fun hC fC kC => W_nil ?_)))
      cases fu with
      | zero => omega
      | succ fu =>
        have hv : v2 (fu + 1) m = v2 fu (m / 2) + 1 := by show (if m % 2 = 0 then _ else _) = _; rw [if_pos em]
        refine ⟨m / 2, by omega, k + 1, fu, tot, by omega, by rw [Nat.pow_succ] at mf; omega, by omega, _, _, _, _, fC, lk_ne (by kernel_rfl) lk_self, lk_ne (by kernel_rfl) (lk_ne (by kernel_rfl) d₂), lk_self⟩
    · have em : m % 2 ≠ 0 := by
        have := of_decide_eq_false e
        rw [fmod_e _ (by decide)] at this
        have q : ¬ ((m : Nat) : Int) % 2 = 0 := this
        omega
      refine W_cons (W_Return ?_)
      refine W_local fA.ns (by kernel_rfl) (by kernel_rfl) (by kernel_rfl) d₃ ?_
      cases fu with
      | zero => omega
      | succ fu =>
        have hv : v2 (fu + 1) m = 0 := by show (if m % 2 = 0 then _ else _) = _; rw [if_neg em]
        have : k = R.twos := by omega
        rw [this]
        exact q _ _ fA.k
end
end Mine
end PartF7

-- F8
section PartF8
open PySem PySem.W PyProof.Rows PySem.Calls
set_option Elab.async false
set_option maxRecDepth 100000
set_option maxHeartbeats 4000000
set_option linter.unusedVariables false
namespace Mine
local macro_rules | `(tactic| walk_at "ml") => `(tactic| refine W_local (Fr.ns (by assumption)) (by kernel_rfl) (by kernel_rfl) (by kernel_rfl) (by rfl) ?_)
local macro_rules | `(tactic| walk_at "mn") => `(tactic| refine W_local (by assumption) (by kernel_rfl) (by kernel_rfl) (by kernel_rfl) (by rfl) ?_)
local macro_rules | `(tactic| walk_at "mb") => `(tactic| (refine W_builtin (TH.glob (Fr.T (by assumption))) (TH.blt (Fr.T (by assumption))) (by kernel_rfl) (by kernel_rfl) (by kernel_rfl) (by kernel_rfl) (by first | with_reducible exact mb_range | with_reducible exact mb_len | with_reducible exact mb_sum | with_reducible exact mb_isinstance | with_reducible exact mb_bool | with_reducible exact mb_iter) ?_))
local macro_rules | `(tactic| walk_at "mg") => `(tactic| (refine W_global (TH.glob (Fr.T (by assumption))) (by kernel_rfl) (by kernel_rfl) (by kernel_rfl) (by first | with_reducible exact mg_b1 | with_reducible exact mg_lex | with_reducible exact mg_row | with_reducible exact mg_word | with_reducible exact mg_joined | with_reducible exact mg_left | with_reducible exact mg_stream | with_reducible exact mg_written | with_reducible exact mg_again | with_reducible exact mg_twos) ?_))
local macro_rules | `(tactic| walk_at "ms") => `(tactic| refine W_st (by assumption) (by kernel_rfl) (by kernel_rfl) ?_)
section
variable {w : World} {A : Around} {h : Heap} {env : Env}
theorem W_Expr {e : Expr} {pos : Pos} {Q : Flow → Heap → Prop} (hi : interactive env = false) (hs' : swapsWith e none pos.line env = Pure.pure false) (H : Wp w A (eval e env) (fun v h₁ => v = .none ∧ Q .next h₁) h) : Wp w A (exec (.Expr e pos) env) Q h :=
  Wp.mk fun s Q' E hs k => by
    subst hs
    refine wpAny_Expr (H.use fun v h₁ tk q => ?_) ?_ ?_
    · obtain ⟨rfl, q⟩ := q
      exact k _ _ _ q
    · exact hi
    · exact hs'
theorem W_tailG {value slice : Expr} {o i : Value} {T id : String} {vs : List Value} {Q : Value → Heap → Prop} (hT : ∀ s : Shared, s.heap = h → s.TypeIs o T) (hl : typeLookup (.type T) "__getitem__" = Pure.pure (some (.builtin id)))
    (hs' : subscripted slice false o i = operate vs (getItem o i)) (H : Wp w A (getItem o i) Q h) : Wp w A (subscriptTail value slice o i) Q h := by
  unfold subscriptTail
  refine Wp.bind ?_
  refine Wp.mk fun s Q' E hs k => ?_
  subst hs
  rw [getitemInPython_of_ne (hT s rfl).not_modules]
  have fin : Wp w A (subscripted slice false o i) (fun r h₃ => Wp w A (letTemporaryGo value o r >>= fun _ => Pure.pure r) Q h₃) s.heap := by
    rw [hs']
    exact W_operate (H.mono fun r h₃ q => Wp.bind (W_letGo (Wp.pure q)))
  exact wpAny_bind (wpAny_specialOf (hT s rfl) hl (wpAny_pure (k _ s.heap s.toks (Wp.bind fin))))
theorem W_sliceC {value : Expr} {lower upper : Option Expr} {p pos : Pos} {Q : Value → Heap → Prop}
    (H : Wp w A (eval value env) (fun o h₁ => Wp w A (evalPart lower env) (fun vl h₂ => Wp w A (evalPart upper env) (fun vu h₃ =>
      ∃ x t l u, o = .str x t ∧ vl = partValue l ∧ vu = partValue u ∧ x.length ≤ sizeLine ∧ ∀ h' t', Kp [] h₃ h' → Q (.str (Txt.slice x (l.map (·.1)) (u.map (·.1))) t') h') h₂) h₁) h) :
    Wp w A (eval (.Subscript value (.Slice lower upper none p) pos) env) Q h := by
  refine W_Subscript (H.mono fun o h₁ q => ?_)
  refine Wp.mono (Q := fun i h₂ => ∃ x t l u vl vu, o = .str x t ∧ vl = partValue l ∧ vu = partValue u ∧ x.length ≤ sizeLine ∧ ∃ a : Nat, i = .ref a ∧ h₂.IsSlice a l u none ∧ ∀ h' t', Kp [] h₂ h' → Q (.str (Txt.slice x (l.map (·.1)) (u.map (·.1))) t') h') ?_ ?_
  · refine Wp.mk fun s Q' E hs k => ?_
    subst hs
    refine wpAny_Slice (q.use fun vl h₂ tk₂ q => q.on fun vu h₃ tk₃ q => ?_)
    obtain ⟨x, t, l, u, rfl, rfl, rfl, hz, q⟩ := q
    rw [evalPart_none]
    exact wpAny_pure (k _ _ _ ⟨x, t, l, u, _, _, rfl, rfl, rfl, hz, _, rfl, ⟨_, Heap.get?_push_size _ rfl, rfl, rfl⟩, fun h' t' kk => q h' t' ((Kp.push _).trans kk)⟩)
  · rintro i h₂ ⟨x, t, l, u, vl, vu, rfl, rfl, rfl, hz, a, rfl, hs, q⟩
    refine W_tailG (vs := [.ref a, .str x t]) (fun s _ => typeIs_str s x t) F.slot_str_getitem.lookup rfl (Wp.mk fun s Q' E hs' k => ?_)
    subst hs'
    exact wpAny_getItem_str_slice hs rfl (post_val_or_str ⟨Nat.le_trans (Txt.slice_le x _ _) hz, fun t' kk => k _ _ _ (q _ t' Kp.refl)⟩)
theorem W_addL {l b : Addr} {vs ws : List Value} {Q : Value → Heap → Prop} (T : TH w h) (x : LI h l vs) (y : LI h b ws) (hz : vs.length + ws.length ≤ sizeLine) (q : ∀ h' a, h.objs.size ≤ a → LP h' a (vs ++ ws) → Kp [] h h' → Q (.ref a) h') : Wp w A (binaryOp .Add (.ref l) (.ref b)) Q h :=
  Wp.mk fun s Q' E hs k => by
    subst hs
    obtain ⟨⟨cls, dd, data, sl⟩, ho, hc, n, hd⟩ := id x.is
    obtain ⟨⟨cls2, dd2, data2, sl2⟩, ho2, hc2, n2, hd2⟩ := id y.is
    simp only at hc hd hc2 hd2
    subst hc hd hc2 hd2
    have e : vs.toArray ++ ws.toArray = (vs ++ ws).toArray := by simp
    refine concat_meets ⟨_, ho, rfl⟩ ⟨_, ho2, rfl⟩ noFill_list_add seq_list_add PySem.F.slot_list_add PySem.F.entry_list_add (PySem.F.args_list_add_2 _ _) (list_addW l b vs.toArray ws.toArray n n2 dd dd2 sl sl2 (by simpa using hz)) ⟨ho, ho2, ?_⟩
    rw [e]
    exact k _ _ s.toks (q _ _ (Nat.le_refl _) ⟨T.size, 0, Heap.get?_push_size _ rfl⟩ (Kp.push _))
theorem W_sliceL {value : Expr} {lower upper : Option Expr} {p pos : Pos} {Q : Value → Heap → Prop} (ht : ∀ o r, letTemporaryGo value o r = Pure.pure ())
    (H : Wp w A (eval value env) (fun o h₁ => Wp w A (evalPart lower env) (fun vl h₂ => Wp w A (evalPart upper env) (fun vu h₃ =>
      TH w h₃ ∧ ∃ l items lo hi, o = .ref l ∧ h₃.IsList l items ∧ IsPart vl lo ∧ IsPart vu hi ∧ items.size ≤ sizeLine ∧ ∀ h' a, h₃.objs.size ≤ a → LP h' a (slicePick items lo hi none).toList → Kp [] h₃ h' → Q (.ref a) h') h₂) h₁) h) :
    Wp w A (eval (.Subscript value (.Slice lower upper none p) pos) env) Q h :=
  Wp.mk fun s Q' E hs k => by
    subst hs
    refine wpAny_Subscript_Slice (T := "list") slot_list_getitem.lookup (H.use fun o h₁ tk q => wpAny_Slice (q.on fun vl h₂ tk₂ q => q.on fun vu h₃ tk₃ q => ?_)) ht
    obtain ⟨T, l, items, lo, hi, rfl, hl, pl, pu, hz, q⟩ := q
    rw [evalPart_none]
    have hl' : (h₃.push { cls := .type "slice", data := .fields #[vl, vu, .none] }).IsList l items := hl.at fun o e => Heap.get?_push_of_some _ e
    refine wpAny_pure ⟨hl'.typeIs, wpAny_getItem_list_slice (st := none) hl' ⟨_, Heap.get?_push_size _ rfl, rfl, rfl⟩ pl pu .none (by simp) ?_ hz⟩
    refine k _ _ _ (q _ _ ?_ ⟨?_, 0, ?_⟩ ?_)
    · rw [Heap.size_push]; exact Nat.le_succ _
    · show 151 ≤ (h₃.push { cls := .type "slice", data := .fields #[vl, vu, .none] }).objs.size
      rw [Heap.size_push]; exact Nat.le_trans T.size (Nat.le_succ _)
    · rw [Array.toArray_toList]
      exact Heap.get?_push_size _ rfl
    · exact (Kp.push _).trans (Kp.push _)
end
noncomputable def lead (turn : Nat) : List Nat := [[], [], [10], [9], []].getD turn []
noncomputable def trail (turn : Nat) : Nat := [32, 10, 9, 13, 32].getD turn 0
noncomputable abbrev Row.quoted (R : Row) (turn : Nat) : Prop := R.f / 2 ^ turn % 2 = 1
noncomputable def item (turn : Nat) (R : Row) (wd : List Nat) : List Nat := lead turn ++ (if R.quoted turn then ([34] ++ wd) ++ [34] else wd ++ [trail turn])
noncomputable def textN (turn : Nat) (R : Nat → Row) (W : Nat → List Nat) : Nat → List Nat
  | 0 => []
  | i + 1 => textN turn R W i ++ item turn (R i) (W i)
noncomputable def endsN (turn : Nat) (R : Nat → Row) (W : Nat → List Nat) (i : Nat) : List Int := (List.range i).map fun j => ((textN turn R W (j + 1)).length : Int)
noncomputable def textF (turn : Nat) (R : Nat → Row) (W : Nat → List Nat) (n : Nat) : List Nat := if turn < 4 then textN turn R W n else (textN turn R W n).take ((textN turn R W n).length - 1) ++ [92].take (n % 2)
noncomputable def endsF (turn : Nat) (R : Nat → Row) (W : Nat → List Nat) (n : Nat) : List Int := if turn < 4 then endsN turn R W n else (endsN turn R W n).take (n - 1) ++ [((textF turn R W n).length : Int)]
theorem lead_le (turn : Nat) : (lead turn).length ≤ 1 := by
  match turn with
  | 0 | 1 | 2 | 3 | 4 => simp [lead]
  | _ + 5 => simp [lead]
theorem item_le {turn : Nat} {R : Row} {wd : List Nat} (h : wd.length ≤ 30) : (item turn R wd).length ≤ 33 := by
  unfold item
  have := lead_le turn
  split <;> simp <;> omega
theorem textN_le {turn : Nat} {R : Nat → Row} {W : Nat → List Nat} {n : Nat} (h : ∀ i, i < n → (W i).length ≤ 30) : ∀ i, i ≤ n → (textN turn R W i).length ≤ 33 * i
  | 0, _ => Nat.le_refl _
  | i + 1, hi => by
    show (textN turn R W i ++ item turn (R i) (W i)).length ≤ _
    have := textN_le (turn := turn) (R := R) h i (by omega)
    have := item_le (turn := turn) (R := R i) (h i (by omega))
    rw [List.length_append]
    omega
/-- the rows stand in a list -/
noncomputable def RowsAt (lo : Nat) (h : Heap) (rl : Nat) (n : Nat) (R : Nat → Row) : Prop := ∃ vs, LI h rl vs ∧ lo ≤ rl ∧ vs.length = n ∧ ∀ i, i < n → ∃ v, vs[i]? = some v ∧ RowAt lo h v (R i)
theorem RowsAt.keep {lo : Nat} {h h' : Heap} {rl n : Nat} {R : Nat → Row} {X : List Addr} (x : RowsAt lo h rl n R) (k : Kp X h h') (hX : ∀ a : Nat, a ∈ X → a < lo) : RowsAt lo h' rl n R := by
  obtain ⟨vs, h1, h2, h3, h4⟩ := x
  refine ⟨vs, h1.keep k fun m => by have := hX rl m; omega, h2, h3, fun i hi => ?_⟩
  obtain ⟨v, e, y⟩ := h4 i hi
  exact ⟨v, e, y.keep k hX⟩
theorem RowsAt.keep0 {lo : Nat} {h h' : Heap} {rl n : Nat} {R : Nat → Row} (x : RowsAt lo h rl n R) (k : Kp [] h h') : RowsAt lo h' rl n R := x.keep k fun _ m => nomatch m
noncomputable def fWritten : FuncData := fdAt (stm 14) (St "_law_written") 3 (.str (St "law_pk0024_01") 323) (.ref 130)
noncomputable def WrS (w : World) (h₀ h : Heap) (L e : Nat) (wl rl turn n : Nat) (tx : List Nat) (es : List Int) : Prop := ∃ l t₁ t₂ ev, Fr w [] h₀ h L l [] ∧ lk l (Str.ofString "text") = some (.str (S tx) t₁) ∧ lk l (Str.ofString "ends") = some (.ref e) ∧
  lk l (Str.ofString "words") = some (.ref wl) ∧ lk l (Str.ofString "rows") = some (.ref rl) ∧ lk l (Str.ofString "turn") = some (.int (turn : Int) t₂) ∧ LP h e ev ∧ IV ev es
section
variable {w : World} {A : Around} {h : Heap} {env : Env}
theorem C_written {R : Nat → Row} {W : Nat → List Nat} {n wl rl turn lo : Nat} {t : Tok} {wv : List Value} {Q : Value → Heap → Prop} (hn : 1 ≤ n) (hn4 : n ≤ 4) (ht5 : turn < 5) (r : Rm A 2) (T : TH w h) (xw : LI h wl wv) (sw : SV wv ((List.range n).map W)) (hW : ∀ i, i < n → (W i).length ≤ 30)
    (xr : RowsAt lo h rl n R) (q : ∀ h' (a e : Nat) t ev, Kp [] h h' → h.objs.size ≤ a → h.objs.size ≤ e → TI h' a [.str (S (textF turn R W n)) t, .ref e] → LI h' e ev → IV ev (endsF turn R W n) → Q (.ref a) h') : Wp w A (call (.ref 131) [.ref wl, .ref rl, .int (turn : Int) t]) Q h := by
  refine C_fn (Z := []) (fd := fWritten) (binds := [(St "words", .ref wl), (St "rows", .ref rl), (St "turn", .int (turn : Int) t)]) T r.room (T 131 (ob131 w.params) (by decide) (by kernel_rfl)) rfl (T.codeRec (o := ob130 w.params) (by decide) (by kernel_rfl) rfl (by rfl)) (by rfl) (by kernel_rfl) (by kernel_rfl) (by kernel_rfl) (by kernel_rfl) (by kernel_rfl) (by kernel_rfl) ?_
  intro h₁ L f
  have r' := r.deeper (env := callEnv fWritten L 131)
  have sl := sizeLine_is
  have hwv : wv.length = n := by rw [sw.len]; simp
  refine W_cons (W_AssignSw [St "text", St "ends"] (by rfl) (by rfl) (W_Tuple (W_items_cons (by rfl) (W_strS [] (by kernel_rfl) fun _ => W_items_cons (by rfl) (W_List (W_items_nil (W_newLP f.T (szl (by simp)) fun h₂ e he xe k₂ => W_items_nil (W_newT (f.step k₂).T (szl (by simp)) fun h₃ a ha ta k₃ => W_unpackT r'.hd ta rfl fun h₄ k₄ => ?_))))))))
  have f₄ := ((f.step k₂).step k₃).step k₄
  have hLe : L < e := Nat.lt_of_lt_of_le f.lt he
  have xe₄ := (xe.keep0 k₃).keep0 k₄
  refine W_ao (W_bindName ?_)
  walk_at "ms"
  intro h₅ f₅ k₅
  refine W_ao (W_bindName ?_)
  walk_at "ms"
  intro h₆ f₆ k₆
  refine W_ao_nil ?_
  have hneL : e ∉ ([L] : List Addr) := nin1 (Nat.ne_of_gt hLe)
  have xe₆ : LP h₆ e [] := (xe₄.keep k₅ hneL).keep k₆ hneL
  have hwl : wl < L := Nat.lt_of_lt_of_le xw.lt f.fr
  refine W_cons (W_For (fun _ i hx => WrS w h hx L e wl rl turn n (textN turn R W i) (endsN turn R W i)) (fun _ => by rfl) (fun _ _ => by rfl) (W_CallName ?_))
  walk_at "mb"
  refine W_fv (by rfl) (by rfl) (by rfl) (W_items_cons (by rfl) (W_CallName ?_))
  walk_at "mb"
  refine W_fv (by rfl) (by rfl) (by rfl) (W_items_cons (by rfl) ?_)
  walk_at "ml"
  refine W_items_nil (W_lenL (xw.keep0 f₆.k) (by omega) fun _ => W_items_nil (W_range1 fun h₇ rg xg k₇ => ?_))
  rw [hwv] at xg
  have f₇ := f₆.step k₇
  refine W_iterR (a := 0) (b := n) (n := n) r'.hd f₇.T xg (by decide) (by omega) (by omega) fun it h₈ hi k₈ => ⟨_, _, _, hi, fun _ _ _ _ => ⟨_, _, _, _, f₇.step k₈, rfl, rfl, rfl, rfl, rfl, (xe₆.keep0 k₇).keep0 k₈, IV.nil⟩, ?_, ?_⟩
  · rintro i v I h₉ hA - hI loI ⟨oI, hoI⟩ hlt ⟨tv, rfl⟩ ⟨l, u₁, u₂, ev, f₉, e₁, e₂, e₃, e₄, e₅, x₉, iv⟩ kA
    have heI : e < I := Nat.lt_of_lt_of_le (xe₆.keep0 k₇).li.lt hI
    have hLI : L < I := Nat.lt_trans hLe heI
    have hIL : I ≠ L := Nat.ne_of_gt hLI
    have e0 : 0 + i = i := Nat.zero_add i
    rw [e0]
    have fA := f₉.upd kA fun a ha => by rw [List.mem_singleton.mp ha]; exact ⟨Nat.le_trans f.fr (Nat.le_of_lt hLI), loI, .inr hLI⟩
    have xA := x₉.keep kA (nin1 (Nat.ne_of_lt heI))
    have hti := textN_le (turn := turn) (R := R) hW i (by omega)
    have hti1 := textN_le (turn := turn) (R := R) hW (i + 1) hlt
    refine W_assignName (W_st fA (by kernel_rfl) (by kernel_rfl) fun hB fB kB => ?_)
    have xB := xA.keep kB hneL
    have IB := kB I oI (nin1 hIL) hoI
    refine W_cons (W_AugName (W_loadLocal (by kernel_rfl) (by kernel_rfl) fB.ns (lk_ne (by kernel_rfl) e₁) (W_Subscript (W_List ?_))))
    refine W_items_cons (by rfl) (W_strS [] (by kernel_rfl) fun v₁ => W_items_cons (by rfl) (W_strS [] (by kernel_rfl) fun v₂ => W_items_cons (by rfl) (W_strS [10] (by kernel_rfl) fun v₃ => W_items_cons (by rfl) (W_strS [9] (by kernel_rfl) fun v₄ => W_items_cons (by rfl) (W_strS [] (by kernel_rfl) fun v₅ => W_items_nil (W_newL fB.T (szl (by simp)) fun hC D hD xD kC => ?_))))))
    have fC := fB.step kC
    refine W_local fC.ns (by kernel_rfl) (by kernel_rfl) (by kernel_rfl) (lk_ne (by kernel_rfl) e₅) ?_
    have g1 : ∃ t, ([.str (S []) v₁, .str (S []) v₂, .str (S [10]) v₃, .str (S [9]) v₄, .str (S []) v₅] : List Value).toArray[turn]? = some (.str (S (lead turn)) t) := by
      have : turn = 0 ∨ turn = 1 ∨ turn = 2 ∨ turn = 3 ∨ turn = 4 := by omega
      rcases this with rfl | rfl | rfl | rfl | rfl <;> exact ⟨_, rfl⟩
    obtain ⟨v₆, g1⟩ := g1
    have hl1 := lead_le turn
    refine W_tailL xD.is (by rfl) (W_getL xD.is (by omega) g1 (W_iaddS (by omega) fun v₇ => W_st fC (by kernel_rfl) (by kernel_rfl) fun hE fE kE => ?_))
    have xE := (xB.keep0 kC).keep kE hneL
    have IE := kE I oI (nin1 hIL) (kC I oI (fun m => nomatch m) IB)
    have ek : lk (put (put l (Str.ofString "k") (.int (i : Int) tv)) (Str.ofString "text") (.str (S (textN turn R W i ++ lead turn)) v₇)) (Str.ofString "k") = some (.int (i : Int) tv) := lk_ne (by kernel_rfl) lk_self
    refine W_cons (Wp.mono (Q := fun fl hx => fl = Flow.next ∧ WrS w h hx L e wl rl turn n (textN turn R W (i + 1)) (endsN turn R W i) ∧ hx.get? I = some oI) (W_If ?_) ?_)
    · have xr₁ := xr.keep0 fE.k
      obtain ⟨vs, hl, hlo, hvl, hvs⟩ := xr₁
      obtain ⟨v, hv, hrow⟩ := hvs i hlt
      have hw := hW i hlt
      have gw : ∃ t, wv.toArray[i]? = some (.str (S (W i)) t) := by
        have : ((List.range n).map W)[i]? = some (W i) := by simp [hlt]
        obtain ⟨t, e⟩ := sw.get this
        exact ⟨t, by simpa using e⟩
      obtain ⟨tw, gw⟩ := gw
      obtain ⟨ra, rfl⟩ : ∃ ra : Nat, v = .ref ra := by obtain ⟨a, _, _, _, _, _, _, _, _, _, e, _⟩ := hrow; exact ⟨a, e⟩
      refine W_test1 (by kernel_rfl) (W_BinOp (W_BinOp (W_Subscript (W_Subscript ?_))))
      refine W_local fE.ns (by kernel_rfl) (by kernel_rfl) (by kernel_rfl) (lk_ne (by kernel_rfl) (lk_ne (by kernel_rfl) e₄)) ?_
      refine W_local fE.ns (by kernel_rfl) (by kernel_rfl) (by kernel_rfl) ek ?_
      refine W_tailL hl.is (by rfl) (W_getL hl.is (by omega) (by simpa using hv) (W_int fun _ => W_row2 hrow (by intro i; rfl) fun _ => W_BinOp (W_int fun _ => ?_)))
      refine W_local fE.ns (by kernel_rfl) (by kernel_rfl) (by kernel_rfl) (lk_ne (by kernel_rfl) (lk_ne (by kernel_rfl) e₅)) ?_
      refine W_powI (by omega) (by omega) (by decide) fun _ => W_divI (pow_ok turn (by omega)).1 (pow_ok turn (by omega)).2 fun _ => ?_
      rw [div_pow_e]
      refine W_int fun _ => W_modI (by decide) fun _ => W_int fun _ => W_eqI (W_truthyB ⟨fun c => ?_, fun c => ?_⟩)
      · have hq : (R i).quoted turn := by
          have := of_decide_eq_true c
          rw [fmod_e _ (by decide)] at this
          unfold Row.quoted
          omega
        refine W_cons (W_AugName (W_loadLocal (by kernel_rfl) (by kernel_rfl) fE.ns lk_self (W_BinOp (W_BinOp (W_strS [34] (by kernel_rfl) fun _ => W_Subscript ?_)))))
        refine W_local fE.ns (by kernel_rfl) (by kernel_rfl) (by kernel_rfl) (lk_ne (by kernel_rfl) (lk_ne (by kernel_rfl) e₃)) ?_
        refine W_local fE.ns (by kernel_rfl) (by kernel_rfl) (by kernel_rfl) ek ?_
        have xw₁ := xw.keep0 fE.k
        refine W_tailL xw₁.is (by rfl) (W_getL xw₁.is (by omega) gw (W_addS (by simp; omega) fun _ => W_strS [34] (by kernel_rfl) fun _ => W_addS (by simp; omega) fun _ => W_iaddS (by simp; omega) fun _ => ?_))
        have : textN turn R W (i + 1) = (textN turn R W i ++ lead turn) ++ (([34] ++ W i) ++ [34]) := by
          show textN turn R W i ++ item turn (R i) (W i) = _
          unfold item
          rw [if_pos hq]
          exact (List.append_assoc _ _ _).symm
        rw [← this]
        exact W_st fE (by kernel_rfl) (by kernel_rfl) fun hF fF kF => W_nil ⟨rfl, ⟨_, _, _, _, fF, lk_self, lk_ne (by kernel_rfl) (lk_ne (by kernel_rfl) (lk_ne (by kernel_rfl) e₂)), lk_ne (by kernel_rfl) (lk_ne (by kernel_rfl) (lk_ne (by kernel_rfl) e₃)), lk_ne (by kernel_rfl) (lk_ne (by kernel_rfl) (lk_ne (by kernel_rfl) e₄)), lk_ne (by kernel_rfl) (lk_ne (by kernel_rfl) (lk_ne (by kernel_rfl) e₅)), xE.keep kF hneL, iv⟩, kF I oI (nin1 hIL) IE⟩
      · have hq : ¬ (R i).quoted turn := by
          have := of_decide_eq_false c
          rw [fmod_e _ (by decide)] at this
          unfold Row.quoted
          omega
        refine W_cons (W_AugName (W_loadLocal (by kernel_rfl) (by kernel_rfl) fE.ns lk_self (W_BinOp (W_Subscript ?_))))
        refine W_local fE.ns (by kernel_rfl) (by kernel_rfl) (by kernel_rfl) (lk_ne (by kernel_rfl) (lk_ne (by kernel_rfl) e₃)) ?_
        refine W_local fE.ns (by kernel_rfl) (by kernel_rfl) (by kernel_rfl) ek ?_
        have xw₁ := xw.keep0 fE.k
        have gt : ∀ (ht : turn < [32, 10, 9, 13, 32].length), ([32, 10, 9, 13, 32] : List Nat)[turn] = trail turn := by
          have : turn = 0 ∨ turn = 1 ∨ turn = 2 ∨ turn = 3 ∨ turn = 4 := by omega
          rcases this with rfl | rfl | rfl | rfl | rfl <;> intro _ <;> rfl
        refine W_tailL xw₁.is (by rfl) (W_getL xw₁.is (by omega) gw (W_Subscript (W_strS [32, 10, 9, 13, 32] (by kernel_rfl) fun _ => ?_)))
        refine W_local fE.ns (by kernel_rfl) (by kernel_rfl) (by kernel_rfl) (lk_ne (by kernel_rfl) (lk_ne (by kernel_rfl) e₅)) ?_
        refine W_tailS (by rfl) (W_getS (show turn < [32, 10, 9, 13, 32].length from ht5) (by omega) fun _ => ?_)
        rw [gt ht5]
        refine W_addS (by simp; omega) fun _ => W_iaddS (by simp; omega) fun _ => ?_
        have : textN turn R W (i + 1) = (textN turn R W i ++ lead turn) ++ (W i ++ [trail turn]) := by
          show textN turn R W i ++ item turn (R i) (W i) = _
          unfold item
          rw [if_neg hq]
          exact (List.append_assoc _ _ _).symm
        rw [← this]
        exact W_st fE (by kernel_rfl) (by kernel_rfl) fun hF fF kF => W_nil ⟨rfl, ⟨_, _, _, _, fF, lk_self, lk_ne (by kernel_rfl) (lk_ne (by kernel_rfl) (lk_ne (by kernel_rfl) e₂)), lk_ne (by kernel_rfl) (lk_ne (by kernel_rfl) (lk_ne (by kernel_rfl) e₃)), lk_ne (by kernel_rfl) (lk_ne (by kernel_rfl) (lk_ne (by kernel_rfl) e₄)), lk_ne (by kernel_rfl) (lk_ne (by kernel_rfl) (lk_ne (by kernel_rfl) e₅)), xE.keep kF hneL, iv⟩, kF I oI (nin1 hIL) IE⟩
    · rintro fl hx ⟨rfl, ⟨l', w₁, w₂, ev', fX, d₁, d₂, d₃, d₄, d₅, xX, iv'⟩, IX⟩
      have hev : ev'.length = i := by rw [iv'.len]; simp [endsN]
      refine W_cons (W_Expr (by kernel_rfl) (by rfl) (W_CallAttr base_name (by kernel_rfl) (by kernel_rfl) ?_))
      refine W_local fX.ns (by kernel_rfl) (by kernel_rfl) (by kernel_rfl) d₂ fun pl => W_gmAppend xX (W_fv (by rfl) (by rfl) (by rfl) (W_items_cons (by rfl) (W_CallName ?_)))
      walk_at "mb"
      refine W_fv (by rfl) (by rfl) (by rfl) (W_items_cons (by rfl) ?_)
      refine W_local fX.ns (by kernel_rfl) (by kernel_rfl) (by kernel_rfl) d₁ (W_items_nil (W_lenS (by omega) fun _ => W_items_nil (W_append xX (by omega) fun hY xY kY => ⟨rfl, W_nil ⟨⟨_, _, _, _, fX.upd kY fun a ha => ?_, d₁, d₂, d₃, d₄, d₅, xY, ?_⟩, fun b hb o eo => ?_⟩⟩)))
      · rw [List.mem_singleton.mp ha]
        exact ⟨Nat.le_trans f.fr (Nat.le_of_lt hLe), xX.lo, .inr hLe⟩
      · have : endsN turn R W (i + 1) = endsN turn R W i ++ [((textN turn R W (i + 1)).length : Int)] := by
          unfold endsN
          rw [List.range_succ, List.map_append]
          rfl
        rw [this]
        exact iv'.snoc
      · obtain rfl := List.mem_singleton.mp hb
        rw [hoI] at eo
        obtain rfl := Option.some.inj eo
        exact kY b _ (nin1 (Nat.ne_of_gt heI)) IX
  · rintro I h₉ hA hI loI ⟨l, u₁, u₂, ev, f₉, e₁, e₂, e₃, e₄, e₅, x₉, iv⟩ kA
    have heI : e < I := Nat.lt_of_lt_of_le (xe₆.keep0 k₇).li.lt hI
    have hLI : L < I := Nat.lt_trans hLe heI
    have fA := f₉.upd kA fun a ha => by rw [List.mem_singleton.mp ha]; exact ⟨Nat.le_trans f.fr (Nat.le_of_lt hLI), loI, .inr hLI⟩
    have xA := x₉.keep kA (nin1 (Nat.ne_of_lt heI))
    have htn := textN_le (turn := turn) (R := R) hW n (by omega)
    have hev : ev.length = n := by rw [iv.len]; simp [endsN]
    have h0e : h.objs.size ≤ e := Nat.le_trans f.fr (Nat.le_of_lt hLe)
    refine W_cons (W_If (W_test1 (by kernel_rfl) ?_))
    refine W_local fA.ns (by kernel_rfl) (by kernel_rfl) (by kernel_rfl) e₅ ?_
    refine W_int fun _ => W_ltI (W_truthyB ⟨fun c => ?_, fun c => ?_⟩)
    · have hc : turn < 4 := by have := of_decide_eq_true c; omega
      refine W_cons (W_Return (W_Tuple (W_items_cons (by rfl) ?_)))
      refine W_local fA.ns (by kernel_rfl) (by kernel_rfl) (by kernel_rfl) e₁ (W_items_cons (by rfl) ?_)
      refine W_local fA.ns (by kernel_rfl) (by kernel_rfl) (by kernel_rfl) e₂ (W_items_nil (W_newT fA.T (szl (by simp)) fun hB a ha ta kB => ?_))
      have fB := fA.step kB
      have htf : textF turn R W n = textN turn R W n := by unfold textF; rw [if_pos hc]
      rw [← htf] at ta
      refine q hB a e _ ev fB.k (Nat.le_trans (Nat.le_of_lt (Nat.lt_of_le_of_lt fA.fr fA.lt)) ha) h0e ta (xA.keep0 kB).li ?_
      unfold endsF
      rw [if_pos hc]
      exact iv
    · have hc : ¬ turn < 4 := by have := of_decide_eq_false c; omega
      refine W_nil (W_cons (W_Assign (by rfl) (W_BinOp (W_sliceS (fun _ _ => by rfl) ?_))))
      refine W_local fA.ns (by kernel_rfl) (by kernel_rfl) (by kernel_rfl) e₁ (W_evalNone (W_UnaryOp (W_int fun _ => W_negI fun t₉ => ⟨_, _, none, some (-1, t₉), rfl, rfl, rfl, ?_, fun hB t₁₀ kB => ?_⟩)))
      · show (textN turn R W n).length ≤ sizeLine
        omega
      have fB := fA.step kB
      have ez : Txt.slice (S (textN turn R W n)) ((none : Option (Int × Tok)).map (·.1)) ((some (-1, t₉) : Option (Int × Tok)).map (·.1)) = S ((textN turn R W n).take ((textN turn R W n).length - 1)) := slice_butlast _
      rw [ez]
      refine W_sliceC (W_strS [92] (by kernel_rfl) fun _ => W_evalNone (W_BinOp (W_CallName ?_)))
      walk_at "mb"
      refine W_fv (by rfl) (by rfl) (by rfl) (W_items_cons (by rfl) ?_)
      refine W_local fB.ns (by kernel_rfl) (by kernel_rfl) (by kernel_rfl) e₃ (W_items_nil (W_lenL (xw.keep0 fB.k) (by omega) fun _ => W_int fun _ => W_modI (by decide) fun t₁₁ => ⟨_, _, none, some (_, t₁₁), rfl, rfl, rfl, ?_, fun hC t₁₂ kC => ?_⟩))
      · show 1 ≤ sizeLine
        omega
      have fC := fB.step kC
      have ez : Txt.slice (S [92]) ((none : Option (Int × Tok)).map (·.1)) ((some (Int.fmod (wv.length : Int) 2, t₁₁) : Option (Int × Tok)).map (·.1)) = S ([92].take (n % 2)) := by
        rw [hwv, fmod_e _ (by decide)]
        show Txt.slice (S [92]) none (some ((n : Int) % 2)) = _
        rw [show ((n : Int) % 2) = ((n % 2 : Nat) : Int) by omega]
        exact slice_to _ _
      rw [ez]
      have htf : textF turn R W n = (textN turn R W n).take ((textN turn R W n).length - 1) ++ [92].take (n % 2) := by unfold textF; rw [if_neg hc]
      refine W_addS (by simp; omega) fun _ => ?_
      rw [← htf]
      have hzf : (textF turn R W n).length ≤ 33 * n + 1 := by rw [htf]; simp; omega
      refine W_st fC (by kernel_rfl) (by kernel_rfl) fun hD fD kD => ?_
      have xD := ((xA.keep0 kB).keep0 kC).keep kD hneL
      refine W_cons (W_Return (W_Tuple (W_items_cons (by rfl) ?_)))
      refine W_local fD.ns (by kernel_rfl) (by kernel_rfl) (by kernel_rfl) lk_self (W_items_cons (by rfl) (W_BinOp (W_sliceL (fun _ _ => by rfl) ?_)))
      refine W_local fD.ns (by kernel_rfl) (by kernel_rfl) (by kernel_rfl) (lk_ne (by kernel_rfl) e₂) (W_evalNone (W_UnaryOp (W_int fun _ => W_negI fun t₉ => ⟨fD.T, e, ev.toArray, none, some (-1), rfl, xD.li.is, .none, .int _ _, by simp; omega, fun hE b hb xb kE => ?_⟩)))
      have fE := fD.step kE
      have es : (slicePick ev.toArray none (some (-1)) none).toList = ev.take (n - 1) := by
        have := slicePick_butLast ev.toArray 1 (by decide)
        simp only [List.size_toArray, hev] at this
        show (slicePick ev.toArray none (some (-((1 : Nat) : Int))) none).toList = _
        rw [this]
      rw [es] at xb
      refine W_List (W_items_cons (by rfl) (W_CallName ?_))
      walk_at "mb"
      refine W_fv (by rfl) (by rfl) (by rfl) (W_items_cons (by rfl) ?_)
      refine W_local fE.ns (by kernel_rfl) (by kernel_rfl) (by kernel_rfl) lk_self (W_items_nil (W_lenS (by omega) fun t₁₃ => W_items_nil (W_newL fE.T (szl (by simp)) fun hF c hcs xc kF => ?_)))
      have fF := fE.step kF
      refine W_addL fF.T (xb.li.keep0 kF) xc (by simp; omega) fun hG d hds xd kG => W_items_nil (W_newT (fF.step kG).T (szl (by simp)) fun hH a ha ta kH => ?_)
      have fG := fF.step kG
      have fH := fG.step kH
      refine q hH a d _ _ fH.k (Nat.le_trans (Nat.le_of_lt (Nat.lt_of_le_of_lt fG.fr fG.lt)) ha) (Nat.le_trans (Nat.le_of_lt (Nat.lt_of_le_of_lt fF.fr fF.lt)) hds) ta (xd.keep0 kH).li ?_
      unfold endsF
      rw [if_neg hc]
      have tk : ∀ {vs : List Value} {ls : List Int}, IV vs ls → ∀ m, IV (vs.take m) (ls.take m) := by
        intro vs ls hiv
        induction hiv with
        | nil => intro m; simpa using IV.nil
        | cons h ih =>
          intro m
          cases m with
          | zero => exact IV.nil
          | succ m => exact IV.cons (ih m)
      exact (tk iv (n - 1)).snoc
end
end Mine
end PartF8

-- G1
section PartG1
open PySem PySem.W PyProof.Rows PySem.Calls
set_option Elab.async false
set_option maxRecDepth 100000
set_option maxHeartbeats 4000000
set_option linter.unusedVariables false
namespace Mine
theorem type_weight (rest : List Value) : (Code.builtin "type.__call__" ⟨.ref 77 :: rest, []⟩).weight = 1 := by kernel_rfl
theorem type_units (args : Args) : (Code.builtin "type.__call__" args).cUnits ≤ 20 := by simp [Code.cUnits, Code.frames, Code.isFrame]
theorem Rm.type {A : Around} {k : Nat} {rest : List Value} (r : Rm A (k + 1)) : Rm (A.under (.builtin "type.__call__" ⟨.ref 77 :: rest, []⟩)) k :=
  ⟨r.hd, by have := r.dp; have e := type_weight rest; show A.depth + (Code.builtin "type.__call__" ⟨.ref 77 :: rest, []⟩).weight + k < _; omega,
    by have := r.un; have e := type_units ⟨.ref 77 :: rest, []⟩; show A.units + (Code.builtin "type.__call__" ⟨.ref 77 :: rest, []⟩).cUnits + 20 * k < _; omega⟩
noncomputable def mcT (w : World) : Str → Option Value := (topHeap w.params).nsMap 76
theorem TH.cls {w : World} {h : Heap} (t : TH w h) : h.Ns 76 (mcT w) := (Heap.Ns.of_isNs (by kernel_rfl : (topHeap w.params).isNs 76 = true)).at' fun o e => t 76 o (by decide) e
theorem TH.class {w : World} {h : Heap} (t : TH w h) : h.get? 77 = some (excClassObj (St "_netrclex") (St "_netrclex") 77 76 [.type "object"] [.type "object"] true [] [] false none none none none (some (.str (St "_netrclex") 265)) (some (.str (St "_netrclex") 273)) (some (.bool true)) "object.__new__") := t 77 _ (by decide) (by kernel_rfl)
/-- a lexer or a box, its dict at dx -/
structure IO (h : Heap) (x dx : Nat) (l : List (Str × Value)) : Prop where
  lox : 151 ≤ x
  lod : 151 ≤ dx
  ne : dx ≠ x
  obj : ∃ o, h.get? x = some o ∧ o.cls = .ref 77 ∧ (∀ c, o.data ≠ .cls c) ∧ o.dict = some dx
  ns : h.Ns1 dx (lk l)
theorem IO.inst {h : Heap} {x dx : Nat} {l : List (Str × Value)} (i : IO h x dx l) : h.Inst x 77 (lk l) := by
  obtain ⟨o, e, c, d, dd⟩ := i.obj
  exact ⟨o, e, c, d, .inr ⟨dx, dd, i.ne, i.ns⟩⟩
theorem IO.keep {h h' : Heap} {x dx : Nat} {l : List (Str × Value)} {X : List Addr} (i : IO h x dx l) (k : Kp X h h') (hx : (x : Addr) ∉ X) (hd : (dx : Addr) ∉ X) : IO h' x dx l := by
  obtain ⟨o, e, r⟩ := i.obj
  exact ⟨i.lox, i.lod, i.ne, ⟨o, k x o hx e, r⟩, i.ns.at fun o e => k dx o hd e⟩
theorem IO.keep0 {h h' : Heap} {x dx : Nat} {l : List (Str × Value)} (i : IO h x dx l) (k : Kp [] h h') : IO h' x dx l := i.keep k (fun m => nomatch m) (fun m => nomatch m)
theorem IO.ltx {h : Heap} {x dx : Nat} {l : List (Str × Value)} (i : IO h x dx l) : x < h.objs.size := let ⟨_, e, _⟩ := i.obj; Heap.lt_size e
theorem IO.ltd {h : Heap} {x dx : Nat} {l : List (Str × Value)} (i : IO h x dx l) : dx < h.objs.size := i.ns.lt
theorem lk_within (l : List (Str × Value)) : Within (lk l) (l.map (·.1)) := by
  intro y hy
  unfold lk at hy
  induction l with
  | nil => exact absurd rfl hy
  | cons p r ih =>
    rw [List.lookup_cons] at hy
    by_cases h : y = p.1
    · simp [h]
    · have : (y == p.1) = false := by simpa using h
      rw [this] at hy
      simp only at hy
      exact List.mem_cons_of_mem _ (ih hy)
section
variable {w : World} {A : Around} {h : Heap} {env : Env}
theorem W_Attr {value : Expr} {attr : Str} {pos : Pos} {Q : Value → Heap → Prop} (hbase : attributeBase value attr env (eval value env) = eval value env) (H : Wp w A (eval value env) (fun o h₁ => Wp w A (getAttr o attr true) Q h₁) h) : Wp w A (eval (.Attribute value attr pos) env) Q h := by
  rw [arm_eval_Attribute, hbase]
  exact Wp.bind (H.mono fun o h₁ q => Wp.bind (Wp.standAt (Wp.bind (Wp.holding (q.mono fun r h₂ q => Wp.bind (W_letGo (Wp.pure q)))))))
theorem W_AssignAttr {o value : Expr} {attr : Str} {pos' pos : Pos} {Q : Flow → Heap → Prop} (hs' : swapsWith value (some (.Attribute o attr pos')) pos.line env = Pure.pure false)
    (H : Wp w A (eval value env) (fun v h₁ => Wp w A (eval o env) (fun ov h₂ => Wp w A (setAttr ov attr v) (fun _ h₃ => Q .next h₃) h₂) h₁) h) : Wp w A (exec (.Assign [.Attribute o attr pos'] value pos) env) Q h :=
  Wp.mk fun s Q' E hs k => by subst hs; exact plainObj_wpAny_Assign_Attribute (H.use fun v h₁ tk q => q.on fun ov h₂ tk₂ q => q.on fun _ h₃ tk₃ q => k _ _ _ q) hs'
theorem W_loadA {x dx : Nat} {l : List (Str × Value)} {name : Str} {v : Value} {b : Bool} {Q : Value → Heap → Prop} (T : TH w h) (io : IO h x dx l) (hna : mcT w name = none) (hB : typeLookup (.type "object") name = Pure.pure none) (hv : lk l name = some v) (hh : handedOut v = Pure.pure v) (q : Q v h) :
    Wp w A (getAttr (.ref x) name b) Q h :=
  Wp.mk fun s Q' E hs k => by subst hs; exact load_attr T.class T.cls (by kernel_rfl) hna hB io.inst hv hh (k _ s.heap _ q)
theorem W_storeA {x dx : Nat} {l : List (Str × Value)} {name : Str} {v : Value} {Q : Unit → Heap → Prop} (T : TH w h) (io : IO h x dx l) (hz : l.length ≤ 100) (hna : mcT w name = none) (hB : typeLookup (.type "object") name = Pure.pure none) (q : ∀ h', IO h' x dx (put l name v) → Kp [x, dx] h h' → Q () h') :
    Wp w A (setAttr (.ref x) name v) Q h :=
  Wp.mk fun s Q' E hs k => by
    subst hs
    have hx77 : (x : Addr) ≠ 77 := fun e => by have := io.lox; rw [show x = 77 from e] at this; exact absurd this (by decide)
    obtain ⟨o, ho, hc, hd, hdd⟩ := io.obj
    refine store_attr F.store_object T.class T.cls (by kernel_rfl) hna hB hx77 io.inst (fun h' tk' I' hk hsame => k _ h' tk' (q h' ?_ fun b ob hb e => hk b ob (fun q => hb (by simp [q])) (fun o₀ dx' h0 h1 => ?_) e)) (lk_within l) (by rw [List.length_map]; exact Nat.le_trans hz (by decide))
    · obtain ⟨o₁, e1, c1, d1, s1, dd1⟩ := hsame o ho
      obtain ⟨o₂, e2, c2, d2, n2⟩ := I'
      rw [e1] at e2
      obtain rfl := Option.some.inj e2
      have hdx := dd1 dx hdd
      rcases n2 with ⟨n0, _⟩ | ⟨d, n1, n3, n4⟩
      · rw [hdx] at n0; cases n0
      · rw [hdx] at n1
        obtain rfl := Option.some.inj n1
        refine ⟨io.lox, io.lod, io.ne, ⟨o₁, e1, c1.trans hc, fun c => by rw [d1]; exact hd c, hdx⟩, ?_⟩
        rw [lk_put] at n4
        exact n4
    · rw [ho] at h0
      obtain rfl := Option.some.inj h0
      rw [hdd] at h1
      obtain rfl := Option.some.inj h1
      intro q
      exact hb (by simp [q])
theorem W_method {x dx : Nat} {l : List (Str × Value)} {name : Str} {f : Addr} {of : Obj} {pl : Sem Bool} {y : Option Value} {Q : Value × List Value → Heap → Prop} (T : TH w h) (io : IO h x dx l) (hf : mcT w name = some (.ref f)) (hfo : h.get? f = some of) (hfc : of.cls = .type "function") (hB : typeLookup (.type "object") name = Pure.pure y) (hsh : lk l name = none)
    (q : Q (.ref f, [.ref x]) h) : Wp w A (getMethod (.ref x) name pl) Q h :=
  Wp.mk fun s Q' E hs k => by subst hs; exact method_of T.class T.cls (by kernel_rfl) (by kernel_rfl) hf hfo hfc hB io.inst hsh (k _ s.heap s.toks q)
theorem TH.all {w : World} (t : TH w h) (h9 : ∃ o, h.get? 119 = some o) {a : Nat} (e : h.get? a = none) : 151 ≤ a := by
  refine Nat.le_of_not_lt fun q => ?_
  by_cases h1 : a = 119
  · obtain ⟨o, e9⟩ := h9
    rw [h1, e9] at e
    cases e
  · have key : ((List.range 151).all fun b => ((topHeap w.params).get? b).isSome) = true := by kernel_rfl
    have := List.all_eq_true.mp key a (List.mem_range.mpr q)
    obtain ⟨o, eo⟩ := Option.isSome_iff_exists.mp this
    rw [t a o h1 eo] at e
    cases e
theorem W_new {rest : List Value} {Q : Value → Heap → Prop} (T : TH w h) (h9 : ∃ o, h.get? 119 = some o) (q : ∀ h' x dx, IO h' x dx [] → h.get? x = none → h.get? dx = none → Kp [] h h' → Wp w (A.under (.builtin "type.__call__" ⟨.ref 77 :: rest, []⟩)) (call (.ref 53) (.ref x :: rest)) (fun r h₂ => r = .none ∧ Q (.ref x) h₂) h') :
    Wp w A (call (.ref 77) rest) Q h :=
  Wp.mk fun s Q' E hs k => by
    subst hs
    refine wpAny_call_obj_init F.objNew T.class T.cls (fI := 53) (oI := ob53 w.params) (by kernel_rfl) (T 53 _ (by decide) (by kernel_rfl)) rfl fun h' x dx m => ?_
    obtain ⟨o, e1, e2, e3, e4⟩ := m.inst
    have hdd := m.dict o e1
    refine (q h' x dx ⟨T.all h9 m.newX, T.all h9 m.newD, ?_, ⟨o, e1, e2, e3, hdd⟩, ?_⟩ m.newX m.newD (.all m.keeps)).on fun r h₂ tk q => ⟨q.1, k _ _ _ q.2⟩
    · rcases e4 with ⟨n0, _⟩ | ⟨d, n1, n3, n4⟩
      · rw [hdd] at n0; cases n0
      · rw [hdd] at n1; obtain rfl := Option.some.inj n1; exact n3
    · rcases e4 with ⟨n0, _⟩ | ⟨d, n1, n3, n4⟩
      · rw [hdd] at n0; cases n0
      · rw [hdd] at n1; obtain rfl := Option.some.inj n1; exact n4
/-- a class of the text, called -/
theorem W_callCls0 {pos : Pos} {x : Sem Value} {rest : List (Bool × Sem Value)} {first : List Value} {Q : Value → Heap → Prop} (hp : ((false, x) :: rest).any (·.1) = false)
    (H : Wp w A (spliced ((false, x) :: rest)) (fun vs h₁ => TH w h₁ ∧ Wp w A (call (.ref 77) (first ++ vs)) Q h₁) h) : Wp w A (callWith pos (.ref 77) first ((false, x) :: rest) []) Q h := by
  unfold callWith
  refine Wp.bind (Wp.holding (Wp.mono (W_evalArgs (Q := fun a h₁ => TH w h₁ ∧ Wp w A (call (.ref 77) (first ++ a.pos) a.kw) Q h₁) H) fun a h₁ q => Wp.bind (Wp.standAt ?_)))
  obtain ⟨T, q⟩ := q
  simp only [hp, List.any_nil, Bool.or_false]
  refine Wp.bind (Wp.mono (Q := fun k h₂ => k = Keeper.machine ∧ h₂ = h₁) ?_ ?_)
  · unfold keeperOf
    refine Wp.bind (Wp.load T.class ?_)
    refine Wp.bind (Wp.mk fun s Q' E hs k => ?_)
    subst hs
    exact wpAny_specialOf (T := "type") ⟨_, T.class, rfl⟩ tc_lookup (k _ s.heap s.toks (Wp.pure ⟨rfl, rfl⟩))
  · rintro k h₂ ⟨rfl, rfl⟩
    exact Wp.bind (q.mono fun r h₂ q₂ => Wp.bind (Wp.holding (Wp.mk fun s Q' E hs k => by subst hs; exact wpAny_point (k _ s.heap s.toks (Wp.pure q₂)))))
theorem W_callCls {pos : Pos} {e : Expr} {es : List Expr} {first : List Value} {Q : Value → Heap → Prop} (he : starEach (e :: es) env = (false, eval e env) :: starEach es env) (hp : (backTo pos (starEach (e :: es) env)).any (·.1) = false)
    (H : Wp w A (spliced (backTo pos (starEach (e :: es) env))) (fun vs h₁ => TH w h₁ ∧ Wp w A (call (.ref 77) (first ++ vs)) Q h₁) h) : Wp w A (callWith pos (.ref 77) first (backTo pos (starEach (e :: es) env)) []) Q h := by
  rw [he] at H hp ⊢
  exact W_callCls0 hp H
end
end Mine
end PartG1

-- G2
section PartG2
open PySem PySem.W PyProof.Rows PySem.Calls
set_option Elab.async false
set_option maxRecDepth 100000
set_option maxHeartbeats 4000000
set_option linter.unusedVariables false
namespace Mine
local macro_rules | `(tactic| walk_at "ml") => `(tactic| refine W_local (Fr.ns (by assumption)) (by kernel_rfl) (by kernel_rfl) (by kernel_rfl) (by rfl) ?_)
local macro_rules | `(tactic| walk_at "mn") => `(tactic| refine W_local (by assumption) (by kernel_rfl) (by kernel_rfl) (by kernel_rfl) (by rfl) ?_)
local macro_rules | `(tactic| walk_at "mb") => `(tactic| (refine W_builtin (TH.glob (Fr.T (by assumption))) (TH.blt (Fr.T (by assumption))) (by kernel_rfl) (by kernel_rfl) (by kernel_rfl) (by kernel_rfl) (by first | with_reducible exact mb_range | with_reducible exact mb_len | with_reducible exact mb_sum | with_reducible exact mb_isinstance | with_reducible exact mb_bool | with_reducible exact mb_iter) ?_))
local macro_rules | `(tactic| walk_at "mg") => `(tactic| (refine W_global (TH.glob (Fr.T (by assumption))) (by kernel_rfl) (by kernel_rfl) (by kernel_rfl) (by first | with_reducible exact mg_b1 | with_reducible exact mg_lex | with_reducible exact mg_row | with_reducible exact mg_word | with_reducible exact mg_joined | with_reducible exact mg_left | with_reducible exact mg_stream | with_reducible exact mg_written | with_reducible exact mg_again | with_reducible exact mg_twos) ?_))
local macro_rules | `(tactic| walk_at "ms") => `(tactic| refine W_st (by assumption) (by kernel_rfl) (by kernel_rfl) ?_)
theorem tl_lineno : typeLookup (.type "object") (Str.ofString "lineno") = Pure.pure none := by rw [typeLookup_type, builtinLookup_eq_fast]; kernel_rfl
theorem tl_instream : typeLookup (.type "object") (Str.ofString "instream") = Pure.pure none := by rw [typeLookup_type, builtinLookup_eq_fast]; kernel_rfl
theorem tl_whitespace : typeLookup (.type "object") (Str.ofString "whitespace") = Pure.pure none := by rw [typeLookup_type, builtinLookup_eq_fast]; kernel_rfl
theorem tl_pushback : typeLookup (.type "object") (Str.ofString "pushback") = Pure.pure none := by rw [typeLookup_type, builtinLookup_eq_fast]; kernel_rfl
theorem tl_read : typeLookup (.type "object") (Str.ofString "read") = Pure.pure none := by rw [typeLookup_type, builtinLookup_eq_fast]; kernel_rfl
theorem tl_readchar : typeLookup (.type "object") (Str.ofString "_read_char") = Pure.pure none := by rw [typeLookup_type, builtinLookup_eq_fast]; kernel_rfl
theorem tl_gettoken : typeLookup (.type "object") (Str.ofString "get_token") = Pure.pure none := by rw [typeLookup_type, builtinLookup_eq_fast]; kernel_rfl
noncomputable def whiteS : List Nat := [10, 9, 13, 32]
/-- what a lexer's dict holds -/
noncomputable def lexD (n : Int) (t₁ : Tok) (fp : Value) (t₂ : Tok) (pb : Nat) : List (Str × Value) := [(St "lineno", .int n t₁), (St "instream", fp), (St "whitespace", .str (S whiteS) t₂), (St "pushback", .ref pb)]
noncomputable def fInit : FuncData := fdAt (mem 5 0) (St "_netrclex.__init__") 3 (.str (St "cpy313.netrc") 263) (.ref 52)
section
variable {w : World} {A : Around} {Z : List Addr} {h₀ h h' : Heap} {L : Nat} {l : List (Str × Value)} {cs : List (Option Value)} {env : Env}
theorem Fr.upZ (f : Fr w Z h₀ h L l cs) (k : Kp Z h h') (hZ : ∀ a : Nat, a ∈ Z → (151 ≤ a ∨ a = 119) ∧ (a < L ∨ L + cs.length < a)) : Fr w Z h₀ h' L l cs := by
  refine ⟨f.k.trans k, f.fr, f.lo, k.ns f.ns (fun m => ?_), fun i v e => IsCell.keep (f.cell i v e) k (fun m => ?_) (Nat.le_trans f.lo (by show L ≤ L + 1 + i; omega)), f.T.keep k fun a ha => (hZ a ha).1⟩
  · have := (hZ L m).2
    omega
  · have q := (hZ (L + 1 + i) m).2
    have hi : (i : Nat) < cs.length := (List.getElem?_eq_some_iff.mp e).1
    omega
theorem Fr.toZ (f : Fr w [] h₀ h L l cs) : Fr w Z h₀ h L l cs := ⟨f.k.of0, f.fr, f.lo, f.ns, f.cell, f.T⟩
theorem put_le {n : Nat} : ∀ {l : List (Str × Value)} {x : Str} {v : Value}, l.length ≤ n → (put l x v).length ≤ n + 1
  | [], x, v, h => by show 1 ≤ n + 1; omega
  | (k, v') :: r, x, v, h => by
    unfold put
    split
    · show r.length + 1 ≤ n + 1; have : r.length + 1 ≤ n := h; omega
    · show (put r x v).length + 1 ≤ n + 1
      have h' : r.length + 1 ≤ n := h
      have := put_le (n := n - 1) (l := r) (x := x) (v := v) (by omega)
      omega
theorem nin2 {a b c : Addr} (h : a ≠ b) (h' : a ≠ c) : a ∉ [b, c] := fun m => by
  rcases List.mem_cons.mp m with q | q
  · exact h q
  · exact h' (List.mem_singleton.mp q)
theorem C_init {x dx : Nat} {fp : Value} {Q : Value → Heap → Prop} (r : Rm A 1) (T : TH w h) (io : IO h x dx []) (q : ∀ h' t₁ t₂ pb, IO h' x dx (lexD 1 t₁ fp t₂ pb) → LP h' pb [] → h.objs.size ≤ pb → Kp [x, dx] h h' → Q .none h') : Wp w A (call (.ref 53) [.ref x, fp]) Q h := by
  refine C_fn (Z := []) (fd := fInit) (binds := [(St "self", .ref x), (St "fp", fp)]) T r.room (T 53 (ob53 w.params) (by decide) (by kernel_rfl)) rfl (T.codeRec (o := ob52 w.params) (by decide) (by kernel_rfl) rfl (by rfl)) (by rfl) (by kernel_rfl) (by kernel_rfl) (by kernel_rfl) (by kernel_rfl) (by kernel_rfl) (by kernel_rfl) ?_
  intro h₁ L f0
  have f : Fr w [x, dx] h h₁ L _ _ := f0.toZ
  have hxL : x < L := Nat.lt_of_lt_of_le io.ltx f.fr
  have hdL : dx < L := Nat.lt_of_lt_of_le io.ltd f.fr
  have hZ : ∀ a : Nat, a ∈ ([x, dx] : List Addr) → (151 ≤ a ∨ a = 119) ∧ (a < L ∨ L + ([] : List (Option Value)).length < a) := by
    intro a ha
    rcases List.mem_cons.mp ha with rfl | ha
    · exact ⟨.inl io.lox, .inl hxL⟩
    · obtain rfl := List.mem_singleton.mp ha
      exact ⟨.inl io.lod, .inl hdL⟩
  have io₁ : IO h₁ x dx [] := io.keep0 f0.k
  refine W_cons (W_AssignAttr (by rfl) (W_int fun t₁ => ?_))
  walk_at "ml"
  refine W_storeA f.T io₁ (by decide) (by kernel_rfl) tl_lineno fun h₂ io₂ k₂ => ?_
  have f₂ := f.upZ k₂ hZ
  refine W_cons (W_AssignAttr (by rfl) ?_)
  walk_at "ml"
  walk_at "ml"
  refine W_storeA f₂.T io₂ (Nat.le_trans (put_le (Nat.le_refl 0)) (by decide)) (by kernel_rfl) tl_instream fun h₃ io₃ k₃ => ?_
  have f₃ := f₂.upZ k₃ hZ
  refine W_cons (W_AssignAttr (by rfl) (W_strS whiteS (by kernel_rfl) fun t₂ => ?_))
  walk_at "ml"
  refine W_storeA f₃.T io₃ (Nat.le_trans (put_le (put_le (Nat.le_refl 0))) (by decide)) (by kernel_rfl) tl_whitespace fun h₄ io₄ k₄ => ?_
  have f₄ := f₃.upZ k₄ hZ
  refine W_cons (W_AssignAttr (by rfl) (W_List (W_items_nil (W_newLP f₄.T (szl (by simp)) fun h₅ pb hpb xpb k₅ => ?_))))
  have f₅ := f₄.step k₅
  have io₅ := io₄.keep0 k₅
  walk_at "ml"
  have hxp : x < pb := Nat.lt_of_lt_of_le io₄.ltx hpb
  have hdp : dx < pb := Nat.lt_of_lt_of_le io₄.ltd hpb
  have hLp : L < pb := Nat.lt_of_lt_of_le f₄.lt hpb
  refine W_storeA f₅.T io₅ (Nat.le_trans (put_le (put_le (put_le (Nat.le_refl 0)))) (by decide)) (by kernel_rfl) tl_pushback fun h₆ io₆ k₆ => W_nil ?_
  exact q h₆ t₁ t₂ pb io₆ (xpb.keep k₆ (nin2 (Nat.ne_of_gt hxp) (Nat.ne_of_gt hdp))) (Nat.le_trans f.fr (Nat.le_of_lt hLp)) (f₅.upZ k₆ hZ).k
end
end Mine
end PartG2

-- G3
section PartG3
open PySem PySem.W PyProof.Rows PySem.Calls
set_option Elab.async false
set_option maxRecDepth 100000
set_option maxHeartbeats 4000000
set_option linter.unusedVariables false
namespace Mine
local macro_rules | `(tactic| walk_at "ml") => `(tactic| refine W_local (Fr.ns (by assumption)) (by kernel_rfl) (by kernel_rfl) (by kernel_rfl) (by rfl) ?_)
local macro_rules | `(tactic| walk_at "mn") => `(tactic| refine W_local (by assumption) (by kernel_rfl) (by kernel_rfl) (by kernel_rfl) (by rfl) ?_)
local macro_rules | `(tactic| walk_at "mb") => `(tactic| (refine W_builtin (TH.glob (Fr.T (by assumption))) (TH.blt (Fr.T (by assumption))) (by kernel_rfl) (by kernel_rfl) (by kernel_rfl) (by kernel_rfl) (by first | with_reducible exact mb_range | with_reducible exact mb_len | with_reducible exact mb_sum | with_reducible exact mb_isinstance | with_reducible exact mb_bool | with_reducible exact mb_iter) ?_))
local macro_rules | `(tactic| walk_at "mg") => `(tactic| (refine W_global (TH.glob (Fr.T (by assumption))) (by kernel_rfl) (by kernel_rfl) (by kernel_rfl) (by first | with_reducible exact mg_b1 | with_reducible exact mg_lex | with_reducible exact mg_row | with_reducible exact mg_word | with_reducible exact mg_joined | with_reducible exact mg_left | with_reducible exact mg_stream | with_reducible exact mg_written | with_reducible exact mg_again | with_reducible exact mg_twos) ?_))
local macro_rules | `(tactic| walk_at "ms") => `(tactic| refine W_st (by assumption) (by kernel_rfl) (by kernel_rfl) ?_)
section
variable {w : World} {A : Around} {h : Heap} {env : Env}
theorem W_make {fp : Value} {Q : Value → Heap → Prop} (r : Rm A 2) (T : TH w h) (h9 : ∃ o, h.get? 119 = some o) (q : ∀ h' (x dx : Nat) t₁ t₂ (pb : Nat), IO h' x dx (lexD 1 t₁ fp t₂ pb) → LP h' pb [] → h.get? x = none → h.get? dx = none → h.get? pb = none → pb ≠ x → pb ≠ dx → Kp [] h h' → Q (.ref x) h') :
    Wp w A (call (.ref 77) [fp]) Q h := by
  refine W_new T h9 fun h₁ x dx io hx hd k₁ => C_init (r.type) (T.keep0 k₁) io fun h₂ t₁ t₂ pb io₂ xpb hpb k₂ => ⟨rfl, ?_⟩
  have hp : h₁.get? pb = none := fresh_size _ _ hpb
  have hp0 : h.get? pb = none := by
    cases e : h.get? pb with
    | none => rfl
    | some o => rw [k₁ pb o (fun m => nomatch m) e] at hp; cases hp
  refine q h₂ x dx t₁ t₂ pb io₂ xpb hx hd hp0 (Nat.ne_of_gt (Nat.lt_of_lt_of_le io.ltx hpb)) (Nat.ne_of_gt (Nat.lt_of_lt_of_le io.ltd hpb)) (k₁.local k₂ fun a ha => ?_)
  rcases List.mem_cons.mp ha with rfl | ha
  · exact hx
  · obtain rfl := List.mem_singleton.mp ha
    exact hd
end
noncomputable def fStream : FuncData := fdAt (stm 13) (St "_law_stream") 3 (.str (St "law_pk0024_01") 323) (.ref 123)
noncomputable def defRead : Stmt := match stm 13 with
  | .FunctionDef _ _ b _ _ _ _ _ _ _ => b.getD 2 default
  | _ => default
noncomputable def qualRead : Str := St "_law_stream.<locals>._law_read"
/-- the closure that reads: its cells are ct, cs, its code is c -/
noncomputable def fdRead (ct cs c : Nat) (doc ctv : Value) : FuncData := match defRead with
  | .FunctionDef n a b _ _ _ sc _ _ _ => fnX n qualRead a b sc [(St "text", ct), (St "seat", cs)] .none .none doc (.str (St "law_pk0024_01") 323) none (.ref c) ctv
  | _ => default
noncomputable def tabRead (c : Nat) : Array Value := #[rawInt 79, rawInt 4, .ref c]
/-- the table of the nested code: laid or not; what is laid is none of Y -/
noncomputable def Tb (Y : List Addr) (h : Heap) : Prop := h.get? 119 = some (tabObj #[]) ∨ ∃ c : Nat, h.get? 119 = some (tabObj (tabRead c)) ∧ 151 ≤ c ∧ (c : Addr) ∉ Y ∧ h.CodeRec (.ref c) qualRead
theorem Tb.some {Y : List Addr} {h : Heap} (t : Tb Y h) : ∃ o, h.get? 119 = some o := by
  rcases t with e | ⟨c, e, _⟩ <;> exact ⟨_, e⟩
theorem CodeRec.lt {h : Heap} {c : Nat} {q : Str} (x : h.CodeRec (.ref c) q) : ∃ o, h.get? c = some o := by
  obtain ⟨a, o, vs, t, e, ho, r⟩ := x
  cases e
  exact ⟨o, ho⟩
theorem CodeRec.keep {h h' : Heap} {c : Nat} {q : Str} {X : List Addr} (x : h.CodeRec (.ref c) q) (k : Kp X h h') (hc : (c : Addr) ∉ X) : h'.CodeRec (.ref c) q := by
  obtain ⟨a, o, vs, t, e, ho, r⟩ := x
  cases e
  exact ⟨_, o, vs, t, rfl, k _ o hc ho, r⟩
theorem Tb.keep {X Y : List Addr} {h h' : Heap} (t : Tb Y h) (k : Kp X h h') (h9 : (119 : Addr) ∉ X) (hX : ∀ a ∈ X, a ∈ Y) : Tb Y h' := by
  rcases t with e | ⟨c, e, lo, hc, cr⟩
  · exact .inl (k 119 _ h9 e)
  · exact .inr ⟨c, k 119 _ h9 e, lo, hc, CodeRec.keep cr k fun m => hc (hX _ m)⟩
theorem Tb.keep0 {Y : List Addr} {h h' : Heap} (t : Tb Y h) (k : Kp [] h h') : Tb Y h' := t.keep k (fun m => nomatch m) fun _ m => nomatch m
theorem Tb.cons {Y : List Addr} {h : Heap} {a : Addr} (t : Tb Y h) (e : h.get? a = none) : Tb (a :: Y) h := by
  rcases t with e9 | ⟨c, e9, lo, hc, cr⟩
  · exact .inl e9
  · refine .inr ⟨c, e9, lo, fun m => ?_, cr⟩
    rcases List.mem_cons.mp m with q | q
    · obtain ⟨o, eo⟩ := CodeRec.lt cr
      rw [q, e] at eo
      cases eo
    · exact hc q
theorem Tb.sub {Y Y' : List Addr} {h : Heap} (t : Tb Y h) (s : ∀ a ∈ Y', a ∈ Y) : Tb Y' h := by
  rcases t with e9 | ⟨c, e9, lo, hc, cr⟩
  · exact .inl e9
  · exact .inr ⟨c, e9, lo, fun m => hc (s _ m), cr⟩

theorem TH.codeHd {w : World} {h : Heap} (t : TH w h) : CodeHd h 123 119 :=
  ⟨ob123 w.params, _, _, _, _, _, _, _, _, t 123 _ (by decide) (by kernel_rfl), rfl, rfl, rfl, rfl, rfl, rfl, rfl, rfl, by decide⟩
theorem TH.bat {w : World} {h : Heap} (t : TH w h) : h.BuiltinsAt (mgT w) 119 :=
  ⟨4, boot_o_4 w.params, by kernel_rfl, by decide, by decide, by decide, t 4 _ (by decide) (by kernel_rfl), by kernel_rfl, by kernel_rfl, by kernel_rfl⟩
/-- all that a reading box is, but the seat's place in the text -/
structure Box (h : Heap) (z : List Nat) (x dx fr ct cs c sl : Nat) : Prop where
  io : ∃ l, IO h x dx l ∧ lk l (Str.ofString "read") = some (.ref fr)
  fn : ∃ doc ctv, h.get? fr = some { cls := .type "function", data := .func (fdRead ct cs c doc ctv) }
  code : h.CodeRec (.ref c) qualRead
  text : ∃ t, h.IsCell ct (some (.str (S z) t))
  seat : h.IsCell cs (some (.ref sl))
  lo : ∀ a : Nat, a ∈ ([x, dx, fr, ct, cs, c, sl] : List Addr) → 151 ≤ a
  ne : (sl : Addr) ∉ ([x, dx, fr, ct, cs, c] : List Addr)
theorem Box.keep {h h' : Heap} {z : List Nat} {x dx fr ct cs c sl : Nat} {X : List Addr} (b : Box h z x dx fr ct cs c sl) (k : Kp X h h') (hX : ∀ a : Nat, a ∈ ([x, dx, fr, ct, cs, c] : List Addr) → (a : Addr) ∉ X) : Box h' z x dx fr ct cs c sl := by
  obtain ⟨l, io, e⟩ := b.io
  obtain ⟨doc, ctv, e2⟩ := b.fn
  obtain ⟨t, ot, e3, e4⟩ := b.text
  obtain ⟨os, e5, e6⟩ := b.seat
  exact ⟨⟨l, io.keep k (hX x (by simp)) (hX dx (by simp)), e⟩, ⟨doc, ctv, k fr _ (hX fr (by simp)) e2⟩, CodeRec.keep b.code k (hX c (by simp)), ⟨t, ot, k ct _ (hX ct (by simp)) e3, e4⟩, ⟨os, k cs _ (hX cs (by simp)) e5, e6⟩, b.lo, b.ne⟩
section
variable {w : World} {A : Around} {h : Heap} {env : Env}
theorem W_def {name : Str} {params : Arguments} {body : List Stmt} {scope : Scope} {pos : Pos} {Q : Flow → Heap → Prop} (hd0 : params.defaults = []) (hk0 : params.kw_defaults = []) (ha : annTrees params none env = [])
    (H : Wp w A (makeFunction name (qualnameIn env name name) params (.stmts body) scope env [] [] [] pos pos.line) (fun v h₁ => Wp w A (storeName env name v) (fun _ h₂ => Q .next h₂) h₁) h) :
    Wp w A (exec (.FunctionDef name params body [] none [] scope none name pos) env) Q h :=
  Wp.mk fun s Q' E hs k => by subst hs; exact nestDef_K hd0 hk0 ha (H.use fun v h₁ tk q => q.on fun _ h₂ tk₂ q => k _ _ _ q)
theorem W_mkRead {name : Str} {params : Arguments} {body : List Stmt} {scope : Scope} {pos : Pos} {fl : Nat} {ct cs : Nat} {Y : List Addr} {Q : Value → Heap → Prop} (T : TH w h) (tb : Tb Y h) (hY : ∀ a ∈ Y, ∃ o, h.get? a = some o)
    (hfd : ∀ c doc ctv, fnX name qualRead params body scope [(St "text", ct), (St "seat", cs)] .none .none doc (.str (St "law_pk0024_01") 323) none (.ref c) ctv = fdRead ct cs c doc ctv)
    (hcl : closureFor scope env = Pure.pure [(St "text", ct), (St "seat", cs)]) (hge0 : env.globals = mainGlobals) (hcode : env.code = .ref 123) (hp1 : pos.line = 79) (hp2 : pos.col = 4)
    (q : ∀ h' (fr c : Nat) doc ctv, Kp [119] h h' → Tb Y h' → h.get? fr = none → h'.get? fr = some { cls := .type "function", data := .func (fdRead ct cs c doc ctv) } → h'.CodeRec (.ref c) qualRead → 151 ≤ c → (c : Addr) ∉ Y → c < fr → Q (.ref fr) h') :
    Wp w A (makeFunction name qualRead params (.stmts body) scope env [] [] [] pos fl) Q h :=
  Wp.mk fun s Q' E hs k => by
    subst hs
    have hmn : (mgT w "__name__").getD .none = .str (St "law_pk0024_01") 323 := by kernel_rfl
    rcases tb with e9 | ⟨c, e9, lo, hc, cr⟩
    · refine makeFunction_K hcl hge0 T.glob hcode T.codeHd e9 trivial rfl (by decide) T.bat fun c' ctv doc h' tk hx hge hlt hrec htab => ?_
      have e : fnMade name qualRead params body scope [(St "text", ct), (St "seat", cs)] doc ((mgT w "__name__").getD .none) c' ctv = { cls := .type "function", data := .func (fdRead ct cs c' doc ctv) } := by
        rw [hmn]
        exact congrArg (fun z => ({ cls := .type "function", data := .func z } : Obj)) (hfd c' doc ctv)
      rw [e]
      rw [hp1, hp2] at htab
      have ne9 : (h'.objs.size : Addr) ≠ 119 := fun q => by have := Heap.lt_size htab; rw [q] at this; exact Nat.lt_irrefl _ this
      have hfr : s.heap.get? h'.objs.size = none := by
        cases e : s.heap.get? h'.objs.size with
        | none => rfl
        | some o => exact absurd (Heap.lt_size (hx _ _ ne9 e)) (Nat.lt_irrefl _)
      have hcY : (c' : Addr) ∉ Y := fun m => by
        obtain ⟨o, e⟩ := hY _ m
        exact absurd (Heap.lt_size e) (Nat.not_lt.mpr hge)
      have kp : ∀ b o, h'.get? b = some o → (h'.push { cls := .type "function", data := .func (fdRead ct cs c' doc ctv) }).get? b = some o := fun b o e => Heap.get?_push_of_some _ e
      have cr' : (h'.push { cls := .type "function", data := .func (fdRead ct cs c' doc ctv) }).CodeRec (.ref c') qualRead := CodeRec.keep hrec (Kp.push (X := []) _) (fun m => nomatch m)
      have lo' : 151 ≤ c' := Nat.le_trans T.size hge
      refine k _ _ tk (q _ _ c' doc ctv (fun b o hb e => kp b o (hx b o (fun q => hb (by simp [q])) e)) (.inr ⟨c', kp _ _ htab, lo', hcY, cr'⟩) hfr (Heap.get?_push_size _ rfl) cr' lo' hcY hlt)
    · refine makeFunction_hit (cv := .ref c) hcl hge0 T.glob hcode T.codeHd e9 (by exact TriplesOk_snoc 79 4 (.ref c) [] trivial) (by rw [show pos = ⟨79, 4, pos.endLine, pos.endCol⟩ from by rw [← hp1, ← hp2]]; rfl) T.bat fun ctv doc h' tk hx hge => ?_
      have e : ({ cls := .type "function", data := .func (fnX name qualRead params body scope [(St "text", ct), (St "seat", cs)] .none .none doc ((mgT w "__name__").getD .none) none (.ref c) ctv) } : Obj) = { cls := .type "function", data := .func (fdRead ct cs c doc ctv) } := by
        rw [hmn]
        exact congrArg (fun z => ({ cls := .type "function", data := .func z } : Obj)) (hfd c doc ctv)
      rw [e]
      have hfr : s.heap.get? h'.objs.size = none := fresh_size _ _ hge
      have kp : Kp [] s.heap (h'.push { cls := .type "function", data := .func (fdRead ct cs c doc ctv) }) := .all fun b o e => Heap.get?_push_of_some _ (hx b o e)
      obtain ⟨oc, eoc⟩ := CodeRec.lt cr
      refine k _ _ tk (q _ _ c doc ctv kp.of0 (.inr ⟨c, kp _ _ (fun m => nomatch m) e9, lo, hc, CodeRec.keep cr kp (fun m => nomatch m)⟩) hfr (Heap.get?_push_size _ rfl) (CodeRec.keep cr kp (fun m => nomatch m)) lo hc (Nat.lt_of_lt_of_le (Heap.lt_size eoc) hge))
end
end Mine
end PartG3

-- G4
section PartG4
open PySem PySem.W PyProof.Rows PySem.Calls
set_option Elab.async false
set_option maxRecDepth 100000
set_option maxHeartbeats 4000000
set_option linter.unusedVariables false
namespace Mine
local macro_rules | `(tactic| walk_at "ml") => `(tactic| refine W_local (Fr.ns (by assumption)) (by kernel_rfl) (by kernel_rfl) (by kernel_rfl) (by rfl) ?_)
local macro_rules | `(tactic| walk_at "mn") => `(tactic| refine W_local (by assumption) (by kernel_rfl) (by kernel_rfl) (by kernel_rfl) (by rfl) ?_)
local macro_rules | `(tactic| walk_at "mb") => `(tactic| (refine W_builtin (TH.glob (Fr.T (by assumption))) (TH.blt (Fr.T (by assumption))) (by kernel_rfl) (by kernel_rfl) (by kernel_rfl) (by kernel_rfl) (by first | with_reducible exact mb_range | with_reducible exact mb_len | with_reducible exact mb_sum | with_reducible exact mb_isinstance | with_reducible exact mb_bool | with_reducible exact mb_iter) ?_))
local macro_rules | `(tactic| walk_at "mg") => `(tactic| (refine W_global (TH.glob (Fr.T (by assumption))) (by kernel_rfl) (by kernel_rfl) (by kernel_rfl) (by first | with_reducible exact mg_b1 | with_reducible exact mg_lex | with_reducible exact mg_row | with_reducible exact mg_word | with_reducible exact mg_joined | with_reducible exact mg_left | with_reducible exact mg_stream | with_reducible exact mg_written | with_reducible exact mg_again | with_reducible exact mg_twos) ?_))
local macro_rules | `(tactic| walk_at "ms") => `(tactic| refine W_st (by assumption) (by kernel_rfl) (by kernel_rfl) ?_)
section
variable {w : World} {A : Around} {Z : List Addr} {h₀ h h' : Heap} {L : Nat} {l : List (Str × Value)} {cs : List (Option Value)} {env : Env}
theorem Fr.upN {X : List Addr} (f : Fr w Z h₀ h L l cs) (k : Kp X h h') (hX : ∀ a : Nat, a ∈ X → h₀.get? a = none ∧ 151 ≤ a ∧ (a < L ∨ L + cs.length < a)) : Fr w Z h₀ h' L l cs := by
  refine ⟨f.k.local k fun a ha => (hX a ha).1, f.fr, f.lo, k.ns f.ns (fun m => ?_), fun i v e => IsCell.keep (f.cell i v e) k (fun m => ?_) (Nat.le_trans f.lo (by show L ≤ L + 1 + i; omega)), f.T.keep k fun a ha => .inl (hX a ha).2.1⟩
  · have := (hX L m).2.2
    omega
  · have q := (hX (L + 1 + i) m).2.2
    have hi : (i : Nat) < cs.length := (List.getElem?_eq_some_iff.mp e).1
    omega
theorem back_none {a : Addr} (k : Kp [] h₀ h) (e : h.get? a = none) : h₀.get? a = none := by
  cases q : h₀.get? a with
  | none => rfl
  | some o => rw [k a o (fun m => nomatch m) q] at e; cases e
theorem fresh_nin {Y : List Addr} {b : Nat} (hY : ∀ a ∈ Y, ∃ o, h₀.get? a = some o) (k : Kp [119] h₀ h) (e : h.get? b = none) (lo : 151 ≤ b) : (b : Addr) ∉ Y := fun m => by
  obtain ⟨o, eo⟩ := hY _ m
  rw [k b o (nin1 (ne119 lo)) eo] at e
  cases e
theorem fresh_ne {a b : Nat} {o : Obj} (e : h.get? b = none) (eo : h.get? a = some o) : b ≠ a := fun q => by rw [q, eo] at e; cases e
theorem Fr.cellSome (f : Fr w Z h₀ h L l cs) {i : Nat} (hi : i < cs.length) : ∃ o, h.get? (L + 1 + i) = some o := by
  obtain ⟨o, e, _⟩ := f.cell i cs[i] (List.getElem?_eq_getElem hi)
  exact ⟨o, e⟩
theorem Fr.locSome (f : Fr w Z h₀ h L l cs) : ∃ o, h.get? L = some o := by
  obtain ⟨o, _, _, e, _⟩ := f.ns
  exact ⟨o, e⟩
end
section
variable {w : World} {A : Around} {h : Heap} {env : Env}
theorem C_stream {z : List Nat} {t : Tok} {Y : List Addr} {Q : Value → Heap → Prop} (r : Rm A 4) (T : TH w h) (tb : Tb Y h) (hY : ∀ a ∈ Y, ∃ o, h.get? a = some o)
    (q : ∀ h' (a x dx fr ct cs c sl : Nat) t, Kp [119] h h' → Tb (sl :: Y) h' → Box h' z x dx fr ct cs c sl → LI h' sl [.int 0 t] → TI h' a [.ref x, .ref sl] → (∀ b ∈ ([x, dx, fr, ct, cs, c, sl, a] : List Addr), b ∉ Y) → (h.get? sl = none) → Q (.ref a) h') : Wp w A (call (.ref 124) [.str (S z) t]) Q h := by
  refine C_fc (Z := []) (fd := fStream) (binds := [(St "text", .str (S z) t)]) (l := []) (cs := [some (.str (S z) t), none]) [St "text", St "seat"] T r.room (T 124 (ob124 w.params) (by decide) (by kernel_rfl)) rfl (T.codeRec (o := ob123 w.params) (by decide) (by kernel_rfl) rfl (by rfl)) (by rfl) (by kernel_rfl) (by kernel_rfl) (by kernel_rfl) (by kernel_rfl) (by kernel_rfl) (fun L => by kernel_rfl) (fun L => by kernel_rfl) (fun L => by kernel_rfl) (fun L => by kernel_rfl) ?_
  intro h₁ L f0
  have f : Fr w [119] h h₁ L _ _ := f0.toZ
  have r' := r.deeper (env := callEnvC fStream L 124)
  have n0 : h.get? L = none := fresh_size _ _ f.fr
  have n1 : h.get? (L + 1 + 0) = none := fresh_size _ _ (Nat.le_trans f.fr (by omega : L ≤ L + 1 + 0))
  have n2 : h.get? (L + 1 + 1) = none := fresh_size _ _ (Nat.le_trans f.fr (by omega : L ≤ L + 1 + 1))
  have tb₁ : Tb ((L + 1 + 1) :: (L + 1 + 0) :: L :: Y) h₁ := (((tb.cons n0).cons n1).cons n2).keep0 f0.k
  refine W_cons (W_Assign (by rfl) (W_CallName ?_))
  walk_at "mg"
  refine W_callCls (by rfl) (by rfl) (W_items_cons (by rfl) (W_none (W_items_nil ⟨f.T, W_make (r'.le (by omega)) f.T tb₁.some fun h₂ x dx t₁ t₂ pb io xpb hx hd hpb _ _ k₂ => ?_⟩)))
  have f₂ := f.step k₂
  have tb₂ := ((tb₁.cons hx).cons hd).keep0 k₂
  obtain ⟨oL, eL⟩ := f.locSome
  obtain ⟨o1, e1⟩ := f.cellSome (i := 0) (by simp)
  obtain ⟨o2, e2⟩ := f.cellSome (i := 1) (by simp)
  have xL : x ≠ L := fresh_ne hx eL
  have x1 : x ≠ L + 1 + 0 := fresh_ne hx e1
  have x2 : x ≠ L + 1 + 1 := fresh_ne hx e2
  have dL : dx ≠ L := fresh_ne hd eL
  have d1 : dx ≠ L + 1 + 0 := fresh_ne hd e1
  have d2 : dx ≠ L + 1 + 1 := fresh_ne hd e2
  walk_at "ms"
  intro h₃ f₃ k₃
  have io₃ := io.keep k₃ (nin1 xL) (nin1 dL)
  have tb₃ := tb₂.keep k₃ (nin1 (Ne.symm (ne119 f.lo))) (fun a ha => by rw [List.mem_singleton.mp ha]; show L ∈ _; simp)
  refine W_cons (W_Assign (by rfl) (W_List (W_items_cons (by rfl) (W_int fun t₃ => W_items_nil (W_newL f₃.T (szl (by simp)) fun h₄ sl hsl xsl k₄ => ?_)))))
  have f₄ := f₃.step k₄
  have io₄ := io₃.keep0 k₄
  have hs3 : h₃.get? sl = none := fresh_size _ _ hsl
  have tb₄ := (tb₃.cons hs3).keep0 k₄
  have slL : L + 2 < sl := Nat.lt_of_lt_of_le f₃.lt hsl
  have slx : x < sl := Nat.lt_of_lt_of_le io₃.ltx hsl
  have sld : dx < sl := Nat.lt_of_lt_of_le io₃.ltd hsl
  refine W_stC 1 f₄ rfl (by kernel_rfl) (by kernel_rfl) (by kernel_rfl) fun h₅ f₅ k₅ => ?_
  have io₅ := io₄.keep k₅ (nin1 x2) (nin1 d2)
  have xsl₅ := xsl.keep k₅ (nin1 (Nat.ne_of_gt (show L + 1 + 1 < sl by omega)))
  have lo2 : 151 ≤ L + 1 + 1 := Nat.le_trans f.lo (by omega)
  have tb₅ := tb₄.keep k₅ (nin1 (Ne.symm (ne119 lo2))) (fun a ha => by rw [List.mem_singleton.mp ha]; exact .tail _ (.tail _ (.tail _ (.head _))))
  have hY₅ : ∀ a ∈ (sl :: dx :: x :: (L + 1 + 1) :: (L + 1 + 0) :: L :: Y : List Addr), ∃ o, h₅.get? a = some o := by
    intro a ha
    rcases List.mem_cons.mp ha with rfl | ha
    · obtain ⟨o, e, _⟩ := xsl₅.is; exact ⟨o, e⟩
    rcases List.mem_cons.mp ha with rfl | ha
    · obtain ⟨o, _, _, e, _⟩ := io₅.ns; exact ⟨o, e⟩
    rcases List.mem_cons.mp ha with rfl | ha
    · obtain ⟨o, e, _⟩ := io₅.obj; exact ⟨o, e⟩
    rcases List.mem_cons.mp ha with rfl | ha
    · exact f₅.cellSome (i := 1) (by simp)
    rcases List.mem_cons.mp ha with rfl | ha
    · exact f₅.cellSome (i := 0) (by simp)
    rcases List.mem_cons.mp ha with rfl | ha
    · exact f₅.locSome
    · obtain ⟨o, e⟩ := hY a ha
      by_cases h9 : a = 119
      · rw [h9]; exact tb₅.some
      · exact ⟨o, f₅.k a o (nin1 h9) e⟩
  refine W_cons (W_def (by rfl) (by rfl) (by rfl) ?_)
  refine W_mkRead (ct := L + 1 + 0) (cs := L + 1 + 1) f₅.T tb₅ hY₅ (fun c doc ctv => by rfl) (by rfl) (by rfl) (by rfl) (by rfl) (by rfl) fun h₆ fr c doc ctv k₆ tb₆ hfr efr ec loc hcY hcfr => ?_
  have f₆ := f₅.step9 k₆
  have nfr : ∀ a ∈ (sl :: dx :: x :: (L + 1 + 1) :: (L + 1 + 0) :: L :: Y : List Addr), fr ≠ a := fun a ha => by
    obtain ⟨o, e⟩ := hY₅ a ha
    exact fresh_ne hfr e
  have lofr : 151 ≤ fr := Nat.le_trans loc (Nat.le_of_lt hcfr)
  have io₆ := io₅.keep k₆ (nin1 (ne119 io.lox)) (nin1 (ne119 io.lod))
  have xsl₆ := xsl₅.keep k₆ (nin1 (ne119 xsl.lo))
  walk_at "ms"
  intro h₇ f₇ k₇
  have frL : fr ≠ L := nfr L (by simp)
  have cL : c ≠ L := fun e => hcY (by rw [e]; simp)
  have io₇ := io₆.keep k₇ (nin1 xL) (nin1 dL)
  have xsl₇ := xsl₆.keep k₇ (nin1 (Nat.ne_of_gt (show L < sl by omega)))
  have efr₇ := k₇ fr _ (nin1 frL) efr
  have ec₇ := CodeRec.keep ec k₇ (nin1 cL)
  have tb₇ := tb₆.keep k₇ (nin1 (Ne.symm (ne119 f.lo))) (fun a ha => by rw [List.mem_singleton.mp ha]; show L ∈ _; simp)
  refine W_cons (W_AssignAttr (by rfl) ?_)
  walk_at "ml"
  walk_at "ml"
  refine W_storeA f₇.T io₇ (by simp [lexD]) (by kernel_rfl) tl_read fun h₈ io₈ k₈ => ?_
  have hx0 : h.get? x = none := back_none f0.k hx
  have hd0 : h.get? dx = none := back_none f0.k hd
  have f₈ := f₇.upN k₈ fun a ha => by
    rcases List.mem_cons.mp ha with rfl | ha
    · exact ⟨hx0, io.lox, by show a < L ∨ L + 2 < a; omega⟩
    · obtain rfl := List.mem_singleton.mp ha
      exact ⟨hd0, io.lod, by show a < L ∨ L + 2 < a; omega⟩
  have frx : fr ≠ x := nfr x (by simp)
  have frd : fr ≠ dx := nfr dx (by simp)
  have cx : c ≠ x := fun e => hcY (by rw [e]; simp)
  have cd : c ≠ dx := fun e => hcY (by rw [e]; simp)
  have csl : c ≠ sl := fun e => hcY (by rw [e]; simp)
  have frsl : fr ≠ sl := nfr sl (by simp)
  have xsl₈ := xsl₇.keep k₈ (nin2 (Nat.ne_of_gt slx) (Nat.ne_of_gt sld))
  have efr₈ := k₈ fr _ (nin2 frx frd) efr₇
  have ec₈ := CodeRec.keep ec₇ k₈ (nin2 cx cd)
  have n9 : (119 : Addr) ∉ ([x, dx] : List Addr) := nin2 (Ne.symm (ne119 io.lox)) (Ne.symm (ne119 io.lod))
  have tb₈ := tb₇.keep k₈ n9 (fun a ha => by
    rcases List.mem_cons.mp ha with rfl | ha
    · exact .tail _ (.tail _ (.head _))
    · obtain rfl := List.mem_singleton.mp ha
      exact .tail _ (.head _))
  refine W_cons (W_Return (W_Tuple (W_items_cons (by rfl) ?_)))
  walk_at "ml"
  refine W_items_cons (by rfl) (W_cell (c := L + 1 + 1) (f₈.cell 1 _ rfl) (by kernel_rfl) (by kernel_rfl) (by kernel_rfl) (by kernel_rfl) (W_items_nil (W_newT f₈.T (szl (by simp)) fun h₉ a ha ta k₉ => ?_)))
  have f₉ := f₈.step k₉
  refine q h₉ a x dx fr (L + 1 + 0) (L + 1 + 1) c sl t₃ f₉.k ((tb₈.keep0 k₉).sub fun a ha => by rcases List.mem_cons.mp ha with rfl | ha; exact .head _; exact .tail _ (.tail _ (.tail _ (.tail _ (.tail _ (.tail _ ha)))))) ⟨⟨_, io₈.keep0 k₉, lk_self⟩, ⟨doc, ctv, k₉ fr _ (fun m => nomatch m) efr₈⟩, CodeRec.keep ec₈ k₉ (fun m => nomatch m), ⟨t, f₉.cell 0 _ rfl⟩, f₉.cell 1 _ rfl, ?_, ?_⟩ (xsl₈.keep0 k₉) ta ?_ ?_
  · intro b hb
    simp only [List.mem_cons, List.not_mem_nil, or_false] at hb
    have := f.lo
    rcases hb with rfl | rfl | rfl | rfl | rfl | rfl | rfl
    · exact io.lox
    · exact io.lod
    · exact lofr
    · omega
    · omega
    · exact loc
    · exact xsl.lo
  · intro hm
    simp only [List.mem_cons, List.not_mem_nil, or_false] at hm
    rcases hm with e | e | e | e | e | e
    · exact absurd e (Nat.ne_of_gt slx)
    · exact absurd e (Nat.ne_of_gt sld)
    · exact frsl e.symm
    · have e' : sl = L + 1 + 0 := e; omega
    · have e' : sl = L + 1 + 1 := e; omega
    · exact csl e.symm
  · intro b hb
    simp only [List.mem_cons, List.not_mem_nil, or_false] at hb
    have loL := f.lo
    have hLt : ∀ b : Nat, L ≤ b → (b : Addr) ∉ Y := fun b hb hm => by
      obtain ⟨o, e⟩ := hY _ hm
      exact absurd (Nat.lt_of_lt_of_le (Heap.lt_size e) (Nat.le_trans f.fr hb)) (Nat.lt_irrefl _)
    rcases hb with rfl | rfl | rfl | rfl | rfl | rfl | rfl | rfl
    · exact fresh_nin hY f0.k.of0 hx io.lox
    · exact fresh_nin hY f0.k.of0 hd io.lod
    · intro hm
      exact nfr _ (by simp [hm]) rfl
    · exact hLt _ (by omega)
    · exact hLt _ (by omega)
    · intro hm
      exact hcY (by simp [hm])
    · exact hLt _ (by omega)
    · exact hLt _ (Nat.le_trans (Nat.le_of_lt (Nat.lt_of_le_of_lt (Nat.le_add_right L _) f₈.lt)) ha)
  · exact fresh_size _ _ (Nat.le_trans f.fr (by omega : L ≤ sl))
end
end Mine
end PartG4

-- G5
section PartG5
open PySem PySem.W PyProof.Rows PySem.Calls
set_option Elab.async false
set_option maxRecDepth 100000
set_option maxHeartbeats 4000000
set_option linter.unusedVariables false
namespace Mine
local macro_rules | `(tactic| walk_at "ml") => `(tactic| refine W_local (Fr.ns (by assumption)) (by kernel_rfl) (by kernel_rfl) (by kernel_rfl) (by rfl) ?_)
local macro_rules | `(tactic| walk_at "mn") => `(tactic| refine W_local (by assumption) (by kernel_rfl) (by kernel_rfl) (by kernel_rfl) (by rfl) ?_)
local macro_rules | `(tactic| walk_at "mb") => `(tactic| (refine W_builtin (TH.glob (Fr.T (by assumption))) (TH.blt (Fr.T (by assumption))) (by kernel_rfl) (by kernel_rfl) (by kernel_rfl) (by kernel_rfl) (by first | with_reducible exact mb_range | with_reducible exact mb_len | with_reducible exact mb_sum | with_reducible exact mb_isinstance | with_reducible exact mb_bool | with_reducible exact mb_iter) ?_))
local macro_rules | `(tactic| walk_at "mg") => `(tactic| (refine W_global (TH.glob (Fr.T (by assumption))) (by kernel_rfl) (by kernel_rfl) (by kernel_rfl) (by first | with_reducible exact mg_b1 | with_reducible exact mg_lex | with_reducible exact mg_row | with_reducible exact mg_word | with_reducible exact mg_joined | with_reducible exact mg_left | with_reducible exact mg_stream | with_reducible exact mg_written | with_reducible exact mg_again | with_reducible exact mg_twos) ?_))
local macro_rules | `(tactic| walk_at "ms") => `(tactic| refine W_st (by assumption) (by kernel_rfl) (by kernel_rfl) ?_)
section
variable {w : World} {A : Around} {h : Heap} {env : Env}
theorem W_AssignSub {o i value : Expr} {pos' pos : Pos} {Q : Flow → Heap → Prop} (hs' : swapsWith value (some (.Subscript o i pos')) pos.line env = Pure.pure false)
    (H : Wp w A (eval value env) (fun v h₁ => Wp w A (eval o env) (fun ov h₂ => Wp w A (eval i env) (fun iv h₃ => Wp w A (setItem ov iv v) (fun _ h₄ => Q .next h₄) h₃) h₂) h₁) h) : Wp w A (exec (.Assign [.Subscript o i pos'] value pos) env) Q h :=
  Wp.mk fun s Q' E hs k => by subst hs; exact wpAny_Assign_Subscript (H.use fun v h₁ tk q => q.on fun ov h₂ tk₂ q => q.on fun iv h₃ tk₃ q => q.on fun _ h₄ tk₄ q => k _ _ _ q) hs'
theorem W_setL {l : Addr} {vs : List Value} {i : Nat} {t : Tok} {v : Value} {Q : Unit → Heap → Prop} (x : LI h l vs) (hi : i < vs.length) (hf : i < 2 ^ 62) (q : ∀ h', LI h' l (vs.set i v) → Kp [l] h h' → Q () h') : Wp w A (setItem (.ref l) (.int (i : Int) t) v) Q h :=
  Wp.mk fun s Q' E hs k => by
    subst hs
    refine wpAny_setItem_list x.is (by omega) (by omega) (by simpa using hi) fun h' hl hs' => k _ h' s.toks (q h' ⟨x.lo, ?_⟩ (Kp.same hs'))
    have e : vs.toArray.setIfInBounds ((i : Int)).toNat v = (vs.set i v).toArray := by simp
    rw [← e]; exact hl
theorem W_AugAttr {o value : Expr} {attr : Str} {tpos pos : Pos} {op : Operator} {Q : Flow → Heap → Prop}
    (H : Wp w A (eval o env) (fun ov h₁ => Wp w A (getAttr ov attr true) (fun old h₂ => Wp w A (eval value env) (fun v h₃ => Wp w A (inplaceOp op old v) (fun new h₄ => Wp w A (setAttr ov attr new) (fun _ h₅ => Q .next h₅) h₄) h₃) h₂) h₁) h) :
    Wp w A (exec (.AugAssign (.Attribute o attr tpos) op value pos) env) Q h :=
  Wp.mk fun s Q' E hs k => by subst hs; exact wpAny_AugAssign_AttributeAny (H.use fun v h₁ tk q => q.on fun ov h₂ tk₂ q => q.on fun iv h₃ tk₃ q => q.on fun _ h₄ tk₄ q => q.on fun _ h₅ tk₅ q => k _ _ _ q)
/-- the closure reads one sign -/
theorem C_read {z : List Nat} {x dx fr ct cs c sl p : Nat} {t t' : Tok} {Q : Value → Heap → Prop} (hz : z.length ≤ 1000) (hp : p ≤ z.length) (r : Rm A 1) (T : TH w h) (b : Box h z x dx fr ct cs c sl) (s : LI h sl [.int (p : Int) t'])
    (q : ∀ h' u u', Kp [sl] h h' → LI h' sl [.int ((p + ((z.drop p).take 1).length : Nat) : Int) u'] → Q (.str (S ((z.drop p).take 1)) u) h') : Wp w A (call (.ref fr) [.int 1 t]) Q h := by
  obtain ⟨doc, ctv, efr⟩ := b.fn
  have hsl : 151 ≤ sl := b.lo sl (by simp)
  have sz := sizeLine_is
  refine C_fn (Z := []) (fd := fdRead ct cs c doc ctv) (binds := [(St "size", .int 1 t)]) T r.room efr rfl b.code (by rfl) (by rfl) (by kernel_rfl) (by kernel_rfl) (by kernel_rfl) (by kernel_rfl) (by kernel_rfl) ?_
  intro h₁ L f0
  have f : Fr w [sl] h h₁ L _ _ := f0.toZ
  have r' := r.deeper (env := callEnv (fdRead ct cs c doc ctv) L fr)
  have s₁ := s.keep0 f0.k
  have hslL : sl < L := Nat.lt_of_lt_of_le s.lt f.fr
  obtain ⟨tt, text⟩ := b.text
  have text₁ : h₁.IsCell ct (some (.str (S z) tt)) := IsCell.keep text f0.k (fun m => nomatch m) (b.lo ct (by simp))
  have seat₁ : h₁.IsCell cs (some (.ref sl)) := IsCell.keep b.seat f0.k (fun m => nomatch m) (b.lo cs (by simp))
  have ctlt : ct < L := Nat.lt_of_lt_of_le (let ⟨_, e, _⟩ := text; Heap.lt_size e) f.fr
  have cslt : cs < L := Nat.lt_of_lt_of_le (let ⟨_, e, _⟩ := b.seat; Heap.lt_size e) f.fr
  refine W_cons (W_Assign (by rfl) (W_sliceC ?_))
  refine W_free text₁ (by kernel_rfl) (by kernel_rfl) (by kernel_rfl) (by kernel_rfl) (by kernel_rfl) ?_
  refine W_Subscript ?_
  refine W_free seat₁ (by kernel_rfl) (by kernel_rfl) (by kernel_rfl) (by kernel_rfl) (by kernel_rfl) (W_int fun _ => W_tailL s₁.is (by rfl) (W_getL (i := 0) s₁.is (by decide) rfl ?_))
  refine W_BinOp (W_Subscript ?_)
  refine W_free seat₁ (by kernel_rfl) (by kernel_rfl) (by kernel_rfl) (by kernel_rfl) (by kernel_rfl) (W_int fun _ => W_tailL s₁.is (by rfl) (W_getL (i := 0) s₁.is (by decide) rfl ?_))
  walk_at "ml"
  refine W_addI fun u₁ => ⟨_, _, some (_, t'), some (_, u₁), rfl, rfl, rfl, ?_, fun h₂ u₂ k₂ => ?_⟩
  · show z.length ≤ sizeLine
    omega
  have ez : Txt.slice (S z) ((some ((p : Int), t') : Option (Int × Tok)).map (·.1)) ((some ((p : Int) + 1, u₁) : Option (Int × Tok)).map (·.1)) = S ((z.drop p).take 1) := by
    show Txt.slice (S z) (some (p : Int)) (some ((p : Int) + 1)) = _
    rw [show ((p : Int) + 1) = ((p + 1 : Nat) : Int) by omega, slice_list]
    congr 1
    rw [show p + 1 - p = 1 by omega]
  rw [ez]
  have f₂ := f.step k₂
  walk_at "ms"
  intro h₃ f₃ k₃
  have s₃ := (s₁.keep0 k₂).keep k₃ (nin1 (Nat.ne_of_lt hslL))
  have seat₃ := IsCell.keep (IsCell.keep seat₁ k₂ (fun m => nomatch m) (b.lo cs (by simp))) k₃ (nin1 (Nat.ne_of_lt cslt)) (b.lo cs (by simp))
  have hl1 : ((z.drop p).take 1).length ≤ 1 := by simp; omega
  refine W_cons (W_AssignSub (by rfl) (W_BinOp (W_Subscript ?_)))
  refine W_free seat₃ (by kernel_rfl) (by kernel_rfl) (by kernel_rfl) (by kernel_rfl) (by kernel_rfl) (W_int fun _ => W_tailL s₃.is (by rfl) (W_getL (i := 0) s₃.is (by decide) rfl (W_CallName ?_)))
  walk_at "mb"
  refine W_fv (by rfl) (by rfl) (by rfl) (W_items_cons (by rfl) ?_)
  walk_at "ml"
  refine W_items_nil (W_lenS (by omega) fun u₃ => W_addI fun u₄ => ?_)
  refine W_free seat₃ (by kernel_rfl) (by kernel_rfl) (by kernel_rfl) (by kernel_rfl) (by kernel_rfl) (W_int fun _ => W_setL (i := 0) s₃ (by simp) (by decide) fun h₄ s₄ k₄ => ?_)
  have f₄ := f₃.upZ k₄ (fun a ha => by rw [List.mem_singleton.mp ha]; exact ⟨.inl hsl, .inl hslL⟩)
  refine W_cons (W_Return ?_)
  walk_at "ml"
  refine q h₄ _ u₄ f₄.k ?_
  have e2 : ((p : Int) + (((z.drop p).take 1).length : Int)) = ((p + ((z.drop p).take 1).length : Nat) : Int) := by omega
  rw [e2] at s₄
  exact s₄
end
end Mine
end PartG5

-- G6
section PartG6
open PySem PySem.W PyProof.Rows PySem.Calls
set_option Elab.async false
set_option maxRecDepth 100000
set_option maxHeartbeats 4000000
set_option linter.unusedVariables false
namespace Mine
local macro_rules | `(tactic| walk_at "ml") => `(tactic| refine W_local (Fr.ns (by assumption)) (by kernel_rfl) (by kernel_rfl) (by kernel_rfl) (by rfl) ?_)
local macro_rules | `(tactic| walk_at "mn") => `(tactic| refine W_local (by assumption) (by kernel_rfl) (by kernel_rfl) (by kernel_rfl) (by rfl) ?_)
local macro_rules | `(tactic| walk_at "mb") => `(tactic| (refine W_builtin (TH.glob (Fr.T (by assumption))) (TH.blt (Fr.T (by assumption))) (by kernel_rfl) (by kernel_rfl) (by kernel_rfl) (by kernel_rfl) (by first | with_reducible exact mb_range | with_reducible exact mb_len | with_reducible exact mb_sum | with_reducible exact mb_isinstance | with_reducible exact mb_bool | with_reducible exact mb_iter) ?_))
local macro_rules | `(tactic| walk_at "mg") => `(tactic| (refine W_global (TH.glob (Fr.T (by assumption))) (by kernel_rfl) (by kernel_rfl) (by kernel_rfl) (by first | with_reducible exact mg_b1 | with_reducible exact mg_lex | with_reducible exact mg_row | with_reducible exact mg_word | with_reducible exact mg_joined | with_reducible exact mg_left | with_reducible exact mg_stream | with_reducible exact mg_written | with_reducible exact mg_again | with_reducible exact mg_twos) ?_))
local macro_rules | `(tactic| walk_at "ms") => `(tactic| refine W_st (by assumption) (by kernel_rfl) (by kernel_rfl) ?_)
/-- a lexer over a box: the text z, the place p in it, the line n -/
structure Lx (h : Heap) (z : List Nat) (p n lx ldx pb x dx fr ct cs c sl : Nat) : Prop where
  io : ∃ t₁ t₂, IO h lx ldx (lexD n t₁ (.ref x) t₂ pb)
  pbk : LP h pb []
  box : Box h z x dx fr ct cs c sl
  seat : ∃ t, LI h sl [.int (p : Int) t]
  ne : ∀ a ∈ ([x, dx, fr, ct, cs, c, pb] : List Addr), a ∉ ([sl, lx, ldx] : List Addr)
  ne2 : (sl : Addr) ∉ ([lx, ldx] : List Addr)
noncomputable abbrev allA (lx ldx pb x dx fr ct cs c sl : Nat) : List Addr := [lx, ldx, pb, x, dx, fr, ct, cs, c, sl]
theorem Lx.keep {h h' : Heap} {z : List Nat} {p n lx ldx pb x dx fr ct cs c sl : Nat} {X : List Addr} (q : Lx h z p n lx ldx pb x dx fr ct cs c sl) (k : Kp X h h') (hX : ∀ a ∈ allA lx ldx pb x dx fr ct cs c sl, a ∉ X) : Lx h' z p n lx ldx pb x dx fr ct cs c sl := by
  obtain ⟨t₁, t₂, io⟩ := q.io
  obtain ⟨t, s⟩ := q.seat
  exact ⟨⟨t₁, t₂, io.keep k (hX _ (by simp)) (hX _ (by simp))⟩, q.pbk.keep k (hX _ (by simp)), q.box.keep k fun a ha => hX a (by simp only [List.mem_cons, List.not_mem_nil, or_false] at ha; rcases ha with rfl | rfl | rfl | rfl | rfl | rfl <;> simp), ⟨t, s.keep k (hX _ (by simp))⟩, q.ne, q.ne2⟩
section
variable {w : World} {A : Around} {h : Heap} {env : Env}
theorem W_specialN {x dx : Nat} {l : List (Str × Value)} {name : Str} {y : Option Value} {Q : Option Value → Heap → Prop} (T : TH w h) (io : IO h x dx l) (hna : mcT w name = none) (hB : typeLookup (.type "object") name = Pure.pure y) (q : Q y h) : Wp w A (specialOf (.ref x) name) Q h :=
  Wp.mk fun s Q' E hs k => by
    subst hs
    have kk := k _ s.heap s.toks q
    obtain ⟨o, hx, hc, hnc, hd⟩ := io.inst
    have hC := T.class
    have hn := T.cls
    obtain ⟨hp, g, d, t, os⟩ := s
    unfold specialOf
    repeat (first | (with_reducible refine wpAny_loadPart_at hx ?_; rw [hc]) | (with_reducible refine wpAny_typeLookup_exc hC hn F.mro_object hB ?_; rw [hna]) | wp_step)
    exact kk
theorem W_methodA {x dx : Nat} {l : List (Str × Value)} {name : Str} {v : Value} {pl : Sem Bool} {Q : Value × List Value → Heap → Prop} (T : TH w h) (io : IO h x dx l) (hna : mcT w name = none) (hB : typeLookup (.type "object") name = Pure.pure none) (hv : lk l name = some v) (hh : handedOut v = Pure.pure v)
    (q : Q (v, []) h) : Wp w A (getMethod (.ref x) name pl) Q h := by
  unfold getMethod
  refine Wp.bind (W_specialN T io (by kernel_rfl) F.lk_object_ga ?_)
  simp only [F.canon_object_ga, Bool.false_eq_true, if_false]
  refine Wp.bind (W_specialN T io (by kernel_rfl) F.lk_object_getattr ?_)
  simp only [Option.isSome_none, Bool.false_eq_true, if_false]
  refine Wp.bind (W_specialN T io hna hB ?_)
  exact Wp.bind (W_loadA T io hna hB hv hh (Wp.pure q))
theorem base_attr {o : Expr} {a : Str} {p : Pos} {n : Str} {m : Sem Value} : attributeBase (.Attribute o a p) n env m = m := rfl
noncomputable def piece (z : List Nat) (p : Nat) : List Nat := (z.drop p).take 1
noncomputable def fReadChar : FuncData := fdAt (mem 5 1) (St "_netrclex._read_char") 3 (.str (St "cpy313.netrc") 263) (.ref 59)
theorem Lx.lt {h : Heap} {z : List Nat} {p n lx ldx pb x dx fr ct cs c sl : Nat} (q : Lx h z p n lx ldx pb x dx fr ct cs c sl) : ∀ a : Nat, a ∈ allA lx ldx pb x dx fr ct cs c sl → a < h.objs.size := by
  intro a ha
  obtain ⟨t₁, t₂, io⟩ := q.io
  obtain ⟨t, s⟩ := q.seat
  obtain ⟨l, bio, _⟩ := q.box.io
  obtain ⟨doc, ctv, e2⟩ := q.box.fn
  obtain ⟨t3, ot, e3, e4⟩ := q.box.text
  obtain ⟨os, e5, e6⟩ := q.box.seat
  obtain ⟨oc, ec⟩ := CodeRec.lt q.box.code
  simp only [List.mem_cons, List.not_mem_nil, or_false] at ha
  rcases ha with rfl | rfl | rfl | rfl | rfl | rfl | rfl | rfl | rfl | rfl
  · exact io.ltx
  · exact io.ltd
  · exact q.pbk.li.lt
  · exact bio.ltx
  · exact bio.ltd
  · exact Heap.lt_size e2
  · exact Heap.lt_size e3
  · exact Heap.lt_size e5
  · exact Heap.lt_size ec
  · exact s.lt
/-- the call as a code of its own -/
noncomputable def Rc (Q : Value → Heap → Prop) : Result → Heap → Prop := fun r h' => match r with | .ok (.ret v) => Q v h' | .ok _ => False | .error _ => False
theorem C_fnC {Z : List Addr} {Q : Value → Heap → Prop} {a : Addr} {o : Obj} {fd : FuncData} {body : List Stmt} {vals : List Value} {binds : List (Str × Value)}
    (T : TH w h) (hroom : A.depth < recursionLimit) (ho : h.get? a = some o) (hdata : o.data = .func fd) (hcd : h.CodeRec fd.code fd.qualname) (hbody : fd.body = .stmts body)
    (hbind : bindArgs fd ⟨vals, []⟩ = Pure.pure binds) (hcell : fd.scope.names.all (fun x => x.2 != .cell) = true) (hloc : binds.all (fun x => fd.scope.names.lookup x.1 == some .local) = true)
    (hco : fd.scope.isCoroutine = false) (hgen : fd.scope.isGenerator = false) (hk : fd.scope.kind = .function)
    (H : ∀ h₁ L, Fr w Z h h₁ L binds.reverse [] →
      Wp w (A.deeper (callEnv fd L a)) (execs body (callEnv fd L a)) (fun f h' => Q (match f with | .ret v => v | _ => .none) h') h₁) : Cd w A (.call (.ref a) ⟨vals, []⟩) (Rc Q) h :=
  Cd.mk fun s R' hs k => by
    subst hs
    refine codeAny_call_def hroom ho hdata T.lim hcd hbody (.of_eq hbind) (fun x hx => by simpa using List.all_eq_true.mp hcell x hx) (fun x hx => by simpa using List.all_eq_true.mp hloc x hx) (fun h₀ hns hkp => ?_) hco hgen hk
    exact (H h₀ _ ⟨.all hkp, Nat.le_refl _, T.size, hns, fun i v e => (by cases e), T.keep0 (.all hkp)⟩).on fun f h' tk q => k _ _ _ q
theorem C_readcharC {z : List Nat} {p n lx ldx pb x dx fr ct cs c sl : Nat} {Q : Value → Heap → Prop} (hz : z.length ≤ 1000) (hp : p ≤ z.length) (r : Rm A 2) (T : TH w h) (X : Lx h z p n lx ldx pb x dx fr ct cs c sl)
    (q : ∀ h' u, Kp [sl, lx, ldx] h h' → Lx h' z (p + (piece z p).length) (n + if piece z p = [10] then 1 else 0) lx ldx pb x dx fr ct cs c sl → Q (.str (S (piece z p)) u) h') : Cd w A (.call (.ref 60) ⟨[.ref lx], []⟩) (Rc Q) h := by
  refine C_fnC (Z := []) (fd := fReadChar) (binds := [(St "self", .ref lx)]) T r.room (T 60 (ob60 w.params) (by decide) (by kernel_rfl)) rfl (T.codeRec (o := ob59 w.params) (by decide) (by kernel_rfl) rfl (by rfl)) (by rfl) (by kernel_rfl) (by kernel_rfl) (by kernel_rfl) (by kernel_rfl) (by kernel_rfl) (by kernel_rfl) ?_
  intro h₁ L f0
  have f : Fr w [sl, lx, ldx] h h₁ L _ _ := f0.toZ
  have r' := r.deeper (env := callEnv fReadChar L 60)
  have lt := X.lt
  have hall : ∀ a : Nat, a ∈ allA lx ldx pb x dx fr ct cs c sl → a < L := fun a ha => Nat.lt_of_lt_of_le (lt a ha) f.fr
  have ltlx := hall lx (by simp)
  have ltldx := hall ldx (by simp)
  have ltsl := hall sl (by simp)
  have X₁ := X.keep f0.k fun _ _ m => nomatch m
  obtain ⟨t₁, t₂, io⟩ := X₁.io
  obtain ⟨t, s⟩ := X₁.seat
  obtain ⟨l, bio, hread⟩ := X₁.box.io
  obtain ⟨doc, ctv, efr⟩ := X₁.box.fn
  have lox := io.lox
  have lod := io.lod
  have losl := s.lo
  have hZ : ∀ a : Nat, a ∈ ([sl, lx, ldx] : List Addr) → (151 ≤ a ∨ a = 119) ∧ (a < L ∨ L + ([] : List (Option Value)).length < a) := by
    intro a ha
    simp only [List.mem_cons, List.not_mem_nil, or_false] at ha
    rcases ha with rfl | rfl | rfl
    · exact ⟨.inl losl, .inl ltsl⟩
    · exact ⟨.inl lox, .inl ltlx⟩
    · exact ⟨.inl lod, .inl ltldx⟩
  refine W_cons (W_Assign (by rfl) (W_CallAttr base_attr (by kernel_rfl) (by kernel_rfl) (W_Attr base_name ?_)))
  walk_at "ml"
  refine W_loadA f.T io (by kernel_rfl) tl_instream (by rfl) (by rfl) fun pl => W_methodA f.T bio (by kernel_rfl) tl_read hread (by rfl) ?_
  refine W_fn (by rfl) (by rfl) (W_items_cons (by rfl) (W_int fun t₃ => W_items_nil ⟨efr, C_read hz hp r' f.T X₁.box s fun h₂ u u' k₂ s₂ => ?_⟩))
  have f₂ := f.upZ (k₂.sub fun a ha => by rw [List.mem_singleton.mp ha]; simp) hZ
  have X₂ : Lx h₂ z (p + (piece z p).length) n lx ldx pb x dx fr ct cs c sl := by
    have nsl : ∀ a ∈ ([x, dx, fr, ct, cs, c, pb] : List Addr), a ∉ ([sl] : List Addr) := fun a ha m => X.ne a ha (by simp at m; simp [m])
    have n2 := X.ne2
    simp only [List.mem_cons, List.not_mem_nil, or_false, not_or] at n2
    refine ⟨⟨t₁, t₂, io.keep k₂ (nin1 (Ne.symm n2.1)) (nin1 (Ne.symm n2.2))⟩, X₁.pbk.keep k₂ (nsl _ (by simp)), X₁.box.keep k₂ fun a ha => nsl a (by simp only [List.mem_cons, List.not_mem_nil, or_false] at ha; rcases ha with rfl | rfl | rfl | rfl | rfl | rfl <;> simp), ⟨u', s₂⟩, X.ne, X.ne2⟩
  walk_at "ms"
  intro h₃ f₃ k₃
  have X₃ := X₂.keep k₃ fun a ha => nin1 (Nat.ne_of_lt (hall a ha))
  refine W_cons (W_If (W_test1 (by kernel_rfl) ?_))
  walk_at "ml"
  refine W_strS [10] (by kernel_rfl) fun _ => W_eqS (W_truthyB ⟨fun e => ?_, fun e => ?_⟩)
  · have e' : piece z p = [10] := by simpa [piece] using e
    obtain ⟨t₄, t₅, io₃⟩ := X₃.io
    refine W_cons (W_AugAttr ?_)
    walk_at "ml"
    refine W_loadA f₃.T io₃ (by kernel_rfl) tl_lineno (by rfl) (by rfl) (W_int fun _ => W_iaddI fun t₆ => W_storeA f₃.T io₃ (by simp [lexD]) (by kernel_rfl) tl_lineno fun h₄ io₄ k₄ => ?_)
    have f₄ := f₃.upZ (k₄.sub fun a ha => List.mem_cons_of_mem _ ha) hZ
    refine W_nil (W_cons (W_Return ?_))
    walk_at "ml"
    refine q h₄ _ f₄.k ?_
    rw [if_pos e']
    have nl : ∀ a ∈ ([x, dx, fr, ct, cs, c, pb] : List Addr), a ∉ ([lx, ldx] : List Addr) := fun a ha m => X.ne a ha (List.mem_cons_of_mem _ m)
    obtain ⟨t₇, s₃⟩ := X₃.seat
    have hn : ((n : Int) + 1) = ((n + 1 : Nat) : Int) := by omega
    rw [hn] at io₄
    exact ⟨⟨_, _, io₄⟩, X₃.pbk.keep k₄ (nl _ (by simp)), X₃.box.keep k₄ fun a ha => nl a (by simp only [List.mem_cons, List.not_mem_nil, or_false] at ha; rcases ha with rfl | rfl | rfl | rfl | rfl | rfl <;> simp), ⟨t₇, s₃.keep k₄ X.ne2⟩, X.ne, X.ne2⟩
  · have e' : ¬ piece z p = [10] := by simpa [piece] using e
    refine W_nil (W_cons (W_Return ?_))
    walk_at "ml"
    refine q h₃ _ f₃.k ?_
    rw [if_neg e']
    exact X₃
theorem C_readchar {z : List Nat} {p n lx ldx pb x dx fr ct cs c sl : Nat} {Q : Value → Heap → Prop} (hz : z.length ≤ 1000) (hp : p ≤ z.length) (r : Rm A 2) (T : TH w h) (X : Lx h z p n lx ldx pb x dx fr ct cs c sl)
    (q : ∀ h' u, Kp [sl, lx, ldx] h h' → Lx h' z (p + (piece z p).length) (n + if piece z p = [10] then 1 else 0) lx ldx pb x dx fr ct cs c sl → Q (.str (S (piece z p)) u) h') : Wp w A (call (.ref 60) [.ref lx]) Q h := Wp.call (C_readcharC hz hp r T X q)
end
end Mine
end PartG6

-- G7
section PartG7
open PySem PySem.W PyProof.Rows PySem.Calls
set_option Elab.async false
set_option maxRecDepth 100000
set_option maxHeartbeats 4000000
set_option linter.unusedVariables false
namespace Mine
local macro_rules | `(tactic| walk_at "ml") => `(tactic| refine W_local (Fr.ns (by assumption)) (by kernel_rfl) (by kernel_rfl) (by kernel_rfl) (by rfl) ?_)
local macro_rules | `(tactic| walk_at "mn") => `(tactic| refine W_local (by assumption) (by kernel_rfl) (by kernel_rfl) (by kernel_rfl) (by rfl) ?_)
local macro_rules | `(tactic| walk_at "mb") => `(tactic| (refine W_builtin (TH.glob (Fr.T (by assumption))) (TH.blt (Fr.T (by assumption))) (by kernel_rfl) (by kernel_rfl) (by kernel_rfl) (by kernel_rfl) (by first | with_reducible exact mb_range | with_reducible exact mb_len | with_reducible exact mb_sum | with_reducible exact mb_isinstance | with_reducible exact mb_bool | with_reducible exact mb_iter) ?_))
local macro_rules | `(tactic| walk_at "mg") => `(tactic| (refine W_global (TH.glob (Fr.T (by assumption))) (by kernel_rfl) (by kernel_rfl) (by kernel_rfl) (by first | with_reducible exact mg_b1 | with_reducible exact mg_lex | with_reducible exact mg_row | with_reducible exact mg_word | with_reducible exact mg_joined | with_reducible exact mg_left | with_reducible exact mg_stream | with_reducible exact mg_written | with_reducible exact mg_again | with_reducible exact mg_twos) ?_))
local macro_rules | `(tactic| walk_at "ms") => `(tactic| refine W_st (by assumption) (by kernel_rfl) (by kernel_rfl) ?_)
noncomputable def KF3 (P : Params) : Frag := [(77, ob77 P), (76, ob76 P), (60, ob60 P)]
theorem TH.kf {w : World} {h : Heap} (t : TH w h) : (KF3 w.params).In h := by
  intro a o e
  unfold KF3 at e
  simp only [List.lookup_cons, List.lookup_nil] at e
  split at e
  · rename_i q; obtain rfl := eq_of_beq q; cases e; exact t 77 _ (by decide) (by kernel_rfl)
  split at e
  · rename_i q; obtain rfl := eq_of_beq q; cases e; exact t 76 _ (by decide) (by kernel_rfl)
  split at e
  · rename_i q; obtain rfl := eq_of_beq q; cases e; exact t 60 _ (by decide) (by kernel_rfl)
  · cases e
theorem k1 (P : Params) : hasDictIn (KF3 P) 77 = true := by kernel_rfl
theorem k2 (P : Params) : findIn (KF3 P) (.ref 77) (Str.ofString "_read_char") = some (some (.ref 60)) := by kernel_rfl
theorem k3 (P : Params) : specialIn (KF3 P) (.ref 60) "__get__" = some (some (.builtin "function.__get__")) := by kernel_rfl
theorem k4 (P : Params) : takesIn (KF3 P) (.ref 60) = some false := by kernel_rfl
theorem k5 (P : Params) : findIn (KF3 P) (.ref 77) "__getattribute__" = some (some (.builtin "object.__getattribute__")) := by kernel_rfl
theorem k6 (P : Params) : findIn (KF3 P) (.ref 77) "__getattr__" = some none := by kernel_rfl
theorem k7 (P : Params) : typeIn (KF3 P) (.ref 60) = some (.type "function") := by kernel_rfl
theorem k8 : copiedNames.contains (Str.ofString "_read_char") = false := by kernel_rfl
theorem lookIn_none {h : Heap} {a : Addr} {m : Str → Option Value} {name : Str} (x : h.Ns a m) (e : m name = none) : ∃ o, h.get? a = some o ∧ lookIn name o = some none := by
  obtain ⟨o, es, ep, e1, e2, e3, e4⟩ := x
  refine ⟨o, e1, ?_⟩
  have hf := e4 name
  rw [e] at hf
  unfold nsFind findBy at hf
  have hfind : es.toList.find? (·.key.isStr name) = none := by
    cases q : es.toList.find? (·.key.isStr name) with
    | none => rfl
    | some x =>
      have : es.find? (fun e => e.key.isStr name) = some x := by rw [← Array.find?_toList]; exact q
      simp [this] at hf
  have hany : es.toList.any (·.refKey) = false := by
    rw [List.any_eq_false]
    intro x hx
    obtain ⟨n, t, ek⟩ := e3 x (by simpa using hx)
    unfold DictEntry.refKey
    rw [ek]
    simp
  unfold lookIn
  rw [e2]
  simp only [hfind, hany]
  rfl
section
variable {w : World} {A : Around} {h : Heap} {env : Env}
/-- self._read_char, not called -/
theorem W_bound {lx ldx : Nat} {l : List (Str × Value)} {b : Bool} {Q : Value → Heap → Prop} (T : TH w h) (io : IO h lx ldx l) (hl : lk l (Str.ofString "_read_char") = none) (q : ∀ h' (m : Nat), h.objs.size ≤ m → h'.get? m = some (methodObj (.ref 60) (.ref lx)) → Kp [] h h' → Q (.ref m) h') :
    Wp w A (getAttr (.ref lx) "_read_char" b) Q h :=
  Wp.mk fun s Q' E hs k => by
    subst hs
    obtain ⟨o, ho, hc, hd, hdd⟩ := io.obj
    obtain ⟨od, hod, hlo⟩ := lookIn_none io.ns.ns hl
    have hno : notCls o = true := by
      unfold notCls
      split
      · rename_i c e
        exact absurd e (hd c)
      · rfl
    have I : InstAt s.heap lx o 77 (some od) := ⟨ho, hc, hno, by rw [hdd]; exact hod⟩
    exact get_bind T.kf I (k5 _) (findObj_fn (k1 _) (k2 _) (k3 _) (k4 _) k8 hlo) (k6 _)
      (wpAny_call (fn_get (s := { s with toks := s.toks + 1 }) T.kf (k7 _) (handed_on rfl (k _ _ _ (q _ _ (Nat.le_refl _) (Heap.get?_push_size _ rfl) (Kp.push _))))))
end
end Mine
end PartG7

-- G8
section PartG8
open PySem PySem.W PyProof.Rows PySem.Calls
set_option Elab.async false
set_option maxRecDepth 100000
set_option maxHeartbeats 4000000
set_option linter.unusedVariables false
namespace Mine
local macro_rules | `(tactic| walk_at "ml") => `(tactic| refine W_local (Fr.ns (by assumption)) (by kernel_rfl) (by kernel_rfl) (by kernel_rfl) (by rfl) ?_)
local macro_rules | `(tactic| walk_at "mn") => `(tactic| refine W_local (by assumption) (by kernel_rfl) (by kernel_rfl) (by kernel_rfl) (by rfl) ?_)
local macro_rules | `(tactic| walk_at "mb") => `(tactic| (refine W_builtin (TH.glob (Fr.T (by assumption))) (TH.blt (Fr.T (by assumption))) (by kernel_rfl) (by kernel_rfl) (by kernel_rfl) (by kernel_rfl) (by first | with_reducible exact mb_range | with_reducible exact mb_len | with_reducible exact mb_sum | with_reducible exact mb_isinstance | with_reducible exact mb_bool | with_reducible exact mb_iter) ?_))
local macro_rules | `(tactic| walk_at "mg") => `(tactic| (refine W_global (TH.glob (Fr.T (by assumption))) (by kernel_rfl) (by kernel_rfl) (by kernel_rfl) (by first | with_reducible exact mg_b1 | with_reducible exact mg_lex | with_reducible exact mg_row | with_reducible exact mg_word | with_reducible exact mg_joined | with_reducible exact mg_left | with_reducible exact mg_stream | with_reducible exact mg_written | with_reducible exact mg_again | with_reducible exact mg_twos) ?_))
local macro_rules | `(tactic| walk_at "ms") => `(tactic| refine W_st (by assumption) (by kernel_rfl) (by kernel_rfl) ?_)
theorem wpAny_callBorrowed {M : Model} {A : Around} {E : Value → Shared → Prop} {s : Shared} {f : Value} {pos : List Value} {Q : Value → Shared → Prop}
    (hc : codeAny M A (.call f ⟨pos, []⟩) (fun r s' => match r with | .ok (.ret v) => Q v s' | .ok _ => False | .error e => E e s') s) : wpAny M A (callBorrowed f pos) Q E s := fun Γ p hΓ => by
  have h1 := hc _ p rfl (hΓ.enter (.call f ⟨pos, []⟩) none p (by intro x; cases x))
  unfold callBorrowed
  rw [Sem.wp_call]
  have e : (fun (r : Result) (s' : Shared) => Sem.wp M Γ (match r with | .ok (.ret v) => Sem.pure v | .ok _ => .unsupported "internal:call-without-return-value" | .error e => .raise e) (fun a _ s' => Q a s') (fun e _ s' => E e s') p s') = (fun r s' => match r with | .ok (.ret v) => Q v s' | .ok _ => False | .error e => E e s') := by
    funext r s'
    cases r with
    | error e => rfl
    | ok f => cases f <;> rfl
  exact e ▸ h1
theorem slot_ci_next : Slot "callable_iterator" (Str.ofString "__next__") "callable_iterator.__next__" :=
  .of (owner := "callable_iterator") (n := "__next__") (by rw [typeLookup_type, builtinLookup_eq_fast]; kernel_rfl) (by decide +kernel) (by decide +kernel) (by decide +kernel)
    (by first | exact .inl (by decide +kernel) | exact .inr (by decide +kernel)) (by rw [isSubtype_type]; kernel_rfl)
theorem entry_ci_next : entryFor table "callable_iterator.__next__" = some Builtin.«callable_iterator.__next__» := entryFor_of_tree (by kernel_rfl)
theorem args_ci_next (a : Value) : argsOk "callable_iterator.__next__" ⟨[a], []⟩ := by unfold argsOk; kernel_rfl
theorem slot_ci_iter : Slot "callable_iterator" (Str.ofString "__iter__") "callable_iterator.__iter__" :=
  .of (owner := "callable_iterator") (n := "__iter__") (by rw [typeLookup_type, builtinLookup_eq_fast]; kernel_rfl) (by decide +kernel) (by decide +kernel) (by decide +kernel)
    (by first | exact .inl (by decide +kernel) | exact .inr (by decide +kernel)) (by rw [isSubtype_type]; kernel_rfl)
theorem entry_ci_iter : entryFor table "callable_iterator.__iter__" = some Builtin.«dict_keyiterator.__iter__» :=
  entryFor_alias (id' := "dict_keyiterator.__iter__") (by rw [fastTable_eq_tree]; kernel_rfl) (by first | rfl | decide +kernel | (unfold String.splitOn; simp +decide [String.splitOnAux])) (by decide +kernel) (by rw [fastTable_eq_tree]; kernel_rfl)
theorem args_ci_iter (a : Value) : argsOk "callable_iterator.__iter__" ⟨[a], []⟩ := by unfold argsOk; kernel_rfl
theorem entry_iter2 : entryFor table "iter" = some Builtin.«iter» := entryFor_of_tree (by kernel_rfl)
theorem kind_iter2 : builtinKind "iter" = none := by decide +kernel
theorem plain_iter2 : plainId "iter" = true := by decide +kernel
theorem args_iter2 (a b : Value) : argsOk "iter" ⟨[a, b], []⟩ := by unfold argsOk; kernel_rfl
theorem lk_method_call : typeLookup (.type "method") "__call__" = Pure.pure (some (.builtin "method.__call__")) := by rw [typeLookup_type, builtinLookup_eq_fast]; kernel_rfl
/-- iter(self._read_char, ''), not yet at its end -/
structure CI (h : Heap) (it m lx : Nat) : Prop where
  lo : 151 ≤ it
  lom : 151 ≤ m
  is : ∃ t, h.get? it = some { cls := .type "callable_iterator", data := .fields #[.ref m, .str (S []) t, .bool false] }
  me : h.get? m = some (methodObj (.ref 60) (.ref lx))
theorem CI.keep {h h' : Heap} {it m lx : Nat} {X : List Addr} (c : CI h it m lx) (k : Kp X h h') (h1 : (it : Addr) ∉ X) (h2 : (m : Addr) ∉ X) : CI h' it m lx := by
  obtain ⟨t, e⟩ := c.is
  exact ⟨c.lo, c.lom, ⟨t, k _ _ h1 e⟩, k _ _ h2 c.me⟩
section
variable {w : World} {A : Around} {h : Heap} {env : Env}
theorem W_iter2 {m lx : Nat} {t : Tok} {Q : Value → Heap → Prop} (T : TH w h) (lom : 151 ≤ m) (me : h.get? m = some (methodObj (.ref 60) (.ref lx))) (q : ∀ h' (it : Nat), h.objs.size ≤ it → CI h' it m lx → Kp [] h h' → Q (.ref it) h') : Wp w A (call (.builtin "iter") [.ref m, .str (S []) t]) Q h :=
  Wp.mk fun s Q' E hs k => by
    subst hs
    refine call_function_entry kind_iter2 plain_iter2 entry_iter2 (args_iter2 _ _) ?_
    show wpAny _ _ (specialOf (.ref m) "__call__" >>= _) _ _ s
    refine wpAny_bind (wpAny_specialOf (T := "method") ⟨_, me, rfl⟩ lk_method_call ?_)
    show wpAny _ _ (rule "iter.sentinel" >>= _) _ _ s
    refine wpAny_bind (wpAny_rule ?_)
    refine wpAny_bind (wpAny_newObj_type (wpAny_pure ⟨_, rfl, k _ _ s.toks (q _ _ (Nat.le_refl _) ⟨T.size, lom, ⟨t, Heap.get?_push_size _ rfl⟩, Heap.get?_push_of_some _ me⟩ (Kp.push _))⟩))
theorem W_selfCI {it m lx : Nat} {Q : Value → Heap → Prop} (c : CI h it m lx) (q : Q (.ref it) h) : Wp w A (pyIter (.ref it)) Q h :=
  Wp.mk fun s Q' E hs k => by
    subst hs
    obtain ⟨t, e⟩ := c.is
    have hT : s.TypeIs (.ref it) "callable_iterator" := ⟨_, e, rfl⟩
    refine wpAny_pyIter_slot hT slot_ci_iter (wpAny_call_entry slot_ci_iter hT entry_ci_iter ?_ (args_ci_iter _))
    show wpAny _ _ (ret (.ref it)) _ _ s
    exact wpAny_pure ⟨_, rfl, "callable_iterator", _, hT, slot_ci_next.lookup, k _ s.heap s.toks q⟩
end
end Mine
end PartG8

-- G9
section PartG9
open PySem PySem.W PyProof.Rows PySem.Calls
set_option Elab.async false
set_option maxRecDepth 100000
set_option maxHeartbeats 4000000
set_option linter.unusedVariables false
namespace Mine
section
variable {w : World} {A : Around} {h : Heap} {env : Env}
theorem W_borrows {m lx : Nat} {Q : Bool → Heap → Prop} (T : TH w h) (me : h.get? m = some (methodObj (.ref 60) (.ref lx))) (q : Q true h) : Wp w A (borrowsExactly (.ref m)) Q h := by
  unfold borrowsExactly
  refine Wp.bind (Wp.load me ?_)
  refine Wp.bind (Wp.load (T 60 (ob60 w.params) (by decide) (by kernel_rfl)) ?_)
  exact Wp.pure q
theorem W_slot {m lx : Nat} {Q : Value → Heap → Prop} (T : TH w h) (me : h.get? m = some (methodObj (.ref 60) (.ref lx))) (H : Cd w A (.call (.ref 60) ⟨[.ref lx], []⟩) (Rc Q) h) : Wp w A (callOutOfASlot (.ref m)) Q h := by
  unfold callOutOfASlot
  refine Wp.bind (W_borrows T me ?_)
  rw [if_pos rfl]
  refine Wp.mk fun s Q' E hs k => ?_
  subst hs
  refine wpAny_callBorrowed (ks_codeAny_call_bound me (H.use fun r h' tk q => ?_))
  cases r with
  | ok f => cases f with
    | ret v => exact k v h' tk q
    | _ => exact q.elim
  | error e => exact q.elim
/-- a callable iterator at its end -/
noncomputable def CE (h : Heap) (it : Nat) : Prop := ∃ o vs, h.get? it = some o ∧ o.cls = .type "callable_iterator" ∧ o.data = .fields vs ∧ vs[2]? = some (.bool true)
theorem CE.keep {h h' : Heap} {it : Nat} {X : List Addr} (c : CE h it) (k : Kp X h h') (hx : (it : Addr) ∉ X) : CE h' it := by
  obtain ⟨o, vs, e, r⟩ := c
  exact ⟨o, vs, k _ _ hx e, r⟩
theorem Lx.lo3 {z : List Nat} {p n lx ldx pb x dx fr ct cs c sl : Nat} (X : Lx h z p n lx ldx pb x dx fr ct cs c sl) (a : Nat) (ha : a ∈ ([sl, lx, ldx] : List Addr)) : 151 ≤ a := by
  obtain ⟨t₁, t₂, io⟩ := X.io
  obtain ⟨t, s⟩ := X.seat
  simp only [List.mem_cons, List.not_mem_nil, or_false] at ha
  rcases ha with rfl | rfl | rfl
  · exact s.lo
  · exact io.lox
  · exact io.lod
theorem W_nextCI {z : List Nat} {p n lx ldx pb x dx fr ct cs c sl it m : Nat} {Q : Option Value → Heap → Prop} (hz : z.length ≤ 1000) (hp : p ≤ z.length) (r : Rm A 3) (T : TH w h) (X : Lx h z p n lx ldx pb x dx fr ct cs c sl) (ci : CI h it m lx)
    (hit : (it : Addr) ∉ ([sl, lx, ldx] : List Addr)) (hm : (m : Addr) ∉ ([sl, lx, ldx] : List Addr)) (hita : (it : Addr) ∉ allA lx ldx pb x dx fr ct cs c sl)
    (q1 : piece z p ≠ [] → ∀ h' u, Kp [sl, lx, ldx] h h' → Lx h' z (p + (piece z p).length) (n + if piece z p = [10] then 1 else 0) lx ldx pb x dx fr ct cs c sl → CI h' it m lx → Q (some (.str (S (piece z p)) u)) h')
    (q2 : piece z p = [] → ∀ h', Kp [sl, lx, ldx, it] h h' → Lx h' z p n lx ldx pb x dx fr ct cs c sl → CE h' it → Q none h') : Wp w A (pyNext (.ref it)) Q h :=
  Wp.mk fun s Q' E hs k => by
    subst hs
    obtain ⟨t, e⟩ := ci.is
    have hT : s.TypeIs (.ref it) "callable_iterator" := ⟨_, e, rfl⟩
    unfold pyNext
    refine wpAny_bind (wpAny_attempt (wpAny_callSpecial?_slot (name := Str.ofString "__next__") hT slot_ci_next (wpAny_call_entry slot_ci_next hT entry_ci_next ?_ (args_ci_next _))))
    show wpAny _ _ (field (.ref it) 2 >>= _) _ _ s
    refine wpAny_bind (wpAny_field e rfl (x := .bool false) rfl ?_)
    show wpAny _ _ (field (.ref it) 0 >>= _) _ _ s
    refine wpAny_bind (wpAny_field e rfl (x := .ref m) rfl ?_)
    refine wpAny_bind (wpAny_attempt ((W_slot (A := A.in1) T ci.me (C_readcharC hz hp r.in1 T X fun h₂ u k₂ X₂ => ?_) : Wp w A.in1 (callOutOfASlot (.ref m)) (fun v h₂ => ∃ u, v = .str (S (piece z p)) u ∧ Kp [sl, lx, ldx] s.heap h₂ ∧ Lx h₂ z (p + (piece z p).length) (n + if piece z p = [10] then 1 else 0) lx ldx pb x dx fr ct cs c sl) s.heap).use fun v h₂ tk₂ q => ?_))
    · exact ⟨u, rfl, k₂, X₂⟩
    obtain ⟨u, rfl, k₂, X₂⟩ := q
    have e₂ := k₂ it _ hit e
    have ci₂ : CI h₂ it m lx := ci.keep k₂ hit hm
    show wpAny _ _ (field (.ref it) 2 >>= _) _ _ _
    refine wpAny_bind (wpAny_field e₂ rfl (x := .bool false) rfl ?_)
    show wpAny _ _ (field (.ref it) 1 >>= _) _ _ _
    refine wpAny_bind (wpAny_field e₂ rfl (x := .str (S []) t) rfl ?_)
    refine wpAny_bind (wpAny_holding (SeqRoads2.EqGives.str (S []) (S (piece z p)) t u _ _ _ _ _ _ ?_))
    by_cases hpe : piece z p = []
    · have e3 : ((S []).cps.toList == (S (piece z p)).cps.toList) = true := by
        rw [S_cps, S_cps, hpe]; rfl
      rw [e3]
      show wpAny _ _ (rule "callable_iterator.__next__.sentinel" >>= _) _ _ _
      refine wpAny_bind (wpAny_rule (wpAny_bind ?_))
      show wpAny _ _ (field (.ref it) 0 >>= _) _ _ _
      refine wpAny_bind (wpAny_field e₂ rfl (x := .ref m) rfl (wpAny_bind ?_))
      show wpAny _ _ (borrowsExactly (.ref m) >>= _) _ _ _
      have T₂ : TH w h₂ := T.keep k₂ (fun a ha => .inl (X.lo3 a ha))
      refine wpAny_bind ((W_borrows (Q := fun b h' => b = true ∧ h' = h₂) T₂ ci₂.me ⟨rfl, rfl⟩).on fun b h' tk' q => ?_)
      obtain ⟨rfl, rfl⟩ := q
      refine wpAny_pure ?_
      · refine wpAny_bind (wpAny_setField e₂ rfl (by simp) ?_)
        refine wpAny_bind (wpAny_setField (Heap.get?_update_self _ e₂ (Obj.isFreed_of_fields (Obj.data_mapFields rfl _))) (Obj.data_mapFields rfl _) (by simp) ?_)
        refine wpAny_setField (Heap.get?_update_self _ (Heap.get?_update_self _ e₂ (Obj.isFreed_of_fields (Obj.data_mapFields rfl _))) (Obj.isFreed_of_fields (Obj.data_mapFields (Obj.data_mapFields rfl _) _))) (Obj.data_mapFields (Obj.data_mapFields rfl _) _) (by simp) ?_
        have ce : ∀ H, H = Heap.update (Heap.update (Heap.update h' it (Obj.mapFields (·.setIfInBounds 0 .none))) it (Obj.mapFields (·.setIfInBounds 1 .none))) it (Obj.mapFields (·.setIfInBounds 2 (.bool true))) → CE H it := by
          rintro H rfl
          refine ⟨_, _, Heap.get?_update_self _ (Heap.get?_update_self _ (Heap.get?_update_self _ e₂ (Obj.isFreed_of_fields (Obj.data_mapFields rfl _))) (Obj.isFreed_of_fields (Obj.data_mapFields (Obj.data_mapFields rfl _) _))) (Obj.isFreed_of_fields (Obj.data_mapFields (Obj.data_mapFields (Obj.data_mapFields rfl _) _) _)), rfl, Obj.data_mapFields (Obj.data_mapFields (Obj.data_mapFields rfl _) _) _, ?_⟩
          simp
        generalize hH : Heap.update _ _ _ = H3
        have ceH : CE H3 it := ce H3 hH.symm
        have hs3 : Heap.SameBut it h' H3 := by
          rw [← hH]
          exact ((Heap.SameBut.update ..).trans (Heap.SameBut.update ..)).trans (Heap.SameBut.update ..)
        have kU : Kp [it] h' H3 := Kp.same hs3
        show wpAny _ _ (newExc (.type "StopIteration") [] >>= _) _ _ _
        refine wpAny_bind ?_
        simp only [newExc, newTuple]
        refine wpAny_bind (wpAny_newObj_type ?_ (by size_fits))
        refine wpAny_bind (m := firstArgMember _ _) (wpAny_of_eq (a := Value.none) (by first | rfl | (simp only [firstArgMember]; rfl)) ?_)
        refine wpAny_newObj_type ?_ (by size_fits)
        simp only [raiseNew]
        refine wpAny_bind (wpAny_handled ?_)
        rw [show A.in1.handled = none from r.hd]
        refine wpAny_bind (wpAny_pure (wpAny_throw ?_))
        refine wpAny_bind (wpAny_isInstance (T := "StopIteration") (b := true) ⟨_, Heap.get?_push_size _ rfl, rfl⟩ isSubtype_stop ?_)
        refine wpAny_pure (k _ _ _ (q2 hpe _ ?_ ?_ ((ceH.keep (Kp.push (X := []) _) (fun m => nomatch m)).keep (Kp.push (X := []) _) (fun m => nomatch m))))
        · exact (k₂.sub fun a ha => by simp only [List.mem_cons, List.not_mem_nil, or_false] at ha ⊢; rcases ha with rfl | rfl | rfl <;> simp).trans ((kU.sub fun a ha => by rw [List.mem_singleton.mp ha]; simp).trans ((Kp.push _).trans (Kp.push _)))
        · rw [hpe] at X₂
          have X3 : Lx H3 z p n lx ldx pb x dx fr ct cs c sl := X₂.keep kU fun a ha => nin1 fun q => hita (q ▸ ha)
          have X4 : ∀ o, Lx (H3.push o) z p n lx ldx pb x dx fr ct cs c sl := fun o => X3.keep (Kp.push (X := []) o) fun _ _ m => nomatch m
          exact (X4 _).keep (Kp.push (X := []) _) fun _ _ m => nomatch m
    · have e3 : ((S []).cps.toList == (S (piece z p)).cps.toList) = false := by
        rw [S_cps, S_cps]
        cases q : piece z p with
        | nil => exact absurd q hpe
        | cons a b => rfl
      rw [e3]
      exact wpAny_pure ⟨_, rfl, wpAny_pure (k _ _ _ (q1 hpe h₂ u k₂ X₂ ci₂))⟩
theorem W_nextCE {it : Nat} {Q : Option Value → Heap → Prop} (hh : A.handled = none) (c : CE h it) (q : ∀ h', Kp [] h h' → Q none h') : Wp w A (pyNext (.ref it)) Q h :=
  Wp.mk fun s Q' E hs k => by
    subst hs
    obtain ⟨o, vs, e, ec, ed, ex⟩ := c
    have hT : s.TypeIs (.ref it) "callable_iterator" := ⟨_, e, ec⟩
    unfold pyNext
    refine wpAny_bind (wpAny_attempt (wpAny_callSpecial?_slot (name := Str.ofString "__next__") hT slot_ci_next (wpAny_call_entry slot_ci_next hT entry_ci_next ?_ (args_ci_next _))))
    show wpAny _ _ (field (.ref it) 2 >>= _) _ _ s
    refine wpAny_bind (wpAny_field e ed (x := .bool true) ex ?_)
    show wpAny _ _ (rule "callable_iterator.__next__.ended" >>= _) _ _ s
    refine wpAny_bind (wpAny_rule (wpAny_bind ?_))
    show wpAny _ _ (newExc (.type "StopIteration") [] >>= _) _ _ _
    refine wpAny_bind ?_
    simp only [newExc, newTuple]
    refine wpAny_bind (wpAny_newObj_type ?_ (by size_fits))
    refine wpAny_bind (m := firstArgMember _ _) (wpAny_of_eq (a := Value.none) (by first | rfl | (simp only [firstArgMember]; rfl)) ?_)
    refine wpAny_newObj_type ?_ (by size_fits)
    simp only [raiseNew]
    refine wpAny_bind (wpAny_handled ?_)
    rw [show A.in1.handled = none from hh]
    refine wpAny_bind (wpAny_pure (wpAny_throw ?_))
    refine wpAny_bind (wpAny_isInstance (T := "StopIteration") (b := true) ⟨_, Heap.get?_push_size _ rfl, rfl⟩ isSubtype_stop ?_)
    exact wpAny_pure (k _ _ _ (q _ ((Kp.push _).trans (Kp.push _))))
theorem W_ForG {target iter : Expr} {body : List Stmt} {pos : Pos} {Q : Flow → Heap → Prop} (K : Nat → Heap → Prop) (hs : ∀ x, foldedSetIterable iter env x = Pure.pure x) (ht : ∀ it v, letOwnedTupleGo target it v = Pure.pure ())
    (H : Wp w A (eval iter env) (fun xv h₁ => Wp w A (pyIter xv) (fun it h₂ => (∃ k, K k h₂) ∧
      ∀ k h₃, K k h₃ → Wp w A (pyNext it) (fun r h₄ => match r with
        | none => Q .next h₄
        | some v => Wp w A (assign target env v) (fun _ h₅ => Wp w A (execs body env) (fun f h₆ => match f with
          | .next | .cont => ∃ k', k' < k ∧ K k' h₆
          | .brk => Q .next h₆
          | .ret v => Q (.ret v) h₆) h₅) h₄) h₃) h₁) h) :
    Wp w A (exec (.For target iter body [] pos) env) Q h :=
  Wp.mk fun s Q' E hs' kk => by
    subst hs'
    refine wpAny_For (H.use fun xv h₁ tk q => q.on fun it h₂ tk₂ q₂ => ?_) hs
    obtain ⟨⟨k0, hk0⟩, step⟩ := q₂
    refine codeAny_forLoop_any (fun m s' => ∃ h' tk, s' = { s with heap := h', toks := tk } ∧ K m h') ?_ k0 ⟨h₂, tk₂, rfl, hk0⟩
    rintro m s' ⟨H, tk, rfl, hK⟩
    refine (step m H hK).on fun r h₃ tk₃ q => ?_
    cases r with
    | none => exact wpAny_execs_nil (kk _ _ _ q)
    | some v =>
      refine wpAny_of_eq (ht _ v) (Wp.on q fun _ h₄ tk₄ q => q.on fun f h₅ tk₅ q => ?_)
      cases f with
      | next => obtain ⟨k', hk', hK'⟩ := q; exact ⟨k', hk', h₅, tk₅, rfl, hK'⟩
      | cont => obtain ⟨k', hk', hK'⟩ := q; exact ⟨k', hk', h₅, tk₅, rfl, hK'⟩
      | brk => exact kk _ _ _ q
      | ret v => exact kk _ _ _ q
end
end Mine
end PartG9

-- G10
section PartG10
open PySem PySem.W PyProof.Rows PySem.Calls
set_option Elab.async false
set_option maxRecDepth 100000
set_option maxHeartbeats 4000000
set_option linter.unusedVariables false
namespace Mine
local macro_rules | `(tactic| walk_at "ml") => `(tactic| refine W_local (Fr.ns (by assumption)) (by kernel_rfl) (by kernel_rfl) (by kernel_rfl) (by rfl) ?_)
local macro_rules | `(tactic| walk_at "mn") => `(tactic| refine W_local (by assumption) (by kernel_rfl) (by kernel_rfl) (by kernel_rfl) (by rfl) ?_)
local macro_rules | `(tactic| walk_at "mb") => `(tactic| (refine W_builtin (TH.glob (Fr.T (by assumption))) (TH.blt (Fr.T (by assumption))) (by kernel_rfl) (by kernel_rfl) (by kernel_rfl) (by kernel_rfl) (by first | with_reducible exact mb_range | with_reducible exact mb_len | with_reducible exact mb_sum | with_reducible exact mb_isinstance | with_reducible exact mb_bool | with_reducible exact mb_iter) ?_))
local macro_rules | `(tactic| walk_at "mg") => `(tactic| (refine W_global (TH.glob (Fr.T (by assumption))) (by kernel_rfl) (by kernel_rfl) (by kernel_rfl) (by first | with_reducible exact mg_b1 | with_reducible exact mg_lex | with_reducible exact mg_row | with_reducible exact mg_word | with_reducible exact mg_joined | with_reducible exact mg_left | with_reducible exact mg_stream | with_reducible exact mg_written | with_reducible exact mg_again | with_reducible exact mg_twos) ?_))
local macro_rules | `(tactic| walk_at "ms") => `(tactic| refine W_st (by assumption) (by kernel_rfl) (by kernel_rfl) ?_)
/-- the line at the place p -/
noncomputable def ln (z : List Nat) (p : Nat) : Nat := 1 + ((z.take p).filter (· == 10)).length
theorem piece_lt {z : List Nat} {p : Nat} (h : p < z.length) : piece z p = [z[p]] := by
  unfold piece
  rw [List.drop_eq_getElem_cons h]
  rfl
theorem piece_ge {z : List Nat} {p : Nat} (h : z.length ≤ p) : piece z p = [] := by
  unfold piece
  rw [List.drop_eq_nil_of_le h]
  rfl
theorem ln_step {z : List Nat} {p : Nat} : ln z (p + (piece z p).length) = ln z p + if piece z p = [10] then 1 else 0 := by
  by_cases h : p < z.length
  · rw [piece_lt h]
    unfold ln
    show 1 + ((z.take (p + 1)).filter (· == 10)).length = _
    rw [take_succ_filter _ z p z[p] (List.getElem?_eq_getElem h), List.length_append]
    by_cases h10 : z[p] = 10
    · simp [h10]; omega
    · simp [h10]
  · rw [piece_ge (by omega)]
    simp
noncomputable def whiteB (c : Nat) : Bool := whiteS.contains c
noncomputable def unqL : List Nat → List Nat → List Nat × List Nat
  | [], tok => (tok, [])
  | c :: r, tok => if whiteB c = true then (tok, r) else if c = 92 then (match r with | [] => (tok, []) | d :: r' => unqL r' (tok ++ [d])) else unqL r (tok ++ [c])
noncomputable def quoL : List Nat → List Nat → List Nat × List Nat
  | [], tok => (tok, [])
  | c :: r, tok => if c = 34 then (tok, r) else if c = 92 then (match r with | [] => (tok, []) | d :: r' => quoL r' (tok ++ [d])) else quoL r (tok ++ [c])
noncomputable def tokL : List Nat → List Nat × List Nat
  | [] => ([], [])
  | c :: r => if whiteB c = true then tokL r else if c = 34 then quoL r [] else if c = 92 then (match r with | [] => ([], []) | d :: r' => unqL r' [d]) else unqL r [c]
/-- what stays the same in a call of get_token -/
structure Tx where
  w : World
  h₀ : Heap
  z : List Nat
  L : Nat
  lx : Nat
  ldx : Nat
  pb : Nat
  x : Nat
  dx : Nat
  fr : Nat
  ct : Nat
  cs : Nat
  c : Nat
  sl : Nat
  it : Nat
  m : Nat
noncomputable abbrev Tx.all (G : Tx) : List Addr := allA G.lx G.ldx G.pb G.x G.dx G.fr G.ct G.cs G.c G.sl
noncomputable abbrev Tx.Z (G : Tx) : List Addr := [G.sl, G.lx, G.ldx]
structure Tx.Ok (G : Tx) : Prop where
  hz : G.z.length ≤ 1000
  it : G.L < G.it
  m : G.L < G.m
  all : ∀ a : Nat, a ∈ G.all → a < G.L
  fr : G.h₀.objs.size ≤ G.L
noncomputable abbrev Tx.Lx (G : Tx) (p : Nat) (h : Heap) : Prop := Mine.Lx h G.z p (ln G.z p) G.lx G.ldx G.pb G.x G.dx G.fr G.ct G.cs G.c G.sl
/-- the call's own names -/
noncomputable def Tk (G : Tx) (tok : List Nat) (P : List (Str × Value) → Prop) (h : Heap) : Prop := ∃ l tt, Fr G.w G.Z G.h₀ h G.L l [] ∧ lk l (Str.ofString "self") = some (.ref G.lx) ∧ lk l (Str.ofString "token") = some (.str (S tok) tt) ∧ lk l (Str.ofString "fiter") = some (.ref G.it) ∧ P l
structure Al (G : Tx) (p : Nat) (tok : List Nat) (P : List (Str × Value) → Prop) (h : Heap) : Prop where
  tk : Tk G tok P h
  lx : G.Lx p h
  ci : CI h G.it G.m G.lx
  p : p ≤ G.z.length
structure De (G : Tx) (tok : List Nat) (P : List (Str × Value) → Prop) (h : Heap) : Prop where
  tk : Tk G tok P h
  lx : G.Lx G.z.length h
  ce : CE h G.it
section
variable {A : Around} {h h' : Heap}
theorem Tx.Ok.nz {G : Tx} (k : G.Ok) {a : Nat} (h : G.L < a) : (a : Addr) ∉ G.Z := fun m => by
  have := k.all a (by simp only [List.mem_cons, List.not_mem_nil, or_false] at m; rcases m with rfl | rfl | rfl <;> simp)
  omega
theorem Tx.Ok.nall {G : Tx} (k : G.Ok) {a : Nat} (h : G.L < a) : (a : Addr) ∉ G.all := fun m => by
  have := k.all a m
  omega
theorem Tk.up {G : Tx} {tok : List Nat} {P : List (Str × Value) → Prop} (k : G.Ok) (t : Tk G tok P h) (lo : ∀ a : Nat, a ∈ G.Z → 151 ≤ a) (loi : 151 ≤ G.it) (kp : Kp [G.sl, G.lx, G.ldx, G.it] h h') : Tk G tok P h' := by
  obtain ⟨l, tt, f, e⟩ := t
  refine ⟨l, tt, ⟨fun b o hb eb => kp b o (fun m => ?_) (f.k b o hb eb), f.fr, f.lo, kp.ns f.ns (fun m => ?_), fun i v e => (by cases e), f.T.keep kp fun a ha => ?_⟩, e⟩
  · simp only [List.mem_cons, List.not_mem_nil, or_false] at m
    rcases m with rfl | rfl | rfl | rfl
    · exact hb (by simp)
    · exact hb (by simp)
    · exact hb (by simp)
    · exact absurd (Heap.lt_size eb) (Nat.not_lt.mpr (Nat.le_trans k.fr (Nat.le_of_lt k.it)))
  · simp only [List.mem_cons, List.not_mem_nil, or_false] at m
    have h1 := k.all G.sl (by simp)
    have h2 := k.all G.lx (by simp)
    have h3 := k.all G.ldx (by simp)
    have h4 := k.it
    rcases m with e | e | e | e
    · exact absurd e (Nat.ne_of_gt h1)
    · exact absurd e (Nat.ne_of_gt h2)
    · exact absurd e (Nat.ne_of_gt h3)
    · exact absurd e (Nat.ne_of_lt h4)
  · simp only [List.mem_cons, List.not_mem_nil, or_false] at ha
    left
    rcases ha with rfl | rfl | rfl | rfl
    · exact lo _ (by simp)
    · exact lo _ (by simp)
    · exact lo _ (by simp)
    · exact loi
/-- one step of the iterator -/
theorem W_step {G : Tx} {p : Nat} {tok : List Nat} {P : List (Str × Value) → Prop} {Q : Option Value → Heap → Prop} (k : G.Ok) (r : Rm A 3) (a : Al G p tok P h)
    (q1 : ∀ (hlt : p < G.z.length) h' u, Al G (p + 1) tok P h' → Q (some (.str (S [G.z[p]]) u)) h') (q2 : p = G.z.length → ∀ h', De G tok P h' → Q none h') : Wp G.w A (pyNext (.ref G.it)) Q h := by
  have T : TH G.w h := let ⟨_, _, f, _⟩ := a.tk; f.T
  refine W_nextCI k.hz a.p r T a.lx a.ci (k.nz k.it) (k.nz k.m) (k.nall k.it) (fun hne h' u kp X ci => ?_) (fun he h' kp X ce => ?_)
  · have hlt : p < G.z.length := by
      rcases Nat.lt_or_ge p G.z.length with h1 | h1
      · exact h1
      · exact absurd (piece_ge h1) hne
    rw [← ln_step] at X
    have e1 : (piece G.z p).length = 1 := by rw [piece_lt hlt]; rfl
    rw [e1] at X
    rw [piece_lt hlt]
    exact q1 hlt h' u ⟨a.tk.up k a.lx.lo3 a.ci.lo (kp.sub fun b hb => by simp only [List.mem_cons, List.not_mem_nil, or_false] at hb ⊢; rcases hb with rfl | rfl | rfl <;> simp), X, ci, hlt⟩
  · have hge : p = G.z.length := by
      rcases Nat.lt_or_ge p G.z.length with h1 | h1
      · rw [piece_lt h1] at he; cases he
      · exact Nat.le_antisymm a.p h1
    refine q2 hge h' ⟨a.tk.up k a.lx.lo3 a.ci.lo kp, ?_, ce⟩
    show Mine.Lx _ _ _ _ _ _ _ _ _ _ _ _ _ _
    rw [← hge]
    exact X
/-- self._read_char() within get_token -/
theorem W_rc {G : Tx} {p : Nat} {tok : List Nat} {P : List (Str × Value) → Prop} {Q : Value → Heap → Prop} (k : G.Ok) (r : Rm A 3) (a : Al G p tok P h) (q : ∀ h' u, Al G (p + (piece G.z p).length) tok P h' → Q (.str (S (piece G.z p)) u) h') : Wp G.w A (call (.ref 60) [.ref G.lx]) Q h := by
  have T : TH G.w h := let ⟨_, _, f, _⟩ := a.tk; f.T
  refine C_readchar k.hz a.p (r.le (by omega)) T a.lx fun h' u kp X => ?_
  rw [← ln_step] at X
  refine q h' u ⟨a.tk.up k a.lx.lo3 a.ci.lo (kp.sub fun b hb => by simp only [List.mem_cons, List.not_mem_nil, or_false] at hb ⊢; rcases hb with rfl | rfl | rfl <;> simp), X, a.ci.keep kp (k.nz k.it) (k.nz k.m), ?_⟩
  have := a.p
  unfold piece
  simp
  omega
noncomputable def fTok : FuncData := fdAt (mem 5 2) (St "_netrclex.get_token") 3 (.str (St "cpy313.netrc") 263) (.ref 66)
noncomputable abbrev evT (G : Tx) : Env := callEnv fTok G.L 67
noncomputable def chIs (v : Value) : List (Str × Value) → Prop := fun l => lk l (Str.ofString "ch") = some v
theorem Tx.Ok.nL {G : Tx} (k : G.Ok) : ∀ a ∈ G.all, a ∉ ([G.L] : List Addr) := fun a ha => nin1 (Nat.ne_of_lt (k.all a ha))
theorem W_setCh {G : Tx} {p : Nat} {tok : List Nat} {P : List (Str × Value) → Prop} {v : Value} {Q : Unit → Heap → Prop} (k : G.Ok) (a : Al G p tok P h) (q : ∀ h', Al G p tok (chIs v) h' → Q () h') : Wp G.w A (storeName (evT G) (Str.ofString "ch") v) Q h := by
  obtain ⟨l, tt, f, e1, e2, e3, e4⟩ := a.tk
  refine W_st (env := evT G) f (by kernel_rfl) (by kernel_rfl) fun h' f' k' => q h' ⟨⟨_, tt, f', lk_ne (by kernel_rfl) e1, lk_ne (by kernel_rfl) e2, lk_ne (by kernel_rfl) e3, lk_self⟩, a.lx.keep k' k.nL, a.ci.keep k' (nin1 (Nat.ne_of_gt k.it)) (nin1 (Nat.ne_of_gt k.m)), a.p⟩
theorem W_setTok {G : Tx} {p : Nat} {tok tok' : List Nat} {v : Value} {u : Tok} {Q : Unit → Heap → Prop} (k : G.Ok) (a : Al G p tok (chIs v) h) (q : ∀ h', Al G p tok' (chIs v) h' → Q () h') : Wp G.w A (storeName (evT G) (Str.ofString "token") (.str (S tok') u)) Q h := by
  obtain ⟨l, tt, f, e1, e2, e3, e4⟩ := a.tk
  refine W_st (env := evT G) f (by kernel_rfl) (by kernel_rfl) fun h' f' k' => q h' ⟨⟨_, u, f', lk_ne (by kernel_rfl) e1, lk_self, lk_ne (by kernel_rfl) e3, lk_ne (by kernel_rfl) e4⟩, a.lx.keep k' k.nL, a.ci.keep k' (nin1 (Nat.ne_of_gt k.it)) (nin1 (Nat.ne_of_gt k.m)), a.p⟩
theorem W_ch {G : Tx} {p : Nat} {tok : List Nat} {v : Value} {pos : Pos} {Q : Value → Heap → Prop} (a : Al G p tok (chIs v) h) (q : Q v h) : Wp G.w A (eval (.Name (Str.ofString "ch") pos) (evT G)) Q h := by
  obtain ⟨l, tt, f, e1, e2, e3, e4⟩ := a.tk
  exact W_local (env := evT G) f.ns (by kernel_rfl) (by kernel_rfl) (by kernel_rfl) e4 q
theorem W_self {G : Tx} {tok : List Nat} {P : List (Str × Value) → Prop} {pos : Pos} {Q : Value → Heap → Prop} (t : Tk G tok P h) (q : Q (.ref G.lx) h) : Wp G.w A (eval (.Name (Str.ofString "self") pos) (evT G)) Q h := by
  obtain ⟨l, tt, f, e1, e2, e3, e4⟩ := t
  exact W_local (env := evT G) f.ns (by kernel_rfl) (by kernel_rfl) (by kernel_rfl) e1 q
theorem W_fiter {G : Tx} {tok : List Nat} {P : List (Str × Value) → Prop} {pos : Pos} {Q : Value → Heap → Prop} (t : Tk G tok P h) (q : Q (.ref G.it) h) : Wp G.w A (eval (.Name (Str.ofString "fiter") pos) (evT G)) Q h := by
  obtain ⟨l, tt, f, e1, e2, e3, e4⟩ := t
  exact W_local (env := evT G) f.ns (by kernel_rfl) (by kernel_rfl) (by kernel_rfl) e3 q
theorem W_tokN {G : Tx} {tok : List Nat} {P : List (Str × Value) → Prop} {pos : Pos} {Q : Value → Heap → Prop} (t : Tk G tok P h) (q : ∀ u, Q (.str (S tok) u) h) : Wp G.w A (eval (.Name (Str.ofString "token") pos) (evT G)) Q h := by
  obtain ⟨l, tt, f, e1, e2, e3, e4⟩ := t
  exact W_local (env := evT G) f.ns (by kernel_rfl) (by kernel_rfl) (by kernel_rfl) e2 (q _)
theorem W_tokL {G : Tx} {tok : List Nat} {P : List (Str × Value) → Prop} {Q : Value → Heap → Prop} (t : Tk G tok P h) (q : ∀ u, Q (.str (S tok) u) h) : Wp G.w A (loadName (evT G) (Str.ofString "token")) Q h := by
  obtain ⟨l, tt, f, e1, e2, e3, e4⟩ := t
  exact W_loadLocal (env := evT G) (by kernel_rfl) (by kernel_rfl) f.ns e2 (q _)
/-- self.whitespace -/
theorem W_white {G : Tx} {p : Nat} {tok : List Nat} {P : List (Str × Value) → Prop} {pos pos' : Pos} {Q : Value → Heap → Prop} (a : Al G p tok P h) (q : ∀ u, Q (.str (S whiteS) u) h) : Wp G.w A (eval (.Attribute (.Name (Str.ofString "self") pos) (Str.ofString "whitespace") pos') (evT G)) Q h := by
  refine W_Attr base_name (W_self a.tk ?_)
  obtain ⟨t₁, t₂, io⟩ := a.lx.io
  have T : TH G.w h := let ⟨_, _, f, _⟩ := a.tk; f.T
  exact W_loadA T io (by kernel_rfl) tl_whitespace (by rfl) (by rfl) (q _)
/-- self._read_char(), called -/
theorem W_rcall {G : Tx} {p : Nat} {tok : List Nat} {P : List (Str × Value) → Prop} {p1 p2 pos : Pos} {Q : Value → Heap → Prop} (k : G.Ok) (r : Rm A 3) (a : Al G p tok P h) (hl : (p2.endLine == pos.line) = true) (q : ∀ h' u, Al G (p + (piece G.z p).length) tok P h' → Q (.str (S (piece G.z p)) u) h') :
    Wp G.w A (eval (.Call (.Attribute (.Name (Str.ofString "self") p1) (Str.ofString "_read_char") p2) [] [] pos) (evT G)) Q h := by
  have T : TH G.w h := let ⟨_, _, f, _⟩ := a.tk; f.T
  obtain ⟨t₁, t₂, io⟩ := a.lx.io
  refine W_CallAttr base_name (by rfl) hl (W_self a.tk fun pl => W_method T io (f := 60) (of := ob60 G.w.params) (by kernel_rfl) (T 60 _ (by decide) (by kernel_rfl)) rfl tl_readchar (by rfl) ?_)
  exact W_callWithFn0 (o := ob60 G.w.params) rfl ⟨T 60 _ (by decide) (by kernel_rfl), W_rc k r a q⟩
end
end Mine
end PartG10

-- G11
section PartG11
open PySem PySem.W PyProof.Rows PySem.Calls
set_option Elab.async false
set_option maxRecDepth 100000
set_option maxHeartbeats 4000000
set_option linter.unusedVariables false
namespace Mine
local macro_rules | `(tactic| walk_at "ml") => `(tactic| refine W_local (Fr.ns (by assumption)) (by kernel_rfl) (by kernel_rfl) (by kernel_rfl) (by rfl) ?_)
local macro_rules | `(tactic| walk_at "mn") => `(tactic| refine W_local (by assumption) (by kernel_rfl) (by kernel_rfl) (by kernel_rfl) (by rfl) ?_)
local macro_rules | `(tactic| walk_at "mb") => `(tactic| (refine W_builtin (TH.glob (Fr.T (by assumption))) (TH.blt (Fr.T (by assumption))) (by kernel_rfl) (by kernel_rfl) (by kernel_rfl) (by kernel_rfl) (by first | with_reducible exact mb_range | with_reducible exact mb_len | with_reducible exact mb_sum | with_reducible exact mb_isinstance | with_reducible exact mb_bool | with_reducible exact mb_iter) ?_))
local macro_rules | `(tactic| walk_at "mg") => `(tactic| (refine W_global (TH.glob (Fr.T (by assumption))) (by kernel_rfl) (by kernel_rfl) (by kernel_rfl) (by first | with_reducible exact mg_b1 | with_reducible exact mg_lex | with_reducible exact mg_row | with_reducible exact mg_word | with_reducible exact mg_joined | with_reducible exact mg_left | with_reducible exact mg_stream | with_reducible exact mg_written | with_reducible exact mg_again | with_reducible exact mg_twos) ?_))
local macro_rules | `(tactic| walk_at "ms") => `(tactic| refine W_st (by assumption) (by kernel_rfl) (by kernel_rfl) ?_)
noncomputable def tokB : List Stmt := match mem 5 2 with | .FunctionDef _ _ b _ _ _ _ _ _ _ => b | _ => []
noncomputable def bodyFor (s : Stmt) : List Stmt := match s with | .For _ _ b _ _ => b | _ => []
noncomputable def thenOf (s : Stmt) : List Stmt := match s with | .If _ b _ _ => b | _ => []
noncomputable def elseOf (s : Stmt) : List Stmt := match s with | .If _ _ b _ => b | _ => []
noncomputable def outerFor : Stmt := tokB.getD 3 default
noncomputable def quoFor : Stmt := (thenOf ((bodyFor outerFor).getD 1 default)).getD 0 default
noncomputable def unqFor : Stmt := (elseOf ((bodyFor outerFor).getD 1 default)).getD 2 default
noncomputable def Done (G : Tx) (R : List Nat × List Nat) (h : Heap) : Prop := ∃ p', Kp G.Z G.h₀ h ∧ G.Lx p' h ∧ G.z.drop p' = R.2 ∧ p' ≤ G.z.length
theorem Al.kp {G : Tx} {p : Nat} {tok : List Nat} {P : List (Str × Value) → Prop} {h : Heap} (a : Al G p tok P h) : Kp G.Z G.h₀ h := let ⟨_, _, f, _⟩ := a.tk; f.k
theorem De.kp {G : Tx} {tok : List Nat} {P : List (Str × Value) → Prop} {h : Heap} (a : De G tok P h) : Kp G.Z G.h₀ h := let ⟨_, _, f, _⟩ := a.tk; f.k
section
variable {A : Around} {h : Heap}
theorem L_unq {G : Tx} {p : Nat} {tok : List Nat} {P : List (Str × Value) → Prop} {R : List Nat × List Nat} {Q : Flow → Heap → Prop} (k : G.Ok) (r : Rm A 3) (a : Al G p tok P h) (hl : tok.length ≤ p) (hR : unqL (G.z.drop p) tok = R)
    (qr : ∀ h' u, Done G R h' → Q (.ret (.str (S R.1) u)) h') (qn : ∀ h' acc P, De G acc P h' → R = (acc, []) → Q .next h') : Wp G.w A (exec unqFor (evT G)) Q h := by
  have sz := sizeLine_is
  have hz := k.hz
  refine W_ForG (fun n hx => ∃ p acc P, Al G p acc P hx ∧ acc.length ≤ p ∧ unqL (G.z.drop p) acc = R ∧ n = G.z.length - p) (fun _ => by rfl) (fun _ _ => by rfl) (W_fiter a.tk (W_selfCI a.ci ⟨⟨_, p, tok, P, a, hl, hR, rfl⟩, ?_⟩))
  rintro n h₁ ⟨p, acc, P, a, hl, hR, rfl⟩
  refine W_step k r a (fun hlt h₂ u a₂ => ?_) (fun he h₂ d => ?_)
  · refine W_assignName (W_setCh k a₂ fun h₃ a₃ => ?_)
    have hd : G.z.drop p = G.z[p] :: G.z.drop (p + 1) := List.drop_eq_getElem_cons hlt
    rw [hd] at hR
    unfold unqL at hR
    refine W_cons (Wp.mono (Q := fun fl hx => (fl = Flow.next ∧ ∃ px d u, Al G px acc (chIs (.str (S d) u)) hx ∧ unqL (G.z.drop px) (acc ++ d) = R ∧ p < px ∧ d.length ≤ 1) ∨ (∃ u, fl = .ret (.str (S R.1) u) ∧ Done G R hx)) (W_If (W_test1 (by kernel_rfl) (W_ch a₃ (W_white a₃ fun u₁ => W_inS (W_truthyB ⟨fun e => ?_, fun e => ?_⟩))))) ?_)
    · have e' : whiteB G.z[p] = true := e
      rw [if_pos e'] at hR
      refine W_cons (W_Return (W_tokN a₃.tk fun u₂ => .inr ⟨u₂, ?_, p + 1, a₃.kp, a₃.lx, ?_, a₃.p⟩))
      · rw [← hR]
      · rw [← hR]
    · have e' : whiteB G.z[p] = false := e
      rw [if_neg (by rw [e']; simp)] at hR
      refine W_cons (W_If (W_test1 (by kernel_rfl) (W_ch a₃ (W_strS [92] (by kernel_rfl) fun u₁ => W_eqS (W_truthyB ⟨fun e => ?_, fun e => ?_⟩)))))
      · have e2 : G.z[p] = 92 := by simpa using e
        rw [if_pos e2] at hR
        refine W_cons (W_Assign (by rfl) (W_rcall k r a₃ (by rfl) fun h₄ u₂ a₄ => W_setCh k a₄ fun h₅ a₅ => W_nil (W_nil (.inl ⟨rfl, _, _, _, a₅, ?_, by omega, ?_⟩))))
        · by_cases h1 : p + 1 < G.z.length
          · rw [piece_lt h1]
            have hd2 : G.z.drop (p + 1) = G.z[p + 1] :: G.z.drop (p + 1 + 1) := List.drop_eq_getElem_cons h1
            rw [hd2] at hR
            exact hR
          · rw [piece_ge (by omega)]
            have hd2 : G.z.drop (p + 1) = [] := List.drop_eq_nil_of_le (by omega)
            rw [hd2] at hR
            show unqL (G.z.drop (p + 1)) (acc ++ []) = R
            rw [hd2, List.append_nil]
            unfold unqL
            exact hR
        · unfold piece; simp; omega
      · have e2 : ¬ G.z[p] = 92 := by simpa using e
        rw [if_neg e2] at hR
        exact W_nil (W_nil (.inl ⟨rfl, _, _, _, a₃, hR, by omega, by simp⟩))
    · rintro fl hx (⟨rfl, px, d, u₁, a₄, hR', hpx, hd1⟩ | ⟨u₁, rfl, dn⟩)
      · have ha4 := a₄.p
        refine W_cons (W_AugName (W_tokL a₄.tk fun u₂ => W_ch a₄ (W_iaddS (by omega) fun u₃ => W_setTok k a₄ fun h₅ a₅ => W_nil ⟨G.z.length - px, by omega, px, acc ++ d, _, a₅, ?_, hR', rfl⟩)))
        rw [List.length_append]
        omega
      · exact qr hx u₁ dn
  · refine qn h₂ acc P d ?_
    rw [he, List.drop_length] at hR
    exact hR.symm
theorem L_quo {G : Tx} {p : Nat} {tok : List Nat} {P : List (Str × Value) → Prop} {R : List Nat × List Nat} {Q : Flow → Heap → Prop} (k : G.Ok) (r : Rm A 3) (a : Al G p tok P h) (hl : tok.length ≤ p) (hR : quoL (G.z.drop p) tok = R)
    (qr : ∀ h' u, Done G R h' → Q (.ret (.str (S R.1) u)) h') (qn : ∀ h' acc P, De G acc P h' → R = (acc, []) → Q .next h') : Wp G.w A (exec quoFor (evT G)) Q h := by
  have sz := sizeLine_is
  have hz := k.hz
  refine W_ForG (fun n hx => ∃ p acc P, Al G p acc P hx ∧ acc.length ≤ p ∧ quoL (G.z.drop p) acc = R ∧ n = G.z.length - p) (fun _ => by rfl) (fun _ _ => by rfl) (W_fiter a.tk (W_selfCI a.ci ⟨⟨_, p, tok, P, a, hl, hR, rfl⟩, ?_⟩))
  rintro n h₁ ⟨p, acc, P, a, hl, hR, rfl⟩
  refine W_step k r a (fun hlt h₂ u a₂ => ?_) (fun he h₂ d => ?_)
  · refine W_assignName (W_setCh k a₂ fun h₃ a₃ => ?_)
    have hd : G.z.drop p = G.z[p] :: G.z.drop (p + 1) := List.drop_eq_getElem_cons hlt
    rw [hd] at hR
    unfold quoL at hR
    refine W_cons (Wp.mono (Q := fun fl hx => (fl = Flow.next ∧ ∃ px d u, Al G px acc (chIs (.str (S d) u)) hx ∧ quoL (G.z.drop px) (acc ++ d) = R ∧ p < px ∧ d.length ≤ 1) ∨ (∃ u, fl = .ret (.str (S R.1) u) ∧ Done G R hx)) (W_If (W_test1 (by kernel_rfl) (W_ch a₃ (W_strS [34] (by kernel_rfl) fun u₁ => W_eqS (W_truthyB ⟨fun e => ?_, fun e => ?_⟩))))) ?_)
    · have e' : G.z[p] = 34 := by simpa using e
      rw [if_pos e'] at hR
      refine W_cons (W_Return (W_tokN a₃.tk fun u₂ => .inr ⟨u₂, ?_, p + 1, a₃.kp, a₃.lx, ?_, a₃.p⟩))
      · rw [← hR]
      · rw [← hR]
    · have e' : ¬ G.z[p] = 34 := by simpa using e
      rw [if_neg e'] at hR
      refine W_cons (W_If (W_test1 (by kernel_rfl) (W_ch a₃ (W_strS [92] (by kernel_rfl) fun u₁ => W_eqS (W_truthyB ⟨fun e => ?_, fun e => ?_⟩)))))
      · have e2 : G.z[p] = 92 := by simpa using e
        rw [if_pos e2] at hR
        refine W_cons (W_Assign (by rfl) (W_rcall k r a₃ (by rfl) fun h₄ u₂ a₄ => W_setCh k a₄ fun h₅ a₅ => W_nil (W_nil (.inl ⟨rfl, _, _, _, a₅, ?_, by omega, ?_⟩))))
        · by_cases h1 : p + 1 < G.z.length
          · rw [piece_lt h1]
            have hd2 : G.z.drop (p + 1) = G.z[p + 1] :: G.z.drop (p + 1 + 1) := List.drop_eq_getElem_cons h1
            rw [hd2] at hR
            exact hR
          · rw [piece_ge (by omega)]
            have hd2 : G.z.drop (p + 1) = [] := List.drop_eq_nil_of_le (by omega)
            rw [hd2] at hR
            show quoL (G.z.drop (p + 1)) (acc ++ []) = R
            rw [hd2, List.append_nil]
            unfold quoL
            exact hR
        · unfold piece; simp; omega
      · have e2 : ¬ G.z[p] = 92 := by simpa using e
        rw [if_neg e2] at hR
        exact W_nil (W_nil (.inl ⟨rfl, _, _, _, a₃, hR, by omega, by simp⟩))
    · rintro fl hx (⟨rfl, px, d, u₁, a₄, hR', hpx, hd1⟩ | ⟨u₁, rfl, dn⟩)
      · have ha4 := a₄.p
        refine W_cons (W_AugName (W_tokL a₄.tk fun u₂ => W_ch a₄ (W_iaddS (by omega) fun u₃ => W_setTok k a₄ fun h₅ a₅ => W_nil ⟨G.z.length - px, by omega, px, acc ++ d, _, a₅, ?_, hR', rfl⟩)))
        rw [List.length_append]
        omega
      · exact qr hx u₁ dn
  · refine qn h₂ acc P d ?_
    rw [he, List.drop_length] at hR
    exact hR.symm
theorem L_out {G : Tx} {p : Nat} {P : List (Str × Value) → Prop} {R : List Nat × List Nat} {Q : Flow → Heap → Prop} (k : G.Ok) (r : Rm A 3) (a : Al G p [] P h) (hR : tokL (G.z.drop p) = R)
    (qr : ∀ h' u, Done G R h' → Q (.ret (.str (S R.1) u)) h') (qn : ∀ h' acc P, De G acc P h' → R = (acc, []) → Q .next h') : Wp G.w A (exec outerFor (evT G)) Q h := by
  have sz := sizeLine_is
  have hz := k.hz
  refine W_ForG (fun n hx => (∃ p P, Al G p [] P hx ∧ tokL (G.z.drop p) = R ∧ n = G.z.length - p + 1) ∨ (∃ acc P, De G acc P hx ∧ R = (acc, []) ∧ n = 0)) (fun _ => by rfl) (fun _ _ => by rfl) (W_fiter a.tk (W_selfCI a.ci ⟨⟨_, .inl ⟨p, P, a, hR, rfl⟩⟩, ?_⟩))
  rintro n h₁ (⟨p, P, a, hR, rfl⟩ | ⟨acc, P, d, hR, rfl⟩)
  · refine W_step k r a (fun hlt h₂ u a₂ => ?_) (fun he h₂ d => ?_)
    · refine W_assignName (W_setCh k a₂ fun h₃ a₃ => ?_)
      have hd : G.z.drop p = G.z[p] :: G.z.drop (p + 1) := List.drop_eq_getElem_cons hlt
      rw [hd] at hR
      unfold tokL at hR
      refine W_cons (W_If (W_test1 (by kernel_rfl) (W_ch a₃ (W_white a₃ fun u₁ => W_inS (W_truthyB ⟨fun e => ?_, fun e => ?_⟩)))))
      · have e' : whiteB G.z[p] = true := e
        rw [if_pos e'] at hR
        exact W_cons (W_Continue ⟨G.z.length - (p + 1) + 1, by omega, .inl ⟨p + 1, _, a₃, hR, rfl⟩⟩)
      · have e' : whiteB G.z[p] = false := e
        rw [if_neg (by rw [e']; simp)] at hR
        refine W_nil (W_cons (W_If (W_test1 (by kernel_rfl) (W_ch a₃ (W_strS [34] (by kernel_rfl) fun u₁ => W_eqS (W_truthyB ⟨fun e => ?_, fun e => ?_⟩))))))
        · have e2 : G.z[p] = 34 := by simpa using e
          rw [if_pos e2] at hR
          refine W_cons (L_quo k r a₃ (by simp) hR (fun h' u dn => qr h' u dn) (fun h' acc P d hr => W_nil (W_nil ⟨0, by omega, .inr ⟨acc, P, d, hr, rfl⟩⟩)))
        · have e2 : ¬ G.z[p] = 34 := by simpa using e
          rw [if_neg e2] at hR
          refine W_cons (Wp.mono (Q := fun fl hx => fl = Flow.next ∧ ∃ px d u, Al G px [] (chIs (.str (S d) u)) hx ∧ unqL (G.z.drop px) d = R ∧ p < px ∧ d.length ≤ 1) (W_If (W_test1 (by kernel_rfl) (W_ch a₃ (W_strS [92] (by kernel_rfl) fun u₁ => W_eqS (W_truthyB ⟨fun e => ?_, fun e => ?_⟩))))) ?_)
          · have e3 : G.z[p] = 92 := by simpa using e
            rw [if_pos e3] at hR
            refine W_cons (W_Assign (by rfl) (W_rcall k r a₃ (by rfl) fun h₄ u₂ a₄ => W_setCh k a₄ fun h₅ a₅ => W_nil ⟨rfl, _, _, _, a₅, ?_, by omega, ?_⟩))
            · by_cases h1 : p + 1 < G.z.length
              · rw [piece_lt h1]
                have hd2 : G.z.drop (p + 1) = G.z[p + 1] :: G.z.drop (p + 1 + 1) := List.drop_eq_getElem_cons h1
                rw [hd2] at hR
                exact hR
              · rw [piece_ge (by omega)]
                have hd2 : G.z.drop (p + 1) = [] := List.drop_eq_nil_of_le (by omega)
                rw [hd2] at hR
                show unqL (G.z.drop (p + 1)) [] = R
                rw [hd2]
                unfold unqL
                exact hR
            · unfold piece; simp; omega
          · have e3 : ¬ G.z[p] = 92 := by simpa using e
            rw [if_neg e3] at hR
            exact W_nil ⟨rfl, _, _, _, a₃, hR, by omega, by simp⟩
          · rintro fl hx ⟨rfl, px, d, u₁, a₄, hR', hpx, hd1⟩
            have ha4 := a₄.p
            refine W_cons (W_AugName (W_tokL a₄.tk fun u₂ => W_ch a₄ (W_iaddS (by simp; omega) fun u₃ => W_setTok (tok' := [] ++ d) k a₄ fun h₅ a₅ => ?_)))
            refine W_cons (L_unq k r a₅ (by rw [List.nil_append]; omega) hR' (fun h' u dn => qr h' u dn) (fun h' acc P d hr => W_nil (W_nil ⟨0, by omega, .inr ⟨acc, P, d, hr, rfl⟩⟩)))
    · refine qn h₂ [] P d ?_
      rw [he, List.drop_length] at hR
      exact hR.symm
  · refine W_nextCE r.hd d.ce fun h₂ k₂ => qn h₂ acc P ⟨?_, d.lx.keep k₂ (fun _ _ m => nomatch m), d.ce.keep k₂ (fun m => nomatch m)⟩ hR
    obtain ⟨l, tt, f, e⟩ := d.tk
    exact ⟨l, tt, f.step k₂, e⟩
theorem W_truthyL {w : World} {a : Addr} {Q : Bool → Heap → Prop} (x : LI h a []) (q : Q false h) : Wp w A (truthy (.ref a)) Q h :=
  Wp.mk fun s Q' E hs k => by subst hs; exact wpAny_truthy_list x.is (by simp) (k _ s.heap _ q)
end
end Mine
end PartG11

-- G12
section PartG12
open PySem PySem.W PyProof.Rows PySem.Calls
set_option Elab.async false
set_option maxRecDepth 100000
set_option maxHeartbeats 4000000
set_option linter.unusedVariables false
namespace Mine
local macro_rules | `(tactic| walk_at "ml") => `(tactic| refine W_local (Fr.ns (by assumption)) (by kernel_rfl) (by kernel_rfl) (by kernel_rfl) (by rfl) ?_)
local macro_rules | `(tactic| walk_at "mn") => `(tactic| refine W_local (by assumption) (by kernel_rfl) (by kernel_rfl) (by kernel_rfl) (by rfl) ?_)
local macro_rules | `(tactic| walk_at "mb") => `(tactic| (refine W_builtin (TH.glob (Fr.T (by assumption))) (TH.blt (Fr.T (by assumption))) (by kernel_rfl) (by kernel_rfl) (by kernel_rfl) (by kernel_rfl) (by first | with_reducible exact mb_range | with_reducible exact mb_len | with_reducible exact mb_sum | with_reducible exact mb_isinstance | with_reducible exact mb_bool | with_reducible exact mb_iter) ?_))
local macro_rules | `(tactic| walk_at "mg") => `(tactic| (refine W_global (TH.glob (Fr.T (by assumption))) (by kernel_rfl) (by kernel_rfl) (by kernel_rfl) (by first | with_reducible exact mg_b1 | with_reducible exact mg_lex | with_reducible exact mg_row | with_reducible exact mg_word | with_reducible exact mg_joined | with_reducible exact mg_left | with_reducible exact mg_stream | with_reducible exact mg_written | with_reducible exact mg_again | with_reducible exact mg_twos) ?_))
local macro_rules | `(tactic| walk_at "ms") => `(tactic| refine W_st (by assumption) (by kernel_rfl) (by kernel_rfl) ?_)
section
variable {w : World} {A : Around} {h : Heap}
theorem C_token {z : List Nat} {p lx ldx pb x dx fr ct cs c sl : Nat} {Q : Value → Heap → Prop} (hz : z.length ≤ 1000) (hp : p ≤ z.length) (r : Rm A 4) (T : TH w h) (X : Lx h z p (ln z p) lx ldx pb x dx fr ct cs c sl)
    (q : ∀ h' u p', Kp [sl, lx, ldx] h h' → Lx h' z p' (ln z p') lx ldx pb x dx fr ct cs c sl → z.drop p' = (tokL (z.drop p)).2 → p' ≤ z.length → Q (.str (S (tokL (z.drop p)).1) u) h') : Wp w A (call (.ref 67) [.ref lx]) Q h := by
  refine C_fn (Z := []) (fd := fTok) (binds := [(St "self", .ref lx)]) T r.room (T 67 (ob67 w.params) (by decide) (by kernel_rfl)) rfl (T.codeRec (o := ob66 w.params) (by decide) (by kernel_rfl) rfl (by rfl)) (by rfl) (by kernel_rfl) (by kernel_rfl) (by kernel_rfl) (by kernel_rfl) (by kernel_rfl) (by kernel_rfl) ?_
  intro h₁ L f0
  have f : Fr w [sl, lx, ldx] h h₁ L _ _ := f0.toZ
  have r' := r.deeper (env := callEnv fTok L 67)
  have hall : ∀ a : Nat, a ∈ allA lx ldx pb x dx fr ct cs c sl → a < L := fun a ha => Nat.lt_of_lt_of_le (X.lt a ha) f.fr
  have X₁ := X.keep f0.k fun _ _ m => nomatch m
  obtain ⟨t₁, t₂, io⟩ := X₁.io
  refine W_cons (W_If (W_isTrue (by rfl) (W_Attr base_name ?_)))
  walk_at "ml"
  refine W_loadA f.T io (by kernel_rfl) tl_pushback (by rfl) (by rfl) (W_truthyL X₁.pbk.li ⟨fun e => (nomatch e), fun _ => W_nil ?_⟩)
  refine W_cons (W_Assign (by rfl) (W_strS [] (by kernel_rfl) fun t₃ => ?_))
  walk_at "ms"
  intro h₂ f₂ k₂
  have nL : ∀ a ∈ allA lx ldx pb x dx fr ct cs c sl, a ∉ ([L] : List Addr) := fun a ha => nin1 (Nat.ne_of_lt (hall a ha))
  have X₂ := X₁.keep k₂ nL
  obtain ⟨t₁, t₂, io₂⟩ := X₂.io
  refine W_cons (W_Assign (by rfl) (W_CallName ?_))
  walk_at "mb"
  refine W_fv (by rfl) (by rfl) (by rfl) (W_items_cons (by rfl) (W_Attr base_name ?_))
  walk_at "ml"
  refine W_bound f₂.T io₂ (by rfl) fun h₃ m hm em k₃ => W_items_cons (by rfl) (W_strS [] (by kernel_rfl) fun t₄ => W_items_nil ?_)
  have f₃ := f₂.step k₃
  have mL : L < m := Nat.lt_of_lt_of_le f₂.lt hm
  have lom : 151 ≤ m := Nat.le_trans f.lo (Nat.le_of_lt mL)
  refine W_iter2 f₃.T lom em fun h₄ it hit ci k₄ => ?_
  have f₄ := f₃.step k₄
  have itL : L < it := Nat.lt_of_lt_of_le f₃.lt hit
  walk_at "ms"
  intro h₅ f₅ k₅
  let G : Tx := ⟨w, h, z, L, lx, ldx, pb, x, dx, fr, ct, cs, c, sl, it, m⟩
  have kG : G.Ok := ⟨hz, itL, mL, hall, f.fr⟩
  have X₅ : G.Lx p h₅ := ((X₂.keep k₃ fun _ _ m => nomatch m).keep k₄ fun _ _ m => nomatch m).keep k₅ nL
  have a : Al G p [] (fun _ => True) h₅ := ⟨⟨_, t₃, f₅, rfl, rfl, rfl, trivial⟩, X₅, ci.keep k₅ (nin1 (Nat.ne_of_gt itL)) (nin1 (Nat.ne_of_gt mL)), hp⟩
  refine W_cons (L_out (G := G) kG r' a rfl (fun h' u dn => ?_) (fun h' acc P d hr => ?_))
  · obtain ⟨p', kp, X', hd, hp'⟩ := dn
    exact q h' u p' kp X' hd hp'
  · refine W_cons (W_Return (W_tokN (G := G) d.tk fun u => ?_))
    have hr' : tokL (z.drop p) = (acc, []) := hr
    have := q h' u z.length d.kp d.lx (by rw [hr', List.drop_length]) (Nat.le_refl _)
    rw [hr'] at this
    exact this
end
end Mine
end PartG12

-- G13
section PartG13
open PySem PySem.W PyProof.Rows PySem.Calls
set_option Elab.async false
set_option maxRecDepth 100000
set_option maxHeartbeats 4000000
set_option linter.unusedVariables false
namespace Mine
local macro_rules | `(tactic| walk_at "ml") => `(tactic| refine W_local (Fr.ns (by assumption)) (by kernel_rfl) (by kernel_rfl) (by kernel_rfl) (by rfl) ?_)
local macro_rules | `(tactic| walk_at "mn") => `(tactic| refine W_local (by assumption) (by kernel_rfl) (by kernel_rfl) (by kernel_rfl) (by rfl) ?_)
local macro_rules | `(tactic| walk_at "mb") => `(tactic| (refine W_builtin (TH.glob (Fr.T (by assumption))) (TH.blt (Fr.T (by assumption))) (by kernel_rfl) (by kernel_rfl) (by kernel_rfl) (by kernel_rfl) (by first | with_reducible exact mb_range | with_reducible exact mb_len | with_reducible exact mb_sum | with_reducible exact mb_isinstance | with_reducible exact mb_bool | with_reducible exact mb_iter) ?_))
local macro_rules | `(tactic| walk_at "mg") => `(tactic| (refine W_global (TH.glob (Fr.T (by assumption))) (by kernel_rfl) (by kernel_rfl) (by kernel_rfl) (by first | with_reducible exact mg_b1 | with_reducible exact mg_lex | with_reducible exact mg_row | with_reducible exact mg_word | with_reducible exact mg_joined | with_reducible exact mg_left | with_reducible exact mg_stream | with_reducible exact mg_written | with_reducible exact mg_again | with_reducible exact mg_twos) ?_))
local macro_rules | `(tactic| walk_at "ms") => `(tactic| refine W_st (by assumption) (by kernel_rfl) (by kernel_rfl) ?_)
section
variable {w : World} {A : Around} {h : Heap} {env : Env}
theorem W_and {x y : Expr} {pos : Pos} {whole : Sem Value} {Q : Bool → Heap → Prop}
    (H : Wp w A (isTrue x env (eval x env)) (fun b h₁ => (b = false → Q false h₁) ∧ (b = true → Wp w A (isTrue y env (eval y env)) (fun b h₂ => Q b h₂) h₁)) h) : Wp w A (isTrue (.BoolOp .And [x, y] pos) env whole) Q h :=
  Wp.mk fun s Q' E hs k => by
    subst hs
    refine wpAny_isTrue_BoolOp (wpAny_allTrue_And_cons (H.use fun b h₁ tk q => ?_))
    cases b with
    | false => exact k _ _ _ (q.1 rfl)
    | true =>
      refine wpAny_allTrue_And_cons ((q.2 rfl).on fun b h₂ tk₂ q₂ => ?_)
      cases b with
      | false => exact k _ _ _ q₂
      | true => exact wpAny_allTrue_And_nil (k _ _ _ q₂)
end
/-- the text z reads as the words V, at the places P -/
structure Rd (z : List Nat) (n : Nat) (P : Nat → Nat) (V : Nat → List Nat) (es : List Int) : Prop where
  zero : P 0 = 0
  len : z.length ≤ 1000
  nth : ∀ i, i < n → tokL (z.drop (P i)) = (V i, z.drop (P (i + 1)))
  le : ∀ i, i ≤ n → P i ≤ z.length
  ends : es = (List.range n).map fun i => ((P (i + 1) : Nat) : Int)
  fin : (tokL (z.drop (P n))).1 = []
theorem drop_inj {z : List Nat} {a b : Nat} (ha : a ≤ z.length) (hb : b ≤ z.length) (e : z.drop a = z.drop b) : a = b := by
  have := congrArg List.length e
  rw [List.length_drop, List.length_drop] at this
  omega
noncomputable def fAgain : FuncData := fdAt (stm 15) (St "_law_again") 3 (.str (St "law_pk0024_01") 323) (.ref 137)
theorem base_sub {o i : Expr} {p : Pos} {n : Str} {env : Env} {m : Sem Value} : attributeBase (.Subscript o i p) n env m = m := rfl
theorem Box.some {h : Heap} {z : List Nat} {x dx fr ct cs c sl : Nat} (b : Box h z x dx fr ct cs c sl) : ∀ a : Nat, a ∈ ([x, dx, fr, ct, cs, c] : List Addr) → ∃ o, h.get? a = some o := by
  intro a ha
  obtain ⟨l, io, _⟩ := b.io
  obtain ⟨doc, ctv, e2⟩ := b.fn
  obtain ⟨t, ot, e3, _⟩ := b.text
  obtain ⟨os, e5, _⟩ := b.seat
  simp only [List.mem_cons, List.not_mem_nil, or_false] at ha
  rcases ha with rfl | rfl | rfl | rfl | rfl | rfl
  · obtain ⟨o, e, _⟩ := io.obj; exact ⟨o, e⟩
  · obtain ⟨o, _, _, e, _⟩ := io.ns; exact ⟨o, e⟩
  · exact ⟨_, e2⟩
  · exact ⟨_, e3⟩
  · exact ⟨_, e5⟩
  · exact CodeRec.lt b.code
/-- what the call of _law_again knows within its loop -/
structure Ag (w : World) (Y : List Addr) (h₀ h : Heap) (L : Nat) (z : List Nat) (p : Nat) (lx ldx pb x dx fr ct cs c sl tl : Nat) (V : Nat → List Nat) (i : Nat) : Prop where
  fm : ∃ l tt, Fr w [119] h₀ h L l [] ∧ lk l (Str.ofString "text") = some (.str (S z) tt) ∧ lk l (Str.ofString "seat") = some (.ref sl) ∧ lk l (Str.ofString "lexer") = some (.ref lx) ∧ lk l (Str.ofString "told") = some (.ref tl)
  lex : Lx h z p (ln z p) lx ldx pb x dx fr ct cs c sl
  tol : ∃ tv, LP h tl tv ∧ SV tv ((List.range i).map V)
  tab : Tb Y h
section
variable {w : World} {A : Around} {h : Heap} {env : Env}
theorem C_again {R : Nat → Row} {W V : Nat → List Nat} {P : Nat → Nat} {n wl rl turn lo : Nat} {t : Tok} {wv : List Value} {Y : List Addr} {Q : Value → Heap → Prop} (hn : 1 ≤ n) (hn4 : n ≤ 4) (ht5 : turn < 5) (r : Rm A 6) (T : TH w h) (tb : Tb Y h) (hY : ∀ a ∈ Y, ∃ o, h.get? a = some o)
    (xw : LI h wl wv) (sw : SV wv ((List.range n).map W)) (hW : ∀ i, i < n → (W i).length ≤ 30) (xr : RowsAt lo h rl n R) (rd : Rd (textF turn R W n) n P V (endsF turn R W n))
    (q : ∀ h' (tl : Nat) tv, Kp [119] h h' → Tb Y h' → LI h' tl tv → SV tv ((List.range n).map V) → h.get? tl = none → Q (.ref tl) h') : Wp w A (call (.ref 138) [.ref wl, .ref rl, .int (turn : Int) t]) Q h := by
  refine C_fn (Z := []) (fd := fAgain) (binds := [(St "words", .ref wl), (St "rows", .ref rl), (St "turn", .int (turn : Int) t)]) T r.room (T 138 (ob138 w.params) (by decide) (by kernel_rfl)) rfl (T.codeRec (o := ob137 w.params) (by decide) (by kernel_rfl) rfl (by rfl)) (by rfl) (by kernel_rfl) (by kernel_rfl) (by kernel_rfl) (by kernel_rfl) (by kernel_rfl) (by kernel_rfl) ?_
  intro h₁ L f0
  have r' := r.deeper (env := callEnv fAgain L 138)
  have n0 : h.get? L = none := fresh_size _ _ f0.fr
  have tb₁ : Tb (L :: Y) h₁ := (tb.cons n0).keep0 f0.k
  generalize hz : textF turn R W n = z at *
  generalize he : endsF turn R W n = es at *
  -- text, ends = _law_written(words, rows, turn)
  refine W_cons (W_AssignTup (by rfl) (by rfl) (W_CallName ?_))
  walk_at "mg"
  refine W_fn (o := ob131 w.params) (by rfl) (by rfl) (W_items_cons (by rfl) ?_)
  walk_at "ml"
  refine W_items_cons (by rfl) ?_
  walk_at "ml"
  refine W_items_cons (by rfl) ?_
  walk_at "ml"
  refine W_items_nil ⟨f0.T 131 _ (by decide) (by kernel_rfl), C_written hn hn4 ht5 (r'.le (by omega)) f0.T (xw.keep0 f0.k) sw hW (xr.keep0 f0.k) fun h₂ a e tt ev k₂ ha hee ta xe iv => ?_⟩
  rw [hz] at ta
  rw [he] at iv
  have f₂ := f0.step k₂
  have tb₂ : Tb (e :: L :: Y) h₂ := (tb₁.cons (fresh_size _ _ hee)).keep0 k₂
  refine W_assignTup r'.hd ta (by rfl) (by rfl) fun h₃ k₃ => ?_
  have f₃ := f₂.step k₃
  have eL : L < e := Nat.lt_of_lt_of_le f0.lt hee
  have neL : (e : Addr) ∉ ([L] : List Addr) := nin1 (Nat.ne_of_gt eL)
  refine W_ao (W_assignName ?_)
  walk_at "ms"
  intro h₄ f₄ k₄
  refine W_ao (W_assignName ?_)
  walk_at "ms"
  intro h₅ f₅ k₅
  refine W_ao_nil ?_
  have n9L : (119 : Addr) ∉ ([L] : List Addr) := nin1 (Ne.symm (ne119 f0.lo))
  have inL : ∀ a ∈ ([L] : List Addr), a ∈ (e :: L :: Y : List Addr) := fun a ha => by rw [List.mem_singleton.mp ha]; simp
  have tb₅ := ((tb₂.keep0 k₃).keep k₄ n9L inL).keep k₅ n9L inL
  have xe₅ := ((xe.keep0 k₃).keep k₄ neL).keep k₅ neL
  -- box, seat = _law_stream(text)
  refine W_cons (W_AssignTup (by rfl) (by rfl) (W_CallName ?_))
  walk_at "mg"
  refine W_fn (o := ob124 w.params) (by rfl) (by rfl) (W_items_cons (by rfl) ?_)
  walk_at "ml"
  have hY₅ : ∀ a ∈ (e :: L :: Y : List Addr), ∃ o, h₅.get? a = some o := by
    intro a ha
    rcases List.mem_cons.mp ha with rfl | ha
    · obtain ⟨o, eo, _⟩ := xe₅.is; exact ⟨o, eo⟩
    rcases List.mem_cons.mp ha with rfl | ha
    · exact f₅.locSome
    · obtain ⟨o, eo⟩ := hY a ha
      exact ⟨o, f₅.k a o (fun m => nomatch m) eo⟩
  refine W_items_nil ⟨f₅.T 124 _ (by decide) (by kernel_rfl), C_stream (r'.le (by omega)) f₅.T tb₅ hY₅ fun h₆ a₂ x dx fr ct cs c sl t₆ k₆ tb₆ box sx ta₂ nin hsl0 => ?_⟩
  have f₆ : Fr w [119] h h₆ L _ _ := f₅.toZ.step9 k₆
  have ninL : ∀ b ∈ ([x, dx, fr, ct, cs, c, sl, a₂] : List Addr), b ∉ ([L] : List Addr) := fun b hb m => nin b hb (by rw [List.mem_singleton.mp m]; simp)
  have bx : ∀ a : Nat, a ∈ ([x, dx, fr, ct, cs, c] : List Addr) → (a : Addr) ∉ ([L] : List Addr) := fun a ha => ninL a (by simp only [List.mem_cons, List.not_mem_nil, or_false] at ha; rcases ha with rfl | rfl | rfl | rfl | rfl | rfl <;> simp)
  have slL : (sl : Addr) ∉ ([L] : List Addr) := ninL sl (by simp)
  have ine : ∀ a ∈ ([L] : List Addr), a ∈ (sl :: e :: L :: Y : List Addr) := fun a ha => by rw [List.mem_singleton.mp ha]; simp
  refine W_assignTup r'.hd ta₂ (by rfl) (by rfl) fun h₇ k₇ => ?_
  have f₇ := f₆.step k₇
  refine W_ao (W_assignName ?_)
  walk_at "ms"
  intro h₈ f₈ k₈
  refine W_ao (W_assignName ?_)
  walk_at "ms"
  intro h₉ f₉ k₉
  refine W_ao_nil ?_
  have tb₉ := ((tb₆.keep0 k₇).keep k₈ n9L ine).keep k₉ n9L ine
  have box₉ := ((box.keep k₇ fun _ _ m => nomatch m).keep k₈ bx).keep k₉ bx
  have sx₉ := ((sx.keep0 k₇).keep k₈ slL).keep k₉ slL
  have xe₉ := (((xe₅.keep k₆ (nin1 (ne119 xe.lo))).keep0 k₇).keep k₈ neL).keep k₉ neL
  -- lexer, told = (_netrclex(box), [])
  refine W_cons (W_AssignSw [St "lexer", St "told"] (by rfl) (by rfl) (W_Tuple (W_items_cons (by rfl) (W_CallName ?_))))
  walk_at "mg"
  refine W_callCls (by rfl) (by rfl) (W_items_cons (by rfl) ?_)
  walk_at "ml"
  refine W_items_nil ⟨f₉.T, W_make (r'.le (by omega)) f₉.T tb₉.some fun hA lx ldx u₁ u₂ pb lio xpb hlx hldx hpb pn1 pn2 kA => ?_⟩
  have fA := f₉.step kA
  have tbA : Tb (ldx :: lx :: sl :: e :: L :: Y) hA := ((tb₉.cons hlx).cons hldx).keep0 kA
  refine W_items_cons (by rfl) (W_List (W_items_nil (W_newLP fA.T (szl (by simp)) fun hB tl htl xtl kB => ?_)))
  have fB := fA.step kB
  have tbB : Tb (tl :: ldx :: lx :: sl :: e :: L :: Y) hB := (tbA.cons (fresh_size _ _ htl)).keep0 kB
  refine W_items_nil (W_newT fB.T (szl (by simp)) fun hC a₃ ha₃ ta₃ kC => W_unpackT r'.hd ta₃ rfl fun hD kD => ?_)
  have fD := (fB.step kC).step kD
  have tbD := (tbB.keep0 kC).keep0 kD
  have kAD : Kp [] h₉ hD := ((kA.trans kB).trans kC).trans kD
  obtain ⟨oL, eoL⟩ := f₉.locSome
  have lxL : lx ≠ L := fresh_ne hlx eoL
  have ldxL : ldx ≠ L := fresh_ne hldx eoL
  have pbL : pb ≠ L := fresh_ne hpb eoL
  have tlL : L < tl := Nat.lt_of_lt_of_le fA.lt htl
  have tlne : ∀ {a : Nat} {o : Obj}, hA.get? a = some o → tl ≠ a := fun ea => Nat.ne_of_gt (Nat.lt_of_lt_of_le (Heap.lt_size ea) htl)
  refine W_ao (W_bindName ?_)
  walk_at "ms"
  intro hE fE kE
  refine W_ao (W_bindName ?_)
  walk_at "ms"
  intro hF fF kF
  refine W_ao_nil ?_
  have inF : ∀ a ∈ ([L] : List Addr), a ∈ (tl :: ldx :: lx :: sl :: e :: L :: Y : List Addr) := fun a ha => by rw [List.mem_singleton.mp ha]; simp
  have tbF := (tbD.keep kE n9L inF).keep kF n9L inF
  have boxF := ((box₉.keep kAD fun _ _ m => nomatch m).keep kE bx).keep kF bx
  have sxF := ((sx₉.keep0 kAD).keep kE slL).keep kF slL
  have xeF := ((xe₉.keep0 kAD).keep kE neL).keep kF neL
  have kBD : Kp [] hA hD := (kB.trans kC).trans kD
  have lioF := ((lio.keep0 kBD).keep kE (nin1 lxL) (nin1 ldxL)).keep kF (nin1 lxL) (nin1 ldxL)
  have xpbF := ((xpb.keep0 kBD).keep kE (nin1 pbL)).keep kF (nin1 pbL)
  have xtlF := (((xtl.keep0 kC).keep0 kD).keep kE (nin1 (Nat.ne_of_gt tlL))).keep kF (nin1 (Nat.ne_of_gt tlL))
  obtain ⟨osl, eosl, _⟩ := sx₉.is
  have lxsl : lx ≠ sl := fresh_ne hlx eosl
  have ldxsl : ldx ≠ sl := fresh_ne hldx eosl
  have pbsl : pb ≠ sl := fresh_ne hpb eosl
  have XF : Lx hF z 0 (ln z 0) lx ldx pb x dx fr ct cs c sl := by
    refine ⟨⟨u₁, u₂, lioF⟩, xpbF, boxF, ⟨t₆, sxF⟩, fun a ha m => ?_, fun m => ?_⟩
    · simp only [List.mem_cons, List.not_mem_nil, or_false] at ha m
      have boxa : (a : Addr) ∈ ([x, dx, fr, ct, cs, c] : List Addr) ∨ a = pb := by
        rcases ha with rfl | rfl | rfl | rfl | rfl | rfl | rfl
        · exact .inl (by simp)
        · exact .inl (by simp)
        · exact .inl (by simp)
        · exact .inl (by simp)
        · exact .inl (by simp)
        · exact .inl (by simp)
        · exact .inr rfl
      rcases boxa with hb | rfl
      · obtain ⟨o, eo⟩ := box₉.some a hb
        rcases m with q | q | q
        · exact box.ne (q ▸ hb)
        · exact fresh_ne hlx eo q.symm
        · exact fresh_ne hldx eo q.symm
      · rcases m with q | q | q
        · exact pbsl q
        · exact pn1 q
        · exact pn2 q
    · simp only [List.mem_cons, List.not_mem_nil, or_false] at m
      rcases m with q | q
      · exact lxsl q.symm
      · exact ldxsl q.symm
  -- for end in ends
  obtain ⟨oe, eoe, _⟩ := xe₉.is
  have elx : e ≠ lx := fun q => fresh_ne hlx eoe q.symm
  have eldx : e ≠ ldx := fun q => fresh_ne hldx eoe q.symm
  have esl : e ≠ sl := fun q => nin sl (by simp) (by rw [← q]; simp)
  have etl : e ≠ tl := fun q => tlne (kA e _ (fun m => nomatch m) eoe) q.symm
  have tlx : tl ≠ lx := by obtain ⟨o, eo, _⟩ := lio.obj; exact tlne eo
  have tldx : tl ≠ ldx := Nat.ne_of_gt (Nat.lt_of_lt_of_le lio.ltd htl)
  have tlsl : tl ≠ sl := tlne (kA sl _ (fun m => nomatch m) eosl)
  have allF := XF.lt
  have evn : ev.length = n := by rw [iv.len, rd.ends]; simp
  have h0sl : h.get? sl = none := back_none f₅.k hsl0
  have h0tl : h.get? tl = none := fresh_size _ _ (Nat.le_trans f0.fr (Nat.le_of_lt tlL))
  have k09 : Kp [119] h h₉ := f₉.k
  have h0of : ∀ {a : Nat}, h₉.get? a = none → 151 ≤ a → h.get? a = none := fun {a} ea lo => by
    cases q : h.get? a with
    | none => rfl
    | some o => rw [k09 a o (nin1 (ne119 lo)) q] at ea; cases ea
  have h0lx := h0of hlx lio.lox
  have h0ldx := h0of hldx lio.lod
  have upX : ∀ {hx hy : Heap} {l : List (Str × Value)}, Fr w [119] h hx L l [] → Kp [sl, lx, ldx] hx hy → Fr w [119] h hy L l [] := fun fx kx => fx.upN kx fun a ha => by
    simp only [List.mem_cons, List.not_mem_nil, or_false] at ha
    have slL' : sl ≠ L := fun q => slL (by rw [q]; simp)
    rcases ha with rfl | rfl | rfl
    · exact ⟨h0sl, sx.lo, by show a < L ∨ L + 0 < a; omega⟩
    · exact ⟨h0lx, lio.lox, by show a < L ∨ L + 0 < a; omega⟩
    · exact ⟨h0ldx, lio.lod, by show a < L ∨ L + 0 < a; omega⟩
  have allL : ∀ a ∈ allA lx ldx pb x dx fr ct cs c sl, a ∉ ([L] : List Addr) := fun a ha => by
    simp only [List.mem_cons, List.not_mem_nil, or_false] at ha
    rcases ha with rfl | rfl | rfl | rfl | rfl | rfl | rfl | rfl | rfl | rfl
    · exact nin1 lxL
    · exact nin1 ldxL
    · exact nin1 pbL
    · exact bx _ (by simp)
    · exact bx _ (by simp)
    · exact bx _ (by simp)
    · exact bx _ (by simp)
    · exact bx _ (by simp)
    · exact bx _ (by simp)
    · exact slL
  have alltl : ∀ a ∈ allA lx ldx pb x dx fr ct cs c sl, a ∉ ([tl] : List Addr) := fun a ha => by
    simp only [List.mem_cons, List.not_mem_nil, or_false] at ha
    have hb : ∀ b : Nat, b ∈ ([x, dx, fr, ct, cs, c] : List Addr) → (b : Addr) ∉ ([tl] : List Addr) := fun b hb => by
      obtain ⟨o, eo⟩ := box₉.some b hb
      exact nin1 (Ne.symm (tlne (kA b _ (fun m => nomatch m) eo)))
    rcases ha with rfl | rfl | rfl | rfl | rfl | rfl | rfl | rfl | rfl | rfl
    · exact nin1 (Ne.symm tlx)
    · exact nin1 (Ne.symm tldx)
    · exact nin1 (Nat.ne_of_lt (Nat.lt_of_lt_of_le xpb.li.lt htl))
    · exact hb _ (by simp)
    · exact hb _ (by simp)
    · exact hb _ (by simp)
    · exact hb _ (by simp)
    · exact hb _ (by simp)
    · exact hb _ (by simp)
    · exact nin1 (Ne.symm tlsl)
  have n9X : (119 : Addr) ∉ ([sl, lx, ldx] : List Addr) := fun m => by
    simp only [List.mem_cons, List.not_mem_nil, or_false] at m
    rcases m with q | q | q
    · exact ne119 sx.lo q.symm
    · exact ne119 lio.lox q.symm
    · exact ne119 lio.lod q.symm
  have inX : ∀ (I : Nat), ∀ a ∈ ([sl, lx, ldx] : List Addr), a ∈ (I :: tl :: ldx :: lx :: sl :: e :: L :: Y : List Addr) := fun I a ha => by
    simp only [List.mem_cons, List.not_mem_nil, or_false] at ha
    rcases ha with rfl | rfl | rfl <;> simp
  refine W_cons (W_For (fun I i hx => Ag w (I :: tl :: ldx :: lx :: sl :: e :: L :: Y) h hx L z (P i) lx ldx pb x dx fr ct cs c sl tl V i) (fun _ => by rfl) (fun _ _ => by rfl) ?_)
  walk_at "ml"
  refine W_iterL r'.hd fF.T xeF fun it hG hi kG => ⟨_, _, _, hi, fun I _ hI loI => ?_, ?_, ?_⟩
  · refine ⟨⟨_, _, fF.step kG, rfl, rfl, rfl, rfl⟩, ?_, ⟨[], xtlF.keep0 kG, SV.nil⟩, (tbF.cons (fresh_size _ _ hI)).keep0 kG⟩
    rw [rd.zero]
    exact XF.keep kG fun _ _ m => nomatch m
  · rintro i v I hH hI' - hI loI ⟨oI, hoI⟩ hlt hv ⟨⟨l, tt, fH, e₁, e₂, e₃, e₄⟩, lexH, ⟨tv, xtH, svH⟩, tabH⟩ kI
    have hlt' : i < n := by omega
    have IL : L < I := Nat.lt_of_lt_of_le fF.lt hI
    have fI := fH.upd kI fun a ha => by rw [List.mem_singleton.mp ha]; exact ⟨Nat.le_trans f0.fr (Nat.le_of_lt IL), loI, .inr IL⟩
    have tlI : tl < I := Nat.lt_of_lt_of_le xtlF.li.lt hI
    have eI : e < I := Nat.lt_of_lt_of_le xeF.lt hI
    have XI := lexH.keep kI fun a ha => nin1 (Nat.ne_of_lt (Nat.lt_of_lt_of_le (allF a ha) hI))
    have xtI := xtH.keep kI (nin1 (Nat.ne_of_lt tlI))
    have tabI := tabH.keep kI (nin1 (Ne.symm (ne119 loI))) fun a ha => by rw [List.mem_singleton.mp ha]; simp
    obtain ⟨te, rfl⟩ : ∃ te, v = .int ((P (i + 1) : Nat) : Int) te := by
      obtain ⟨y, t, ey, rfl⟩ := iv.get' hv
      rw [rd.ends] at ey
      simp only [List.getElem?_map, List.getElem?_range hlt', Option.map_some] at ey
      exact ⟨t, by rw [← Option.some.inj ey]⟩
    refine W_assignName ?_
    walk_at "ms"
    intro h1 f1 k1
    have X1 := XI.keep k1 allL
    have xt1 := xtI.keep k1 (nin1 (Nat.ne_of_gt tlL))
    have inI : ∀ a ∈ ([L] : List Addr), a ∈ (I :: tl :: ldx :: lx :: sl :: e :: L :: Y : List Addr) := fun a ha => by rw [List.mem_singleton.mp ha]; simp
    have tab1 := tabI.keep k1 n9L inI
    refine W_cons (W_Assign (by rfl) (W_CallAttr base_name (by rfl) (by kernel_rfl) ?_))
    obtain ⟨t₁, t₂, io1⟩ := X1.io
    refine W_local f1.ns (by kernel_rfl) (by kernel_rfl) (by kernel_rfl) (lk_ne (by kernel_rfl) e₃) fun pl => W_method f1.T io1 (f := 67) (of := ob67 w.params) (by kernel_rfl) (f1.T 67 _ (by decide) (by kernel_rfl)) rfl tl_gettoken (by rfl) ?_
    refine W_callWithFn0 (o := ob67 w.params) rfl ⟨f1.T 67 _ (by decide) (by kernel_rfl), C_token rd.len (rd.le i (by omega)) (r'.le (by omega)) f1.T X1 fun h2 u p' k2 X2 hd hp' => ?_⟩
    have hp : p' = P (i + 1) := drop_inj hp' (rd.le (i + 1) hlt') (by rw [hd, rd.nth i hlt'])
    subst hp
    rw [rd.nth i hlt']
    have tlX : (tl : Addr) ∉ ([sl, lx, ldx] : List Addr) := fun m => by
      simp only [List.mem_cons, List.not_mem_nil, or_false] at m
      rcases m with q | q | q
      · exact tlsl q
      · exact tlx q
      · exact tldx q
    have f2 := upX f1 k2
    have xt2 := xt1.keep k2 tlX
    have tab2 := tab1.keep k2 n9X (inX I)
    walk_at "ms"
    intro h3 f3 k3
    have X3 := X2.keep k3 allL
    have xt3 := xt2.keep k3 (nin1 (Nat.ne_of_gt tlL))
    have tab3 := tab2.keep k3 n9L inI
    obtain ⟨t₃, t₄, io3⟩ := X3.io
    obtain ⟨ts, s3⟩ := X3.seat
    have lz := rd.len
    have sz := sizeLine_is
    have tvl : tv.length = i := by rw [svH.len]; simp
    refine W_cons (W_Expr (by kernel_rfl) (by rfl) (W_CallAttr base_name (by kernel_rfl) (by kernel_rfl) ?_))
    refine W_local f3.ns (by kernel_rfl) (by kernel_rfl) (by kernel_rfl) (lk_ne (by kernel_rfl) (lk_ne (by kernel_rfl) e₄)) fun pl => W_gmAppend xt3 (W_fv (by rfl) (by rfl) (by rfl) (W_items_cons (by rfl) (W_IfExp (W_and (W_test1 (by kernel_rfl) (W_Subscript ?_))))))
    refine W_local f3.ns (by kernel_rfl) (by kernel_rfl) (by kernel_rfl) (lk_ne (by kernel_rfl) (lk_ne (by kernel_rfl) e₂)) (W_int fun _ => W_tailL s3.is (by rfl) (W_getL (i := 0) s3.is (by decide) rfl ?_))
    refine W_local f3.ns (by kernel_rfl) (by kernel_rfl) (by kernel_rfl) (lk_ne (by kernel_rfl) lk_self) (W_eqI (W_truthyB ⟨fun q => ?_, fun _ => W_test1 (by kernel_rfl) (W_Attr base_name ?_)⟩))
    · simp at q
    refine W_local f3.ns (by kernel_rfl) (by kernel_rfl) (by kernel_rfl) (lk_ne (by kernel_rfl) (lk_ne (by kernel_rfl) e₃)) (W_loadA f3.T io3 (by kernel_rfl) tl_lineno (by rfl) (by rfl) (W_BinOp (W_int fun _ => W_CallAttr base_sub (by kernel_rfl) (by kernel_rfl) (W_sliceC ?_))))
    refine W_local f3.ns (by kernel_rfl) (by kernel_rfl) (by kernel_rfl) (lk_ne (by kernel_rfl) (lk_ne (by kernel_rfl) e₁)) (W_evalNone ?_)
    refine W_local f3.ns (by kernel_rfl) (by kernel_rfl) (by kernel_rfl) (lk_ne (by kernel_rfl) lk_self) ⟨_, _, none, some (_, te), rfl, rfl, rfl, ?_, fun h4 t₅ k4 pl => ?_⟩
    · show z.length ≤ sizeLine
      omega
    have ez : Txt.slice (S z) ((none : Option (Int × Tok)).map (·.1)) ((some (((P (i + 1) : Nat) : Int), te) : Option (Int × Tok)).map (·.1)) = S (z.take (P (i + 1))) := slice_to _ _
    rw [ez]
    have f4 := f3.step k4
    have X4 := X3.keep k4 fun _ _ m => nomatch m
    have xt4 := xt3.keep0 k4
    have tab4 := tab3.keep0 k4
    refine W_gmCount (W_fv (by rfl) (by rfl) (by rfl) (W_items_cons (by rfl) (W_strS [10] (by kernel_rfl) fun _ => W_items_nil (W_count fun _ => W_addI fun _ => W_eqI (W_truthyB ⟨fun _ => ?_, fun q => ?_⟩)))))
    · refine W_local f4.ns (by kernel_rfl) (by kernel_rfl) (by kernel_rfl) lk_self (W_items_nil (W_append xt4 (by omega) fun h5 xt5 k5 => ⟨rfl, W_nil ⟨⟨⟨_, tt, f4.upN k5 fun a ha => ?_, lk_ne (by kernel_rfl) (lk_ne (by kernel_rfl) e₁), lk_ne (by kernel_rfl) (lk_ne (by kernel_rfl) e₂), lk_ne (by kernel_rfl) (lk_ne (by kernel_rfl) e₃), lk_ne (by kernel_rfl) (lk_ne (by kernel_rfl) e₄)⟩, X4.keep k5 alltl, ⟨_, xt5, ?_⟩, tab4.keep k5 (nin1 (Ne.symm (ne119 xtl.lo))) fun a ha => ?_⟩, fun b hb o eo => ?_⟩⟩))
      · rw [List.mem_singleton.mp ha]
        exact ⟨h0tl, xtl.lo, .inr tlL⟩
      · rw [List.range_succ, List.map_append]
        exact svH.snoc
      · rw [List.mem_singleton.mp ha]
        simp
      · have key : ∀ b : Nat, b ≠ L → b ∉ ([sl, lx, ldx] : List Addr) → b ≠ tl → ∀ o, hI'.get? b = some o → h5.get? b = some o := fun b n1 n2 n3 o eo =>
          k5 b o (nin1 n3) (k4 b o (fun m => nomatch m) (k3 b o (nin1 n1) (k2 b o n2 (k1 b o (nin1 n1) eo))))
        rcases List.mem_cons.mp hb with rfl | hb
        · refine key _ (Nat.ne_of_gt IL) (fun m => ?_) (Nat.ne_of_gt tlI) o eo
          have := allF b (by simp only [List.mem_cons, List.not_mem_nil, or_false] at m; rcases m with rfl | rfl | rfl <;> simp)
          omega
        · obtain rfl := List.mem_singleton.mp hb
          refine key _ (Nat.ne_of_gt eL) (fun m => ?_) etl o eo
          simp only [List.mem_cons, List.not_mem_nil, or_false] at m
          rcases m with q | q | q
          · exact esl q
          · exact elx q
          · exact eldx q
    · exfalso
      have : (((ln z (P (i + 1)) : Nat) : Int) == 1 + (((z.take (P (i + 1))).filter (· == 10)).length : Int)) = true := by
        unfold ln
        simp
      rw [this] at q
      cases q
  · rintro I hH hI' hI loI ⟨⟨l, tt, fH, e₁, e₂, e₃, e₄⟩, lexH, ⟨tv, xtH, svH⟩, tabH⟩ kI
    rw [evn] at lexH svH
    have IL : L < I := Nat.lt_of_lt_of_le fF.lt hI
    have fI := fH.upd kI fun a ha => by rw [List.mem_singleton.mp ha]; exact ⟨Nat.le_trans f0.fr (Nat.le_of_lt IL), loI, .inr IL⟩
    have tlI : tl < I := Nat.lt_of_lt_of_le xtlF.li.lt hI
    have XI := lexH.keep kI fun a ha => nin1 (Nat.ne_of_lt (Nat.lt_of_lt_of_le (allF a ha) hI))
    have xtI := xtH.keep kI (nin1 (Nat.ne_of_lt tlI))
    have tabI := tabH.keep kI (nin1 (Ne.symm (ne119 loI))) fun a ha => by rw [List.mem_singleton.mp ha]; simp
    obtain ⟨t₁, t₂, io1⟩ := XI.io
    have tlX : (tl : Addr) ∉ ([sl, lx, ldx] : List Addr) := fun m => by
      simp only [List.mem_cons, List.not_mem_nil, or_false] at m
      rcases m with q | q | q
      · exact tlsl q
      · exact tlx q
      · exact tldx q
    refine W_cons (W_Return (W_IfExp (W_test1 (by kernel_rfl) (W_CallAttr base_name (by rfl) (by kernel_rfl) ?_))))
    refine W_local fI.ns (by kernel_rfl) (by kernel_rfl) (by kernel_rfl) e₃ fun pl => W_method fI.T io1 (f := 67) (of := ob67 w.params) (by kernel_rfl) (fI.T 67 _ (by decide) (by kernel_rfl)) rfl tl_gettoken (by rfl) ?_
    refine W_callWithFn0 (o := ob67 w.params) rfl ⟨fI.T 67 _ (by decide) (by kernel_rfl), C_token rd.len (rd.le n (Nat.le_refl _)) (r'.le (by omega)) fI.T XI fun h2 u p' k2 X2 hd hp' => ?_⟩
    rw [rd.fin]
    have f2 := upX fI k2
    have xt2 := xtI.keep k2 tlX
    have tab2 := tabI.keep k2 n9X (inX I)
    refine W_strS [] (by kernel_rfl) fun _ => W_eqS (W_truthyB ⟨fun _ => ?_, fun q => (nomatch q)⟩)
    refine W_local f2.ns (by kernel_rfl) (by kernel_rfl) (by kernel_rfl) e₄ ?_
    exact q h2 tl tv f2.k (tab2.sub fun a ha => by simp [ha]) xt2.li svH h0tl
end
end Mine
end PartG13

-- PL
section PartPL
open PySem PySem.W PyProof.Rows PySem.Calls
set_option Elab.async false
set_option maxRecDepth 100000
set_option linter.unusedVariables false
namespace Mine
/-- a sign that stands for itself -/
structure PlainC (c : Nat) : Prop where
  w : whiteB c = false
  q : c ≠ 34
  b : c ≠ 92
theorem white92 : whiteB 92 = false := by decide
theorem white34 : whiteB 34 = false := by decide
theorem unq_cons (c : Nat) (r acc : List Nat) : unqL (c :: r) acc = if whiteB c = true then (acc, r) else if c = 92 then (match r with | [] => (acc, []) | d :: r' => unqL r' (acc ++ [d])) else unqL r (acc ++ [c]) := unqL.eq_def .. |>.trans rfl
theorem quo_cons (c : Nat) (r acc : List Nat) : quoL (c :: r) acc = if c = 34 then (acc, r) else if c = 92 then (match r with | [] => (acc, []) | d :: r' => quoL r' (acc ++ [d])) else quoL r (acc ++ [c]) := quoL.eq_def .. |>.trans rfl
theorem tok_cons (c : Nat) (r : List Nat) : tokL (c :: r) = if whiteB c = true then tokL r else if c = 34 then quoL r [] else if c = 92 then (match r with | [] => ([], []) | d :: r' => unqL r' [d]) else unqL r [c] := tokL.eq_def .. |>.trans rfl
theorem unq_plain {c : Nat} (h : PlainC c) (r acc : List Nat) : unqL (c :: r) acc = unqL r (acc ++ [c]) := by
  rw [unq_cons, if_neg (by rw [h.w]; simp), if_neg h.b]
theorem quo_plain {c : Nat} (h : PlainC c) (r acc : List Nat) : quoL (c :: r) acc = quoL r (acc ++ [c]) := by
  rw [quo_cons, if_neg h.q, if_neg h.b]
theorem unq_esc (d : Nat) (r acc : List Nat) : unqL (92 :: d :: r) acc = unqL r (acc ++ [d]) := by
  rw [unq_cons, if_neg (by rw [white92]; simp), if_pos rfl]
theorem quo_esc (d : Nat) (r acc : List Nat) : quoL (92 :: d :: r) acc = quoL r (acc ++ [d]) := by
  rw [quo_cons, if_neg (by decide), if_pos rfl]
theorem half2 (m : Nat) : (m + 2) / 2 = m / 2 + 1 := by omega
theorem unq_run {x : Nat} (h : PlainC x) : ∀ (m : Nat) (r acc : List Nat), unqL (List.replicate m 92 ++ x :: r) acc = unqL r (acc ++ (List.replicate (m / 2) 92 ++ [x]))
  | 0, r, acc => unq_plain h r acc
  | 1, r, acc => unq_esc x r acc
  | m + 2, r, acc => by
    show unqL (92 :: 92 :: (List.replicate m 92 ++ x :: r)) acc = _
    rw [unq_esc, unq_run h m, half2, List.replicate_succ, List.append_assoc]
    rfl
theorem quo_run {x : Nat} (h : PlainC x) : ∀ (m : Nat) (r acc : List Nat), quoL (List.replicate m 92 ++ x :: r) acc = quoL r (acc ++ (List.replicate (m / 2) 92 ++ [x]))
  | 0, r, acc => quo_plain h r acc
  | 1, r, acc => quo_esc x r acc
  | m + 2, r, acc => by
    show quoL (92 :: 92 :: (List.replicate m 92 ++ x :: r)) acc = _
    rw [quo_esc, quo_run h m, half2, List.replicate_succ, List.append_assoc]
    rfl
/-- W reads as V -/
structure Rds (W V : List Nat) : Prop where
  u : ∀ r acc, unqL (W ++ r) acc = unqL r (acc ++ V)
  q : ∀ r acc, quoL (W ++ r) acc = quoL r (acc ++ V)
theorem Rds.run {x : Nat} (h : PlainC x) (m : Nat) : Rds (List.replicate m 92 ++ [x]) (List.replicate (m / 2) 92 ++ [x]) :=
  ⟨fun r acc => by rw [List.append_assoc]; exact unq_run h m r acc, fun r acc => by rw [List.append_assoc]; exact quo_run h m r acc⟩
theorem Rds.app {W V W' V' : List Nat} (a : Rds W V) (b : Rds W' V') : Rds (W ++ W') (V ++ V') :=
  ⟨fun r acc => by rw [List.append_assoc, a.u, b.u, List.append_assoc], fun r acc => by rw [List.append_assoc, a.q, b.q, List.append_assoc]⟩
/-- a word of the text, read -/
structure Rdw (W V : List Nat) : Prop where
  s : Rds W V
  h : ∃ c r, W = c :: r ∧ whiteB c = false ∧ c ≠ 34
theorem tok_unq {W V : List Nat} (x : Rdw W V) (r : List Nat) : tokL (W ++ r) = unqL r V := by
  obtain ⟨c, w, rfl, h1, h2⟩ := x.h
  have := x.s.u r []
  rw [List.cons_append, unq_cons, if_neg (by rw [h1]; simp), List.nil_append] at this
  rw [List.cons_append, tok_cons, if_neg (by rw [h1]; simp), if_neg h2]
  exact this
theorem tok_quo {W V : List Nat} (x : Rds W V) (r : List Nat) : tokL (34 :: (W ++ r)) = quoL r V := by
  rw [tok_cons, if_neg (by rw [white34]; simp), if_pos rfl, x.q]
  rfl
theorem tok_lead {turn : Nat} (h : turn < 5) (r : List Nat) : tokL (lead turn ++ r) = tokL r := by
  have : turn = 0 ∨ turn = 1 ∨ turn = 2 ∨ turn = 3 ∨ turn = 4 := by omega
  rcases this with rfl | rfl | rfl | rfl | rfl
  · rfl
  · rfl
  · show tokL (10 :: r) = _; rw [tok_cons, if_pos (by decide)]
  · show tokL (9 :: r) = _; rw [tok_cons, if_pos (by decide)]
  · rfl
theorem trail_white {turn : Nat} (h : turn < 5) : whiteB (trail turn) = true := by
  have : turn = 0 ∨ turn = 1 ∨ turn = 2 ∨ turn = 3 ∨ turn = 4 := by omega
  rcases this with rfl | rfl | rfl | rfl | rfl <;> decide
theorem tok_item {turn : Nat} (h : turn < 5) (R : Row) {W V : List Nat} (x : Rdw W V) (r : List Nat) : tokL (item turn R W ++ r) = (V, r) := by
  unfold item
  rw [List.append_assoc, tok_lead h]
  by_cases hq : R.quoted turn
  · rw [if_pos hq]
    show tokL (34 :: ((W ++ [34]) ++ r)) = _
    rw [List.append_assoc, tok_quo x.s]
    show quoL (34 :: r) V = _
    rw [quo_cons, if_pos rfl]
  · rw [if_neg hq, List.append_assoc, tok_unq x]
    show unqL (trail turn :: r) V = _
    rw [unq_cons, if_pos (trail_white h)]
/-- the last item, without its end -/
noncomputable def openI (turn : Nat) (R : Row) (W : List Nat) : List Nat := lead turn ++ (if R.quoted turn then 34 :: W else W)
theorem item_open (turn : Nat) (R : Row) (W : List Nat) : item turn R W = openI turn R W ++ [if R.quoted turn then 34 else trail turn] := by
  unfold item openI
  by_cases hq : R.quoted turn
  · rw [if_pos hq, if_pos hq, if_pos hq]; simp
  · rw [if_neg hq, if_neg hq, if_neg hq]; simp
theorem tok_open {turn : Nat} (h : turn < 5) (R : Row) {W V : List Nat} (x : Rdw W V) (k : Nat) : tokL (openI turn R W ++ [92].take (k % 2)) = (V, []) := by
  have hk : k % 2 = 0 ∨ k % 2 = 1 := by omega
  unfold openI
  rw [List.append_assoc, tok_lead h]
  by_cases hq : R.quoted turn
  · rw [if_pos hq]
    show tokL (34 :: (W ++ _)) = _
    rw [tok_quo x.s]
    rcases hk with e | e <;> rw [e]
    · show quoL [] V = _; rw [quoL]
    · show quoL [92] V = _; rw [quo_cons, if_neg (by decide), if_pos rfl]
  · rw [if_neg hq, tok_unq x]
    rcases hk with e | e <;> rw [e]
    · show unqL [] V = _; rw [unqL]
    · show unqL [92] V = _; rw [unq_cons, if_neg (by rw [white92]; simp), if_pos rfl]
theorem textF_lt {turn n : Nat} {R : Nat → Row} {W : Nat → List Nat} (h : turn < 4) : textF turn R W n = textN turn R W n := by unfold textF; rw [if_pos h]
theorem textF_ge {turn m : Nat} {R : Nat → Row} {W : Nat → List Nat} (h : ¬ turn < 4) : textF turn R W (m + 1) = textN turn R W m ++ (openI turn (R m) (W m) ++ [92].take ((m + 1) % 2)) := by
  unfold textF
  rw [if_neg h]
  have e : textN turn R W (m + 1) = (textN turn R W m ++ openI turn (R m) (W m)) ++ [if (R m).quoted turn then 34 else trail turn] := by
    show textN turn R W m ++ item turn (R m) (W m) = _
    rw [item_open, List.append_assoc]
  rw [e, List.length_append]
  show List.take (_ + 1 - 1) _ ++ _ = _
  rw [Nat.add_sub_cancel, List.take_left', List.append_assoc]
  rfl
theorem textN_split {turn : Nat} {R : Nat → Row} {W : Nat → List Nat} {i : Nat} : ∀ n, i ≤ n → ∃ X, textN turn R W n = textN turn R W i ++ X
  | 0, h => ⟨[], by obtain rfl : i = 0 := by omega
                    simp⟩
  | n + 1, h => by
    by_cases e : i = n + 1
    · exact ⟨[], by rw [e]; simp⟩
    · obtain ⟨X, hX⟩ := textN_split (turn := turn) (R := R) (W := W) n (by omega : i ≤ n)
      exact ⟨X ++ item turn (R n) (W n), by show textN turn R W n ++ _ = _; rw [hX, List.append_assoc]⟩
theorem tok_core {turn m : Nat} (ht : turn < 5) {R : Nat → Row} {W V : Nat → List Nat} (h : ∀ i, i < m → Rdw (W i) (V i)) (tl : List Nat) {i : Nat} (hi : i < m) :
    tokL ((textN turn R W m ++ tl).drop (textN turn R W i).length) = (V i, (textN turn R W m ++ tl).drop (textN turn R W (i + 1)).length) := by
  obtain ⟨X, hX⟩ := textN_split (turn := turn) (R := R) (W := W) m hi
  have e1 : textN turn R W m ++ tl = textN turn R W (i + 1) ++ (X ++ tl) := by rw [hX, List.append_assoc]
  have e2 : textN turn R W (i + 1) ++ (X ++ tl) = textN turn R W i ++ (item turn (R i) (W i) ++ (X ++ tl)) := by
    show (textN turn R W i ++ item turn (R i) (W i)) ++ _ = _
    rw [List.append_assoc]
  have d1 : (textN turn R W m ++ tl).drop (textN turn R W (i + 1)).length = X ++ tl := by rw [e1]; exact List.drop_left' rfl
  have d2 : (textN turn R W m ++ tl).drop (textN turn R W i).length = item turn (R i) (W i) ++ (X ++ tl) := by rw [e1, e2]; exact List.drop_left' rfl
  rw [d1, d2]
  exact tok_item ht _ (h i hi) _
-- the rows
structure Row.Ok (R : Row) : Prop where
  z : R.Sz
  abc : ∃ x y k, R.a = [x] ∧ R.b = [y, x] ∧ R.c = [k] ∧ inB1 (x : Int) = true ∧ inB1 (y : Int) = true ∧ inB1 (k : Int) = false ∧ PlainC x ∧ PlainC y ∧ PlainC k
theorem held_ok (n : Int) : inB1 ((heldC n : Nat) : Int) = true ∧ whiteB (heldC n) = false ∧ heldC n ≠ 34 ∧ heldC n ≠ 92 := by
  have key : ∀ m, m < 27 → (inB1 ((heldT.getD m 0 : Nat) : Int) = true ∧ whiteB (heldT.getD m 0) = false ∧ heldT.getD m 0 ≠ 34 ∧ heldT.getD m 0 ≠ 92) := by decide
  exact key (n % 27).toNat (by omega)
theorem strange_ok (c : Nat) : inB1 ((strangeC c : Nat) : Int) = false ∧ PlainC (strangeC c) := by
  unfold strangeC
  split
  · exact ⟨by decide, by decide, by decide, by decide⟩
  · rename_i h
    have h1 : ¬ (whiteL.contains (signC c) = true) := fun q => h (.inl q)
    have h2 : ¬ (b1S.contains (signC c) = true) := fun q => h (.inr (.inl q))
    have h3 : ¬ (65024 ≤ signC c ∧ signC c < 65040) := fun q => h (.inr (.inr q))
    generalize signC c = s at h1 h2 h3
    simp only [whiteL, b1S, List.contains_iff_mem, List.mem_cons, List.not_mem_nil, or_false, not_or] at h1 h2
    refine ⟨?_, ?_, by omega, by omega⟩
    · rw [Bool.eq_false_iff]
      intro q
      simp only [inB1, b1L, List.contains_iff_mem, List.mem_cons, List.not_mem_nil, or_false] at q
      omega
    · rw [Bool.eq_false_iff]
      intro q
      simp only [whiteB, whiteS, List.contains_iff_mem, List.mem_cons, List.not_mem_nil, or_false] at q
      omega
theorem row_ok (n : Int) : (rowOf n).Ok := by
  have a := held_ok (n / 512 % 32)
  have b := held_ok (n / 16384 % 32)
  have c := strange_ok ((97 + n / 16777216) % 1112064).toNat
  refine ⟨⟨?_, ?_, ?_, ?_, rfl, rfl, rfl⟩, _, _, _, rfl, rfl, rfl, a.1, b.1, c.1, ⟨a.2.1, a.2.2.1, a.2.2.2⟩, ⟨b.2.1, b.2.2.1, b.2.2.2⟩, c.2⟩
  · show (n % 8).toNat < 8; omega
  · show (n / 8 % 8).toNat < 8; omega
  · show (n / 64 % 8).toNat < 8; omega
  · show (n / 524288 % 32).toNat < 32; omega
noncomputable def Row.ear (R : Row) (n : Nat) : List Nat := List.replicate ((R.r + R.s + R.t) / 2 ^ n) 92 ++ R.c
theorem half_pow (a n : Nat) : a / 2 ^ n / 2 = a / 2 ^ (n + 1) := by rw [Nat.div_div_eq_div_mul, Nat.pow_succ]
theorem head_run {x : Nat} (h : PlainC x) (m : Nat) (r : List Nat) : ∃ c r', List.replicate m 92 ++ (x :: r) = c :: r' ∧ whiteB c = false ∧ c ≠ 34 := by
  cases m with
  | zero => exact ⟨x, r, rfl, h.w, h.q⟩
  | succ m => exact ⟨92, _, rfl, white92, by decide⟩
theorem word_is (R : Row) (n : Nat) : R.word n = (List.replicate (R.r / 2 ^ n) 92 ++ R.a) ++ ((List.replicate (R.s / 2 ^ n) 92 ++ R.b) ++ (List.replicate (R.t / 2 ^ n) 92 ++ R.c)) := by
  show (List.replicate (R.r / 2 ^ n) 92 ++ R.a) ++ ((List.replicate (R.s / 2 ^ n) 92 ++ R.b) ++ ((List.replicate (R.t / 2 ^ n) 92 ++ R.c) ++ [])) = _
  rw [List.append_nil]
theorem word_rd {R : Row} (o : R.Ok) (n : Nat) : Rdw (R.word n) (R.word (n + 1)) := by
  obtain ⟨x, y, k, ea, eb, ec, _, _, _, px, py, pk⟩ := o.abc
  rw [word_is, word_is, ea, eb, ec, ← half_pow, ← half_pow, ← half_pow]
  have hyx : ∀ m, Rds (List.replicate m 92 ++ [y, x]) (List.replicate (m / 2) 92 ++ [y, x]) := fun m => by
    have := (Rds.run py m).app (Rds.run px 0)
    simpa using this
  refine ⟨(Rds.run px _).app ((hyx _).app (Rds.run pk _)), ?_⟩
  rw [List.append_assoc]
  exact head_run px _ _
theorem ear_rd {R : Row} (o : R.Ok) (n : Nat) : Rdw (R.ear n) (R.ear (n + 1)) := by
  obtain ⟨x, y, k, ea, eb, ec, _, _, _, px, py, pk⟩ := o.abc
  unfold Row.ear
  rw [ec, ← half_pow]
  exact ⟨Rds.run pk _, head_run pk _ _⟩
theorem ear_zero (R : Row) : R.ear 0 = R.joined 0 := by
  unfold Row.ear Row.joined
  simp
theorem ear_le {R : Row} (z : R.Sz) (n : Nat) : (R.ear n).length ≤ 22 := by
  have h1 := z.r; have h2 := z.s; have h3 := z.t; have h4 := z.c
  have e1 : (R.r + R.s + R.t) / 2 ^ n ≤ R.r + R.s + R.t := Nat.div_le_self _ _
  unfold Row.ear
  rw [List.length_append, List.length_replicate]
  omega
theorem ear_len {R : Row} (z : R.Sz) (n : Nat) : (R.ear n).length = (R.r + R.s + R.t) / 2 ^ n + 1 := by
  unfold Row.ear
  rw [List.length_append, List.length_replicate, z.c]
theorem joined_len {R : Row} (z : R.Sz) (n : Nat) : (R.joined n).length = R.r / 2 ^ n + R.s / 2 ^ n + R.t / 2 ^ n + 1 := by
  unfold Row.joined
  rw [List.length_append, List.length_replicate, z.c]
-- without the signs of B.1
noncomputable def nb (c : Nat) : Bool := !inB1 (c : Int)
theorem nb_rep (m : Nat) : (List.replicate m 92).filter nb = List.replicate m 92 := by
  rw [List.filter_replicate, if_pos (by decide)]
theorem nb_word {R : Row} (o : R.Ok) (n : Nat) : (R.word n).filter nb = R.joined n := by
  obtain ⟨x, y, k, ea, eb, ec, bx, b_y, bk, _⟩ := o.abc
  rw [word_is, ea, eb, ec]
  simp only [List.filter_append, nb_rep]
  have fx : [x].filter nb = [] := by simp [nb, bx]
  have fyx : [y, x].filter nb = [] := by simp [nb, bx, b_y]
  have fk : [k].filter nb = [k] := by simp [nb, bk]
  rw [fx, fyx, fk]
  unfold Row.joined
  rw [ec, List.append_nil, List.append_nil, ← List.append_assoc, ← List.append_assoc, List.replicate_append_replicate, List.replicate_append_replicate]
theorem nb_lead {turn : Nat} (h : turn < 5) : (lead turn).filter nb = lead turn := by
  have : turn = 0 ∨ turn = 1 ∨ turn = 2 ∨ turn = 3 ∨ turn = 4 := by omega
  rcases this with rfl | rfl | rfl | rfl | rfl <;> decide
theorem nb_trail {turn : Nat} (h : turn < 5) : [trail turn].filter nb = [trail turn] := by
  have : turn = 0 ∨ turn = 1 ∨ turn = 2 ∨ turn = 3 ∨ turn = 4 := by omega
  rcases this with rfl | rfl | rfl | rfl | rfl <;> decide
theorem nb_34 (l : List Nat) : (34 :: l).filter nb = 34 :: l.filter nb := by rw [List.filter_cons, if_pos (by decide)]
theorem nb_open {turn : Nat} (h : turn < 5) (R : Row) (W : List Nat) : (openI turn R W).filter nb = openI turn R (W.filter nb) := by
  unfold openI
  rw [List.filter_append, nb_lead h]
  by_cases hq : R.quoted turn
  · rw [if_pos hq, if_pos hq, nb_34]
  · rw [if_neg hq, if_neg hq]
theorem nb_item {turn : Nat} (h : turn < 5) (R : Row) (W : List Nat) : (item turn R W).filter nb = item turn R (W.filter nb) := by
  rw [item_open, item_open, List.filter_append, nb_open h]
  congr 1
  by_cases hq : R.quoted turn
  · rw [if_pos hq]; decide
  · rw [if_neg hq]; exact nb_trail h
theorem nb_textN {turn : Nat} (h : turn < 5) (R : Nat → Row) (W : Nat → List Nat) : ∀ n, (textN turn R W n).filter nb = textN turn R (fun i => (W i).filter nb) n
  | 0 => rfl
  | n + 1 => by
    show (textN turn R W n ++ item turn (R n) (W n)).filter nb = textN turn R _ n ++ item turn (R n) _
    rw [List.filter_append, nb_textN h R W n, nb_item h]
theorem nb_textF {turn : Nat} (h : turn < 5) (R : Nat → Row) (W : Nat → List Nat) {n : Nat} (hn : 1 ≤ n) : (textF turn R W n).filter nb = textF turn R (fun i => (W i).filter nb) n := by
  by_cases h4 : turn < 4
  · rw [textF_lt h4, textF_lt h4, nb_textN h]
  · obtain ⟨m, rfl⟩ : ∃ m, n = m + 1 := ⟨n - 1, by omega⟩
    rw [textF_ge h4, textF_ge h4, List.filter_append, List.filter_append, nb_textN h, nb_open h]
    congr 2
    have hk : (m + 1) % 2 = 0 ∨ (m + 1) % 2 = 1 := by omega
    rcases hk with e | e <;> rw [e] <;> decide
theorem textN_congr {turn : Nat} {R : Nat → Row} {W W' : Nat → List Nat} : ∀ n, (∀ i, i < n → W i = W' i) → textN turn R W n = textN turn R W' n
  | 0, _ => rfl
  | n + 1, h => by
    show textN turn R W n ++ item turn (R n) (W n) = textN turn R W' n ++ item turn (R n) (W' n)
    rw [textN_congr n (fun i hi => h i (by omega)), h n (by omega)]
theorem textF_congr {turn n : Nat} {R : Nat → Row} {W W' : Nat → List Nat} (h : ∀ i, i < n → W i = W' i) : textF turn R W n = textF turn R W' n := by
  unfold textF
  rw [textN_congr n h]
theorem left_law {turn n : Nat} (h : turn < 5) (hn : 1 ≤ n) {R : Nat → Row} (o : ∀ i, i < n → (R i).Ok) : (textF turn R (fun i => (R i).word turn) n).filter nb = textF turn R (fun i => (R i).joined turn) n := by
  rw [nb_textF h _ _ hn]
  exact textF_congr fun i hi => nb_word (o i hi) turn
theorem textF_le {turn n : Nat} {R : Nat → Row} {W : Nat → List Nat} (hn4 : n ≤ 4) (h : ∀ i, i < n → (W i).length ≤ 30) : (textF turn R W n).length ≤ 200 := by
  have := textN_le (turn := turn) (R := R) h n (Nat.le_refl _)
  unfold textF
  split
  · omega
  · rw [List.length_append, List.length_take, List.length_take]
    simp only [List.length_cons, List.length_nil]
    omega
-- the twos
noncomputable def moreI (r s t : Nat) : Nat → Int
  | 0 => 0
  | i + 1 => moreI r s t i + (((r + s + t) / 2 ^ (i + 1) + 1 : Nat) : Int) - ((r / 2 ^ (i + 1) + s / 2 ^ (i + 1) + t / 2 ^ (i + 1) + 1 : Nat) : Int)
theorem more_ok : ((List.range 8).all fun r => (List.range 8).all fun s => (List.range 8).all fun t => decide (moreI r s t 5 = (v2 40 (coefN r s t) : Nat))) = true := by kernel_rfl
noncomputable def Row.more (R : Row) (i : Nat) : Int := moreI R.r R.s R.t i
theorem more_law {R : Row} (z : R.Sz) : R.more 5 = (R.twos : Int) := by
  have := more_ok
  rw [List.all_eq_true] at this
  have := this R.r (List.mem_range.mpr z.r)
  rw [List.all_eq_true] at this
  have := this R.s (List.mem_range.mpr z.s)
  rw [List.all_eq_true] at this
  have := this R.t (List.mem_range.mpr z.t)
  exact of_decide_eq_true this
theorem more_step {R : Row} (z : R.Sz) (i : Nat) : R.more (i + 1) = R.more i + ((R.ear (i + 1)).length : Int) - ((R.joined (i + 1)).length : Int) := by
  rw [ear_len z, joined_len z]
  rfl
end Mine
end PartPL

-- PM
section PartPM
open PySem PySem.W PyProof.Rows PySem.Calls
set_option Elab.async false
set_option maxRecDepth 100000
set_option linter.unusedVariables false
namespace Mine
theorem rd_of {turn n : Nat} {R : Nat → Row} {W V : Nat → List Nat} (ht : turn < 5) (hn : 1 ≤ n) (hn4 : n ≤ 4) (hW : ∀ i, i < n → (W i).length ≤ 30) (h : ∀ i, i < n → Rdw (W i) (V i)) :
    ∃ P, Rd (textF turn R W n) n P V (endsF turn R W n) := by
  have hle := textF_le (turn := turn) (R := R) hn4 hW
  have t0 : tokL ([] : List Nat) = ([], []) := by rw [tokL.eq_def]
  by_cases h4 : turn < 4
  · have e : textF turn R W n = textN turn R W n := textF_lt h4
    have ee : endsF turn R W n = endsN turn R W n := by unfold endsF; rw [if_pos h4]
    refine ⟨fun i => (textN turn R W i).length, rfl, by omega, fun i hi => ?_, fun i hi => ?_, ?_, ?_⟩
    · have := tok_core (turn := turn) (m := n) (R := R) ht h [] hi
      rw [List.append_nil] at this
      rw [e]; exact this
    · obtain ⟨X, hX⟩ := textN_split (turn := turn) (R := R) (W := W) n hi
      rw [e, hX, List.length_append]
      omega
    · rw [ee]; rfl
    · rw [e, List.drop_length, t0]
  · obtain ⟨m, rfl⟩ : ∃ m, n = m + 1 := ⟨n - 1, by omega⟩
    have e : textF turn R W (m + 1) = textN turn R W m ++ (openI turn (R m) (W m) ++ [92].take ((m + 1) % 2)) := textF_ge h4
    have ee : endsF turn R W (m + 1) = (endsN turn R W (m + 1)).take m ++ [((textF turn R W (m + 1)).length : Int)] := by unfold endsF; rw [if_neg h4]; rfl
    have pi : ∀ i, i ≤ m → (if i ≤ m then (textN turn R W i).length else (textF turn R W (m + 1)).length) = (textN turn R W i).length := fun i hi => if_pos hi
    have pm : (if m + 1 ≤ m then (textN turn R W (m + 1)).length else (textF turn R W (m + 1)).length) = (textF turn R W (m + 1)).length := if_neg (by omega)
    refine ⟨fun i => if i ≤ m then (textN turn R W i).length else (textF turn R W (m + 1)).length, rfl, by omega, fun i hi => ?_, fun i hi => ?_, ?_, ?_⟩
    · by_cases him : i < m
      · have := tok_core (turn := turn) (m := m) (R := R) ht (fun j hj => h j (by omega)) (openI turn (R m) (W m) ++ [92].take ((m + 1) % 2)) him
        show tokL (List.drop (if i ≤ m then _ else _) _) = (V i, List.drop (if i + 1 ≤ m then _ else _) _)
        rw [pi i (by omega), pi (i + 1) (by omega), e]
        exact this
      · obtain rfl : i = m := by omega
        show tokL (List.drop (if i ≤ i then _ else _) _) = (V i, List.drop (if i + 1 ≤ i then _ else _) _)
        rw [pi i (by omega), pm, List.drop_length]
        have d : (textF turn R W (i + 1)).drop (textN turn R W i).length = openI turn (R i) (W i) ++ [92].take ((i + 1) % 2) := by rw [e]; exact List.drop_left' rfl
        rw [d]
        exact tok_open ht _ (h i hi) _
    · by_cases him : i ≤ m
      · show (if i ≤ m then _ else _) ≤ _
        rw [pi i him]
        obtain ⟨X, hX⟩ := textN_split (turn := turn) (R := R) (W := W) m him
        rw [e, List.length_append, hX, List.length_append]
        omega
      · obtain rfl : i = m + 1 := by omega
        show (if m + 1 ≤ m then _ else _) ≤ _
        rw [pm]
        exact Nat.le_refl _
    · rw [ee]
      unfold endsN
      rw [List.range_succ, List.map_append, List.take_left' (by simp), List.map_append]
      congr 1
      · refine List.map_congr_left fun i hi => ?_
        have := List.mem_range.mp hi
        rw [pi (i + 1) (by omega)]
      · show _ = [(((if m + 1 ≤ m then _ else _ : Nat)) : Int)]
        rw [pm]
    · show (tokL (List.drop (if m + 1 ≤ m then _ else _) _)).1 = []
      rw [pm, List.drop_length, t0]
theorem word_le {R : Row} (z : R.Sz) (n : Nat) : (R.word n).length ≤ 30 := Nat.le_trans (z.word n) (by decide)
theorem rd_late {turn n : Nat} {R : Nat → Row} (ht : turn < 5) (hn : 1 ≤ n) (hn4 : n ≤ 4) (o : ∀ i, i < n → (R i).Ok) :
    ∃ P, Rd (textF turn R (fun i => (R i).word turn) n) n P (fun i => (R i).word (turn + 1)) (endsF turn R (fun i => (R i).word turn) n) :=
  rd_of ht hn hn4 (fun i hi => word_le (o i hi).z turn) fun i hi => word_rd (o i hi) turn
theorem rd_early {turn n : Nat} {R : Nat → Row} (ht : turn < 5) (hn : 1 ≤ n) (hn4 : n ≤ 4) (o : ∀ i, i < n → (R i).Ok) :
    ∃ P, Rd (textF turn R (fun i => (R i).ear turn) n) n P (fun i => (R i).ear (turn + 1)) (endsF turn R (fun i => (R i).ear turn) n) :=
  rd_of ht hn hn4 (fun i hi => Nat.le_trans (ear_le (o i hi).z turn) (by decide)) fun i hi => ear_rd (o i hi) turn
end Mine
end PartPM

-- H1
section PartH1
open PySem PySem.W PyProof.Rows PySem.Calls
set_option Elab.async false
set_option maxRecDepth 100000
set_option maxHeartbeats 4000000
set_option linter.unusedVariables false
namespace Mine
local macro_rules | `(tactic| walk_at "ml") => `(tactic| refine W_local (Fr.ns (by assumption)) (by kernel_rfl) (by kernel_rfl) (by kernel_rfl) (by rfl) ?_)
local macro_rules | `(tactic| walk_at "mn") => `(tactic| refine W_local (by assumption) (by kernel_rfl) (by kernel_rfl) (by kernel_rfl) (by rfl) ?_)
local macro_rules | `(tactic| walk_at "mb") => `(tactic| (refine W_builtin (TH.glob (Fr.T (by assumption))) (TH.blt (Fr.T (by assumption))) (by kernel_rfl) (by kernel_rfl) (by kernel_rfl) (by kernel_rfl) (by first | with_reducible exact mb_range | with_reducible exact mb_len | with_reducible exact mb_sum | with_reducible exact mb_isinstance | with_reducible exact mb_bool | with_reducible exact mb_iter) ?_))
local macro_rules | `(tactic| walk_at "mg") => `(tactic| (refine W_global (TH.glob (Fr.T (by assumption))) (by kernel_rfl) (by kernel_rfl) (by kernel_rfl) (by first | with_reducible exact mg_b1 | with_reducible exact mg_lex | with_reducible exact mg_row | with_reducible exact mg_word | with_reducible exact mg_joined | with_reducible exact mg_left | with_reducible exact mg_stream | with_reducible exact mg_written | with_reducible exact mg_again | with_reducible exact mg_twos) ?_))
local macro_rules | `(tactic| walk_at "ms") => `(tactic| refine W_st (by assumption) (by kernel_rfl) (by kernel_rfl) ?_)
noncomputable def fLaw : FuncData := fdAt (stm 17) (St "law") 3 (.str (St "law_pk0024_01") 323) (.ref 149)
noncomputable def lawB : List Stmt := match stm 17 with | .FunctionDef _ _ b _ _ _ _ _ _ _ => b | _ => []
noncomputable def turnB : List Stmt := bodyFor (lawB.getD 4 default)
noncomputable abbrev evL (L : Addr) : Env := callEnvC fLaw L 150
noncomputable abbrev lawX (L : Nat) : List Addr := [L, L + 1 + 0, L + 1 + 1, L + 1 + 2, L + 1 + 3]
noncomputable abbrev wordL (R : Nat → Row) (n i : Nat) : List (List Nat) := (List.range n).map fun j => (R j).word i
noncomputable abbrev earL (R : Nat → Row) (n i : Nat) : List (List Nat) := (List.range n).map fun j => (R j).ear i
noncomputable abbrev joinedL (R : Nat → Row) (n i : Nat) : List (List Nat) := (List.range n).map fun j => (R j).joined i
noncomputable abbrev moreL (R : Nat → Row) (n i : Nat) : List Int := (List.range n).map fun j => (R j).more i
/-- what the law knows between its readings -/
structure Lw (w : World) (Y : List Addr) (h₀ hB h : Heap) (L n rl : Nat) (R : Nat → Row) (i : Nat) (vt : Option Value) : Prop where
  fm : ∃ l, ∃ ll el ml : Nat, ∃ lv ev mv, Fr w [119] h₀ h L l [some (.ref rl), some (.ref el), some (.ref ml), vt] ∧ lk l (Str.ofString "late") = some (.ref ll) ∧ LI h ll lv ∧ SV lv (wordL R n i) ∧ LI h el ev ∧ SV ev (earL R n i) ∧ LI h ml mv ∧ IV mv (moreL R n i) ∧
    (ll : Addr) ∉ Y ∧ (el : Addr) ∉ Y ∧ (ml : Addr) ∉ Y
  kp : Kp (119 :: lawX L) hB h
  tb : Tb Y h
theorem lawX_lt {L a : Nat} (lo : 151 ≤ L) (h : a ∈ (119 :: lawX L : List Addr)) : a < L + 5 := by
  simp only [List.mem_cons, List.not_mem_nil, or_false] at h
  rcases h with h | h | h | h | h | h <;> omega
section
variable {w : World} {A : Around} {h₀ hB h : Heap} {L n rl I i : Nat} {R : Nat → Row} {t : Tok}
theorem RowAt.ref {lo : Nat} {v : Value} {R : Row} (x : RowAt lo h v R) : ∃ a : Nat, v = .ref a := by
  obtain ⟨a, _, _, _, _, _, _, _, _, _, e, _⟩ := x
  exact ⟨a, e⟩
theorem L_turn (r : Rm A 7) (hn : 1 ≤ n) (hn4 : n ≤ 4) (hi : i < 5) (ok : ∀ j, j < n → (R j).Ok) (xB : RowsAt (L + 5) hB rl n R)
    (hI : ∃ o, h.get? I = some o) (nI : (I : Addr) ∉ (119 :: lawX L : List Addr)) (m : Lw w (I :: lawX L) h₀ hB h L n rl R i (some (.int (i : Int) t))) :
    Wp w A (execs turnB (evL L)) (fun f h' => f = .next ∧ Kp (119 :: lawX L) h h' ∧ Lw w (I :: lawX L) h₀ hB h' L n rl R (i + 1) (some (.int (i : Int) t))) h := by
  obtain ⟨l, ll, el, ml, lv, ev, mv, f, e₁, x₁, s₁, x₂, s₂, x₃, s₃, n₁, n₂, n₃⟩ := m.fm
  have lo := f.lo
  have sz := sizeLine_is
  have xr : RowsAt (L + 5) h rl n R := xB.keep m.kp fun a ha => lawX_lt lo ha
  obtain ⟨vs, hl, hlo, hvl, hvs⟩ := id xr
  have flt : L + 4 < h.objs.size := f.lt
  have hYs : ∀ a ∈ (I :: lawX L : List Addr), ∃ o, h.get? a = some o := by
    intro a ha
    simp only [List.mem_cons, List.not_mem_nil, or_false] at ha
    rcases ha with rfl | rfl | rfl | rfl | rfl | rfl
    · exact hI
    · exact f.locSome
    · exact f.cellSome (i := 0) (by simp)
    · exact f.cellSome (i := 1) (by simp)
    · exact f.cellSome (i := 2) (by simp)
    · exact f.cellSome (i := 3) (by simp)
  have freshY : ∀ {D : Nat}, h.objs.size ≤ D → (D : Addr) ∉ (I :: lawX L : List Addr) := fun hD hm => by
    obtain ⟨o, e⟩ := hYs _ hm
    exact absurd (Heap.lt_size e) (Nat.not_lt.mpr hD)
  have yL : ∀ {a : Addr}, a ∉ (I :: lawX L : List Addr) → a ∉ ([L] : List Addr) := fun h m => h (by rw [List.mem_singleton.mp m]; simp)
  have yC : ∀ (k : Nat), k < 4 → ∀ {a : Addr}, a ∉ (I :: lawX L : List Addr) → a ∉ ([L + 1 + k] : List Addr) := fun k hk a h m => h (by
    rw [List.mem_singleton.mp m]
    have : k = 0 ∨ k = 1 ∨ k = 2 ∨ k = 3 := by omega
    rcases this with rfl | rfl | rfl | rfl <;> simp)
  have inL : ∀ a ∈ ([L] : List Addr), a ∈ (I :: lawX L : List Addr) := fun a ha => by rw [List.mem_singleton.mp ha]; simp
  have inC : ∀ (k : Nat), k < 4 → ∀ a ∈ ([L + 1 + k] : List Addr), a ∈ (I :: lawX L : List Addr) := fun k hk a ha => by
    rw [List.mem_singleton.mp ha]
    have : k = 0 ∨ k = 1 ∨ k = 2 ∨ k = 3 := by omega
    rcases this with rfl | rfl | rfl | rfl <;> simp
  have subL : ∀ a ∈ ([L] : List Addr), a ∈ (119 :: lawX L : List Addr) := fun a ha => by rw [List.mem_singleton.mp ha]; simp
  have subC : ∀ (k : Nat), k < 4 → ∀ a ∈ ([L + 1 + k] : List Addr), a ∈ (119 :: lawX L : List Addr) := fun k hk a ha => by
    rw [List.mem_singleton.mp ha]
    have : k = 0 ∨ k = 1 ∨ k = 2 ∨ k = 3 := by omega
    rcases this with rfl | rfl | rfl | rfl <;> simp
  have sub9 : ∀ a ∈ ([119] : List Addr), a ∈ (119 :: lawX L : List Addr) := fun a ha => by rw [List.mem_singleton.mp ha]; simp
  have n9L : (119 : Addr) ∉ ([L] : List Addr) := nin1 (Ne.symm (ne119 lo))
  have n9C : ∀ k : Nat, (119 : Addr) ∉ ([L + 1 + k] : List Addr) := fun k => nin1 (Ne.symm (ne119 (by omega : 151 ≤ L + 1 + k)))
  -- left = [_law_joined(row, turn) for row in rows]
  refine W_cons (W_AssignComp (Z := [119]) (h₀ := h₀) (l := l) (cs := [some (.ref rl), some (.ref el), some (.ref ml), some (.int (i : Int) t)]) (fun j ys _ => SV ys ((List.range j).map fun j => (R j).joined i)) (by rfl) (by rfl) (by kernel_rfl) (by kernel_rfl) (by kernel_rfl) (by kernel_rfl) (fun _ => by rfl) (by kernel_rfl) (by kernel_rfl) ?_)
  refine W_cell (c := L + 1 + 0) (f.cell 0 _ rfl) (by kernel_rfl) (by kernel_rfl) (by kernel_rfl) (by kernel_rfl) ?_
  refine W_iterL r.hd f.T hl fun it h₁ hit k₁ => ⟨f, _, _, _, hit, by omega, ⟨fun _ => SV.nil, ?_⟩, ?_⟩
  · intro j ys v X C hx hlt hP hC loC hCh kx hX hJ
    have fx := f.step kx
    obtain ⟨v', hv', ra⟩ := hvs j (by omega)
    rw [hP] at hv'
    obtain rfl := Option.some.inj hv'
    obtain ⟨a, rfl⟩ := ra.ref
    refine W_tests0 ⟨Kp.refl, fun e => (nomatch e), fun _ => W_CallName ?_⟩
    walk_at "mg"
    refine W_fn (o := ob112 w.params) (by rfl) (by rfl) (W_items_cons (by rfl) ?_)
    walk_at "mn"
    refine W_items_cons (by rfl) (W_cell (c := L + 1 + 3) (fx.cell 3 _ rfl) (by kernel_rfl) (by kernel_rfl) (by kernel_rfl) (by kernel_rfl) (W_items_nil ⟨fx.T 112 _ (by decide) (by kernel_rfl), ?_⟩))
    refine C_joined (ok j (by omega)).z (by omega) (r.le (by omega)) fx.T (ra.keep0 kx) fun h' t' k' => ⟨k', fun h'' k'' => ?_⟩
    rw [List.range_succ, List.map_append]
    exact (hJ hx Kp.refl).snoc
  · rw [hvl]
    intro D h₂ ys hJ hD hlo k₂ f₂
    have nD := freshY hlo
    have K₂ : Kp (119 :: lawX L) h h₂ := k₂.sub subL
    have tb₂ := m.tb.keep k₂ n9L inL
    have x₁₂ := x₁.keep k₂ (yL n₁)
    have x₂₂ := x₂.keep k₂ (yL n₂)
    have x₃₂ := x₃.keep k₂ (yL n₃)
    have xr₂ := xr.keep K₂ fun a ha => lawX_lt lo ha
    have hW : ∀ j, j < n → ((R j).word i).length ≤ 30 := fun j hj => word_le (ok j hj).z i
    have hJn : ∀ j, j < n → ((R j).joined i).length ≤ 30 := fun j hj => Nat.le_trans ((ok j hj).z.joined i) (by decide)
    -- if _law_left(_law_written(late, rows, turn)[0]) != _law_written(left, rows, turn)[0]
    refine W_cons (W_If (W_test1 (by kernel_rfl) (W_CallName ?_)))
    walk_at "mg"
    refine W_fn (o := ob117 w.params) (by rfl) (by rfl) (W_items_cons (by rfl) (W_Subscript (W_CallName ?_)))
    walk_at "mg"
    refine W_fn (o := ob131 w.params) (by rfl) (by rfl) (W_items_cons (by rfl) ?_)
    refine W_local f₂.ns (by kernel_rfl) (by kernel_rfl) (by kernel_rfl) (lk_ne (by kernel_rfl) e₁) (W_items_cons (by rfl) ?_)
    refine W_cell (c := L + 1 + 0) (f₂.cell 0 _ rfl) (by kernel_rfl) (by kernel_rfl) (by kernel_rfl) (by kernel_rfl) (W_items_cons (by rfl) ?_)
    refine W_cell (c := L + 1 + 3) (f₂.cell 3 _ rfl) (by kernel_rfl) (by kernel_rfl) (by kernel_rfl) (by kernel_rfl) (W_items_nil ⟨f₂.T 131 _ (by decide) (by kernel_rfl), ?_⟩)
    refine C_written hn hn4 hi (r.le (by omega)) f₂.T x₁₂ s₁ hW xr₂ fun h₃ a₁ b₁ t₁ ev₁ k₃ _ _ ta₁ _ _ => ?_
    have f₃ := f₂.step k₃
    refine W_int fun _ => W_tailT ta₁.is (by rfl) (W_getT (i := 0) ta₁.is (by decide) rfl (W_items_nil ⟨f₃.T 117 _ (by decide) (by kernel_rfl), ?_⟩))
    refine C_left (Nat.le_trans (textF_le hn4 hW) (by decide)) (r.le (by omega)) f₃.T fun h₄ t₂ k₄ => ?_
    have f₄ := f₃.step k₄
    refine W_Subscript (W_CallName ?_)
    walk_at "mg"
    refine W_fn (o := ob131 w.params) (by rfl) (by rfl) (W_items_cons (by rfl) ?_)
    refine W_local f₄.ns (by kernel_rfl) (by kernel_rfl) (by kernel_rfl) lk_self (W_items_cons (by rfl) ?_)
    refine W_cell (c := L + 1 + 0) (f₄.cell 0 _ rfl) (by kernel_rfl) (by kernel_rfl) (by kernel_rfl) (by kernel_rfl) (W_items_cons (by rfl) ?_)
    refine W_cell (c := L + 1 + 3) (f₄.cell 3 _ rfl) (by kernel_rfl) (by kernel_rfl) (by kernel_rfl) (by kernel_rfl) (W_items_nil ⟨f₄.T 131 _ (by decide) (by kernel_rfl), ?_⟩)
    refine C_written hn hn4 hi (r.le (by omega)) f₄.T ((hD.keep0 k₃).keep0 k₄) hJ hJn ((xr₂.keep0 k₃).keep0 k₄) fun h₅ a₂ b₂ t₃ ev₂ k₅ _ _ ta₂ _ _ => ?_
    have f₅ := f₄.step k₅
    refine W_int fun _ => W_tailT ta₂.is (by rfl) (W_getT (i := 0) ta₂.is (by decide) rfl (W_neS (W_truthyB ?_)))
    have eql : (textF i R (fun j => (R j).word i) n).filter (fun c : Nat => !inB1 (c : Int)) = textF i R (fun j => (R j).joined i) n := left_law hi hn ok
    rw [eql]
    refine ⟨fun e => ?_, fun _ => W_nil ?_⟩
    · simp at e
    have k₂₅ : Kp [] h₂ h₅ := (k₃.trans k₄).trans k₅
    have x₁₅ := x₁₂.keep0 k₂₅
    have x₂₅ := x₂₂.keep0 k₂₅
    have x₃₅ := x₃₂.keep0 k₂₅
    have xr₅ := xr₂.keep0 k₂₅
    have tb₅ := tb₂.keep0 k₂₅
    have K₅ : Kp (119 :: lawX L) h h₅ := K₂.trans k₂₅.of0
    have hYK : ∀ {hx : Heap} {l cs}, Fr w [119] h₀ hx L l cs → cs.length = 4 → Kp (119 :: lawX L) h hx → ∀ a ∈ (I :: lawX L : List Addr), ∃ o, hx.get? a = some o := by
      intro hx l cs fx hc Kx a ha
      simp only [List.mem_cons, List.not_mem_nil, or_false] at ha
      rcases ha with rfl | rfl | rfl | rfl | rfl | rfl
      · obtain ⟨o, e⟩ := hI; exact ⟨o, Kx _ o nI e⟩
      · exact fx.locSome
      · exact fx.cellSome (i := 0) (by omega)
      · exact fx.cellSome (i := 1) (by omega)
      · exact fx.cellSome (i := 2) (by omega)
      · exact fx.cellSome (i := 3) (by omega)
    have hY₅ := hYK f₅ rfl K₅
    -- late = _law_again(late, rows, turn)
    obtain ⟨P, rd⟩ := rd_late hi hn hn4 ok
    refine W_cons (W_Assign (by rfl) (W_CallName ?_))
    walk_at "mg"
    refine W_fn (o := ob138 w.params) (by rfl) (by rfl) (W_items_cons (by rfl) ?_)
    refine W_local f₅.ns (by kernel_rfl) (by kernel_rfl) (by kernel_rfl) (lk_ne (by kernel_rfl) e₁) (W_items_cons (by rfl) ?_)
    refine W_cell (c := L + 1 + 0) (f₅.cell 0 _ rfl) (by kernel_rfl) (by kernel_rfl) (by kernel_rfl) (by kernel_rfl) (W_items_cons (by rfl) ?_)
    refine W_cell (c := L + 1 + 3) (f₅.cell 3 _ rfl) (by kernel_rfl) (by kernel_rfl) (by kernel_rfl) (by kernel_rfl) (W_items_nil ⟨f₅.T 138 _ (by decide) (by kernel_rfl), ?_⟩)
    refine C_again hn hn4 hi (r.le (by omega)) f₅.T tb₅ hY₅ x₁₅ s₁ hW xr₅ rd fun h₆ tl₁ tv₁ k₆ tb₆ y₁ sv₁ hy₁ => ?_
    have f₆ := f₅.step9 k₆
    have nt₁ : (tl₁ : Addr) ∉ (I :: lawX L : List Addr) := fun hm => by
      obtain ⟨o, e⟩ := hY₅ _ hm
      rw [hy₁] at e; cases e
    refine W_st f₆ (by kernel_rfl) (by kernel_rfl) fun h₇ f₇ k₇ => ?_
    have k₅₇ : Kp (119 :: lawX L) h₅ h₇ := (k₆.sub sub9).trans (k₇.sub subL)
    have K₇ := K₅.trans k₅₇
    have y₁₇ := y₁.keep k₇ (yL nt₁)
    have x₂₇ := (x₂₅.keep k₆ (nin1 (ne119 x₂.lo))).keep k₇ (yL n₂)
    have x₃₇ := (x₃₅.keep k₆ (nin1 (ne119 x₃.lo))).keep k₇ (yL n₃)
    have tb₇ := tb₆.keep k₇ n9L inL
    have xr₇ := xr.keep K₇ fun a ha => lawX_lt lo ha
    have hY₇ := hYK f₇ rfl K₇
    have hE : ∀ j, j < n → ((R j).ear i).length ≤ 30 := fun j hj => Nat.le_trans (ear_le (ok j hj).z i) (by decide)
    -- early = _law_again(early, rows, turn)
    obtain ⟨P₂, rd₂⟩ := rd_early hi hn hn4 ok
    refine W_cons (W_Assign (by rfl) (W_CallName ?_))
    walk_at "mg"
    refine W_fn (o := ob138 w.params) (by rfl) (by rfl) (W_items_cons (by rfl) ?_)
    refine W_cell (c := L + 1 + 1) (f₇.cell 1 _ rfl) (by kernel_rfl) (by kernel_rfl) (by kernel_rfl) (by kernel_rfl) (W_items_cons (by rfl) ?_)
    refine W_cell (c := L + 1 + 0) (f₇.cell 0 _ rfl) (by kernel_rfl) (by kernel_rfl) (by kernel_rfl) (by kernel_rfl) (W_items_cons (by rfl) ?_)
    refine W_cell (c := L + 1 + 3) (f₇.cell 3 _ rfl) (by kernel_rfl) (by kernel_rfl) (by kernel_rfl) (by kernel_rfl) (W_items_nil ⟨f₇.T 138 _ (by decide) (by kernel_rfl), ?_⟩)
    refine C_again hn hn4 hi (r.le (by omega)) f₇.T tb₇ hY₇ x₂₇ s₂ hE xr₇ rd₂ fun h₈ tl₂ tv₂ k₈ tb₈ y₂ sv₂ hy₂ => ?_
    have f₈ := f₇.step9 k₈
    have nt₂ : (tl₂ : Addr) ∉ (I :: lawX L : List Addr) := fun hm => by
      obtain ⟨o, e⟩ := hY₇ _ hm
      rw [hy₂] at e; cases e
    refine W_stC 1 f₈ rfl (by kernel_rfl) (by kernel_rfl) (by kernel_rfl) fun h₉ f₉ k₉ => ?_
    have K₉ : Kp (119 :: lawX L) h h₉ := K₇.trans ((k₈.sub sub9).trans (k₉.sub (subC 1 (by decide))))
    have y₁₉ := (y₁₇.keep k₈ (nin1 (ne119 y₁.lo))).keep k₉ (yC 1 (by decide) nt₁)
    have y₂₉ := y₂.keep k₉ (yC 1 (by decide) nt₂)
    have x₃₉ := (x₃₇.keep k₈ (nin1 (ne119 x₃.lo))).keep k₉ (yC 1 (by decide) n₃)
    have tb₉ := tb₈.keep k₉ (n9C 1) (inC 1 (by decide))
    have xr₉ := xr.keep K₉ fun a ha => lawX_lt lo ha
    clear hl hvs
    obtain ⟨ws, hl, hlo', hvl', hvs⟩ := id xr₉
    have e1 : ((i : Int) + 1) = ((i + 1 : Nat) : Int) := by omega
    -- if late != [_law_word(row, turn + 1) for row in rows]
    refine W_cons (W_If (W_test1 (by kernel_rfl) ?_))
    refine W_local f₉.ns (by kernel_rfl) (by kernel_rfl) (by kernel_rfl) lk_self ?_
    refine W_ListComp (fun j ys _ => SV ys ((List.range j).map fun j => (R j).word (i + 1))) (by rfl) (by kernel_rfl) (by kernel_rfl) (by kernel_rfl) (by kernel_rfl) (fun _ => by rfl) ?_
    refine W_cell (c := L + 1 + 0) (f₉.cell 0 _ rfl) (by kernel_rfl) (by kernel_rfl) (by kernel_rfl) (by kernel_rfl) ?_
    refine W_iterL r.hd f₉.T hl fun it hA hit kA => ⟨_, _, _, hit, by omega, ⟨fun _ => SV.nil, ?_⟩, ?_⟩
    · intro j ys v X C hx hlt hP hC loC hCh kx hX hJ
      have fx := f₉.step kx
      obtain ⟨v', hv', ra⟩ := hvs j (by omega)
      rw [hP] at hv'
      obtain rfl := Option.some.inj hv'
      obtain ⟨a, rfl⟩ := ra.ref
      refine W_tests0 ⟨Kp.refl, fun e => (nomatch e), fun _ => W_CallName ?_⟩
      walk_at "mg"
      refine W_fn (o := ob107 w.params) (by rfl) (by rfl) (W_items_cons (by rfl) ?_)
      walk_at "mn"
      refine W_items_cons (by rfl) (W_BinOp (W_cell (c := L + 1 + 3) (fx.cell 3 _ rfl) (by kernel_rfl) (by kernel_rfl) (by kernel_rfl) (by kernel_rfl) (W_int fun _ => W_addI fun _ => W_items_nil ⟨fx.T 107 _ (by decide) (by kernel_rfl), ?_⟩)))
      rw [e1]
      refine C_word (ok j (by omega)).z (by omega) (r.le (by omega)) fx.T (ra.keep0 kx) fun h' t' k' => ⟨k', fun h'' k'' => ?_⟩
      rw [List.range_succ, List.map_append]
      exact (hJ hx Kp.refl).snoc
    rw [hvl']
    intro DA hA ysA hJA hDA hloA kA
    have fA := f₉.step kA
    refine W_neSV r.units (y₁₉.keep0 kA) hDA sv₁ hJA (W_truthyB ⟨fun e => (nomatch e), fun _ => W_nil ?_⟩)
    have y₁A := y₁₉.keep0 kA
    have y₂A := y₂₉.keep0 kA
    have x₃A := x₃₉.keep0 kA
    have tbA := tb₉.keep0 kA
    have hlA := hl.keep0 kA
    have hrA : ∀ j, j < n → ∃ a : Nat, ws.toArray[j]? = some (.ref a) ∧ RowAt (L + 5) hA (.ref a) (R j) := fun j hj => by
      obtain ⟨v, hv, ra⟩ := hvs j hj
      obtain ⟨a, rfl⟩ := ra.ref
      exact ⟨a, by simpa using hv, ra.keep0 kA⟩
    have KA : Kp (119 :: lawX L) h hA := K₉.trans kA.of0
    have gE : ∀ j, j < n → ∃ t, tv₂.toArray[j]? = some (.str (S ((R j).ear (i + 1))) t) := fun j hj => by
      obtain ⟨t, e⟩ := sv₂.get (i := j) (x := (R j).ear (i + 1)) (by simp [hj])
      exact ⟨t, by simpa using e⟩
    have gM : ∀ j, j < n → ∃ t, mv.toArray[j]? = some (.int ((R j).more i) t) := fun j hj => by
      obtain ⟨t, e⟩ := s₃.get (i := j) (x := (R j).more i) (by simp [hj])
      exact ⟨t, by simpa using e⟩
    -- if early != ['\\' * (len(early[k]) - 1) + rows[k][1][2] for k in range(len(rows))]
    refine W_cons (W_If (W_test1 (by kernel_rfl) ?_))
    refine W_cell (c := L + 1 + 1) (fA.cell 1 _ rfl) (by kernel_rfl) (by kernel_rfl) (by kernel_rfl) (by kernel_rfl) ?_
    refine W_ListComp (fun j ys _ => SV ys ((List.range j).map fun j => (R j).ear (i + 1))) (by rfl) (by kernel_rfl) (by kernel_rfl) (by kernel_rfl) (by kernel_rfl) (fun _ => by rfl) (W_CallName ?_)
    walk_at "mb"
    refine W_fv (by rfl) (by rfl) (by rfl) (W_items_cons (by rfl) (W_CallName ?_))
    walk_at "mb"
    refine W_fv (by rfl) (by rfl) (by rfl) (W_items_cons (by rfl) (W_cell (c := L + 1 + 0) (fA.cell 0 _ rfl) (by kernel_rfl) (by kernel_rfl) (by kernel_rfl) (by kernel_rfl) (W_items_nil (W_lenL hlA (by omega) fun _ => W_items_nil (W_range1 fun hB' rg xg kB => ?_)))))
    rw [hvl'] at xg
    have fB := fA.step kB
    refine W_iterR (a := 0) (b := n) (n := n) r.hd fB.T xg (by decide) (by omega) (by omega) fun it hC hit kC => ⟨_, _, _, hit, by omega, ⟨fun _ => SV.nil, ?_⟩, ?_⟩
    · intro j ys v X C hx hlt hP hC loC hCh kx hX hJ
      obtain ⟨u, rfl⟩ := hP
      have e0 : 0 + j = j := Nat.zero_add j
      rw [e0] at hC
      have fx := fB.step kx
      have y₂x := (y₂A.keep0 kB).keep0 kx
      have hlx := (hlA.keep0 kB).keep0 kx
      obtain ⟨te, ge⟩ := gE j hlt
      obtain ⟨a, gr, ra⟩ := hrA j hlt
      have rax := (ra.keep0 kB).keep0 kx
      have zl := ear_len (ok j hlt).z (i + 1)
      have zl2 := ear_le (ok j hlt).z (i + 1)
      refine W_tests0 ⟨Kp.refl, fun e => (nomatch e), fun _ => W_BinOp (W_BinOp (W_strS [92] (by kernel_rfl) fun _ => W_BinOp (W_CallName ?_)))⟩
      walk_at "mb"
      refine W_fv (by rfl) (by rfl) (by rfl) (W_items_cons (by rfl) (W_Subscript (W_cell (c := L + 1 + 1) (fx.cell 1 _ rfl) (by kernel_rfl) (by kernel_rfl) (by kernel_rfl) (by kernel_rfl) ?_)))
      walk_at "mn"
      refine W_tailL y₂x.is (by rfl) (W_getL y₂x.is (by omega) ge (W_items_nil (W_lenS (by omega) fun _ => W_int fun _ => W_subI fun _ => ?_)))
      have em : ((((R j).ear (i + 1)).length : Int) - 1) = ((((R j).r + (R j).s + (R j).t) / 2 ^ (i + 1) : Nat) : Int) := by rw [zl]; omega
      rw [em]
      refine W_mulS (by omega) fun _ => W_Subscript (W_Subscript (W_Subscript (W_cell (c := L + 1 + 0) (fx.cell 0 _ rfl) (by kernel_rfl) (by kernel_rfl) (by kernel_rfl) (by kernel_rfl) ?_)))
      walk_at "mn"
      refine W_tailL hlx.is (by rfl) (W_getL hlx.is (by omega) gr (W_int fun _ => W_row1 rax (by intro i; rfl) fun l₂ ⟨t₄, t₅, t₆, x2⟩ => W_int fun _ => W_tailL x2.is (by rfl) (W_getL (i := 2) x2.is (by decide) rfl (W_addS (by rw [List.length_replicate, (ok j hlt).z.c]; omega) fun _ => ⟨Kp.refl, fun h' k' => ?_⟩))))
      rw [List.range_succ, List.map_append]
      exact (hJ hx Kp.refl).snoc
    intro DB hB ysB hJB hDB hloB kB'
    have kAB := kB.trans kB'
    have fB' := fA.step kAB
    refine W_neSV r.units (y₂A.keep0 kAB) hDB sv₂ hJB (W_truthyB ⟨fun e => (nomatch e), fun _ => W_nil ?_⟩)
    have y₁B := y₁A.keep0 kAB
    have y₂B := y₂A.keep0 kAB
    have x₃B := x₃A.keep0 kAB
    have tbB := tbA.keep0 kAB
    have hlB := hlA.keep0 kAB
    have KB : Kp (119 :: lawX L) h hB := KA.trans kAB.of0
    -- more = [more[k] + len(early[k]) - len(_law_joined(rows[k], turn + 1)) for k in range(len(rows))]
    refine W_cons (W_Assign (by rfl) ?_)
    refine W_ListComp (fun j ys _ => IV ys ((List.range j).map fun j => (R j).more (i + 1))) (by rfl) (by kernel_rfl) (by kernel_rfl) (by kernel_rfl) (by kernel_rfl) (fun _ => by rfl) (W_CallName ?_)
    walk_at "mb"
    refine W_fv (by rfl) (by rfl) (by rfl) (W_items_cons (by rfl) (W_CallName ?_))
    walk_at "mb"
    refine W_fv (by rfl) (by rfl) (by rfl) (W_items_cons (by rfl) (W_cell (c := L + 1 + 0) (fB'.cell 0 _ rfl) (by kernel_rfl) (by kernel_rfl) (by kernel_rfl) (by kernel_rfl) (W_items_nil (W_lenL hlB (by omega) fun _ => W_items_nil (W_range1 fun hE' rg xg kE => ?_)))))
    rw [hvl'] at xg
    have fE := fB'.step kE
    refine W_iterR (a := 0) (b := n) (n := n) r.hd fE.T xg (by decide) (by omega) (by omega) fun it hF hit kF => ⟨_, _, _, hit, by omega, ⟨fun _ => IV.nil, ?_⟩, ?_⟩
    · intro j ys v X C hx hlt hP hC loC hCh kx hX hJ
      obtain ⟨u, rfl⟩ := hP
      have e0 : 0 + j = j := Nat.zero_add j
      rw [e0] at hC
      have fx := fE.step kx
      have y₂x := (y₂B.keep0 kE).keep0 kx
      have x₃x := (x₃B.keep0 kE).keep0 kx
      have hlx := (hlB.keep0 kE).keep0 kx
      obtain ⟨te, ge⟩ := gE j hlt
      obtain ⟨tm, gm⟩ := gM j hlt
      obtain ⟨a, gr, ra⟩ := hrA j hlt
      have rax := ((ra.keep0 kAB).keep0 kE).keep0 kx
      have zl2 := ear_le (ok j hlt).z (i + 1)
      have zj := (ok j hlt).z.joined (i + 1)
      refine W_tests0 ⟨Kp.refl, fun e => (nomatch e), fun _ => W_BinOp (W_BinOp (W_Subscript (W_cell (c := L + 1 + 2) (fx.cell 2 _ rfl) (by kernel_rfl) (by kernel_rfl) (by kernel_rfl) (by kernel_rfl) ?_)))⟩
      walk_at "mn"
      refine W_tailL x₃x.is (by rfl) (W_getL x₃x.is (by omega) gm (W_CallName ?_))
      walk_at "mb"
      refine W_fv (by rfl) (by rfl) (by rfl) (W_items_cons (by rfl) (W_Subscript (W_cell (c := L + 1 + 1) (fx.cell 1 _ rfl) (by kernel_rfl) (by kernel_rfl) (by kernel_rfl) (by kernel_rfl) ?_)))
      walk_at "mn"
      refine W_tailL y₂x.is (by rfl) (W_getL y₂x.is (by omega) ge (W_items_nil (W_lenS (by omega) fun _ => W_addI fun _ => W_CallName ?_)))
      walk_at "mb"
      refine W_fv (by rfl) (by rfl) (by rfl) (W_items_cons (by rfl) (W_CallName ?_))
      walk_at "mg"
      refine W_fn (o := ob112 w.params) (by rfl) (by rfl) (W_items_cons (by rfl) (W_Subscript (W_cell (c := L + 1 + 0) (fx.cell 0 _ rfl) (by kernel_rfl) (by kernel_rfl) (by kernel_rfl) (by kernel_rfl) ?_)))
      walk_at "mn"
      refine W_tailL hlx.is (by rfl) (W_getL hlx.is (by omega) gr (W_items_cons (by rfl) (W_BinOp (W_cell (c := L + 1 + 3) (fx.cell 3 _ rfl) (by kernel_rfl) (by kernel_rfl) (by kernel_rfl) (by kernel_rfl) (W_int fun _ => W_addI fun _ => W_items_nil ⟨fx.T 112 _ (by decide) (by kernel_rfl), ?_⟩)))))
      rw [e1]
      refine C_joined (ok j hlt).z (by omega) (r.le (by omega)) fx.T rax fun h' t' k' => W_items_nil (W_lenS (by omega) fun _ => W_subI fun _ => ⟨k', fun h'' k'' => ?_⟩)
      rw [List.range_succ, List.map_append, ← more_step (ok j hlt).z]
      exact (hJ hx Kp.refl).snoc
    intro DF hF ysF hJF hDF hloF kF'
    have kBF := kE.trans kF'
    have fF := fB'.step kBF
    have KF : Kp (119 :: lawX L) h hF := KB.trans kBF.of0
    have nF : (DF : Addr) ∉ (I :: lawX L : List Addr) := fun hm => by
      obtain ⟨o, e⟩ := hYK fE rfl (KB.trans kE.of0) _ hm
      exact absurd (Heap.lt_size e) (Nat.not_lt.mpr hloF)
    refine W_stC 2 fF rfl (by kernel_rfl) (by kernel_rfl) (by kernel_rfl) fun hG fG kG => W_nil ⟨rfl, ?_, ⟨_, tl₁, tl₂, DF, tv₁, tv₂, ysF, fG, lk_self, ?_, sv₁, ?_, sv₂, ?_, hJF, nt₁, nt₂, nF⟩, ?_, ?_⟩
    · exact KF.trans (kG.sub (subC 2 (by decide)))
    · exact (y₁B.keep0 kBF).keep kG (yC 2 (by decide) nt₁)
    · exact (y₂B.keep0 kBF).keep kG (yC 2 (by decide) nt₂)
    · exact hDF.keep kG (yC 2 (by decide) nF)
    · exact m.kp.trans (KF.trans (kG.sub (subC 2 (by decide))))
    · exact (tbB.keep0 kBF).keep kG (n9C 2) (inC 2 (by decide))
end
end Mine
end PartH1

-- H2
section PartH2
open PySem PySem.W PyProof.Rows PySem.Calls
set_option Elab.async false
set_option maxRecDepth 100000
set_option maxHeartbeats 4000000
set_option linter.unusedVariables false
namespace Mine
local macro_rules | `(tactic| walk_at "ml") => `(tactic| refine W_local (Fr.ns (by assumption)) (by kernel_rfl) (by kernel_rfl) (by kernel_rfl) (by rfl) ?_)
local macro_rules | `(tactic| walk_at "mn") => `(tactic| refine W_local (by assumption) (by kernel_rfl) (by kernel_rfl) (by kernel_rfl) (by rfl) ?_)
local macro_rules | `(tactic| walk_at "mb") => `(tactic| (refine W_builtin (TH.glob (Fr.T (by assumption))) (TH.blt (Fr.T (by assumption))) (by kernel_rfl) (by kernel_rfl) (by kernel_rfl) (by kernel_rfl) (by first | with_reducible exact mb_range | with_reducible exact mb_len | with_reducible exact mb_sum | with_reducible exact mb_isinstance | with_reducible exact mb_bool | with_reducible exact mb_iter) ?_))
local macro_rules | `(tactic| walk_at "mg") => `(tactic| (refine W_global (TH.glob (Fr.T (by assumption))) (by kernel_rfl) (by kernel_rfl) (by kernel_rfl) (by first | with_reducible exact mg_b1 | with_reducible exact mg_lex | with_reducible exact mg_row | with_reducible exact mg_word | with_reducible exact mg_joined | with_reducible exact mg_left | with_reducible exact mg_stream | with_reducible exact mg_written | with_reducible exact mg_again | with_reducible exact mg_twos) ?_))
local macro_rules | `(tactic| walk_at "ms") => `(tactic| refine W_st (by assumption) (by kernel_rfl) (by kernel_rfl) ?_)
section
variable {w : World} {A : Around} {h : Heap}
theorem IV.take {vs : List Value} {ls : List Int} (hiv : IV vs ls) : ∀ m, IV (vs.take m) (ls.take m) := by
  induction hiv with
  | nil => intro m; simpa using IV.nil
  | cons h ih =>
    intro m
    cases m with
    | zero => exact IV.nil
    | succ m => exact IV.cons (ih m)
theorem W_evalSome {e : Expr} {env : Env} {Q : Value → Heap → Prop} (H : Wp w A (eval e env) Q h) : Wp w A (evalPart (some e) env) Q h := H
theorem W_intr {vs : List Value} {ls : List Int} (h : IV vs ls) (x : Int) (t : Tok) : IV (.int x t :: vs) (x :: ls) := .cons h
theorem C_law {sa : Addr} {items : Array Value} {ns : List Int} {Q : Value → Heap → Prop} (r : Rm A 8) (T : TH w h) (tb : Tb [] h) (x : h.IsList sa items) (iv : IV items.toList ns) (hz : items.size ≤ 100)
    (q : ∀ h', Kp [119] h h' → Tb [] h' → Q (.bool true) h') : Wp w A (call (.ref 150) [.ref sa]) Q h := by
  refine C_fc (Z := []) (fd := fLaw) (binds := [(St "script", .ref sa)]) (l := [(St "script", .ref sa)]) (cs := [none, none, none, none]) [St "rows", St "early", St "more", St "turn"] T r.room (T 150 (ob150 w.params) (by decide) (by kernel_rfl)) rfl (T.codeRec (o := ob149 w.params) (by decide) (by kernel_rfl) rfl (by rfl)) (by rfl) (by kernel_rfl) (by kernel_rfl) (by kernel_rfl) (by kernel_rfl) (by kernel_rfl) (fun L => by kernel_rfl) (fun L => by kernel_rfl) (fun L => by kernel_rfl) (fun L => by kernel_rfl) ?_
  intro h₁ L f0
  have f : Fr w [119] h h₁ L _ _ := f0.toZ
  have r' := r.deeper (env := callEnvC fLaw L 150)
  have sz := sizeLine_is
  have lo := f.lo
  have x₁ : h₁.IsList sa items := x.at fun o e => f0.k sa o (fun m => nomatch m) e
  have tb₁ : Tb (lawX L) h₁ := ((((((tb.cons (fresh_size _ _ (Nat.le_trans f.fr (by omega : L ≤ L + 1 + 3)))).cons (fresh_size _ _ (Nat.le_trans f.fr (by omega : L ≤ L + 1 + 2)))).cons (fresh_size _ _ (Nat.le_trans f.fr (by omega : L ≤ L + 1 + 1)))).cons (fresh_size _ _ (Nat.le_trans f.fr (by omega : L ≤ L + 1 + 0)))).cons (fresh_size _ _ f.fr))).keep0 f0.k
  have inL : ∀ a ∈ ([L] : List Addr), a ∈ (lawX L : List Addr) := fun a ha => by rw [List.mem_singleton.mp ha]; simp
  have inC : ∀ (k : Nat), k < 4 → ∀ a ∈ ([L + 1 + k] : List Addr), a ∈ (lawX L : List Addr) := fun k hk a ha => by
    rw [List.mem_singleton.mp ha]
    have : k = 0 ∨ k = 1 ∨ k = 2 ∨ k = 3 := by omega
    rcases this with rfl | rfl | rfl | rfl <;> simp
  have n9L : (119 : Addr) ∉ ([L] : List Addr) := nin1 (Ne.symm (ne119 lo))
  have n9C : ∀ k : Nat, (119 : Addr) ∉ ([L + 1 + k] : List Addr) := fun k => nin1 (Ne.symm (ne119 (by omega : 151 ≤ L + 1 + k)))
  have big : ∀ {D : Nat}, L + 4 < D → (D : Addr) ∉ (lawX L : List Addr) := fun hD hm => by
    have := lawX_lt lo (List.mem_cons_of_mem 119 hm)
    omega
  have bigC : ∀ (k : Nat), k < 4 → ∀ {D : Nat}, L + 4 < D → (D : Addr) ∉ ([L + 1 + k] : List Addr) := fun k hk D hD => nin1 (Nat.ne_of_gt (by omega : L + 1 + k < D))
  have bigL : ∀ {D : Nat}, L + 4 < D → (D : Addr) ∉ ([L] : List Addr) := fun hD => nin1 (Nat.ne_of_gt (by omega))
  -- rows = [_law_row(number) for number in [5677533] + script[:3]]
  let ms : List Int := 5677533 :: ns.take 3
  let R : Nat → Row := fun j => rowOf (ms.getD j 0)
  let n := ms.length
  have hn : 1 ≤ n := by show 1 ≤ (ns.take 3).length + 1; omega
  have hn4 : n ≤ 4 := by show (ns.take 3).length + 1 ≤ 4; rw [List.length_take]; omega
  have ok : ∀ j, j < n → (R j).Ok := fun j _ => row_ok _
  refine W_cons (W_Assign (by rfl) ?_)
  refine W_ListComp (fun i ys hx => ys.length = i ∧ ∀ j, j < i → ∃ v, ys[j]? = some v ∧ RowAt (L + 5) hx v (R j)) (by rfl) (by kernel_rfl) (by kernel_rfl) (by kernel_rfl) (by kernel_rfl) (fun _ => by rfl) (W_BinOp (W_List (W_items_cons (by rfl) (W_int fun t₀ => W_items_nil (W_newL f.T (szl (by simp)) fun h₂ D₁ hD₁ y₁ k₂ => W_sliceL (fun _ _ => by rfl) ?_)))))
  have f₂ := f.step k₂
  refine W_local f₂.ns (by kernel_rfl) (by kernel_rfl) (by kernel_rfl) (by rfl) (W_evalNone (W_evalSome (W_int fun t₁ => ⟨f₂.T, sa, items, none, some 3, rfl, x₁.at fun o e => k₂ sa o (fun m => nomatch m) e, .none, .int _ _, by omega, fun h₃ D₂ hD₂ y₂ k₃ => ?_⟩)))
  have f₃ := f₂.step k₃
  have es : (slicePick items none (some 3) none).toList = items.toList.take 3 := by
    have := slicePick_upto' items 3
    show (slicePick items none (some ((3 : Nat) : Int)) none).toList = _
    rw [this]
  rw [es] at y₂
  refine W_addL f₃.T (y₁.keep0 k₃) y₂.li (by simp; omega) fun h₄ D₃ hD₃ y₃ k₄ => ?_
  have f₄ := f₃.step k₄
  have ivm : IV ([.int 5677533 t₀] ++ items.toList.take 3) ms := .cons (iv.take 3)
  have len : ([.int 5677533 t₀] ++ items.toList.take 3 : List Value).length = n := ivm.len
  have f₄lt : L + 4 < h₄.objs.size := f₄.lt
  refine W_iterL r'.hd f₄.T y₃.li fun it h₅ hi k₅ => ⟨_, _, _, hi, by omega, ⟨fun _ => ⟨rfl, fun j hj => absurd hj (Nat.not_lt_zero _)⟩, ?_⟩, ?_⟩
  · intro i ys v X C hx hlt hP hC loC hCh kx hX hJ
    have fx := f₄.step kx
    obtain ⟨y, t, ey, rfl⟩ := ivm.get' hP
    refine W_tests0 ⟨Kp.refl, fun e => (nomatch e), fun _ => W_CallName ?_⟩
    walk_at "mg"
    refine W_fn (o := ob102 w.params) (by rfl) (by rfl) (W_items_cons (by rfl) ?_)
    walk_at "mn"
    refine W_items_nil ⟨fx.T 102 _ (by decide) (by kernel_rfl), C_row (r'.le (by omega)) fx.T fun h' v' k' ra => ⟨k', fun h'' k'' => ?_⟩⟩
    obtain ⟨hl, hv⟩ := hJ h'' (k'.of0.trans k'')
    have hsz : L + 5 ≤ hx.objs.size := by have := hC.lt; have : C < hx.objs.size := this; omega
    refine ⟨by rw [List.length_append, hl]; rfl, fun j hj => ?_⟩
    by_cases hji : j < i
    · obtain ⟨u, eu, ru⟩ := hv j hji
      exact ⟨u, by rw [List.getElem?_append_left (by omega)]; exact eu, ru⟩
    · obtain rfl : j = i := by omega
      refine ⟨v', by rw [List.getElem?_append_right (by omega), hl, Nat.sub_self]; rfl, ?_⟩
      have e : R j = rowOf y := by show rowOf (ms.getD j 0) = _; rw [List.getD, ey]; rfl
      rw [e]
      refine (ra.keep k'' fun a ha => ?_).le hsz
      obtain ⟨o, eo⟩ := hX a ha
      exact Heap.lt_size eo
  rw [len]
  intro rl h₆ rv hJ hrl hlo₆ k₆
  have f₆ := f₄.step k₆
  have xr₆ : RowsAt (L + 5) h₆ rl n R := ⟨rv, hrl, by omega, hJ.1, hJ.2⟩
  have rlL : L + 4 < rl := Nat.lt_of_lt_of_le f₄lt hlo₆
  refine W_stC 0 f₆ rfl (by kernel_rfl) (by kernel_rfl) (by kernel_rfl) fun h₇ f₇ k₇ => ?_
  have k₁₆ : Kp [] h₁ h₆ := ((k₂.trans k₃).trans k₄).trans k₆
  have tb₇ := (tb₁.keep0 k₁₆).keep k₇ (n9C 0) (inC 0 (by decide))
  have xr₇ := xr₆.keep k₇ fun a ha => by rw [List.mem_singleton.mp ha]; omega
  obtain ⟨vs, hl, _, hvl, hvs⟩ := id xr₇
  -- late = [_law_word(row, 0) for row in rows]
  refine W_cons (W_AssignComp (Z := [119]) (h₀ := h) (l := [(St "script", .ref sa)]) (cs := [some (.ref rl), none, none, none]) (fun j ys _ => SV ys ((List.range j).map fun j => (R j).word 0)) (by rfl) (by rfl) (by kernel_rfl) (by kernel_rfl) (by kernel_rfl) (by kernel_rfl) (fun _ => by rfl) (by kernel_rfl) (by kernel_rfl) ?_)
  refine W_cell (c := L + 1 + 0) (f₇.cell 0 _ rfl) (by kernel_rfl) (by kernel_rfl) (by kernel_rfl) (by kernel_rfl) ?_
  refine W_iterL r'.hd f₇.T hl fun it h₈ hit k₈ => ⟨f₇, _, _, _, hit, by omega, ⟨fun _ => SV.nil, ?_⟩, ?_⟩
  · intro j ys v X C hx hlt hP hC loC hCh kx hX hJ
    have fx := f₇.step kx
    obtain ⟨v', hv', ra⟩ := hvs j (by omega)
    rw [hP] at hv'
    obtain rfl := Option.some.inj hv'
    obtain ⟨a, rfl⟩ := ra.ref
    refine W_tests0 ⟨Kp.refl, fun e => (nomatch e), fun _ => W_CallName ?_⟩
    walk_at "mg"
    refine W_fn (o := ob107 w.params) (by rfl) (by rfl) (W_items_cons (by rfl) ?_)
    walk_at "mn"
    refine W_items_cons (by rfl) (W_int fun _ => W_items_nil ⟨fx.T 107 _ (by decide) (by kernel_rfl), ?_⟩)
    refine C_word (n := 0) (ok j (by omega)).z (by omega) (r'.le (by omega)) fx.T (ra.keep0 kx) fun h' t' k' => ⟨k', fun h'' k'' => ?_⟩
    rw [List.range_succ, List.map_append]
    exact (hJ hx Kp.refl).snoc
  rw [hvl]
  intro ll h₉ lv sl xl hlo₉ k₉ f₉
  have f₇lt : L + 4 < h₇.objs.size := f₇.lt
  have llL : L + 4 < ll := Nat.lt_of_lt_of_le f₇lt hlo₉
  have tb₉ := tb₇.keep k₉ n9L inL
  have xr₉ := xr₇.keep k₉ fun a ha => by have e : a = L := List.mem_singleton.mp ha; omega
  clear hl hvs
  obtain ⟨vs₉, hl, _, hvl₉, hvs⟩ := id xr₉
  -- early = [_law_joined(row, 0) for row in rows]
  refine W_cons (W_Assign (by rfl) ?_)
  refine W_ListComp (fun j ys _ => SV ys ((List.range j).map fun j => (R j).ear 0)) (by rfl) (by kernel_rfl) (by kernel_rfl) (by kernel_rfl) (by kernel_rfl) (fun _ => by rfl) ?_
  refine W_cell (c := L + 1 + 0) (f₉.cell 0 _ rfl) (by kernel_rfl) (by kernel_rfl) (by kernel_rfl) (by kernel_rfl) ?_
  refine W_iterL r'.hd f₉.T hl fun it hA hit kA => ⟨_, _, _, hit, by omega, ⟨fun _ => SV.nil, ?_⟩, ?_⟩
  · intro j ys v X C hx hlt hP hC loC hCh kx hX hJ
    have fx := f₉.step kx
    obtain ⟨v', hv', ra⟩ := hvs j (by omega)
    rw [hP] at hv'
    obtain rfl := Option.some.inj hv'
    obtain ⟨a, rfl⟩ := ra.ref
    refine W_tests0 ⟨Kp.refl, fun e => (nomatch e), fun _ => W_CallName ?_⟩
    walk_at "mg"
    refine W_fn (o := ob112 w.params) (by rfl) (by rfl) (W_items_cons (by rfl) ?_)
    walk_at "mn"
    refine W_items_cons (by rfl) (W_int fun _ => W_items_nil ⟨fx.T 112 _ (by decide) (by kernel_rfl), ?_⟩)
    refine C_joined (n := 0) (ok j (by omega)).z (by omega) (r'.le (by omega)) fx.T (ra.keep0 kx) fun h' t' k' => ⟨k', fun h'' k'' => ?_⟩
    rw [List.range_succ, List.map_append, ← ear_zero]
    exact (hJ hx Kp.refl).snoc
  rw [hvl₉]
  intro el hA ev se xe hloA kA
  have fA := f₉.step kA
  have f₉lt : L + 4 < h₉.objs.size := f₉.lt
  have elL : L + 4 < el := Nat.lt_of_lt_of_le f₉lt hloA
  refine W_stC 1 fA rfl (by kernel_rfl) (by kernel_rfl) (by kernel_rfl) fun hB fB kB => ?_
  have tbB := (tb₉.keep0 kA).keep kB (n9C 1) (inC 1 (by decide))
  have xrB := (xr₉.keep0 kA).keep kB fun a ha => by have e : a = L + 1 + 1 := List.mem_singleton.mp ha; omega
  have xlB := (xl.keep0 kA).keep kB (bigC 1 (by decide) llL)
  have xeB := xe.keep kB (bigC 1 (by decide) elL)
  clear hl hvs
  obtain ⟨vsB, hl, _, hvlB, hvs⟩ := id xrB
  -- more = [0 for row in rows]
  refine W_cons (W_Assign (by rfl) ?_)
  refine W_ListComp (fun j ys _ => IV ys ((List.range j).map fun j => (R j).more 0)) (by rfl) (by kernel_rfl) (by kernel_rfl) (by kernel_rfl) (by kernel_rfl) (fun _ => by rfl) ?_
  refine W_cell (c := L + 1 + 0) (fB.cell 0 _ rfl) (by kernel_rfl) (by kernel_rfl) (by kernel_rfl) (by kernel_rfl) ?_
  refine W_iterL r'.hd fB.T hl fun it hC hit kC => ⟨_, _, _, hit, by omega, ⟨fun _ => IV.nil, ?_⟩, ?_⟩
  · intro j ys v X C hx hlt hP hC loC hCh kx hX hJ
    refine W_tests0 ⟨Kp.refl, fun e => (nomatch e), fun _ => W_int fun _ => ⟨Kp.refl, fun h'' k'' => ?_⟩⟩
    rw [List.range_succ, List.map_append]
    exact (hJ hx Kp.refl).snoc
  rw [hvlB]
  intro ml hC mv sm xm hloC kC
  have fC := fB.step kC
  have fBlt : L + 4 < hB.objs.size := fB.lt
  have mlL : L + 4 < ml := Nat.lt_of_lt_of_le fBlt hloC
  refine W_stC 2 fC rfl (by kernel_rfl) (by kernel_rfl) (by kernel_rfl) fun hD fD kD => ?_
  have tbD := (tbB.keep0 kC).keep kD (n9C 2) (inC 2 (by decide))
  have xrD := (xrB.keep0 kC).keep kD fun a ha => by have e : a = L + 1 + 2 := List.mem_singleton.mp ha; omega
  have xlD := (xlB.keep0 kC).keep kD (bigC 2 (by decide) llL)
  have xeD := (xeB.keep0 kC).keep kD (bigC 2 (by decide) elL)
  have xmD := xm.keep kD (bigC 2 (by decide) mlL)
  -- for turn in range(5)
  refine W_cons (W_For (fun I i hx => ∃ vt, Lw w (I :: lawX L) h hD hx L n rl R i vt) (fun _ => by rfl) (fun _ _ => by rfl) (W_CallName ?_))
  walk_at "mb"
  refine W_fv (by rfl) (by rfl) (by rfl) (W_items_cons (by rfl) (W_int fun _ => W_items_nil (W_range1 fun hE rg xg kE => ?_)))
  have fE := fD.step kE
  have fDlt : L + 4 < hD.objs.size := fD.lt
  have fElt : L + 4 < hE.objs.size := fE.lt
  have xlE := xlD.keep0 kE
  have xeE := xeD.keep0 kE
  have xmE := xmD.keep0 kE
  have nY : ∀ {D I : Nat}, L + 4 < D → D < hE.objs.size → hE.objs.size ≤ I → (D : Addr) ∉ (I :: lawX L : List Addr) := fun hD hlt hI hm => by
    rcases List.mem_cons.mp hm with q | q
    · have := Nat.lt_of_lt_of_le hlt hI
      exact absurd q (Nat.ne_of_lt this)
    · exact big hD q
  have nDI : ∀ {I : Nat}, hE.objs.size ≤ I → hD.get? I = none := fun hI => back_none kE (fresh_size _ _ hI)
  have nXI : ∀ {I : Nat}, hE.objs.size ≤ I → (I : Addr) ∉ (119 :: lawX L : List Addr) := fun hI hm => by
    have := lawX_lt lo hm
    omega
  have stepI : ∀ {I i : Nat} {vt : Option Value} {hG hH : Heap}, hE.objs.size ≤ I → 151 ≤ I → Lw w (I :: lawX L) h hD hG L n rl R i vt → Kp [I] hG hH → Lw w (I :: lawX L) h hD hH L n rl R i vt := by
    intro I i vt hG hH hI loI m kI
    obtain ⟨l, l1, l2, l3, v1, v2, v3, fG, e₁, x₁, s₁, x₂, s₂, x₃, s₃, n₁, n₂, n₃⟩ := m.fm
    have nn : ∀ {a : Addr}, a ∉ (I :: lawX L : List Addr) → a ∉ ([I] : List Addr) := fun h m => h (by rw [List.mem_singleton.mp m]; simp)
    refine ⟨⟨l, l1, l2, l3, v1, v2, v3, fG.upd kI fun a ha => ?_, e₁, x₁.keep kI (nn n₁), s₁, x₂.keep kI (nn n₂), s₂, x₃.keep kI (nn n₃), s₃, n₁, n₂, n₃⟩, m.kp.local kI fun a ha => by rw [List.mem_singleton.mp ha]; exact nDI hI, m.tb.keep kI (nin1 (Ne.symm (ne119 loI))) fun a ha => by rw [List.mem_singleton.mp ha]; simp⟩
    have e : a = I := List.mem_singleton.mp ha
    rw [e]
    have : L + 4 < I := Nat.lt_of_lt_of_le fElt hI
    exact ⟨Nat.le_trans f.fr (by omega : L ≤ I), loI, .inr this⟩
  refine W_iterR (a := 0) (b := 5) (n := 5) r'.hd fE.T xg (by decide) (by decide) rfl fun it hF hit kF => ⟨_, _, _, hit, fun I _ hI loI => ?_, ?_, ?_⟩
  · exact ⟨none, ⟨_, ll, el, ml, lv, ev, mv, fE.step kF, lk_self, xlE.keep0 kF, sl, xeE.keep0 kF, se, xmE.keep0 kF, sm, nY llL xlE.lt hI, nY elL xeE.lt hI, nY mlL xmE.lt hI⟩, (kE.trans kF).of0, ((tbD.keep0 kE).cons (fresh_size _ _ hI)).keep0 kF⟩
  · rintro i v I hG hH - hI loI ⟨oI, hoI⟩ hlt ⟨tv, rfl⟩ ⟨vt, m⟩ kI
    have e0 : 0 + i = i := Nat.zero_add i
    rw [e0]
    have mH := stepI hI loI m kI
    obtain ⟨l, l1, l2, l3, v1, v2, v3, fH, e₁, x₁, s₁, x₂, s₂, x₃, s₃, n₁, n₂, n₃⟩ := mH.fm
    have nn : ∀ {a : Addr}, a ∉ (I :: lawX L : List Addr) → a ∉ ([L + 1 + 3] : List Addr) := fun h m => h (by rw [List.mem_singleton.mp m]; simp)
    refine W_assignName (W_stC 3 fH rfl (by kernel_rfl) (by kernel_rfl) (by kernel_rfl) fun hJ fJ kJ => ?_)
    have mJ : Lw w (I :: lawX L) h hD hJ L n rl R i (some (.int (i : Int) tv)) :=
      ⟨⟨l, l1, l2, l3, v1, v2, v3, fJ, e₁, x₁.keep kJ (nn n₁), s₁, x₂.keep kJ (nn n₂), s₂, x₃.keep kJ (nn n₃), s₃, n₁, n₂, n₃⟩, mH.kp.trans (kJ.sub fun a ha => by rw [List.mem_singleton.mp ha]; simp), mH.tb.keep kJ (n9C 3) fun a ha => List.mem_cons_of_mem _ (inC 3 (by decide) a ha)⟩
    have IJ : (I : Addr) ∉ ([L + 1 + 3] : List Addr) := fun m => nXI hI (by rw [List.mem_singleton.mp m]; simp)
    refine Wp.mono (L_turn (r'.le (by omega)) hn hn4 hlt ok xrD ⟨oI, kJ I oI IJ hoI⟩ (nXI hI) mJ) ?_
    rintro fl hK ⟨rfl, kK, mK⟩
    refine ⟨⟨_, mK⟩, fun b hb o eo => ?_⟩
    obtain rfl := List.mem_singleton.mp hb
    exact kK _ o (nXI hI) (kJ _ o IJ eo)
  · rintro I hG hH hI loI ⟨vt, m⟩ kI
    have mH := stepI hI loI m kI
    obtain ⟨l, l1, l2, l3, v1, v2, v3, fH, e₁, x₁, s₁, x₂, s₂, x₃, s₃, n₁, n₂, n₃⟩ := mH.fm
    have xrH := xrD.keep mH.kp fun a ha => lawX_lt lo ha
    clear hl hvs
    obtain ⟨vsH, hl, _, hvlH, hvs⟩ := id xrH
    refine W_cons (W_Return (W_Compare1 (by kernel_rfl) ?_))
    refine W_cell (c := L + 1 + 2) (fH.cell 2 _ rfl) (by kernel_rfl) (by kernel_rfl) (by kernel_rfl) (by kernel_rfl) ?_
    refine W_ListComp (fun j ys _ => IV ys ((List.range j).map fun j => ((R j).twos : Int))) (by rfl) (by kernel_rfl) (by kernel_rfl) (by kernel_rfl) (by kernel_rfl) (fun _ => by rfl) ?_
    refine W_cell (c := L + 1 + 0) (fH.cell 0 _ rfl) (by kernel_rfl) (by kernel_rfl) (by kernel_rfl) (by kernel_rfl) ?_
    refine W_iterL r'.hd fH.T hl fun it hC hit kC => ⟨_, _, _, hit, by omega, ⟨fun _ => IV.nil, ?_⟩, ?_⟩
    · intro j ys v X C hx hlt hP hC loC hCh kx hX hJ
      have fx := fH.step kx
      obtain ⟨v', hv', ra⟩ := hvs j (by omega)
      rw [hP] at hv'
      obtain rfl := Option.some.inj hv'
      obtain ⟨a, rfl⟩ := ra.ref
      refine W_tests0 ⟨Kp.refl, fun e => (nomatch e), fun _ => W_CallName ?_⟩
      walk_at "mg"
      refine W_fn (o := ob145 w.params) (by rfl) (by rfl) (W_items_cons (by rfl) (W_Subscript ?_))
      walk_at "mn"
      refine W_int fun _ => W_row0 (ra.keep0 kx) (by intro i; rfl) fun l₁ ⟨t₂, t₃, t₄, x1⟩ => W_items_nil ⟨fx.T 145 _ (by decide) (by kernel_rfl), ?_⟩
      refine C_twos (ok j (by omega)).z (r'.le (by omega)) fx.T x1 fun h' t' k' => ⟨k', fun h'' k'' => ?_⟩
      rw [List.range_succ, List.map_append]
      exact (hJ hx Kp.refl).snoc
    rw [hvlH]
    intro tl hK tw st xt hloK kK
    have fK := fH.step kK
    have em : moreL R n 5 = (List.range n).map fun j => ((R j).twos : Int) := List.map_congr_left fun j hj => more_law (ok j (List.mem_range.mp hj)).z
    rw [em] at s₃
    exact W_eqIV r'.units (x₃.keep0 kK) xt s₃ st (q _ fK.k ((mH.tb.keep0 kK).sub fun a ha => nomatch ha))
end
end Mine
end PartH2

-- H3
section PartH3
open PySem PySem.W PyProof.Rows PySem.Calls
set_option Elab.async false
set_option maxRecDepth 100000
set_option maxHeartbeats 4000000
set_option linter.unusedVariables false
namespace Mine
theorem of_intsAre {vs : List Value} {ns : List Int} (h : IntsAre vs ns) : IV vs ns := by
  induction h with
  | nil => exact .nil
  | cons _ _ _ ih => exact .cons ih
theorem isTab {w : World} {h : Heap} (Y : ∀ b o, (topHeap w.params).get? b = some o → h.get? b = some o) : isCodeTable h 119 :=
  ⟨123, ob123 w.params, _, Y 123 _ (by kernel_rfl), rfl, rfl, rfl⟩
theorem law_old {w : World} {h h' : Heap} (Y : ∀ b o, (topHeap w.params).get? b = some o → h.get? b = some o) (k : Kp [119] h h') (t : Tb [] h') : OldK h h' := by
  have e9 : h.get? 119 = some (tabObj #[]) := Y 119 (ob119 w.params) (by kernel_rfl)
  refine ⟨fun b o e => ?_, fun b o e => ?_⟩
  · by_cases hb : b = 119
    · subst hb
      rw [e9] at e
      obtain rfl := Option.some.inj e
      rcases t with e' | ⟨c, e', _⟩
      · exact .inl e'
      · exact .inr (.inl ⟨isTab Y, rfl, #[], tabRead c, rfl, e'⟩)
    · exact .inl (k b o (nin1 hb) e)
  · by_cases hb : b = 119
    · subst hb
      exact t.some
    · exact ⟨o, k b o (nin1 hb) e⟩
theorem law_end {w : World} {s : Shared} {sa : Addr} {vs : List Value} {ns : List Int} {Q : Value → Shared → Prop} {E : Value → Shared → Prop} (Y : ∀ b o, (topHeap w.params).get? b = some o → s.heap.get? b = some o) (hl : s.heap.IsList sa vs.toArray) (hi : IntsAre vs ns) (hn : ns.length ≤ 63)
    (q : ∀ h' tk, OldK s.heap h' → Q (.bool true) { s with heap := h', toks := tk }) : wpAny (model pw w) callerA (call (.ref 150) [.ref sa]) Q E s := by
  have iv := of_intsAre hi
  have T : TH w s.heap := fun b o _ e => Y b o e
  have tb : Tb [] s.heap := .inl (Y 119 (ob119 w.params) (by kernel_rfl))
  have r : Rm callerA 8 := ⟨rfl, by decide, by decide⟩
  exact (C_law (Q := fun v h' => v = .bool true ∧ OldK s.heap h') r T tb hl iv (by rw [List.size_toArray, iv.len]; omega) fun h' k t => ⟨rfl, law_old Y k t⟩).use fun a h' tk q' => by
    obtain ⟨rfl, o⟩ := q'
    exact q h' tk o
theorem glob_law {w : World} {h : Heap} {mg : Str → Option Value} {fa : Addr} (Y : ∀ b o, (topHeap w.params).get? b = some o → h.get? b = some o) (g : h.Ns mainGlobals mg) (e : mg (Str.ofString "law") = some (.ref fa)) : fa = 150 := by
  have T : TH w h := fun b o _ e => Y b o e
  have := g.agree T.glob (Str.ofString "law")
  rw [e, show mgT w (Str.ofString "law") = some (.ref 150) by kernel_rfl] at this
  exact Value.ref.inj (Option.some.inj this)
end Mine
end PartH3

-- J0
section PartJ0
open PySem PySem.W PyProof.Rows
set_option Elab.async false
set_option maxRecDepth 100000
set_option maxHeartbeats 4000000
namespace Mine
theorem size_ok (w : World) : ((boot_heap w.params).isNs mainGlobals && (⟨[]⟩ : Array GenState).size == 0, (boot_heap w.params).objs.size, (boot_heap w.params).nsMap mainGlobals "__annotations__") = (true, 11, some (.ref 6)) := by
  kernel_rfl
abbrev rw1 := PySem.Challenge.rw_pk0024_01
def qv : Program := view pw [17]
def looseN : List Str := [St "_wall", St "b1_set", St "in_table_b1", St "_netrclex", St "_law_held", St "_law_strange", St "_law_row", St "_law_word", St "_law_joined", St "_law_left", St "_law_stream", St "_law_written", St "_law_again", St "_law_twos"]
noncomputable def hookM : Hook where
  α := Heap
  obs s := s.heap
  val w := topHeap w.params
  says w h := ∀ b o, (topHeap w.params).get? b = some o → h.get? b = some o
  of w s e := by intro b o h; rw [e]; exact h
  keeps w h h' x k := fun b o e => k b o (x b o e)
theorem looks_a (w : World) (os : OsState) : (staticsOk (importedModules pw.main.body) (boot_heap w.params) (topHeap w.params) && namesBound pw (topHeap w.params) && gensDone ⟨topHeap w.params, ⟨[]⟩, boot_drawn, 426, os⟩ && laidKept (boot_heap w.params) (topHeap w.params)) = true := by
  kernel_rfl
theorem looks_b (w : World) (os : OsState) : openSeen qv looseN (importedModules pw.main.body) (fun s => xlAt qv [] s && recOk [] s) true ⟨topHeap w.params, ⟨[]⟩, boot_drawn, 426, os⟩ = openGood qv looseN := by
  rw [PySem.W.Fast.te4187177175401517315]
  kernel_rfl

theorem left_ok : LeftO pw qv looseN (fun s => xlAt qv [] s && recOk [] s) hookM.obs hookM.val 4000 :=
  LeftO.of_pieces (H₀ := boot_heap) (H₁ := topHeap) (gs₀ := ⟨[]⟩) (gs₁ := ⟨[]⟩) (d₀ := boot_drawn) (d₁ := boot_drawn) (k₀ := boot_toks) (k₁ := 426) (m₀ := 11) (ann := some (.ref 6)) (M := 12 + (1 + (39 + (999 + (39 + (324 + (153 + (193 + 2))))))))
    (boot_open (by kernel_rfl) (by decide) (fun s => by kernel_rfl)) size_ok run_all (by decide)
    (fun w => funext fun os => Prod.ext (looks_a w os) (Prod.ext (looks_b w os) rfl))
set_option maxHeartbeats 8000000 in
theorem hd : rw1.Holds := by
  w_on
  o_law
  refine holds_open (q := qv) (loose := looseN) (Xt := fun s => xlAt qv [] s && recOk [] s) (XP := XL qv []) (Yf := hookM.obs) (Ya := hookM.val) (YP := hookM.says) (N := 4000) left_ok hookM.of hookM.keeps (fun s e => xl_of s (Bool.and_eq_true_iff.mp e).1) XL.keeps (by rfl) (by rfl) (by rfl) (fun s e => recFacts_of (Bool.and_eq_true_iff.mp e).2) (by rfl) (by first | assumption | decide +kernel) (by decide +kernel) ⟨rfl, rfl, rfl, rfl, rfl, by decide +kernel⟩ ?hw ?hc
  case hw => w_witness2
  case hc =>
    intro w s₀ s₁ mg mb G Y fa o pm cd doc dV kV ho hd hcd hD hmg hg args vals as hpre hlay hrd hwl hlo
    clear ho hd hcd hD
    have hg3 := G.T.g
    replace hmg : mg (Str.ofString "law") = some (.ref fa) := hmg
    obtain rfl := glob_law Y hg3 hmg
    clear hmg hg3
    wrow_args hpre hlay hrd hwl hlo
    rename_i hIL _ _ _ hI _ hle _
    refine law_end Y hIL hI (by omega) fun h' tk o => ?_
    refine ⟨.inl ⟨_, _, [], rfl, fun _ => rfl, ReadsW.bool true, ?post, fun _ => ⟨List.nodup_nil, fun _ hm => (nomatch hm)⟩⟩, o, rfl, .of_eq hg⟩
    case post => first | rfl | wrow_post
end Mine
end PartJ0

theorem PySem.Challenge.cw_pk0024_01_holds : PySem.Challenge.rw_pk0024_01.Holds := by
  exact Mine.hd
