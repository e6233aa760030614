import PyProof.Rows.All
import Wide.All
import OpenK.AllK
import Wide.FinOn
import PyProof.GenComp
import PyProof.ZipIter
import PyProof.WalksPairs
import PySem.Challenge.RW_tp0040_01
set_option Elab.async false
set_option maxRecDepth 100000
set_option compiler.extract_closed false
set_option linter.all false
section
section
open PySem PySem.W PyProof.Rows
set_option linter.unusedVariables false
namespace Mine
noncomputable abbrev pw : Program := PySem.Challenge.pw_tp0040_01
noncomputable def stmtAt (i : Nat) : Stmt := pw.main.body.getD i (.Pass default)
noncomputable def bodyOf : Stmt → List Stmt
  | .ClassDef _ _ _ b _ _ _ _ _ _ _ => b
  | _ => []
noncomputable def methAt (i j : Nat) : Stmt := (bodyOf (stmtAt i)).getD j (.Pass default)
/-- the function object's data of a def that stands in the text -/
noncomputable def fdOf (s : Stmt) (qual : Str) (pm code : Value) : FuncData := match s with
  | .FunctionDef name args body _ _ _ scope _ _ _ => fnOf name qual args body scope .none .none .none pm none code .none
  | _ => default
/-- the same, as it lies beside the code object -/
noncomputable def fd0 (s : Stmt) (qual : Str) : FuncData := match s with
  | .FunctionDef name args body _ _ _ scope _ _ _ => { name, qualname := qual, params := args, body := .stmts body, scope, globals := 0, closure := [], defaults := .none, kwdefaults := .none, doc := .none, pyModule := .none, annotations := none, code := .none, closureTuple := .none, builtins := 0 }
  | _ => default
noncomputable def pairOf : Option PySem.Expr × PySem.Expr → Option (Int × Str)
  | (some (.Constant (.int k) _ _), .Constant (.str s) _ _) => some (k, s)
  | _ => none
noncomputable def dispOf : Stmt → List (Int × Str)
  | .Assign _ (.Dict ks vs _) _ => (ks.zip vs).filterMap pairOf
  | _ => []
/-- what the table b3 says, in its order -/
noncomputable def b3 : List (Int × Str) := dispOf (stmtAt 13)
noncomputable def b3tok (i : Nat) : Nat := if i < 646 then 365 + 3 * i else 2303 + 2 * (i - 646)
noncomputable def entsFrom : Nat → List (Int × Str) → List DictEntry
  | _, [] => []
  | i, (k, s) :: r => ⟨k, .int k (b3tok i), .str s (b3tok i + 1)⟩ :: entsFrom (i + 1) r
noncomputable def ents : List DictEntry := entsFrom 0 b3
noncomputable def o110 (_ : Params) : Obj := { cls := .type "dict", data := .dict ents.toArray 650 }
noncomputable def oSub (j : Nat) (_ : Params) : Obj := { cls := .type "dict", data := .dict ((ents.drop (17 * j)).take 17).toArray (if j < 38 then 17 else 4) }
noncomputable def o2 (P : Params) : Obj := { cls := .none, data := .dict #[] 0 }
noncomputable def o3 (P : Params) : Obj := { cls := (.type "dict"), data := (.dict #[⟨PyData.keyHash P (Str.ofString "__name__"), (.str (Str.ofString "__name__") 165), (.str (Str.ofString "law_tp0040_01") 2324)⟩, ⟨PyData.keyHash P (Str.ofString "__doc__"), (.str (Str.ofString "__doc__") 166), .none⟩, ⟨PyData.keyHash P (Str.ofString "__package__"), (.str (Str.ofString "__package__") 167), .none⟩, ⟨PyData.keyHash P (Str.ofString "__loader__"), (.str (Str.ofString "__loader__") 168), (.builtin "__main__.__loader__#opaque")⟩, ⟨PyData.keyHash P (Str.ofString "__spec__"), (.str (Str.ofString "__spec__") 169), .none⟩, ⟨PyData.keyHash P (Str.ofString "__annotations__"), (.str (Str.ofString "__annotations__") 170), (.ref 6)⟩, ⟨PyData.keyHash P (Str.ofString "__builtins__"), (.str (Str.ofString "__builtins__") 171), (.ref 4)⟩, ⟨PyData.keyHash P (Str.ofString "__file__"), (.str (Str.ofString "__file__") 173), (.str (Str.ofString "/claim/cut.py") 172)⟩, ⟨PyData.keyHash P (Str.ofString "__cached__"), (.str (Str.ofString "__cached__") 174), .none⟩, ⟨PyData.keyHash P (Str.ofString "CHAR_MAX"), (.str (Str.ofString "CHAR_MAX") 190), (.int (127) 189)⟩, ⟨PyData.keyHash P (Str.ofString "_grouping_intervals"), (.str (Str.ofString "_grouping_intervals") 199), (.ref 21)⟩, ⟨PyData.keyHash P (Str.ofString "_netrclex"), (.str (Str.ofString "_netrclex") 259), (.ref 59)⟩, ⟨PyData.keyHash P (Str.ofString "mul"), (.str (Str.ofString "mul") 269), (.ref 70)⟩, ⟨PyData.keyHash P (Str.ofString "sub"), (.str (Str.ofString "sub") 277), (.ref 77)⟩, ⟨PyData.keyHash P (Str.ofString "countOf"), (.str (Str.ofString "countOf") 287), (.ref 84)⟩, ⟨PyData.keyHash P (Str.ofString "iadd"), (.str (Str.ofString "iadd") 295), (.ref 91)⟩, ⟨PyData.keyHash P (Str.ofString "b1_set"), (.str (Str.ofString "b1_set") 357), (.ref 99)⟩, ⟨PyData.keyHash P (Str.ofString "in_table_b1"), (.str (Str.ofString "in_table_b1") 364), (.ref 109)⟩, ⟨PyData.keyHash P (Str.ofString "b3_exceptions"), (.str (Str.ofString "b3_exceptions") 2315), (.ref 110)⟩, ⟨PyData.keyHash P (Str.ofString "map_table_b3"), (.str (Str.ofString "map_table_b3") 2323), (.ref 155)⟩, ⟨PyData.keyHash P (Str.ofString "_law_lexer"), (.str (Str.ofString "_law_lexer") 2336), (.ref 162)⟩, ⟨PyData.keyHash P (Str.ofString "_law_spelled"), (.str (Str.ofString "_law_spelled") 2347), (.ref 169)⟩, ⟨PyData.keyHash P (Str.ofString "_law_written"), (.str (Str.ofString "_law_written") 2353), (.ref 174)⟩, ⟨PyData.keyHash P (Str.ofString "_law_prepared"), (.str (Str.ofString "_law_prepared") 2359), (.ref 179)⟩, ⟨PyData.keyHash P (Str.ofString "_law_names"), (.str (Str.ofString "_law_names") 2365), (.ref 184)⟩, ⟨PyData.keyHash P (Str.ofString "_law_walked"), (.str (Str.ofString "_law_walked") 2371), (.ref 189)⟩, ⟨PyData.keyHash P (Str.ofString "_law_lined"), (.str (Str.ofString "_law_lined") 2377), (.ref 194)⟩, ⟨PyData.keyHash P (Str.ofString "_law_levels"), (.str (Str.ofString "_law_levels") 2383), (.ref 199)⟩, ⟨PyData.keyHash P (Str.ofString "_law_told"), (.str (Str.ofString "_law_told") 2399), (.ref 206)⟩, ⟨PyData.keyHash P (Str.ofString "law"), (.str (Str.ofString "law") 2405), (.ref 211)⟩] 30) }
noncomputable def o11 (P : Params) : Obj := { cls := (.type "tuple"), data := (.seq #[] 0) }
noncomputable def o12 (P : Params) : Obj := { cls := .none, data := (.fields #[(.int (3) 0), (.int (0) 0), (.ref 20), (.int (16) 0), (.int (0) 0), (.ref 27), (.int (60) 0), (.int (0) 0), (.ref 69), (.int (62) 0), (.int (0) 0), (.ref 76), (.int (64) 0), (.int (0) 0), (.ref 83), (.int (70) 0), (.int (0) 0), (.ref 90), (.int (75) 0), (.int (0) 0), (.ref 108), (.int (78) 0), (.int (0) 0), (.ref 154), (.int (84) 0), (.int (0) 0), (.ref 161), (.int (94) 0), (.int (0) 0), (.ref 168), (.int (105) 0), (.int (0) 0), (.ref 173), (.int (110) 0), (.int (0) 0), (.ref 178), (.int (112) 0), (.int (0) 0), (.ref 183), (.int (114) 0), (.int (0) 0), (.ref 188), (.int (127) 0), (.int (0) 0), (.ref 193), (.int (141) 0), (.int (0) 0), (.ref 198), (.int (148) 0), (.int (0) 0), (.ref 205), (.int (160) 0), (.int (0) 0), (.ref 210)]) }
noncomputable def o13 (P : Params) : Obj := { cls := (.type "code"), data := (.fields #[(.str (Str.ofString "<module>") 182), (.str (Str.ofString "<module>") 183), (.str (Str.ofString "/claim/cut.py") 184), (.int (1) 0), (.int (0) 0), (.int (0) 0), (.int (0) 0), (.int (0) 0), (.ref 11), (.bool false), (.int (181) 0), (.ref 12), .none, .none, .none, .none, (.int (185) 0), (.int (1) 0), (.str (Str.ofString "/claim/cut.py") 186)]) }
noncomputable def o14 (P : Params) : Obj := { cls := (.type "frame"), data := .plain, slots := #[some (.ref 13), some (.ref 3), some (.ref 3), none, some (.str (Str.ofString "__main__") 164), none, some (.ref 0)] }
noncomputable def o15 (P : Params) : Obj := { cls := (.type "tuple"), data := (.seq #[] 0) }
noncomputable def o16 (P : Params) : Obj := { cls := .none, data := (.fields #[]) }
noncomputable def o17 (P : Params) : Obj := { cls := (.type "tuple"), data := (.seq #[(.str (Str.ofString "grouping") 194), (.str (Str.ofString "last_interval") 195), (.str (Str.ofString "interval") 196)] 0) }
noncomputable def o18 (P : Params) : Obj := { cls := (.type "tuple"), data := (.seq #[] 0) }
noncomputable def o19 (P : Params) : Obj := { cls := .none, data := (.func (fd0 (stmtAt 2) (Str.ofString "_grouping_intervals"))) }
noncomputable def o20 (P : Params) : Obj := { cls := (.type "code"), data := (.fields #[(.str (Str.ofString "_grouping_intervals") 191), (.str (Str.ofString "_grouping_intervals") 192), (.str (Str.ofString "/claim/cut.py") 193), (.int (3) 0), (.int (1) 0), (.int (0) 0), (.int (0) 0), (.int (35) 0), (.ref 15), (.bool true), (.int (181) 0), (.ref 16), .none, (.ref 17), (.ref 18), (.ref 19), (.int (197) 0), (.int (3) 0), (.str (Str.ofString "/claim/cut.py") 198)]) }
noncomputable def o21 (P : Params) : Obj := { cls := (.type "function"), data := (.func (fdOf (stmtAt 2) (Str.ofString "_grouping_intervals") (.str (Str.ofString "cpy313.locale") 187) (.ref 20))) }
noncomputable def o22 (P : Params) : Obj := { cls := (.type "tuple"), data := (.seq #[] 0) }
noncomputable def o23 (P : Params) : Obj := { cls := (.type "builtin_function_or_method"), data := (.fields #[(.builtin "type.__prepare__"), (.type "type")]) }
noncomputable def o24 (P : Params) : Obj := { cls := (.type "dict"), data := (.dict #[⟨PyData.keyHash P (Str.ofString "__module__"), (.str (Str.ofString "__module__") 209), (.str (Str.ofString "cpy313.netrc") 200)⟩, ⟨PyData.keyHash P (Str.ofString "__qualname__"), (.str (Str.ofString "__qualname__") 211), (.str (Str.ofString "_netrclex") 210)⟩, ⟨PyData.keyHash P (Str.ofString "__firstlineno__"), (.str (Str.ofString "__firstlineno__") 213), (.int (16) 212)⟩, ⟨PyData.keyHash P (Str.ofString "__init__"), (.str (Str.ofString "__init__") 221), (.ref 35)⟩, ⟨PyData.keyHash P (Str.ofString "_read_char"), (.str (Str.ofString "_read_char") 229), (.ref 42)⟩, ⟨PyData.keyHash P (Str.ofString "get_token"), (.str (Str.ofString "get_token") 239), (.ref 49)⟩, ⟨PyData.keyHash P (Str.ofString "push_token"), (.str (Str.ofString "push_token") 247), (.ref 56)⟩, ⟨PyData.keyHash P (Str.ofString "__static_attributes__"), (.str (Str.ofString "__static_attributes__") 252), (.ref 57)⟩] 8) }
noncomputable def o25 (P : Params) : Obj := { cls := (.type "tuple"), data := (.seq #[] 0) }
noncomputable def o26 (P : Params) : Obj := { cls := .none, data := (.fields #[(.int (18) 0), (.int (4) 0), (.ref 34), (.int (24) 0), (.int (4) 0), (.ref 41), (.int (30) 0), (.int (4) 0), (.ref 48), (.int (57) 0), (.int (4) 0), (.ref 55)]) }
noncomputable def o27 (P : Params) : Obj := { cls := (.type "code"), data := (.fields #[(.str (Str.ofString "_netrclex") 204), (.str (Str.ofString "_netrclex") 205), (.str (Str.ofString "/claim/cut.py") 206), (.int (16) 0), (.int (0) 0), (.int (0) 0), (.int (0) 0), (.int (0) 0), (.ref 25), (.bool false), (.int (181) 0), (.ref 26), .none, .none, .none, .none, (.int (207) 0), (.int (16) 0), (.str (Str.ofString "/claim/cut.py") 208)]) }
noncomputable def o28 (P : Params) : Obj := { cls := (.type "frame"), data := .plain, slots := #[some (.ref 27), some (.ref 3), some (.ref 24), none, some (.str (Str.ofString "cpy313.netrc") 200), none, some (.ref 0)] }
noncomputable def o29 (P : Params) : Obj := { cls := (.type "tuple"), data := (.seq #[] 0) }
noncomputable def o30 (P : Params) : Obj := { cls := .none, data := (.fields #[]) }
noncomputable def o31 (P : Params) : Obj := { cls := (.type "tuple"), data := (.seq #[(.str (Str.ofString "self") 217), (.str (Str.ofString "fp") 218)] 0) }
noncomputable def o32 (P : Params) : Obj := { cls := (.type "tuple"), data := (.seq #[] 0) }
noncomputable def o33 (P : Params) : Obj := { cls := .none, data := (.func (fd0 (methAt 4 0) (Str.ofString "_netrclex.__init__"))) }
noncomputable def o34 (P : Params) : Obj := { cls := (.type "code"), data := (.fields #[(.str (Str.ofString "__init__") 214), (.str (Str.ofString "_netrclex.__init__") 215), (.str (Str.ofString "/claim/cut.py") 216), (.int (18) 0), (.int (2) 0), (.int (0) 0), (.int (0) 0), (.int (3) 0), (.ref 29), (.bool true), (.int (181) 0), (.ref 30), .none, (.ref 31), (.ref 32), (.ref 33), (.int (219) 0), (.int (18) 0), (.str (Str.ofString "/claim/cut.py") 220)]) }
noncomputable def o35 (P : Params) : Obj := { cls := (.type "function"), data := (.func (fdOf (methAt 4 0) (Str.ofString "_netrclex.__init__") (.str (Str.ofString "cpy313.netrc") 200) (.ref 34))) }
noncomputable def o36 (P : Params) : Obj := { cls := (.type "tuple"), data := (.seq #[] 0) }
noncomputable def o37 (P : Params) : Obj := { cls := .none, data := (.fields #[]) }
noncomputable def o38 (P : Params) : Obj := { cls := (.type "tuple"), data := (.seq #[(.str (Str.ofString "self") 225), (.str (Str.ofString "ch") 226)] 0) }
noncomputable def o39 (P : Params) : Obj := { cls := (.type "tuple"), data := (.seq #[] 0) }
noncomputable def o40 (P : Params) : Obj := { cls := .none, data := (.func (fd0 (methAt 4 1) (Str.ofString "_netrclex._read_char"))) }
noncomputable def o41 (P : Params) : Obj := { cls := (.type "code"), data := (.fields #[(.str (Str.ofString "_read_char") 222), (.str (Str.ofString "_netrclex._read_char") 223), (.str (Str.ofString "/claim/cut.py") 224), (.int (24) 0), (.int (1) 0), (.int (0) 0), (.int (0) 0), (.int (3) 0), (.ref 36), (.bool true), (.int (181) 0), (.ref 37), .none, (.ref 38), (.ref 39), (.ref 40), (.int (227) 0), (.int (24) 0), (.str (Str.ofString "/claim/cut.py") 228)]) }
noncomputable def o42 (P : Params) : Obj := { cls := (.type "function"), data := (.func (fdOf (methAt 4 1) (Str.ofString "_netrclex._read_char") (.str (Str.ofString "cpy313.netrc") 200) (.ref 41))) }
noncomputable def o43 (P : Params) : Obj := { cls := (.type "tuple"), data := (.seq #[] 0) }
noncomputable def o44 (P : Params) : Obj := { cls := .none, data := (.fields #[]) }
noncomputable def o45 (P : Params) : Obj := { cls := (.type "tuple"), data := (.seq #[(.str (Str.ofString "self") 233), (.str (Str.ofString "token") 234), (.str (Str.ofString "fiter") 235), (.str (Str.ofString "ch") 236)] 0) }
noncomputable def o46 (P : Params) : Obj := { cls := (.type "tuple"), data := (.seq #[] 0) }
noncomputable def o47 (P : Params) : Obj := { cls := .none, data := (.func (fd0 (methAt 4 2) (Str.ofString "_netrclex.get_token"))) }
noncomputable def o48 (P : Params) : Obj := { cls := (.type "code"), data := (.fields #[(.str (Str.ofString "get_token") 230), (.str (Str.ofString "_netrclex.get_token") 231), (.str (Str.ofString "/claim/cut.py") 232), (.int (30) 0), (.int (1) 0), (.int (0) 0), (.int (0) 0), (.int (3) 0), (.ref 43), (.bool true), (.int (181) 0), (.ref 44), .none, (.ref 45), (.ref 46), (.ref 47), (.int (237) 0), (.int (30) 0), (.str (Str.ofString "/claim/cut.py") 238)]) }
noncomputable def o49 (P : Params) : Obj := { cls := (.type "function"), data := (.func (fdOf (methAt 4 2) (Str.ofString "_netrclex.get_token") (.str (Str.ofString "cpy313.netrc") 200) (.ref 48))) }
noncomputable def o50 (P : Params) : Obj := { cls := (.type "tuple"), data := (.seq #[] 0) }
noncomputable def o51 (P : Params) : Obj := { cls := .none, data := (.fields #[]) }
noncomputable def o52 (P : Params) : Obj := { cls := (.type "tuple"), data := (.seq #[(.str (Str.ofString "self") 243), (.str (Str.ofString "token") 244)] 0) }
noncomputable def o53 (P : Params) : Obj := { cls := (.type "tuple"), data := (.seq #[] 0) }
noncomputable def o54 (P : Params) : Obj := { cls := .none, data := (.func (fd0 (methAt 4 3) (Str.ofString "_netrclex.push_token"))) }
noncomputable def o55 (P : Params) : Obj := { cls := (.type "code"), data := (.fields #[(.str (Str.ofString "push_token") 240), (.str (Str.ofString "_netrclex.push_token") 241), (.str (Str.ofString "/claim/cut.py") 242), (.int (57) 0), (.int (2) 0), (.int (0) 0), (.int (0) 0), (.int (3) 0), (.ref 50), (.bool true), (.int (181) 0), (.ref 51), .none, (.ref 52), (.ref 53), (.ref 54), (.int (245) 0), (.int (57) 0), (.str (Str.ofString "/claim/cut.py") 246)]) }
noncomputable def o56 (P : Params) : Obj := { cls := (.type "function"), data := (.func (fdOf (methAt 4 3) (Str.ofString "_netrclex.push_token") (.str (Str.ofString "cpy313.netrc") 200) (.ref 55))) }
noncomputable def o57 (P : Params) : Obj := { cls := (.type "tuple"), data := (.seq #[(.str (Str.ofString "instream") 248), (.str (Str.ofString "lineno") 249), (.str (Str.ofString "pushback") 250), (.str (Str.ofString "whitespace") 251)] 0) }
noncomputable def o58 (P : Params) : Obj := { cls := (.type "dict"), data := (.dict #[⟨PyData.keyHash P (Str.ofString "__module__"), (.str (Str.ofString "__module__") 209), (.str (Str.ofString "cpy313.netrc") 200)⟩, ⟨PyData.keyHash P (Str.ofString "__firstlineno__"), (.str (Str.ofString "__firstlineno__") 213), (.int (16) 212)⟩, ⟨PyData.keyHash P (Str.ofString "__init__"), (.str (Str.ofString "__init__") 221), (.ref 35)⟩, ⟨PyData.keyHash P (Str.ofString "_read_char"), (.str (Str.ofString "_read_char") 229), (.ref 42)⟩, ⟨PyData.keyHash P (Str.ofString "get_token"), (.str (Str.ofString "get_token") 239), (.ref 49)⟩, ⟨PyData.keyHash P (Str.ofString "push_token"), (.str (Str.ofString "push_token") 247), (.ref 56)⟩, ⟨PyData.keyHash P (Str.ofString "__static_attributes__"), (.str (Str.ofString "__static_attributes__") 252), (.ref 57)⟩, ⟨PyData.keyHash P (Str.ofString "__dict__"), (.str (Str.ofString "__dict__") 254), (.ref 60)⟩, ⟨PyData.keyHash P (Str.ofString "__weakref__"), (.str (Str.ofString "__weakref__") 256), (.ref 61)⟩, ⟨PyData.keyHash P (Str.ofString "__doc__"), (.str (Str.ofString "__doc__") 257), .none⟩] 4) }
noncomputable def o59 (P : Params) : Obj := { cls := (.type "type"), data := (.cls { name := (Str.ofString "_netrclex"), bases := [(.type "object")], mro := [(.ref 59), (.type "object")], ns := 58, qualname := (Str.ofString "_netrclex"), hasDict := true, slotNames := [], subclasses := [], abstract := false, collection := none, hasDel := false }), slots := #[none, none, some (.str (Str.ofString "_netrclex") 202), some (.str (Str.ofString "_netrclex") 210), some (.builtin "object.__new__"), some (.bool true)] }
noncomputable def o60 (P : Params) : Obj := { cls := (.type "getset_descriptor"), data := (.fields #[(.str (Str.ofString "__dict__") 253), (.ref 59), (.builtin "function.__dict__"), (.builtin "function.__dict__#set")]) }
noncomputable def o61 (P : Params) : Obj := { cls := (.type "getset_descriptor"), data := (.fields #[(.str (Str.ofString "__weakref__") 255), (.ref 59), (.builtin "ExceptionGroup.__weakref__"), .none]) }
noncomputable def o62 (P : Params) : Obj := { cls := (.type "super"), data := (.fields #[(.ref 59), (.ref 59), (.ref 59)]) }
noncomputable def o63 (P : Params) : Obj := { cls := (.type "builtin_function_or_method"), data := (.fields #[(.builtin "object.__init_subclass__"), (.ref 59)]) }
noncomputable def o64 (P : Params) : Obj := { cls := (.type "tuple"), data := (.seq #[] 0) }
noncomputable def o65 (P : Params) : Obj := { cls := .none, data := (.fields #[]) }
noncomputable def o66 (P : Params) : Obj := { cls := (.type "tuple"), data := (.seq #[(.str (Str.ofString "a") 265), (.str (Str.ofString "b") 266)] 0) }
noncomputable def o67 (P : Params) : Obj := { cls := (.type "tuple"), data := (.seq #[] 0) }
noncomputable def o68 (P : Params) : Obj := { cls := .none, data := (.func (fd0 (stmtAt 6) (Str.ofString "mul"))) }
noncomputable def o69 (P : Params) : Obj := { cls := (.type "code"), data := (.fields #[(.str (Str.ofString "mul") 262), (.str (Str.ofString "mul") 263), (.str (Str.ofString "/claim/cut.py") 264), (.int (60) 0), (.int (2) 0), (.int (0) 0), (.int (0) 0), (.int (3) 0), (.ref 64), (.bool true), (.int (181) 0), (.ref 65), .none, (.ref 66), (.ref 67), (.ref 68), (.int (267) 0), (.int (60) 0), (.str (Str.ofString "/claim/cut.py") 268)]) }
noncomputable def o70 (P : Params) : Obj := { cls := (.type "function"), data := (.func (fdOf (stmtAt 6) (Str.ofString "mul") (.str (Str.ofString "cpy313.operator") 260) (.ref 69))) }
noncomputable def o71 (P : Params) : Obj := { cls := (.type "tuple"), data := (.seq #[] 0) }
noncomputable def o72 (P : Params) : Obj := { cls := .none, data := (.fields #[]) }
noncomputable def o73 (P : Params) : Obj := { cls := (.type "tuple"), data := (.seq #[(.str (Str.ofString "a") 273), (.str (Str.ofString "b") 274)] 0) }
noncomputable def o74 (P : Params) : Obj := { cls := (.type "tuple"), data := (.seq #[] 0) }
noncomputable def o75 (P : Params) : Obj := { cls := .none, data := (.func (fd0 (stmtAt 7) (Str.ofString "sub"))) }
noncomputable def o76 (P : Params) : Obj := { cls := (.type "code"), data := (.fields #[(.str (Str.ofString "sub") 270), (.str (Str.ofString "sub") 271), (.str (Str.ofString "/claim/cut.py") 272), (.int (62) 0), (.int (2) 0), (.int (0) 0), (.int (0) 0), (.int (3) 0), (.ref 71), (.bool true), (.int (181) 0), (.ref 72), .none, (.ref 73), (.ref 74), (.ref 75), (.int (275) 0), (.int (62) 0), (.str (Str.ofString "/claim/cut.py") 276)]) }
noncomputable def o77 (P : Params) : Obj := { cls := (.type "function"), data := (.func (fdOf (stmtAt 7) (Str.ofString "sub") (.str (Str.ofString "cpy313.operator") 260) (.ref 76))) }
noncomputable def o78 (P : Params) : Obj := { cls := (.type "tuple"), data := (.seq #[] 0) }
noncomputable def o79 (P : Params) : Obj := { cls := .none, data := (.fields #[]) }
noncomputable def o80 (P : Params) : Obj := { cls := (.type "tuple"), data := (.seq #[(.str (Str.ofString "a") 281), (.str (Str.ofString "b") 282), (.str (Str.ofString "count") 283), (.str (Str.ofString "i") 284)] 0) }
noncomputable def o81 (P : Params) : Obj := { cls := (.type "tuple"), data := (.seq #[] 0) }
noncomputable def o82 (P : Params) : Obj := { cls := .none, data := (.func (fd0 (stmtAt 8) (Str.ofString "countOf"))) }
noncomputable def o83 (P : Params) : Obj := { cls := (.type "code"), data := (.fields #[(.str (Str.ofString "countOf") 278), (.str (Str.ofString "countOf") 279), (.str (Str.ofString "/claim/cut.py") 280), (.int (64) 0), (.int (2) 0), (.int (0) 0), (.int (0) 0), (.int (3) 0), (.ref 78), (.bool true), (.int (181) 0), (.ref 79), .none, (.ref 80), (.ref 81), (.ref 82), (.int (285) 0), (.int (64) 0), (.str (Str.ofString "/claim/cut.py") 286)]) }
noncomputable def o84 (P : Params) : Obj := { cls := (.type "function"), data := (.func (fdOf (stmtAt 8) (Str.ofString "countOf") (.str (Str.ofString "cpy313.operator") 260) (.ref 83))) }
noncomputable def o85 (P : Params) : Obj := { cls := (.type "tuple"), data := (.seq #[] 0) }
noncomputable def o86 (P : Params) : Obj := { cls := .none, data := (.fields #[]) }
noncomputable def o87 (P : Params) : Obj := { cls := (.type "tuple"), data := (.seq #[(.str (Str.ofString "a") 291), (.str (Str.ofString "b") 292)] 0) }
noncomputable def o88 (P : Params) : Obj := { cls := (.type "tuple"), data := (.seq #[] 0) }
noncomputable def o89 (P : Params) : Obj := { cls := .none, data := (.func (fd0 (stmtAt 9) (Str.ofString "iadd"))) }
noncomputable def o90 (P : Params) : Obj := { cls := (.type "code"), data := (.fields #[(.str (Str.ofString "iadd") 288), (.str (Str.ofString "iadd") 289), (.str (Str.ofString "/claim/cut.py") 290), (.int (70) 0), (.int (2) 0), (.int (0) 0), (.int (0) 0), (.int (3) 0), (.ref 85), (.bool true), (.int (181) 0), (.ref 86), .none, (.ref 87), (.ref 88), (.ref 89), (.int (293) 0), (.int (70) 0), (.str (Str.ofString "/claim/cut.py") 294)]) }
noncomputable def o91 (P : Params) : Obj := { cls := (.type "function"), data := (.func (fdOf (stmtAt 9) (Str.ofString "iadd") (.str (Str.ofString "cpy313.operator") 260) (.ref 90))) }
noncomputable def o92 (P : Params) : Obj := { cls := (.type "list"), data := (.seq #[(.int (173) 298), (.int (847) 299), (.int (6150) 300), (.int (6155) 301), (.int (6156) 302), (.int (6157) 303), (.int (8203) 304), (.int (8204) 305), (.int (8205) 306), (.int (8288) 307), (.int (65279) 308)] 0) }
noncomputable def o93 (P : Params) : Obj := { cls := (.type "range"), data := (.fields #[(.int (65024) 309), (.int (65040) 310), (.int (1) 311)]) }
noncomputable def o94 (P : Params) : Obj := { cls := (.type "list"), data := (.seq #[(.int (65024) 314), (.int (65025) 315), (.int (65026) 316), (.int (65027) 317), (.int (65028) 318), (.int (65029) 319), (.int (65030) 320), (.int (65031) 321), (.int (65032) 322), (.int (65033) 323), (.int (65034) 324), (.int (65035) 325), (.int (65036) 326), (.int (65037) 327), (.int (65038) 328), (.int (65039) 329)] 18) }
noncomputable def o95 (P : Params) : Obj := { cls := (.type "range_iterator"), data := (.fields #[(.int (65040) 0), (.int (0) 0), (.int (1) 0)]) }
noncomputable def o96 (P : Params) : Obj := { cls := (.type "tuple"), data := (.seq #[] 0) }
noncomputable def o97 (P : Params) : Obj := { cls := (.type "StopIteration"), data := (.fields #[(.ref 96), .none, .none, .none, (.bool false), .none]) }
noncomputable def o98 (P : Params) : Obj := { cls := (.type "list"), data := (.seq #[(.int (173) 298), (.int (847) 299), (.int (6150) 300), (.int (6155) 301), (.int (6156) 302), (.int (6157) 303), (.int (8203) 304), (.int (8204) 305), (.int (8205) 306), (.int (8288) 307), (.int (65279) 308), (.int (65024) 314), (.int (65025) 315), (.int (65026) 316), (.int (65027) 317), (.int (65028) 318), (.int (65029) 319), (.int (65030) 320), (.int (65031) 321), (.int (65032) 322), (.int (65033) 323), (.int (65034) 324), (.int (65035) 325), (.int (65036) 326), (.int (65037) 327), (.int (65038) 328), (.int (65039) 329)] 0) }
noncomputable def o99 (P : Params) : Obj := { cls := (.type "set"), data := (.set #[(65024, (.int (65024) 314)), (65025, (.int (65025) 315)), (65026, (.int (65026) 316)), (65027, (.int (65027) 317)), (65028, (.int (65028) 318)), (65029, (.int (65029) 319)), (6150, (.int (6150) 300)), (65030, (.int (65030) 320)), (65031, (.int (65031) 321)), (65032, (.int (65032) 322)), (65033, (.int (65033) 323)), (6155, (.int (6155) 301)), (6156, (.int (6156) 302)), (6157, (.int (6157) 303)), (8203, (.int (8203) 304)), (8204, (.int (8204) 305)), (8205, (.int (8205) 306)), (65034, (.int (65034) 324)), (65035, (.int (65035) 325)), (65036, (.int (65036) 326)), (65037, (.int (65037) 327)), (65038, (.int (65038) 328)), (65039, (.int (65039) 329)), (173, (.int (173) 298)), (847, (.int (847) 299)), (8288, (.int (8288) 307)), (65279, (.int (65279) 308))] 29 ⟨127, #[0, 1, 2, 3, 4, 5, 6, 7, 8, 9, 10, 11, 12, 13, 14, 15, 16, 17, 18, 19, 20, 21, 22, 45, 79, 96, 127], #[], 0, !P.followText "set-order", 2, true⟩) }
noncomputable def o100 (P : Params) : Obj := { cls := (.type "list_iterator"), data := (.fields #[.none, (.int (27) 0)]) }
noncomputable def o101 (P : Params) : Obj := { cls := (.type "tuple"), data := (.seq #[] 0) }
noncomputable def o102 (P : Params) : Obj := { cls := (.type "StopIteration"), data := (.fields #[(.ref 101), .none, .none, .none, (.bool false), .none]) }
noncomputable def o103 (P : Params) : Obj := { cls := (.type "tuple"), data := (.seq #[] 0) }
noncomputable def o104 (P : Params) : Obj := { cls := .none, data := (.fields #[]) }
noncomputable def o105 (P : Params) : Obj := { cls := (.type "tuple"), data := (.seq #[(.str (Str.ofString "code") 361)] 0) }
noncomputable def o106 (P : Params) : Obj := { cls := (.type "tuple"), data := (.seq #[] 0) }
noncomputable def o107 (P : Params) : Obj := { cls := .none, data := (.func (fd0 (stmtAt 12) (Str.ofString "in_table_b1"))) }
noncomputable def o108 (P : Params) : Obj := { cls := (.type "code"), data := (.fields #[(.str (Str.ofString "in_table_b1") 358), (.str (Str.ofString "in_table_b1") 359), (.str (Str.ofString "/claim/cut.py") 360), (.int (75) 0), (.int (1) 0), (.int (0) 0), (.int (0) 0), (.int (3) 0), (.ref 103), (.bool true), (.int (181) 0), (.ref 104), .none, (.ref 105), (.ref 106), (.ref 107), (.int (362) 0), (.int (75) 0), (.str (Str.ofString "/claim/cut.py") 363)]) }
noncomputable def o109 (P : Params) : Obj := { cls := (.type "function"), data := (.func (fdOf (stmtAt 12) (Str.ofString "in_table_b1") (.str (Str.ofString "cpy313.stringprep") 296) (.ref 108))) }
noncomputable def o149 (P : Params) : Obj := { cls := (.type "tuple"), data := (.seq #[] 0) }
noncomputable def o150 (P : Params) : Obj := { cls := .none, data := (.fields #[]) }
noncomputable def o151 (P : Params) : Obj := { cls := (.type "tuple"), data := (.seq #[(.str (Str.ofString "code") 2319), (.str (Str.ofString "r") 2320)] 0) }
noncomputable def o152 (P : Params) : Obj := { cls := (.type "tuple"), data := (.seq #[] 0) }
noncomputable def o153 (P : Params) : Obj := { cls := .none, data := (.func (fd0 (stmtAt 14) (Str.ofString "map_table_b3"))) }
noncomputable def o154 (P : Params) : Obj := { cls := (.type "code"), data := (.fields #[(.str (Str.ofString "map_table_b3") 2316), (.str (Str.ofString "map_table_b3") 2317), (.str (Str.ofString "/claim/cut.py") 2318), (.int (78) 0), (.int (1) 0), (.int (0) 0), (.int (0) 0), (.int (3) 0), (.ref 149), (.bool true), (.int (181) 0), (.ref 150), .none, (.ref 151), (.ref 152), (.ref 153), (.int (2321) 0), (.int (78) 0), (.str (Str.ofString "/claim/cut.py") 2322)]) }
noncomputable def o155 (P : Params) : Obj := { cls := (.type "function"), data := (.func (fdOf (stmtAt 14) (Str.ofString "map_table_b3") (.str (Str.ofString "cpy313.stringprep") 296) (.ref 154))) }
noncomputable def o156 (P : Params) : Obj := { cls := (.type "tuple"), data := (.seq #[] 0) }
noncomputable def o157 (P : Params) : Obj := { cls := .none, data := (.fields #[]) }
noncomputable def o158 (P : Params) : Obj := { cls := (.type "tuple"), data := (.seq #[(.str (Str.ofString "text") 2329), (.str (Str.ofString "stream") 2330), (.str (Str.ofString "_law_piece") 2331)] 0) }
noncomputable def o159 (P : Params) : Obj := { cls := (.type "tuple"), data := (.seq #[(.str (Str.ofString "text") 2332), (.str (Str.ofString "gone") 2333)] 0) }
noncomputable def o160 (P : Params) : Obj := { cls := .none, data := (.func (fd0 (stmtAt 16) (Str.ofString "_law_lexer"))) }
noncomputable def o161 (P : Params) : Obj := { cls := (.type "code"), data := (.fields #[(.str (Str.ofString "_law_lexer") 2326), (.str (Str.ofString "_law_lexer") 2327), (.str (Str.ofString "/claim/cut.py") 2328), (.int (84) 0), (.int (1) 0), (.int (0) 0), (.int (0) 0), (.int (3) 0), (.ref 156), (.bool true), (.int (181) 0), (.ref 157), .none, (.ref 158), (.ref 159), (.ref 160), (.int (2334) 0), (.int (84) 0), (.str (Str.ofString "/claim/cut.py") 2335)]) }
noncomputable def o162 (P : Params) : Obj := { cls := (.type "function"), data := (.func (fdOf (stmtAt 16) (Str.ofString "_law_lexer") (.str (Str.ofString "law_tp0040_01") 2324) (.ref 161))) }
noncomputable def o163 (P : Params) : Obj := { cls := (.type "tuple"), data := (.seq #[] 0) }
noncomputable def o164 (P : Params) : Obj := { cls := .none, data := (.fields #[]) }
noncomputable def o165 (P : Params) : Obj := { cls := (.type "tuple"), data := (.seq #[(.str (Str.ofString "sign") 2340), (.str (Str.ofString "turn") 2341), (.str (Str.ofString "place") 2342), (.str (Str.ofString "unseen") 2343), (.str (Str.ofString "kinds") 2344)] 0) }
noncomputable def o166 (P : Params) : Obj := { cls := (.type "tuple"), data := (.seq #[] 0) }
noncomputable def o167 (P : Params) : Obj := { cls := .none, data := (.func (fd0 (stmtAt 17) (Str.ofString "_law_spelled"))) }
noncomputable def o168 (P : Params) : Obj := { cls := (.type "code"), data := (.fields #[(.str (Str.ofString "_law_spelled") 2337), (.str (Str.ofString "_law_spelled") 2338), (.str (Str.ofString "/claim/cut.py") 2339), (.int (94) 0), (.int (2) 0), (.int (0) 0), (.int (0) 0), (.int (3) 0), (.ref 163), (.bool true), (.int (181) 0), (.ref 164), .none, (.ref 165), (.ref 166), (.ref 167), (.int (2345) 0), (.int (94) 0), (.str (Str.ofString "/claim/cut.py") 2346)]) }
noncomputable def o169 (P : Params) : Obj := { cls := (.type "function"), data := (.func (fdOf (stmtAt 17) (Str.ofString "_law_spelled") (.str (Str.ofString "law_tp0040_01") 2324) (.ref 168))) }
noncomputable def o170 (P : Params) : Obj := { cls := (.type "tuple"), data := (.seq #[] 0) }
noncomputable def o171 (P : Params) : Obj := { cls := .none, data := (.fields #[]) }
noncomputable def o172 (P : Params) : Obj := { cls := .none, data := (.func (fd0 (stmtAt 18) (Str.ofString "_law_written"))) }
noncomputable def o173 (P : Params) : Obj := { cls := (.type "code"), data := (.fields #[(.str (Str.ofString "_law_written") 2348), (.str (Str.ofString "_law_written") 2349), (.str (Str.ofString "/claim/cut.py") 2350), (.int (105) 0), (.int (3) 0), (.int (0) 0), (.int (0) 0), (.int (3) 0), (.ref 170), (.bool true), (.int (181) 0), (.ref 171), .none, .none, .none, (.ref 172), (.int (2351) 0), (.int (105) 0), (.str (Str.ofString "/claim/cut.py") 2352)]) }
noncomputable def o174 (P : Params) : Obj := { cls := (.type "function"), data := (.func (fdOf (stmtAt 18) (Str.ofString "_law_written") (.str (Str.ofString "law_tp0040_01") 2324) (.ref 173))) }
noncomputable def o175 (P : Params) : Obj := { cls := (.type "tuple"), data := (.seq #[] 0) }
noncomputable def o176 (P : Params) : Obj := { cls := .none, data := (.fields #[]) }
noncomputable def o177 (P : Params) : Obj := { cls := .none, data := (.func (fd0 (stmtAt 19) (Str.ofString "_law_prepared"))) }
noncomputable def o178 (P : Params) : Obj := { cls := (.type "code"), data := (.fields #[(.str (Str.ofString "_law_prepared") 2354), (.str (Str.ofString "_law_prepared") 2355), (.str (Str.ofString "/claim/cut.py") 2356), (.int (110) 0), (.int (1) 0), (.int (0) 0), (.int (0) 0), (.int (3) 0), (.ref 175), (.bool true), (.int (181) 0), (.ref 176), .none, .none, .none, (.ref 177), (.int (2357) 0), (.int (110) 0), (.str (Str.ofString "/claim/cut.py") 2358)]) }
noncomputable def o179 (P : Params) : Obj := { cls := (.type "function"), data := (.func (fdOf (stmtAt 19) (Str.ofString "_law_prepared") (.str (Str.ofString "law_tp0040_01") 2324) (.ref 178))) }
noncomputable def o180 (P : Params) : Obj := { cls := (.type "tuple"), data := (.seq #[] 0) }
noncomputable def o181 (P : Params) : Obj := { cls := .none, data := (.fields #[]) }
noncomputable def o182 (P : Params) : Obj := { cls := .none, data := (.func (fd0 (stmtAt 20) (Str.ofString "_law_names"))) }
noncomputable def o183 (P : Params) : Obj := { cls := (.type "code"), data := (.fields #[(.str (Str.ofString "_law_names") 2360), (.str (Str.ofString "_law_names") 2361), (.str (Str.ofString "/claim/cut.py") 2362), (.int (112) 0), (.int (4) 0), (.int (0) 0), (.int (0) 0), (.int (3) 0), (.ref 180), (.bool true), (.int (181) 0), (.ref 181), .none, .none, .none, (.ref 182), (.int (2363) 0), (.int (112) 0), (.str (Str.ofString "/claim/cut.py") 2364)]) }
noncomputable def o184 (P : Params) : Obj := { cls := (.type "function"), data := (.func (fdOf (stmtAt 20) (Str.ofString "_law_names") (.str (Str.ofString "law_tp0040_01") 2324) (.ref 183))) }
noncomputable def o185 (P : Params) : Obj := { cls := (.type "tuple"), data := (.seq #[] 0) }
noncomputable def o186 (P : Params) : Obj := { cls := .none, data := (.fields #[]) }
noncomputable def o187 (P : Params) : Obj := { cls := .none, data := (.func (fd0 (stmtAt 21) (Str.ofString "_law_walked"))) }
noncomputable def o188 (P : Params) : Obj := { cls := (.type "code"), data := (.fields #[(.str (Str.ofString "_law_walked") 2366), (.str (Str.ofString "_law_walked") 2367), (.str (Str.ofString "/claim/cut.py") 2368), (.int (114) 0), (.int (2) 0), (.int (0) 0), (.int (0) 0), (.int (3) 0), (.ref 185), (.bool true), (.int (181) 0), (.ref 186), .none, .none, .none, (.ref 187), (.int (2369) 0), (.int (114) 0), (.str (Str.ofString "/claim/cut.py") 2370)]) }
noncomputable def o189 (P : Params) : Obj := { cls := (.type "function"), data := (.func (fdOf (stmtAt 21) (Str.ofString "_law_walked") (.str (Str.ofString "law_tp0040_01") 2324) (.ref 188))) }
noncomputable def o190 (P : Params) : Obj := { cls := (.type "tuple"), data := (.seq #[] 0) }
noncomputable def o191 (P : Params) : Obj := { cls := .none, data := (.fields #[]) }
noncomputable def o192 (P : Params) : Obj := { cls := .none, data := (.func (fd0 (stmtAt 22) (Str.ofString "_law_lined"))) }
noncomputable def o193 (P : Params) : Obj := { cls := (.type "code"), data := (.fields #[(.str (Str.ofString "_law_lined") 2372), (.str (Str.ofString "_law_lined") 2373), (.str (Str.ofString "/claim/cut.py") 2374), (.int (127) 0), (.int (3) 0), (.int (0) 0), (.int (0) 0), (.int (3) 0), (.ref 190), (.bool true), (.int (181) 0), (.ref 191), .none, .none, .none, (.ref 192), (.int (2375) 0), (.int (127) 0), (.str (Str.ofString "/claim/cut.py") 2376)]) }
noncomputable def o194 (P : Params) : Obj := { cls := (.type "function"), data := (.func (fdOf (stmtAt 22) (Str.ofString "_law_lined") (.str (Str.ofString "law_tp0040_01") 2324) (.ref 193))) }
noncomputable def o195 (P : Params) : Obj := { cls := (.type "tuple"), data := (.seq #[] 0) }
noncomputable def o196 (P : Params) : Obj := { cls := .none, data := (.fields #[]) }
noncomputable def o197 (P : Params) : Obj := { cls := .none, data := (.func (fd0 (stmtAt 23) (Str.ofString "_law_levels"))) }
noncomputable def o198 (P : Params) : Obj := { cls := (.type "code"), data := (.fields #[(.str (Str.ofString "_law_levels") 2378), (.str (Str.ofString "_law_levels") 2379), (.str (Str.ofString "/claim/cut.py") 2380), (.int (141) 0), (.int (3) 0), (.int (0) 0), (.int (0) 0), (.int (3) 0), (.ref 195), (.bool true), (.int (181) 0), (.ref 196), .none, .none, .none, (.ref 197), (.int (2381) 0), (.int (141) 0), (.str (Str.ofString "/claim/cut.py") 2382)]) }
noncomputable def o199 (P : Params) : Obj := { cls := (.type "function"), data := (.func (fdOf (stmtAt 23) (Str.ofString "_law_levels") (.str (Str.ofString "law_tp0040_01") 2324) (.ref 198))) }
noncomputable def o200 (P : Params) : Obj := { cls := (.type "tuple"), data := (.seq #[] 0) }
noncomputable def o201 (P : Params) : Obj := { cls := .none, data := (.fields #[]) }
noncomputable def o202 (P : Params) : Obj := { cls := (.type "tuple"), data := (.seq #[(.str (Str.ofString "place") 2387), (.str (Str.ofString "images") 2388), (.str (Str.ofString "start") 2389), (.str (Str.ofString "levels") 2390), (.str (Str.ofString "part") 2391), (.str (Str.ofString "kind") 2392), (.str (Str.ofString "ahead") 2393), (.str (Str.ofString "pairs") 2394), (.str (Str.ofString "heads") 2395), (.str (Str.ofString "child") 2396)] 0) }
noncomputable def o203 (P : Params) : Obj := { cls := (.type "tuple"), data := (.seq #[] 0) }
noncomputable def o204 (P : Params) : Obj := { cls := .none, data := (.func (fd0 (stmtAt 24) (Str.ofString "_law_told"))) }
noncomputable def o205 (P : Params) : Obj := { cls := (.type "code"), data := (.fields #[(.str (Str.ofString "_law_told") 2384), (.str (Str.ofString "_law_told") 2385), (.str (Str.ofString "/claim/cut.py") 2386), (.int (148) 0), (.int (4) 0), (.int (0) 0), (.int (0) 0), (.int (3) 0), (.ref 200), (.bool true), (.int (181) 0), (.ref 201), .none, (.ref 202), (.ref 203), (.ref 204), (.int (2397) 0), (.int (148) 0), (.str (Str.ofString "/claim/cut.py") 2398)]) }
noncomputable def o206 (P : Params) : Obj := { cls := (.type "function"), data := (.func (fdOf (stmtAt 24) (Str.ofString "_law_told") (.str (Str.ofString "law_tp0040_01") 2324) (.ref 205))) }
noncomputable def o207 (P : Params) : Obj := { cls := (.type "tuple"), data := (.seq #[] 0) }
noncomputable def o208 (P : Params) : Obj := { cls := .none, data := (.fields #[]) }
noncomputable def o209 (P : Params) : Obj := { cls := .none, data := (.func (fd0 (stmtAt 25) (Str.ofString "law"))) }
noncomputable def o210 (P : Params) : Obj := { cls := (.type "code"), data := (.fields #[(.str (Str.ofString "law") 2400), (.str (Str.ofString "law") 2401), (.str (Str.ofString "/claim/cut.py") 2402), (.int (160) 0), (.int (1) 0), (.int (0) 0), (.int (0) 0), (.int (3) 0), (.ref 207), (.bool true), (.int (181) 0), (.ref 208), .none, .none, .none, (.ref 209), (.int (2403) 0), (.int (160) 0), (.str (Str.ofString "/claim/cut.py") 2404)]) }
noncomputable def o211 (P : Params) : Obj := { cls := (.type "function"), data := (.func (fdOf (stmtAt 25) (Str.ofString "law") (.str (Str.ofString "law_tp0040_01") 2324) (.ref 210))) }
noncomputable def K (P : Params) : Frag :=
  (nat_lit 2, o2 P) :: (nat_lit 3, o3 P) :: (nat_lit 15, o15 P) :: (nat_lit 17, o17 P) :: (nat_lit 18, o18 P) :: (nat_lit 20, o20 P) :: (nat_lit 21, o21 P) :: (nat_lit 29, o29 P) :: (nat_lit 31, o31 P) :: (nat_lit 32, o32 P) :: (nat_lit 34, o34 P) :: (nat_lit 35, o35 P) :: (nat_lit 36, o36 P) :: (nat_lit 38, o38 P) :: (nat_lit 39, o39 P) :: (nat_lit 41, o41 P) :: (nat_lit 42, o42 P) :: (nat_lit 43, o43 P) :: (nat_lit 45, o45 P) :: (nat_lit 46, o46 P) :: (nat_lit 48, o48 P) :: (nat_lit 49, o49 P) :: (nat_lit 50, o50 P) :: (nat_lit 52, o52 P) :: (nat_lit 53, o53 P) :: (nat_lit 55, o55 P) :: (nat_lit 56, o56 P) :: (nat_lit 57, o57 P) :: (nat_lit 58, o58 P) :: (nat_lit 59, o59 P) :: (nat_lit 60, o60 P) :: (nat_lit 61, o61 P) :: (nat_lit 64, o64 P) :: (nat_lit 66, o66 P) :: (nat_lit 67, o67 P) :: (nat_lit 69, o69 P) :: (nat_lit 70, o70 P) :: (nat_lit 71, o71 P) :: (nat_lit 73, o73 P) :: (nat_lit 74, o74 P) :: (nat_lit 76, o76 P) :: (nat_lit 77, o77 P) :: (nat_lit 78, o78 P) :: (nat_lit 80, o80 P) :: (nat_lit 81, o81 P) :: (nat_lit 83, o83 P) :: (nat_lit 84, o84 P) :: (nat_lit 85, o85 P) :: (nat_lit 87, o87 P) :: (nat_lit 88, o88 P) :: (nat_lit 90, o90 P) :: (nat_lit 91, o91 P) :: (nat_lit 99, o99 P) :: (nat_lit 103, o103 P) :: (nat_lit 105, o105 P) :: (nat_lit 106, o106 P) :: (nat_lit 108, o108 P) :: (nat_lit 109, o109 P) :: (nat_lit 110, o110 P) :: (nat_lit 149, o149 P) :: (nat_lit 151, o151 P) :: (nat_lit 152, o152 P) :: (nat_lit 154, o154 P) :: (nat_lit 155, o155 P) :: (nat_lit 156, o156 P) :: (nat_lit 158, o158 P) :: (nat_lit 159, o159 P) :: (nat_lit 161, o161 P) :: (nat_lit 162, o162 P) :: (nat_lit 163, o163 P) :: (nat_lit 165, o165 P) :: (nat_lit 166, o166 P) :: (nat_lit 168, o168 P) :: (nat_lit 169, o169 P) :: (nat_lit 170, o170 P) :: (nat_lit 173, o173 P) :: (nat_lit 174, o174 P) :: (nat_lit 175, o175 P) :: (nat_lit 178, o178 P) :: (nat_lit 179, o179 P) :: (nat_lit 180, o180 P) :: (nat_lit 183, o183 P) :: (nat_lit 184, o184 P) :: (nat_lit 185, o185 P) :: (nat_lit 188, o188 P) :: (nat_lit 189, o189 P) :: (nat_lit 190, o190 P) :: (nat_lit 193, o193 P) :: (nat_lit 194, o194 P) :: (nat_lit 195, o195 P) :: (nat_lit 198, o198 P) :: (nat_lit 199, o199 P) :: (nat_lit 200, o200 P) :: (nat_lit 202, o202 P) :: (nat_lit 203, o203 P) :: (nat_lit 205, o205 P) :: (nat_lit 206, o206 P) :: (nat_lit 207, o207 P) :: (nat_lit 210, o210 P) :: (nat_lit 211, o211 P) :: []
noncomputable def loose : List Str := ["CHAR_MAX", "_grouping_intervals", "_netrclex", "mul", "sub", "countOf", "iadd", "b1_set", "in_table_b1", "b3_exceptions", "map_table_b3", "_law_lexer", "_law_spelled", "_law_written", "_law_prepared", "_law_names", "_law_walked", "_law_lined", "_law_levels", "_law_told"]
noncomputable def view : Program := { pw with main := { pw.main with body := [stmtAt 25] } }
noncomputable def as : List Addr := [nat_lit 2, nat_lit 3, nat_lit 15, nat_lit 17, nat_lit 18, nat_lit 20, nat_lit 21, nat_lit 29, nat_lit 31, nat_lit 32, nat_lit 34, nat_lit 35, nat_lit 36, nat_lit 38, nat_lit 39, nat_lit 41, nat_lit 42, nat_lit 43, nat_lit 45, nat_lit 46, nat_lit 48, nat_lit 49, nat_lit 50, nat_lit 52, nat_lit 53, nat_lit 55, nat_lit 56, nat_lit 57, nat_lit 58, nat_lit 59, nat_lit 60, nat_lit 61, nat_lit 64, nat_lit 66, nat_lit 67, nat_lit 69, nat_lit 70, nat_lit 71, nat_lit 73, nat_lit 74, nat_lit 76, nat_lit 77, nat_lit 78, nat_lit 80, nat_lit 81, nat_lit 83, nat_lit 84, nat_lit 85, nat_lit 87, nat_lit 88, nat_lit 90, nat_lit 91, nat_lit 99, nat_lit 103, nat_lit 105, nat_lit 106, nat_lit 108, nat_lit 109, nat_lit 110, nat_lit 149, nat_lit 151, nat_lit 152, nat_lit 154, nat_lit 155, nat_lit 156, nat_lit 158, nat_lit 159, nat_lit 161, nat_lit 162, nat_lit 163, nat_lit 165, nat_lit 166, nat_lit 168, nat_lit 169, nat_lit 170, nat_lit 173, nat_lit 174, nat_lit 175, nat_lit 178, nat_lit 179, nat_lit 180, nat_lit 183, nat_lit 184, nat_lit 185, nat_lit 188, nat_lit 189, nat_lit 190, nat_lit 193, nat_lit 194, nat_lit 195, nat_lit 198, nat_lit 199, nat_lit 200, nat_lit 202, nat_lit 203, nat_lit 205, nat_lit 206, nat_lit 207, nat_lit 210, nat_lit 211]
theorem as_eq : ∀ P, as = (K P).map (·.1) := fun _ => by kernel_rfl
noncomputable def o3_pre (P : Params) : Obj := { cls := (.type "dict"), data := (.dict #[⟨PyData.keyHash P (Str.ofString "__name__"), (.str (Str.ofString "__name__") 165), (.str (Str.ofString "__main__") 164)⟩, ⟨PyData.keyHash P (Str.ofString "__doc__"), (.str (Str.ofString "__doc__") 166), .none⟩, ⟨PyData.keyHash P (Str.ofString "__package__"), (.str (Str.ofString "__package__") 167), .none⟩, ⟨PyData.keyHash P (Str.ofString "__loader__"), (.str (Str.ofString "__loader__") 168), (.builtin "__main__.__loader__#opaque")⟩, ⟨PyData.keyHash P (Str.ofString "__spec__"), (.str (Str.ofString "__spec__") 169), .none⟩, ⟨PyData.keyHash P (Str.ofString "__annotations__"), (.str (Str.ofString "__annotations__") 170), (.ref 6)⟩, ⟨PyData.keyHash P (Str.ofString "__builtins__"), (.str (Str.ofString "__builtins__") 171), (.ref 4)⟩, ⟨PyData.keyHash P (Str.ofString "__file__"), (.str (Str.ofString "__file__") 173), (.str (Str.ofString "/claim/cut.py") 172)⟩, ⟨PyData.keyHash P (Str.ofString "__cached__"), (.str (Str.ofString "__cached__") 174), .none⟩] 9) }
noncomputable def o12_pre (P : Params) : Obj := { cls := .none, data := (.fields #[]) }
noncomputable def o3_p10 (P : Params) : Obj := { cls := (.type "dict"), data := (.dict #[⟨PyData.keyHash P (Str.ofString "__name__"), (.str (Str.ofString "__name__") 165), (.str (Str.ofString "cpy313.stringprep") 296)⟩, ⟨PyData.keyHash P (Str.ofString "__doc__"), (.str (Str.ofString "__doc__") 166), .none⟩, ⟨PyData.keyHash P (Str.ofString "__package__"), (.str (Str.ofString "__package__") 167), .none⟩, ⟨PyData.keyHash P (Str.ofString "__loader__"), (.str (Str.ofString "__loader__") 168), (.builtin "__main__.__loader__#opaque")⟩, ⟨PyData.keyHash P (Str.ofString "__spec__"), (.str (Str.ofString "__spec__") 169), .none⟩, ⟨PyData.keyHash P (Str.ofString "__annotations__"), (.str (Str.ofString "__annotations__") 170), (.ref 6)⟩, ⟨PyData.keyHash P (Str.ofString "__builtins__"), (.str (Str.ofString "__builtins__") 171), (.ref 4)⟩, ⟨PyData.keyHash P (Str.ofString "__file__"), (.str (Str.ofString "__file__") 173), (.str (Str.ofString "/claim/cut.py") 172)⟩, ⟨PyData.keyHash P (Str.ofString "__cached__"), (.str (Str.ofString "__cached__") 174), .none⟩, ⟨PyData.keyHash P (Str.ofString "CHAR_MAX"), (.str (Str.ofString "CHAR_MAX") 190), (.int (127) 189)⟩, ⟨PyData.keyHash P (Str.ofString "_grouping_intervals"), (.str (Str.ofString "_grouping_intervals") 199), (.ref 21)⟩, ⟨PyData.keyHash P (Str.ofString "_netrclex"), (.str (Str.ofString "_netrclex") 259), (.ref 59)⟩, ⟨PyData.keyHash P (Str.ofString "mul"), (.str (Str.ofString "mul") 269), (.ref 70)⟩, ⟨PyData.keyHash P (Str.ofString "sub"), (.str (Str.ofString "sub") 277), (.ref 77)⟩, ⟨PyData.keyHash P (Str.ofString "countOf"), (.str (Str.ofString "countOf") 287), (.ref 84)⟩, ⟨PyData.keyHash P (Str.ofString "iadd"), (.str (Str.ofString "iadd") 295), (.ref 91)⟩] 16) }
noncomputable def o12_p10 (P : Params) : Obj := { cls := .none, data := (.fields #[(.int (3) 0), (.int (0) 0), (.ref 20), (.int (16) 0), (.int (0) 0), (.ref 27), (.int (60) 0), (.int (0) 0), (.ref 69), (.int (62) 0), (.int (0) 0), (.ref 76), (.int (64) 0), (.int (0) 0), (.ref 83), (.int (70) 0), (.int (0) 0), (.ref 90)]) }
noncomputable def o3_p11 (P : Params) : Obj := { cls := (.type "dict"), data := (.dict #[⟨PyData.keyHash P (Str.ofString "__name__"), (.str (Str.ofString "__name__") 165), (.str (Str.ofString "cpy313.stringprep") 296)⟩, ⟨PyData.keyHash P (Str.ofString "__doc__"), (.str (Str.ofString "__doc__") 166), .none⟩, ⟨PyData.keyHash P (Str.ofString "__package__"), (.str (Str.ofString "__package__") 167), .none⟩, ⟨PyData.keyHash P (Str.ofString "__loader__"), (.str (Str.ofString "__loader__") 168), (.builtin "__main__.__loader__#opaque")⟩, ⟨PyData.keyHash P (Str.ofString "__spec__"), (.str (Str.ofString "__spec__") 169), .none⟩, ⟨PyData.keyHash P (Str.ofString "__annotations__"), (.str (Str.ofString "__annotations__") 170), (.ref 6)⟩, ⟨PyData.keyHash P (Str.ofString "__builtins__"), (.str (Str.ofString "__builtins__") 171), (.ref 4)⟩, ⟨PyData.keyHash P (Str.ofString "__file__"), (.str (Str.ofString "__file__") 173), (.str (Str.ofString "/claim/cut.py") 172)⟩, ⟨PyData.keyHash P (Str.ofString "__cached__"), (.str (Str.ofString "__cached__") 174), .none⟩, ⟨PyData.keyHash P (Str.ofString "CHAR_MAX"), (.str (Str.ofString "CHAR_MAX") 190), (.int (127) 189)⟩, ⟨PyData.keyHash P (Str.ofString "_grouping_intervals"), (.str (Str.ofString "_grouping_intervals") 199), (.ref 21)⟩, ⟨PyData.keyHash P (Str.ofString "_netrclex"), (.str (Str.ofString "_netrclex") 259), (.ref 59)⟩, ⟨PyData.keyHash P (Str.ofString "mul"), (.str (Str.ofString "mul") 269), (.ref 70)⟩, ⟨PyData.keyHash P (Str.ofString "sub"), (.str (Str.ofString "sub") 277), (.ref 77)⟩, ⟨PyData.keyHash P (Str.ofString "countOf"), (.str (Str.ofString "countOf") 287), (.ref 84)⟩, ⟨PyData.keyHash P (Str.ofString "iadd"), (.str (Str.ofString "iadd") 295), (.ref 91)⟩, ⟨PyData.keyHash P (Str.ofString "b1_set"), (.str (Str.ofString "b1_set") 357), (.ref 99)⟩] 17) }
noncomputable def o12_p11 (P : Params) : Obj := { cls := .none, data := (.fields #[(.int (3) 0), (.int (0) 0), (.ref 20), (.int (16) 0), (.int (0) 0), (.ref 27), (.int (60) 0), (.int (0) 0), (.ref 69), (.int (62) 0), (.int (0) 0), (.ref 76), (.int (64) 0), (.int (0) 0), (.ref 83), (.int (70) 0), (.int (0) 0), (.ref 90)]) }
noncomputable def o3_p12 (P : Params) : Obj := { cls := (.type "dict"), data := (.dict #[⟨PyData.keyHash P (Str.ofString "__name__"), (.str (Str.ofString "__name__") 165), (.str (Str.ofString "cpy313.stringprep") 296)⟩, ⟨PyData.keyHash P (Str.ofString "__doc__"), (.str (Str.ofString "__doc__") 166), .none⟩, ⟨PyData.keyHash P (Str.ofString "__package__"), (.str (Str.ofString "__package__") 167), .none⟩, ⟨PyData.keyHash P (Str.ofString "__loader__"), (.str (Str.ofString "__loader__") 168), (.builtin "__main__.__loader__#opaque")⟩, ⟨PyData.keyHash P (Str.ofString "__spec__"), (.str (Str.ofString "__spec__") 169), .none⟩, ⟨PyData.keyHash P (Str.ofString "__annotations__"), (.str (Str.ofString "__annotations__") 170), (.ref 6)⟩, ⟨PyData.keyHash P (Str.ofString "__builtins__"), (.str (Str.ofString "__builtins__") 171), (.ref 4)⟩, ⟨PyData.keyHash P (Str.ofString "__file__"), (.str (Str.ofString "__file__") 173), (.str (Str.ofString "/claim/cut.py") 172)⟩, ⟨PyData.keyHash P (Str.ofString "__cached__"), (.str (Str.ofString "__cached__") 174), .none⟩, ⟨PyData.keyHash P (Str.ofString "CHAR_MAX"), (.str (Str.ofString "CHAR_MAX") 190), (.int (127) 189)⟩, ⟨PyData.keyHash P (Str.ofString "_grouping_intervals"), (.str (Str.ofString "_grouping_intervals") 199), (.ref 21)⟩, ⟨PyData.keyHash P (Str.ofString "_netrclex"), (.str (Str.ofString "_netrclex") 259), (.ref 59)⟩, ⟨PyData.keyHash P (Str.ofString "mul"), (.str (Str.ofString "mul") 269), (.ref 70)⟩, ⟨PyData.keyHash P (Str.ofString "sub"), (.str (Str.ofString "sub") 277), (.ref 77)⟩, ⟨PyData.keyHash P (Str.ofString "countOf"), (.str (Str.ofString "countOf") 287), (.ref 84)⟩, ⟨PyData.keyHash P (Str.ofString "iadd"), (.str (Str.ofString "iadd") 295), (.ref 91)⟩, ⟨PyData.keyHash P (Str.ofString "b1_set"), (.str (Str.ofString "b1_set") 357), (.ref 99)⟩, ⟨PyData.keyHash P (Str.ofString "in_table_b1"), (.str (Str.ofString "in_table_b1") 364), (.ref 109)⟩] 18) }
noncomputable def o12_p12 (P : Params) : Obj := { cls := .none, data := (.fields #[(.int (3) 0), (.int (0) 0), (.ref 20), (.int (16) 0), (.int (0) 0), (.ref 27), (.int (60) 0), (.int (0) 0), (.ref 69), (.int (62) 0), (.int (0) 0), (.ref 76), (.int (64) 0), (.int (0) 0), (.ref 83), (.int (70) 0), (.int (0) 0), (.ref 90), (.int (75) 0), (.int (0) 0), (.ref 108)]) }
noncomputable def o3_p13 (P : Params) : Obj := { cls := (.type "dict"), data := (.dict #[⟨PyData.keyHash P (Str.ofString "__name__"), (.str (Str.ofString "__name__") 165), (.str (Str.ofString "cpy313.stringprep") 296)⟩, ⟨PyData.keyHash P (Str.ofString "__doc__"), (.str (Str.ofString "__doc__") 166), .none⟩, ⟨PyData.keyHash P (Str.ofString "__package__"), (.str (Str.ofString "__package__") 167), .none⟩, ⟨PyData.keyHash P (Str.ofString "__loader__"), (.str (Str.ofString "__loader__") 168), (.builtin "__main__.__loader__#opaque")⟩, ⟨PyData.keyHash P (Str.ofString "__spec__"), (.str (Str.ofString "__spec__") 169), .none⟩, ⟨PyData.keyHash P (Str.ofString "__annotations__"), (.str (Str.ofString "__annotations__") 170), (.ref 6)⟩, ⟨PyData.keyHash P (Str.ofString "__builtins__"), (.str (Str.ofString "__builtins__") 171), (.ref 4)⟩, ⟨PyData.keyHash P (Str.ofString "__file__"), (.str (Str.ofString "__file__") 173), (.str (Str.ofString "/claim/cut.py") 172)⟩, ⟨PyData.keyHash P (Str.ofString "__cached__"), (.str (Str.ofString "__cached__") 174), .none⟩, ⟨PyData.keyHash P (Str.ofString "CHAR_MAX"), (.str (Str.ofString "CHAR_MAX") 190), (.int (127) 189)⟩, ⟨PyData.keyHash P (Str.ofString "_grouping_intervals"), (.str (Str.ofString "_grouping_intervals") 199), (.ref 21)⟩, ⟨PyData.keyHash P (Str.ofString "_netrclex"), (.str (Str.ofString "_netrclex") 259), (.ref 59)⟩, ⟨PyData.keyHash P (Str.ofString "mul"), (.str (Str.ofString "mul") 269), (.ref 70)⟩, ⟨PyData.keyHash P (Str.ofString "sub"), (.str (Str.ofString "sub") 277), (.ref 77)⟩, ⟨PyData.keyHash P (Str.ofString "countOf"), (.str (Str.ofString "countOf") 287), (.ref 84)⟩, ⟨PyData.keyHash P (Str.ofString "iadd"), (.str (Str.ofString "iadd") 295), (.ref 91)⟩, ⟨PyData.keyHash P (Str.ofString "b1_set"), (.str (Str.ofString "b1_set") 357), (.ref 99)⟩, ⟨PyData.keyHash P (Str.ofString "in_table_b1"), (.str (Str.ofString "in_table_b1") 364), (.ref 109)⟩, ⟨PyData.keyHash P (Str.ofString "b3_exceptions"), (.str (Str.ofString "b3_exceptions") 2315), (.ref 110)⟩] 19) }
noncomputable def o12_p13 (P : Params) : Obj := { cls := .none, data := (.fields #[(.int (3) 0), (.int (0) 0), (.ref 20), (.int (16) 0), (.int (0) 0), (.ref 27), (.int (60) 0), (.int (0) 0), (.ref 69), (.int (62) 0), (.int (0) 0), (.ref 76), (.int (64) 0), (.int (0) 0), (.ref 83), (.int (70) 0), (.int (0) 0), (.ref 90), (.int (75) 0), (.int (0) 0), (.ref 108)]) }
end Mine
end
section
open PySem PySem.W PyProof.Rows PySem.Spec PySem.Calls
namespace Mine
noncomputable abbrev Nm := Str → Option Value
noncomputable abbrev setN (m : Nm) (x : Str) (v : Value) : Nm := fun z => if z = x then some v else m z
theorem fixN {m : Nm} {x : Str} {v : Value} (h : m x = some v) : setN m x v = m := by
  funext z
  by_cases e : z = x
  · rw [e, h]; exact if_pos rfl
  · exact if_neg e
theorem fixF {h₀ h : Heap} {L : Addr} {m : Nm} {x : Str} {v : Value} (F : Fr h₀ L h m) (e : m x = some v) : Fr h₀ L h (setN m x v) := by
  rw [fixN e]; exact F
theorem fixF2 {h₀ h : Heap} {L : Addr} {m : Nm} {x0 x1 : Str} {v0 v1 : Value} (F : Fr h₀ L h m) (e0 : m x0 = some v0) (e1 : m x1 = some v1) : Fr h₀ L h (setN (setN m x0 v0) x1 v1) := by
  rw [fixN e0, fixN e1]; exact F
theorem fixF3 {h₀ h : Heap} {L : Addr} {m : Nm} {x0 x1 x2 : Str} {v0 v1 v2 : Value} (F : Fr h₀ L h m) (e0 : m x0 = some v0) (e1 : m x1 = some v1) (e2 : m x2 = some v2) : Fr h₀ L h (setN (setN (setN m x0 v0) x1 v1) x2 v2) := by
  rw [fixN e0, fixN e1, fixN e2]; exact F
theorem fixF4 {h₀ h : Heap} {L : Addr} {m : Nm} {x0 x1 x2 x3 : Str} {v0 v1 v2 v3 : Value} (F : Fr h₀ L h m) (e0 : m x0 = some v0) (e1 : m x1 = some v1) (e2 : m x2 = some v2) (e3 : m x3 = some v3) : Fr h₀ L h (setN (setN (setN (setN m x0 v0) x1 v1) x2 v2) x3 v3) := by
  rw [fixN e0, fixN e1, fixN e2, fixN e3]; exact F
theorem fixF5 {h₀ h : Heap} {L : Addr} {m : Nm} {x0 x1 x2 x3 x4 : Str} {v0 v1 v2 v3 v4 : Value} (F : Fr h₀ L h m) (e0 : m x0 = some v0) (e1 : m x1 = some v1) (e2 : m x2 = some v2) (e3 : m x3 = some v3) (e4 : m x4 = some v4) : Fr h₀ L h (setN (setN (setN (setN (setN m x0 v0) x1 v1) x2 v2) x3 v3) x4 v4) := by
  rw [fixN e0, fixN e1, fixN e2, fixN e3, fixN e4]; exact F
theorem fixF6 {h₀ h : Heap} {L : Addr} {m : Nm} {x0 x1 x2 x3 x4 x5 : Str} {v0 v1 v2 v3 v4 v5 : Value} (F : Fr h₀ L h m) (e0 : m x0 = some v0) (e1 : m x1 = some v1) (e2 : m x2 = some v2) (e3 : m x3 = some v3) (e4 : m x4 = some v4) (e5 : m x5 = some v5) : Fr h₀ L h (setN (setN (setN (setN (setN (setN m x0 v0) x1 v1) x2 v2) x3 v3) x4 v4) x5 v5) := by
  rw [fixN e0, fixN e1, fixN e2, fixN e3, fixN e4, fixN e5]; exact F
theorem fixF7 {h₀ h : Heap} {L : Addr} {m : Nm} {x0 x1 x2 x3 x4 x5 x6 : Str} {v0 v1 v2 v3 v4 v5 v6 : Value} (F : Fr h₀ L h m) (e0 : m x0 = some v0) (e1 : m x1 = some v1) (e2 : m x2 = some v2) (e3 : m x3 = some v3) (e4 : m x4 = some v4) (e5 : m x5 = some v5) (e6 : m x6 = some v6) : Fr h₀ L h (setN (setN (setN (setN (setN (setN (setN m x0 v0) x1 v1) x2 v2) x3 v3) x4 v4) x5 v5) x6 v6) := by
  rw [fixN e0, fixN e1, fixN e2, fixN e3, fixN e4, fixN e5, fixN e6]; exact F
theorem fixF8 {h₀ h : Heap} {L : Addr} {m : Nm} {x0 x1 x2 x3 x4 x5 x6 x7 : Str} {v0 v1 v2 v3 v4 v5 v6 v7 : Value} (F : Fr h₀ L h m) (e0 : m x0 = some v0) (e1 : m x1 = some v1) (e2 : m x2 = some v2) (e3 : m x3 = some v3) (e4 : m x4 = some v4) (e5 : m x5 = some v5) (e6 : m x6 = some v6) (e7 : m x7 = some v7) : Fr h₀ L h (setN (setN (setN (setN (setN (setN (setN (setN m x0 v0) x1 v1) x2 v2) x3 v3) x4 v4) x5 v5) x6 v6) x7 v7) := by
  rw [fixN e0, fixN e1, fixN e2, fixN e3, fixN e4, fixN e5, fixN e6, fixN e7]; exact F
theorem fixF9 {h₀ h : Heap} {L : Addr} {m : Nm} {x0 x1 x2 x3 x4 x5 x6 x7 x8 : Str} {v0 v1 v2 v3 v4 v5 v6 v7 v8 : Value} (F : Fr h₀ L h m) (e0 : m x0 = some v0) (e1 : m x1 = some v1) (e2 : m x2 = some v2) (e3 : m x3 = some v3) (e4 : m x4 = some v4) (e5 : m x5 = some v5) (e6 : m x6 = some v6) (e7 : m x7 = some v7) (e8 : m x8 = some v8) : Fr h₀ L h (setN (setN (setN (setN (setN (setN (setN (setN (setN m x0 v0) x1 v1) x2 v2) x3 v3) x4 v4) x5 v5) x6 v6) x7 v7) x8 v8) := by
  rw [fixN e0, fixN e1, fixN e2, fixN e3, fixN e4, fixN e5, fixN e6, fixN e7, fixN e8]; exact F
theorem fixF10 {h₀ h : Heap} {L : Addr} {m : Nm} {x0 x1 x2 x3 x4 x5 x6 x7 x8 x9 : Str} {v0 v1 v2 v3 v4 v5 v6 v7 v8 v9 : Value} (F : Fr h₀ L h m) (e0 : m x0 = some v0) (e1 : m x1 = some v1) (e2 : m x2 = some v2) (e3 : m x3 = some v3) (e4 : m x4 = some v4) (e5 : m x5 = some v5) (e6 : m x6 = some v6) (e7 : m x7 = some v7) (e8 : m x8 = some v8) (e9 : m x9 = some v9) : Fr h₀ L h (setN (setN (setN (setN (setN (setN (setN (setN (setN (setN m x0 v0) x1 v1) x2 v2) x3 v3) x4 v4) x5 v5) x6 v6) x7 v7) x8 v8) x9 v9) := by
  rw [fixN e0, fixN e1, fixN e2, fixN e3, fixN e4, fixN e5, fixN e6, fixN e7, fixN e8, fixN e9]; exact F
theorem hideF1 {C : Prop} {h₀ h : Heap} {L : Addr} {m : Nm} {x0 : Str} {v0 : Value} (F : Fr h₀ L h m) (e0 : m x0 = some v0) (k : ∀ m' : Nm, Fr h₀ L h (setN m' x0 v0) → C) : C := k m (fixF F e0)
theorem hideF2 {C : Prop} {h₀ h : Heap} {L : Addr} {m : Nm} {x0 x1 : Str} {v0 v1 : Value} (F : Fr h₀ L h m) (e0 : m x0 = some v0) (e1 : m x1 = some v1) (k : ∀ m' : Nm, Fr h₀ L h (setN (setN m' x0 v0) x1 v1) → C) : C := k m (fixF2 F e0 e1)
theorem hideF3 {C : Prop} {h₀ h : Heap} {L : Addr} {m : Nm} {x0 x1 x2 : Str} {v0 v1 v2 : Value} (F : Fr h₀ L h m) (e0 : m x0 = some v0) (e1 : m x1 = some v1) (e2 : m x2 = some v2) (k : ∀ m' : Nm, Fr h₀ L h (setN (setN (setN m' x0 v0) x1 v1) x2 v2) → C) : C := k m (fixF3 F e0 e1 e2)
theorem hideF4 {C : Prop} {h₀ h : Heap} {L : Addr} {m : Nm} {x0 x1 x2 x3 : Str} {v0 v1 v2 v3 : Value} (F : Fr h₀ L h m) (e0 : m x0 = some v0) (e1 : m x1 = some v1) (e2 : m x2 = some v2) (e3 : m x3 = some v3) (k : ∀ m' : Nm, Fr h₀ L h (setN (setN (setN (setN m' x0 v0) x1 v1) x2 v2) x3 v3) → C) : C := k m (fixF4 F e0 e1 e2 e3)
theorem hideF5 {C : Prop} {h₀ h : Heap} {L : Addr} {m : Nm} {x0 x1 x2 x3 x4 : Str} {v0 v1 v2 v3 v4 : Value} (F : Fr h₀ L h m) (e0 : m x0 = some v0) (e1 : m x1 = some v1) (e2 : m x2 = some v2) (e3 : m x3 = some v3) (e4 : m x4 = some v4) (k : ∀ m' : Nm, Fr h₀ L h (setN (setN (setN (setN (setN m' x0 v0) x1 v1) x2 v2) x3 v3) x4 v4) → C) : C := k m (fixF5 F e0 e1 e2 e3 e4)
/-- what comes after, under a name of its own -/
theorem hideQ {α : Type} {M : Model} {A : Around} {c : Sem α} {Q : α → Shared → Prop} {E : Value → Shared → Prop} {s : Shared} (h : ∀ Q' : α → Shared → Prop, (∀ v s', Q v s' → Q' v s') → wpAny M A c Q' E s) : wpAny M A c Q E s := h Q fun _ _ e => e
theorem hideT {α : Type} {M : Model} {A : Around} {c : Sem α} {Q : α → Shared → Prop} {E : Value → Shared → Prop} {h : Heap} {g : Array GenState} {d : Drawn} {t : Nat} {o : OsState} (k : ∀ tk, wpAny M A c Q E ⟨h, g, d, tk, o⟩) : wpAny M A c Q E ⟨h, g, d, t, o⟩ := k t
/-- an int has been told -/
inductive AtInt (h₀ : Heap) (L : Addr) (m : Nm) (led : List (Addr × Obj)) (g : Array GenState) (d : Drawn) (o : OsState) (v : Int) : Value → Shared → Prop
  | mk {h : Heap} {tk : Nat} {t : Tok} {w : Int} (e : v = w) (F : Fr h₀ L h m) (N : News h₀ L h led) : AtInt h₀ L m led g d o v (.int w t) ⟨h, g, d, tk, o⟩
theorem cutI {M : Model} {A : Around} {c : Sem Value} {Q : Value → Shared → Prop} {E : Value → Shared → Prop} {h₀ h : Heap} {L : Addr} {m : Nm} {led : List (Addr × Obj)} {g : Array GenState} {d : Drawn} {t : Nat} {o : OsState} (v : Int) (_F : Fr h₀ L h m) (_N : News h₀ L h led)
    (hc : wpAny M A c (AtInt h₀ L m led g d o v) E ⟨h, g, d, t, o⟩) (k : ∀ h tk t, Fr h₀ L h m → News h₀ L h led → Q (.int v t) ⟨h, g, d, tk, o⟩) : wpAny M A c Q E ⟨h, g, d, t, o⟩ :=
  wpAny_mono hc (fun v' s' z => z.casesOn fun e F N => e ▸ k _ _ _ F N) fun _ _ e => e
theorem cut1 {M : Model} {A : Around} {env : Env} {Q : Flow → Shared → Prop} {E : Value → Shared → Prop} {s : Shared} {a0 : Stmt} {rest : List Stmt} (P : Shared → Prop) (T : ∀ s', P s' → wpAny M A (execs rest env) Q E s') (h : ∀ R, (∀ s', P s' → wpAny M A (execs R env) Q E s') → wpAny M A (execs (a0 :: R) env) Q E s) : wpAny M A (execs (a0 :: rest) env) Q E s := h rest T
theorem cut2 {M : Model} {A : Around} {env : Env} {Q : Flow → Shared → Prop} {E : Value → Shared → Prop} {s : Shared} {a0 a1 : Stmt} {rest : List Stmt} (P : Shared → Prop) (T : ∀ s', P s' → wpAny M A (execs rest env) Q E s') (h : ∀ R, (∀ s', P s' → wpAny M A (execs R env) Q E s') → wpAny M A (execs (a0 :: a1 :: R) env) Q E s) : wpAny M A (execs (a0 :: a1 :: rest) env) Q E s := h rest T
theorem cut3 {M : Model} {A : Around} {env : Env} {Q : Flow → Shared → Prop} {E : Value → Shared → Prop} {s : Shared} {a0 a1 a2 : Stmt} {rest : List Stmt} (P : Shared → Prop) (T : ∀ s', P s' → wpAny M A (execs rest env) Q E s') (h : ∀ R, (∀ s', P s' → wpAny M A (execs R env) Q E s') → wpAny M A (execs (a0 :: a1 :: a2 :: R) env) Q E s) : wpAny M A (execs (a0 :: a1 :: a2 :: rest) env) Q E s := h rest T
theorem cut4 {M : Model} {A : Around} {env : Env} {Q : Flow → Shared → Prop} {E : Value → Shared → Prop} {s : Shared} {a0 a1 a2 a3 : Stmt} {rest : List Stmt} (P : Shared → Prop) (T : ∀ s', P s' → wpAny M A (execs rest env) Q E s') (h : ∀ R, (∀ s', P s' → wpAny M A (execs R env) Q E s') → wpAny M A (execs (a0 :: a1 :: a2 :: a3 :: R) env) Q E s) : wpAny M A (execs (a0 :: a1 :: a2 :: a3 :: rest) env) Q E s := h rest T
/-- short proofs for what the walker asks again and again: room, units, order of addresses -/
theorem roomA {d dp k : Nat} (h : dp + k < recursionLimit) (e : d ≤ dp + k) : d < recursionLimit := Nat.lt_of_le_of_lt e h
theorem unitA {d un k : Nat} (h : un + k < cLine) (e : d ≤ un + k) : d < cLine := Nat.lt_of_le_of_lt e h
theorem leA0 (d k : Nat) : d ≤ d + k := Nat.le_add_right _ _
theorem leA1 (d k : Nat) : d + 1 ≤ d + (k + 1) := by omega
theorem leA2 (d k : Nat) : d + 1 + 1 ≤ d + (k + 2) := by omega
theorem leA3 (d k : Nat) : d + 1 + 1 + 1 ≤ d + (k + 3) := by omega
theorem leB (d k j : Nat) (h : Nat.ble j k = true) : d + j ≤ d + k := Nat.add_le_add_left (Nat.le_of_ble_eq_true h) d
theorem leC (d k j : Nat) (h : Nat.ble (j + 1) k = true) : d + 1 + j ≤ d + k := by have := Nat.le_of_ble_eq_true h; omega
def LtAll (d : Addr) : List (Addr × Obj) → Prop
  | [] => True
  | [p] => @LT.lt Nat _ p.1 d
  | p :: q :: r => @LT.lt Nat _ p.1 d ∧ LtAll d (q :: r)
theorem ltAll_of {d : Addr} : ∀ {l : List (Addr × Obj)}, (∀ p ∈ l, p.1 < d) → LtAll d l
  | [], _ => trivial
  | [p], h => h p (.head _)
  | p :: q :: _, h => ⟨h p (.head _), ltAll_of fun z hz => h z (.tail _ hz)⟩
def LtMark (d : Addr) (l : List (Addr × Obj)) : Prop := LtAll d l
theorem ltAll_mark (d : Addr) (l : List (Addr × Obj)) : LtAll d l = LtMark d l := rfl
theorem neS (L : Nat) : L ≠ L + 1 := by omega
theorem neS' (L : Nat) : L + 1 ≠ L := by omega
theorem neK {L j k : Nat} (h : Nat.beq j k = false) : L + j ≠ L + k := fun e => by
  have : j = k := Nat.add_left_cancel e
  subst this; simp at h
theorem neK1 {L j : Nat} (h : Nat.beq j 0 = false) : L + j ≠ L := fun e => by
  cases j with
  | zero => simp at h
  | succ j => omega
theorem neK2 {L j : Nat} (h : Nat.beq j 0 = false) : L ≠ L + j := fun e => neK1 h e.symm
theorem neK11 {L j : Nat} (h : Nat.beq j 0 = false) : L + 1 ≠ L + 1 + j := neK2 h
theorem ltS {a b : Nat} (h : a < b) : a < b + 1 := Nat.lt_succ_of_lt h
theorem ltSS {a b : Nat} (h : a < b) : a < b + 1 + 1 := Nat.lt_succ_of_lt (Nat.lt_succ_of_lt h)
theorem sub_refl {α : Type} {l : List α} : ∀ q, q ∈ l → q ∈ l := fun _ h => h
theorem sub_nil {α : Type} {m : List α} : ∀ q, q ∈ ([] : List α) → q ∈ m := fun _ h => nomatch h
theorem sub_cons {α : Type} {a : α} {l m : List α} (h : a ∈ m) (k : ∀ q, q ∈ l → q ∈ m) : ∀ q, q ∈ a :: l → q ∈ m := fun q hq => by
  cases hq with
  | head => exact h
  | tail _ hq => exact k q hq
theorem sub_app {α : Type} {l l' m : List α} (h : ∀ q, q ∈ l → q ∈ m) (k : ∀ q, q ∈ l' → q ∈ m) : ∀ q, q ∈ l ++ l' → q ∈ m := fun q hq => (List.mem_append.mp hq).elim (h q) (k q)
theorem sub_left {α : Type} {l m m' : List α} (k : ∀ q, q ∈ l → q ∈ m) : ∀ q, q ∈ l → q ∈ m ++ m' := fun q hq => List.mem_append_left _ (k q hq)
theorem sub_right {α : Type} {l m m' : List α} (k : ∀ q, q ∈ l → q ∈ m') : ∀ q, q ∈ l → q ∈ m ++ m' := fun q hq => List.mem_append_right _ (k q hq)
theorem sub_tail {α : Type} {a : α} {l m : List α} (k : ∀ q, q ∈ l → q ∈ m) : ∀ q, q ∈ l → q ∈ a :: m := fun q hq => .tail _ (k q hq)
theorem sub_apply {α : Type} {l m : List α} (k : ∀ q, q ∈ l → q ∈ m) {q : α} (hq : q ∈ l) : q ∈ m := k q hq
theorem sub_use {α : Type} {l m : List α} {q : α} (hq : q ∈ l) (k : ∀ q, q ∈ l → q ∈ m) : q ∈ m := k q hq
theorem mem_l {α : Type} {a : α} {l m : List α} (h : a ∈ l) : a ∈ l ++ m := List.mem_append_left _ h
theorem mem_r {α : Type} {a : α} {l m : List α} (h : a ∈ m) : a ∈ l ++ m := List.mem_append_right _ h
theorem mem_t {α : Type} {a b : α} {l : List α} (h : a ∈ l) : a ∈ b :: l := .tail _ h
theorem all_nil {α : Type} {P : α → Prop} : ∀ q, q ∈ ([] : List α) → P q := fun _ h => nomatch h
theorem all_cons {α : Type} {P : α → Prop} {a : α} {l : List α} (h : P a) (k : ∀ q, q ∈ l → P q) : ∀ q, q ∈ a :: l → P q := fun q hq => by
  cases hq with
  | head => exact h
  | tail _ hq => exact k q hq
theorem all_app {α : Type} {P : α → Prop} {l l' : List α} (h : ∀ q, q ∈ l → P q) (k : ∀ q, q ∈ l' → P q) : ∀ q, q ∈ l ++ l' → P q := fun q hq => (List.mem_append.mp hq).elim (h q) (k q)
theorem all_use {α : Type} {P : α → Prop} {l : List α} {q : α} (hq : q ∈ l) (k : ∀ q, q ∈ l → P q) : P q := k q hq
theorem mm0 {α : Type} {a0 : α} {l : List α} : a0 ∈ a0 :: l := .head _
theorem mm1 {α : Type} {a0 a1 : α} {l : List α} : a1 ∈ a0 :: a1 :: l := .tail _ (.head _)
theorem mm2 {α : Type} {a0 a1 a2 : α} {l : List α} : a2 ∈ a0 :: a1 :: a2 :: l := .tail _ (.tail _ (.head _))
theorem mm3 {α : Type} {a0 a1 a2 a3 : α} {l : List α} : a3 ∈ a0 :: a1 :: a2 :: a3 :: l := .tail _ (.tail _ (.tail _ (.head _)))
theorem st4 {α : Type} {a0 a1 a2 a3 : α} {l : List α} : ∀ q, q ∈ l → q ∈ a0 :: a1 :: a2 :: a3 :: l := fun q hq => .tail _ (.tail _ (.tail _ (.tail _ (hq))))
theorem leD (d k i j : Nat) (h : Nat.ble (i + j) k = true) : d + i + j ≤ d + k := by have := Nat.le_of_ble_eq_true h; omega
theorem leT {a b c : Nat} (h : a ≤ b) (e : Nat.ble b c = true) : a ≤ c := Nat.le_trans h (Nat.le_of_ble_eq_true e)
theorem leTl {a b c : Nat} {X : Prop} (h : a ≤ b ∧ X) (e : Nat.ble b c = true) : a ≤ c := leT h.1 e
theorem leTr {a b c : Nat} {X : Prop} (h : X ∧ a ≤ b) (e : Nat.ble b c = true) : a ≤ c := leT h.2 e
theorem leL {a c : Nat} (e : Nat.ble a c = true) : a ≤ c := Nat.le_of_ble_eq_true e
theorem ltL {a c : Nat} (e : Nat.ble (a + 1) c = true) : a < c := Nat.le_of_ble_eq_true e
theorem ltT {a b c : Nat} (h : a ≤ b) (e : Nat.ble (b + 1) c = true) : a < c := Nat.lt_of_le_of_lt h (ltL e)
theorem ltT' {a b c : Nat} (h : a < b) (e : Nat.ble b c = true) : a < c := Nat.lt_of_lt_of_le h (leL e)
theorem lo62 (n : Nat) : -(2 ^ 62 : Int) ≤ (n : Int) := by omega
theorem hi62 {n k : Nat} (h : n ≤ k) (e : Nat.ble k 1000000 = true := by rfl) : (n : Int) < 2 ^ 62 := by have := leL e; omega
theorem hi63 {n k : Nat} (h : n ≤ k) (e : Nat.ble k 1000000 = true := by rfl) : (n : Int) < 2 ^ 63 := by have := leL e; omega
theorem add_le {a b c d e : Nat} (h : a ≤ c) (k : b ≤ d) (l : Nat.ble (c + d) e = true) : a + b ≤ e := Nat.le_trans (Nat.add_le_add h k) (leL l)
theorem addS (a b : Nat) : a + (b + 1) = a + 1 + b := by omega
theorem neSym {a b : Nat} (h : b ≠ a) : a ≠ b := fun e => h e.symm
theorem lt3 {P : Nat → Prop} (h0 : P 0) (h1 : P 1) (h2 : P 2) : ∀ {i : Nat}, i < 3 → P i
  | 0, _ => h0
  | 1, _ => h1
  | 2, _ => h2
  | n + 3, h => absurd h (Nat.not_lt.mpr (Nat.le_add_left 3 n))
theorem list3_of {α : Type} {x y z : α} {l : List α} (hl : l.length = 3) (h0 : l[0]? = some x) (h1 : l[1]? = some y) (h2 : l[2]? = some z) : l = [x, y, z] :=
  List.ext_getElem? fun i => (Nat.lt_or_ge i 3).elim (fun h => lt3 (P := fun i => l[i]? = [x, y, z][i]?) h0 h1 h2 h) fun h => (List.getElem?_eq_none (hl ▸ h)).trans (List.getElem?_eq_none (l := [x, y, z]) h).symm
theorem lt2 {P : Nat → Prop} (h0 : P 0) (h1 : P 1) {i : Nat} (h : i < 2) : P i :=
  lt3 (P := fun i => i < 2 → P i) (fun _ => h0) (fun _ => h1) (fun h => absurd h (Nat.lt_irrefl 2)) (Nat.lt_succ_of_lt h) h
theorem list2_of {α : Type} {x y : α} {l : List α} (hl : l.length = 2) (h0 : l[0]? = some x) (h1 : l[1]? = some y) : l = [x, y] :=
  List.ext_getElem? fun i => (Nat.lt_or_ge i 2).elim (fun h => lt2 (P := fun i => l[i]? = [x, y][i]?) h0 h1 h) fun h => (List.getElem?_eq_none (hl ▸ h)).trans (List.getElem?_eq_none (l := [x, y]) h).symm
theorem lt4 {P : Nat → Prop} (h0 : P 0) (h1 : P 1) (h2 : P 2) (h3 : P 3) {i : Nat} (h : i < 4) : P i :=
  (Nat.lt_or_ge i 3).elim (fun h => lt3 h0 h1 h2 h) fun h' => (Nat.le_antisymm (Nat.le_of_lt_succ h) h' : i = 3) ▸ h3
theorem list4_of {α : Type} {x y z u : α} {l : List α} (hl : l.length = 4) (h0 : l[0]? = some x) (h1 : l[1]? = some y) (h2 : l[2]? = some z) (h3 : l[3]? = some u) : l = [x, y, z, u] :=
  List.ext_getElem? fun i => (Nat.lt_or_ge i 4).elim (fun h => lt4 (P := fun i => l[i]? = [x, y, z, u][i]?) h0 h1 h2 h3 h) fun h => (List.getElem?_eq_none (hl ▸ h)).trans (List.getElem?_eq_none (l := [x, y, z, u]) h).symm
/-- a ledger under a name of its own -/
theorem fold_led {h₀ h : Heap} {L : Addr} {led : List (Addr × Obj)} {C : Prop} (N : News h₀ L h led) (k : ∀ fz, (∀ q ∈ led, q ∈ fz) → News h₀ L h fz → C) : C := k led (fun _ h => h) N
theorem fold_tail {h₀ h : Heap} {L : Addr} {a b c : Addr × Obj} {led : List (Addr × Obj)} {C : Prop} (N : News h₀ L h (a :: b :: c :: led)) (k : ∀ fz, ((∀ q ∈ led, q ∈ fz) ∧ ∀ q ∈ fz, q ∈ led) → News h₀ L h (a :: b :: c :: fz) → C) : C := k led ⟨fun _ h => h, fun _ h => h⟩ N
theorem fold_tail4 {h₀ h : Heap} {L : Addr} {a b c d : Addr × Obj} {led : List (Addr × Obj)} {C : Prop} (N : News h₀ L h (a :: b :: c :: d :: led)) (k : ∀ fz, ((∀ q ∈ led, q ∈ fz) ∧ ∀ q ∈ fz, q ∈ led) → News h₀ L h (a :: b :: c :: d :: fz) → C) : C := k led ⟨fun _ h => h, fun _ h => h⟩ N
theorem fold_tail2 {h₀ h : Heap} {L : Addr} {a b : Addr × Obj} {led : List (Addr × Obj)} {C : Prop} (N : News h₀ L h (a :: b :: led)) (k : ∀ fz, (∀ q ∈ led, q ∈ fz) → (∀ q ∈ fz, q ∈ led) → News h₀ L h (a :: b :: fz) → C) : C := k led (fun _ h => h) (fun _ h => h) N
theorem fold_tail1 {h₀ h : Heap} {L : Addr} {a : Addr × Obj} {led : List (Addr × Obj)} {C : Prop} (N : News h₀ L h (a :: led)) (k : ∀ fz, ((∀ q ∈ led, q ∈ fz) ∧ ∀ q ∈ fz, q ∈ led) → News h₀ L h (a :: fz) → C) : C := k led ⟨fun _ h => h, fun _ h => h⟩ N
theorem mem_t4 {α : Type} {a a0 a1 a2 a3 : α} {l : List α} (h : a ∈ l) : a ∈ a0 :: a1 :: a2 :: a3 :: l := .tail _ (.tail _ (.tail _ (.tail _ h)))
theorem ltM {a d : Addr} {o : Obj} {l : List (Addr × Obj)} (h : ∀ p ∈ l, p.1 < d) (m : (a, o) ∈ l) : a < d := h _ m
end Mine
end
open PySem PySem.W PyProof.Rows PySem.Calls Mine
local macro_rules | `(tactic| f_tup) => `(tactic| with_reducible first | exact mm0 | exact mm1 | exact mm2 | exact mm3 | assumption | ((first | apply mem_t4 | apply mem_t); f_tup) | (apply mem_l; f_tup) | (apply mem_r; f_tup) | (refine sub_apply (by assumption) ?_; f_tup))
local macro_rules | `(tactic| f_list) => `(tactic| with_reducible first | assumption | exact sub_refl | exact sub_nil | (apply sub_cons; f_tup; f_list) | (apply sub_app; f_list; f_list) | exact st4 | (apply sub_tail; f_list) | (apply sub_right; f_list) | (apply sub_left; f_list))
local macro_rules | `(tactic| f_are) => `(tactic| with_reducible first | assumption | (apply ltM; assumption; f_tup))
local macro_rules | `(tactic| f_look) => `(tactic| with_reducible first | f_are | (apply Nat.lt_of_succ_lt; f_are) | (refine Nat.lt_trans (by assumption) ?_; f_look) | (refine Nat.lt_trans ?_ (by assumption); f_are))
local macro_rules | `(tactic| f_congr) => `(tactic| first | exact leA0 _ _ | exact leA1 _ _ | exact leA2 _ _ | exact leA3 _ _ | exact leB _ _ _ rfl | exact leC _ _ _ rfl | exact leD _ _ _ _ rfl)
local macro_rules | `(tactic| sort_reads_fin) => `(tactic| with_reducible first | assumption | (show @Ne Nat _ _; first | exact neSym (by assumption) | (apply Nat.ne_of_lt; f_look) | (apply Nat.ne_of_gt; f_look) | exact neK rfl | exact neK1 rfl | exact neK2 rfl) | (show @LT.lt Nat _ _ _; first | f_look | exact ltL rfl | exact Nat.lt_succ_self _ | exact ltS (by assumption) | exact ltSS (by assumption) | exact ltT (by assumption) rfl | exact ltT' (by assumption) rfl | (refine roomA (by assumption) ?_; f_congr) | (refine unitA (by assumption) ?_; f_congr)) | (show @LE.le Nat _ _ _; first | exact Nat.le_refl _ | exact Nat.zero_le _ | exact leL rfl | (apply Nat.le_of_lt; f_look) | exact leT (by assumption) rfl | exact leTl (by assumption) rfl | exact leTr (by assumption) rfl | exact Nat.le_succ _))
local macro_rules | `(tactic| omega) => `(tactic| sort_reads_fin)
local macro_rules | `(tactic| ktr_room) => `(tactic| first | assumption | (refine roomA (by assumption) ?_; f_congr))
local macro_rules | `(tactic| ktr_units) => `(tactic| first | assumption | (refine unitA (by assumption) ?_; f_congr))
local macro_rules | `(tactic| k_lt $h:ident) => `(tactic| skip)
local macro_rules | `(tactic| k_ne) => `(tactic| (refine neN ?_; (try dsimp only); sort_reads_fin))
local macro_rules | `(tactic| walk_at "k5") => `(tactic| (rotate_left; k_asm; rotate_right; k_asm; k_asm; k_asm; k_asm))
local macro_rules | `(tactic| walk_at "u8") => `(tactic| ((walk_at "k5"); (first | exact rfl | assumption); ktr_room; ktr_units))
local macro_rules | `(tactic| walk_at "in9") => `(tactic| (intros; rename_i N9; (try dsimp only [List.nil_append, List.cons_append] at N9)))
local macro_rules | `(tactic| walk_at "li9") => `(tactic| exact News.isList (by k_asm) (by k_mem))
local macro_rules | `(tactic| walk_at "ent9") => `(tactic| (ktr_room; exact BindsTo.of_eq rfl; exact locs rfl; rotate_left; (iterate 3 exact rfl); decide; k_whole; intros; rename_i B9 _ _; (try dsimp only); (try k_lift B9); (try k_fold)))
section
open PySem PySem.W PyProof.Rows PySem.Calls
set_option maxHeartbeats 0
namespace Mine
noncomputable def env : Env := { scope := pw.main.scope, locals := mainNs, globals := mainNs, cells := [], code := .ref 13, frame := some 14 }
noncomputable def q0 : Pos := ⟨0, 0, 0, 0⟩
noncomputable abbrev cE : Code := .body (behindTheImports pw) env
noncomputable abbrev BB : List Frame := [topFrame q0]
noncomputable abbrev ann : Option Value := some (.ref 6)
noncomputable def tA (P : Params) : BT := (.node (boot_o_0 P) (.node (boot_o_1 P) (.node (o3_pre P) (.node (boot_o_7 P) .nil .nil) (.node (o11 P) .nil .nil)) (.node (boot_o_5 P) (.node (boot_o_9 P) .nil .nil) (.node (o13 P) .nil .nil))) (.node (boot_o_2 P) (.node (boot_o_4 P) (.node (boot_o_8 P) .nil .nil) (.node (o12_pre P) .nil .nil)) (.node (boot_o_6 P) (.node (boot_o_10 P) .nil .nil) (.node (o14 P) .nil .nil))))
noncomputable def t10 (P : Params) : BT := (.node (boot_o_0 P) (.node (boot_o_1 P) (.node (o3_p10 P) (.node (boot_o_7 P) (.node (o15 P) (.node (o31 P) (.node (o63 P) .nil .nil) .nil) (.node (o47 P) (.node (o79 P) .nil .nil) .nil)) (.node (o23 P) (.node (o39 P) (.node (o71 P) .nil .nil) .nil) (.node (o55 P) (.node (o87 P) .nil .nil) .nil))) (.node (o11 P) (.node (o19 P) (.node (o35 P) (.node (o67 P) .nil .nil) .nil) (.node (o51 P) (.node (o83 P) .nil .nil) .nil)) (.node (o27 P) (.node (o43 P) (.node (o75 P) .nil .nil) .nil) (.node (o59 P) (.node (o91 P) .nil .nil) .nil)))) (.node (boot_o_5 P) (.node (boot_o_9 P) (.node (o17 P) (.node (o33 P) (.node (o65 P) .nil .nil) .nil) (.node (o49 P) (.node (o81 P) .nil .nil) .nil)) (.node (o25 P) (.node (o41 P) (.node (o73 P) .nil .nil) .nil) (.node (o57 P) (.node (o89 P) .nil .nil) .nil))) (.node (o13 P) (.node (o21 P) (.node (o37 P) (.node (o69 P) .nil .nil) .nil) (.node (o53 P) (.node (o85 P) .nil .nil) .nil)) (.node (o29 P) (.node (o45 P) (.node (o77 P) .nil .nil) .nil) (.node (o61 P) .nil .nil))))) (.node (boot_o_2 P) (.node (boot_o_4 P) (.node (boot_o_8 P) (.node (o16 P) (.node (o32 P) (.node (o64 P) .nil .nil) .nil) (.node (o48 P) (.node (o80 P) .nil .nil) .nil)) (.node (o24 P) (.node (o40 P) (.node (o72 P) .nil .nil) .nil) (.node (o56 P) (.node (o88 P) .nil .nil) .nil))) (.node (o12_p10 P) (.node (o20 P) (.node (o36 P) (.node (o68 P) .nil .nil) .nil) (.node (o52 P) (.node (o84 P) .nil .nil) .nil)) (.node (o28 P) (.node (o44 P) (.node (o76 P) .nil .nil) .nil) (.node (o60 P) .nil .nil)))) (.node (boot_o_6 P) (.node (boot_o_10 P) (.node (o18 P) (.node (o34 P) (.node (o66 P) .nil .nil) .nil) (.node (o50 P) (.node (o82 P) .nil .nil) .nil)) (.node (o26 P) (.node (o42 P) (.node (o74 P) .nil .nil) .nil) (.node (o58 P) (.node (o90 P) .nil .nil) .nil))) (.node (o14 P) (.node (o22 P) (.node (o38 P) (.node (o70 P) .nil .nil) .nil) (.node (o54 P) (.node (o86 P) .nil .nil) .nil)) (.node (o30 P) (.node (o46 P) (.node (o78 P) .nil .nil) .nil) (.node (o62 P) .nil .nil))))))
noncomputable def t11 (P : Params) : BT := (.node (boot_o_0 P) (.node (boot_o_1 P) (.node (o3_p11 P) (.node (boot_o_7 P) (.node (o15 P) (.node (o31 P) (.node (o63 P) .nil .nil) (.node (o95 P) .nil .nil)) (.node (o47 P) (.node (o79 P) .nil .nil) .nil)) (.node (o23 P) (.node (o39 P) (.node (o71 P) .nil .nil) .nil) (.node (o55 P) (.node (o87 P) .nil .nil) .nil))) (.node (o11 P) (.node (o19 P) (.node (o35 P) (.node (o67 P) .nil .nil) (.node (o99 P) .nil .nil)) (.node (o51 P) (.node (o83 P) .nil .nil) .nil)) (.node (o27 P) (.node (o43 P) (.node (o75 P) .nil .nil) .nil) (.node (o59 P) (.node (o91 P) .nil .nil) .nil)))) (.node (boot_o_5 P) (.node (boot_o_9 P) (.node (o17 P) (.node (o33 P) (.node (o65 P) .nil .nil) (.node (o97 P) .nil .nil)) (.node (o49 P) (.node (o81 P) .nil .nil) .nil)) (.node (o25 P) (.node (o41 P) (.node (o73 P) .nil .nil) .nil) (.node (o57 P) (.node (o89 P) .nil .nil) .nil))) (.node (o13 P) (.node (o21 P) (.node (o37 P) (.node (o69 P) .nil .nil) (.node (o101 P) .nil .nil)) (.node (o53 P) (.node (o85 P) .nil .nil) .nil)) (.node (o29 P) (.node (o45 P) (.node (o77 P) .nil .nil) .nil) (.node (o61 P) (.node (o93 P) .nil .nil) .nil))))) (.node (boot_o_2 P) (.node (boot_o_4 P) (.node (boot_o_8 P) (.node (o16 P) (.node (o32 P) (.node (o64 P) .nil .nil) (.node (o96 P) .nil .nil)) (.node (o48 P) (.node (o80 P) .nil .nil) .nil)) (.node (o24 P) (.node (o40 P) (.node (o72 P) .nil .nil) .nil) (.node (o56 P) (.node (o88 P) .nil .nil) .nil))) (.node (o12_p11 P) (.node (o20 P) (.node (o36 P) (.node (o68 P) .nil .nil) (.node (o100 P) .nil .nil)) (.node (o52 P) (.node (o84 P) .nil .nil) .nil)) (.node (o28 P) (.node (o44 P) (.node (o76 P) .nil .nil) .nil) (.node (o60 P) (.node (o92 P) .nil .nil) .nil)))) (.node (boot_o_6 P) (.node (boot_o_10 P) (.node (o18 P) (.node (o34 P) (.node (o66 P) .nil .nil) (.node (o98 P) .nil .nil)) (.node (o50 P) (.node (o82 P) .nil .nil) .nil)) (.node (o26 P) (.node (o42 P) (.node (o74 P) .nil .nil) .nil) (.node (o58 P) (.node (o90 P) .nil .nil) .nil))) (.node (o14 P) (.node (o22 P) (.node (o38 P) (.node (o70 P) .nil .nil) (.node (o102 P) .nil .nil)) (.node (o54 P) (.node (o86 P) .nil .nil) .nil)) (.node (o30 P) (.node (o46 P) (.node (o78 P) .nil .nil) .nil) (.node (o62 P) (.node (o94 P) .nil .nil) .nil))))))
noncomputable def t12 (P : Params) : BT := (.node (boot_o_0 P) (.node (boot_o_1 P) (.node (o3_p12 P) (.node (boot_o_7 P) (.node (o15 P) (.node (o31 P) (.node (o63 P) .nil .nil) (.node (o95 P) .nil .nil)) (.node (o47 P) (.node (o79 P) .nil .nil) .nil)) (.node (o23 P) (.node (o39 P) (.node (o71 P) .nil .nil) (.node (o103 P) .nil .nil)) (.node (o55 P) (.node (o87 P) .nil .nil) .nil))) (.node (o11 P) (.node (o19 P) (.node (o35 P) (.node (o67 P) .nil .nil) (.node (o99 P) .nil .nil)) (.node (o51 P) (.node (o83 P) .nil .nil) .nil)) (.node (o27 P) (.node (o43 P) (.node (o75 P) .nil .nil) (.node (o107 P) .nil .nil)) (.node (o59 P) (.node (o91 P) .nil .nil) .nil)))) (.node (boot_o_5 P) (.node (boot_o_9 P) (.node (o17 P) (.node (o33 P) (.node (o65 P) .nil .nil) (.node (o97 P) .nil .nil)) (.node (o49 P) (.node (o81 P) .nil .nil) .nil)) (.node (o25 P) (.node (o41 P) (.node (o73 P) .nil .nil) (.node (o105 P) .nil .nil)) (.node (o57 P) (.node (o89 P) .nil .nil) .nil))) (.node (o13 P) (.node (o21 P) (.node (o37 P) (.node (o69 P) .nil .nil) (.node (o101 P) .nil .nil)) (.node (o53 P) (.node (o85 P) .nil .nil) .nil)) (.node (o29 P) (.node (o45 P) (.node (o77 P) .nil .nil) (.node (o109 P) .nil .nil)) (.node (o61 P) (.node (o93 P) .nil .nil) .nil))))) (.node (boot_o_2 P) (.node (boot_o_4 P) (.node (boot_o_8 P) (.node (o16 P) (.node (o32 P) (.node (o64 P) .nil .nil) (.node (o96 P) .nil .nil)) (.node (o48 P) (.node (o80 P) .nil .nil) .nil)) (.node (o24 P) (.node (o40 P) (.node (o72 P) .nil .nil) (.node (o104 P) .nil .nil)) (.node (o56 P) (.node (o88 P) .nil .nil) .nil))) (.node (o12_p12 P) (.node (o20 P) (.node (o36 P) (.node (o68 P) .nil .nil) (.node (o100 P) .nil .nil)) (.node (o52 P) (.node (o84 P) .nil .nil) .nil)) (.node (o28 P) (.node (o44 P) (.node (o76 P) .nil .nil) (.node (o108 P) .nil .nil)) (.node (o60 P) (.node (o92 P) .nil .nil) .nil)))) (.node (boot_o_6 P) (.node (boot_o_10 P) (.node (o18 P) (.node (o34 P) (.node (o66 P) .nil .nil) (.node (o98 P) .nil .nil)) (.node (o50 P) (.node (o82 P) .nil .nil) .nil)) (.node (o26 P) (.node (o42 P) (.node (o74 P) .nil .nil) (.node (o106 P) .nil .nil)) (.node (o58 P) (.node (o90 P) .nil .nil) .nil))) (.node (o14 P) (.node (o22 P) (.node (o38 P) (.node (o70 P) .nil .nil) (.node (o102 P) .nil .nil)) (.node (o54 P) (.node (o86 P) .nil .nil) .nil)) (.node (o30 P) (.node (o46 P) (.node (o78 P) .nil .nil) .nil) (.node (o62 P) (.node (o94 P) .nil .nil) .nil))))))
noncomputable def t13 (P : Params) : BT := (.node (boot_o_0 P) (.node (boot_o_1 P) (.node (o3_p13 P) (.node (boot_o_7 P) (.node (o15 P) (.node (o31 P) (.node (o63 P) (.node (oSub 17 P) .nil .nil) .nil) (.node (o95 P) .nil .nil)) (.node (o47 P) (.node (o79 P) (.node (oSub 33 P) .nil .nil) .nil) (.node (oSub 1 P) .nil .nil))) (.node (o23 P) (.node (o39 P) (.node (o71 P) (.node (oSub 25 P) .nil .nil) .nil) (.node (o103 P) .nil .nil)) (.node (o55 P) (.node (o87 P) .nil .nil) (.node (oSub 9 P) .nil .nil)))) (.node (o11 P) (.node (o19 P) (.node (o35 P) (.node (o67 P) (.node (oSub 21 P) .nil .nil) .nil) (.node (o99 P) .nil .nil)) (.node (o51 P) (.node (o83 P) (.node (oSub 37 P) .nil .nil) .nil) (.node (oSub 5 P) .nil .nil))) (.node (o27 P) (.node (o43 P) (.node (o75 P) (.node (oSub 29 P) .nil .nil) .nil) (.node (o107 P) .nil .nil)) (.node (o59 P) (.node (o91 P) .nil .nil) (.node (oSub 13 P) .nil .nil))))) (.node (boot_o_5 P) (.node (boot_o_9 P) (.node (o17 P) (.node (o33 P) (.node (o65 P) (.node (oSub 19 P) .nil .nil) .nil) (.node (o97 P) .nil .nil)) (.node (o49 P) (.node (o81 P) (.node (oSub 35 P) .nil .nil) .nil) (.node (oSub 3 P) .nil .nil))) (.node (o25 P) (.node (o41 P) (.node (o73 P) (.node (oSub 27 P) .nil .nil) .nil) (.node (o105 P) .nil .nil)) (.node (o57 P) (.node (o89 P) .nil .nil) (.node (oSub 11 P) .nil .nil)))) (.node (o13 P) (.node (o21 P) (.node (o37 P) (.node (o69 P) (.node (oSub 23 P) .nil .nil) .nil) (.node (o101 P) .nil .nil)) (.node (o53 P) (.node (o85 P) .nil .nil) (.node (oSub 7 P) .nil .nil))) (.node (o29 P) (.node (o45 P) (.node (o77 P) (.node (oSub 31 P) .nil .nil) .nil) (.node (o109 P) .nil .nil)) (.node (o61 P) (.node (o93 P) .nil .nil) (.node (oSub 15 P) .nil .nil)))))) (.node (boot_o_2 P) (.node (boot_o_4 P) (.node (boot_o_8 P) (.node (o16 P) (.node (o32 P) (.node (o64 P) (.node (oSub 18 P) .nil .nil) .nil) (.node (o96 P) .nil .nil)) (.node (o48 P) (.node (o80 P) (.node (oSub 34 P) .nil .nil) .nil) (.node (oSub 2 P) .nil .nil))) (.node (o24 P) (.node (o40 P) (.node (o72 P) (.node (oSub 26 P) .nil .nil) .nil) (.node (o104 P) .nil .nil)) (.node (o56 P) (.node (o88 P) .nil .nil) (.node (oSub 10 P) .nil .nil)))) (.node (o12_p13 P) (.node (o20 P) (.node (o36 P) (.node (o68 P) (.node (oSub 22 P) .nil .nil) .nil) (.node (o100 P) .nil .nil)) (.node (o52 P) (.node (o84 P) (.node (oSub 38 P) .nil .nil) .nil) (.node (oSub 6 P) .nil .nil))) (.node (o28 P) (.node (o44 P) (.node (o76 P) (.node (oSub 30 P) .nil .nil) .nil) (.node (o108 P) .nil .nil)) (.node (o60 P) (.node (o92 P) .nil .nil) (.node (oSub 14 P) .nil .nil))))) (.node (boot_o_6 P) (.node (boot_o_10 P) (.node (o18 P) (.node (o34 P) (.node (o66 P) (.node (oSub 20 P) .nil .nil) .nil) (.node (o98 P) .nil .nil)) (.node (o50 P) (.node (o82 P) (.node (oSub 36 P) .nil .nil) .nil) (.node (oSub 4 P) .nil .nil))) (.node (o26 P) (.node (o42 P) (.node (o74 P) (.node (oSub 28 P) .nil .nil) .nil) (.node (o106 P) .nil .nil)) (.node (o58 P) (.node (o90 P) .nil .nil) (.node (oSub 12 P) .nil .nil)))) (.node (o14 P) (.node (o22 P) (.node (o38 P) (.node (o70 P) (.node (oSub 24 P) .nil .nil) .nil) (.node (o102 P) .nil .nil)) (.node (o54 P) (.node (o86 P) .nil .nil) (.node (oSub 8 P) .nil .nil))) (.node (o30 P) (.node (o46 P) (.node (o78 P) (.node (oSub 32 P) .nil .nil) .nil) (.node (o110 P) .nil .nil)) (.node (o62 P) (.node (o94 P) .nil .nil) (.node (oSub 16 P) .nil .nil)))))))
noncomputable def t25 (P : Params) : BT := (.node (boot_o_0 P) (.node (boot_o_1 P) (.node (o3 P) (.node (boot_o_7 P) (.node (o15 P) (.node (o31 P) (.node (o63 P) (.node (oSub 17 P) .nil .nil) (.node (o191 P) .nil .nil)) (.node (o95 P) (.node (o159 P) .nil .nil) .nil)) (.node (o47 P) (.node (o79 P) (.node (oSub 33 P) .nil .nil) (.node (o207 P) .nil .nil)) (.node (oSub 1 P) (.node (o175 P) .nil .nil) .nil))) (.node (o23 P) (.node (o39 P) (.node (o71 P) (.node (oSub 25 P) .nil .nil) (.node (o199 P) .nil .nil)) (.node (o103 P) (.node (o167 P) .nil .nil) .nil)) (.node (o55 P) (.node (o87 P) (.node (o151 P) .nil .nil) .nil) (.node (oSub 9 P) (.node (o183 P) .nil .nil) .nil)))) (.node (o11 P) (.node (o19 P) (.node (o35 P) (.node (o67 P) (.node (oSub 21 P) .nil .nil) (.node (o195 P) .nil .nil)) (.node (o99 P) (.node (o163 P) .nil .nil) .nil)) (.node (o51 P) (.node (o83 P) (.node (oSub 37 P) .nil .nil) (.node (o211 P) .nil .nil)) (.node (oSub 5 P) (.node (o179 P) .nil .nil) .nil))) (.node (o27 P) (.node (o43 P) (.node (o75 P) (.node (oSub 29 P) .nil .nil) (.node (o203 P) .nil .nil)) (.node (o107 P) (.node (o171 P) .nil .nil) .nil)) (.node (o59 P) (.node (o91 P) (.node (o155 P) .nil .nil) .nil) (.node (oSub 13 P) (.node (o187 P) .nil .nil) .nil))))) (.node (boot_o_5 P) (.node (boot_o_9 P) (.node (o17 P) (.node (o33 P) (.node (o65 P) (.node (oSub 19 P) .nil .nil) (.node (o193 P) .nil .nil)) (.node (o97 P) (.node (o161 P) .nil .nil) .nil)) (.node (o49 P) (.node (o81 P) (.node (oSub 35 P) .nil .nil) (.node (o209 P) .nil .nil)) (.node (oSub 3 P) (.node (o177 P) .nil .nil) .nil))) (.node (o25 P) (.node (o41 P) (.node (o73 P) (.node (oSub 27 P) .nil .nil) (.node (o201 P) .nil .nil)) (.node (o105 P) (.node (o169 P) .nil .nil) .nil)) (.node (o57 P) (.node (o89 P) (.node (o153 P) .nil .nil) .nil) (.node (oSub 11 P) (.node (o185 P) .nil .nil) .nil)))) (.node (o13 P) (.node (o21 P) (.node (o37 P) (.node (o69 P) (.node (oSub 23 P) .nil .nil) (.node (o197 P) .nil .nil)) (.node (o101 P) (.node (o165 P) .nil .nil) .nil)) (.node (o53 P) (.node (o85 P) (.node (o149 P) .nil .nil) .nil) (.node (oSub 7 P) (.node (o181 P) .nil .nil) .nil))) (.node (o29 P) (.node (o45 P) (.node (o77 P) (.node (oSub 31 P) .nil .nil) (.node (o205 P) .nil .nil)) (.node (o109 P) (.node (o173 P) .nil .nil) .nil)) (.node (o61 P) (.node (o93 P) (.node (o157 P) .nil .nil) .nil) (.node (oSub 15 P) (.node (o189 P) .nil .nil) .nil)))))) (.node (boot_o_2 P) (.node (boot_o_4 P) (.node (boot_o_8 P) (.node (o16 P) (.node (o32 P) (.node (o64 P) (.node (oSub 18 P) .nil .nil) (.node (o192 P) .nil .nil)) (.node (o96 P) (.node (o160 P) .nil .nil) .nil)) (.node (o48 P) (.node (o80 P) (.node (oSub 34 P) .nil .nil) (.node (o208 P) .nil .nil)) (.node (oSub 2 P) (.node (o176 P) .nil .nil) .nil))) (.node (o24 P) (.node (o40 P) (.node (o72 P) (.node (oSub 26 P) .nil .nil) (.node (o200 P) .nil .nil)) (.node (o104 P) (.node (o168 P) .nil .nil) .nil)) (.node (o56 P) (.node (o88 P) (.node (o152 P) .nil .nil) .nil) (.node (oSub 10 P) (.node (o184 P) .nil .nil) .nil)))) (.node (o12 P) (.node (o20 P) (.node (o36 P) (.node (o68 P) (.node (oSub 22 P) .nil .nil) (.node (o196 P) .nil .nil)) (.node (o100 P) (.node (o164 P) .nil .nil) .nil)) (.node (o52 P) (.node (o84 P) (.node (oSub 38 P) .nil .nil) .nil) (.node (oSub 6 P) (.node (o180 P) .nil .nil) .nil))) (.node (o28 P) (.node (o44 P) (.node (o76 P) (.node (oSub 30 P) .nil .nil) (.node (o204 P) .nil .nil)) (.node (o108 P) (.node (o172 P) .nil .nil) .nil)) (.node (o60 P) (.node (o92 P) (.node (o156 P) .nil .nil) .nil) (.node (oSub 14 P) (.node (o188 P) .nil .nil) .nil))))) (.node (boot_o_6 P) (.node (boot_o_10 P) (.node (o18 P) (.node (o34 P) (.node (o66 P) (.node (oSub 20 P) .nil .nil) (.node (o194 P) .nil .nil)) (.node (o98 P) (.node (o162 P) .nil .nil) .nil)) (.node (o50 P) (.node (o82 P) (.node (oSub 36 P) .nil .nil) (.node (o210 P) .nil .nil)) (.node (oSub 4 P) (.node (o178 P) .nil .nil) .nil))) (.node (o26 P) (.node (o42 P) (.node (o74 P) (.node (oSub 28 P) .nil .nil) (.node (o202 P) .nil .nil)) (.node (o106 P) (.node (o170 P) .nil .nil) .nil)) (.node (o58 P) (.node (o90 P) (.node (o154 P) .nil .nil) .nil) (.node (oSub 12 P) (.node (o186 P) .nil .nil) .nil)))) (.node (o14 P) (.node (o22 P) (.node (o38 P) (.node (o70 P) (.node (oSub 24 P) .nil .nil) (.node (o198 P) .nil .nil)) (.node (o102 P) (.node (o166 P) .nil .nil) .nil)) (.node (o54 P) (.node (o86 P) (.node (o150 P) .nil .nil) .nil) (.node (oSub 8 P) (.node (o182 P) .nil .nil) .nil))) (.node (o30 P) (.node (o46 P) (.node (o78 P) (.node (oSub 32 P) .nil .nil) (.node (o206 P) .nil .nil)) (.node (o110 P) (.node (o174 P) .nil .nil) .nil)) (.node (o62 P) (.node (o94 P) (.node (o158 P) .nil .nil) .nil) (.node (oSub 16 P) (.node (o190 P) .nil .nil) .nil)))))))
noncomputable abbrev SA (w : World) (os : OsState) : SharedT := ⟨tA w.params, 15, {}, #[], {}, 187, os⟩
noncomputable abbrev S10 (w : World) (os : OsState) : SharedT := ⟨t10 w.params, 92, {}, #[], {}, 298, os⟩
noncomputable abbrev S11 (w : World) (os : OsState) : SharedT := ⟨t11 w.params, 103, {}, #[], {}, 358, os⟩
noncomputable abbrev S12 (w : World) (os : OsState) : SharedT := ⟨t12 w.params, 110, {}, #[], {}, 365, os⟩
noncomputable abbrev S13 (w : World) (os : OsState) : SharedT := ⟨t13 w.params, 149, {}, #[], {}, 2316, os⟩
noncomputable abbrev S25 (w : World) (os : OsState) : SharedT := ⟨t25 w.params, 212, {}, #[], {}, 2406, os⟩
noncomputable abbrev L1 : List Stmt := pw.main.body.take 11
noncomputable abbrev L2 : List Stmt := [stmtAt 11]
noncomputable abbrev L3 : List Stmt := [stmtAt 12]
noncomputable abbrev L4 : List Stmt := [stmtAt 13]
noncomputable abbrev L5 : List Stmt := pw.main.body.drop 14
theorem split : behindTheImports pw = L1 ++ (L2 ++ (L3 ++ (L4 ++ (L5 ++ [])))) := by kernel_rfl
theorem g_pre (w : World) (os : OsState) : topGo treeTable pw w 11 ann 12 ⟨boot_heap w.params, #[], boot_drawn, boot_toks, os⟩ (topStub pw) = some ((SA w os).abs, ⟨denote treeTable cE, cE, q0, BB⟩) := by kernel_rfl
theorem g_block (w : World) (os : OsState) : segRun treeTable pw w 11 ann 1 1 (SA w os).abs (blockOf (behindTheImports pw) env cE q0 BB) = some (.next, (SA w os).abs, cE, q0) := by kernel_rfl
theorem g1 (w : World) (os : OsState) : segRunT treeTable pw w 11 ann 1 530 (SA w os) (piecesOf L1 env cE q0 BB) = some (.next, S10 w os, cE, ⟨73, 0, 73, 8⟩) := by kernel_rfl
end Mine
end
section
open PySem PySem.W PyProof.Rows PySem.Calls
set_option maxHeartbeats 0
namespace Mine
theorem g3 (w : World) (os : OsState) : segRunT treeTable pw w 11 ann 1 40 (S11 w os) (piecesOf L3 env cE ⟨74, 0, 74, 6⟩ BB) = some (.next, S12 w os, cE, ⟨75, 0, 76, 30⟩) := by kernel_rfl
theorem g5 (w : World) (os : OsState) : segRunT treeTable pw w 11 ann 1 360 (S13 w os) (piecesOf L5 env cE ⟨77, 0, 77, 13⟩ BB) = some (.next, S25 w os, cE, ⟨160, 0, 182, 99⟩) := by kernel_rfl
theorem g_fin (w : World) (os : OsState) : topRun treeTable pw w 11 ann 3 (S25 w os).abs ⟨doneF .next, cE, ⟨160, 0, 182, 99⟩, BB⟩ = some (S25 w os).abs := by kernel_rfl
end Mine
end
section
open PySem PySem.W PyProof.Rows PySem.Calls
set_option maxHeartbeats 0
namespace Mine
noncomputable abbrev ThL2 : Thread := ⟨(PySem.W.Fast.tw12563942051412417395 L2 env).wrap doneF deadEnd id id, cE, ⟨73, 0, 73, 8⟩, BB⟩
noncomputable def P2 (w : World) : Prop := (fun os => PySem.W.Fast.tw10110043849684766642 PySem.W.Fast.tw14364793385576792824 pw w 11 ann 1 1100 (S10 w os) ThL2) = fun os => some (.next, S11 w os, cE, ⟨74, 0, 74, 6⟩)
theorem p2 : ∀ w, P2 w := byRow2 "set-order"
  (byRow2 (P := fun w => P2 (w.withFollow "set-order" false)) "special-get-raises" (fun w => by unfold P2; kernel_rfl) (fun w => by unfold P2; kernel_rfl))
  (byRow2 (P := fun w => P2 (w.withFollow "set-order" true)) "special-get-raises" (fun w => by unfold P2; kernel_rfl) (fun w => by unfold P2; kernel_rfl))
theorem g2 (w : World) (os : OsState) : segRunT treeTable pw w 11 ann 1 1100 (S10 w os) (piecesOf L2 env cE ⟨73, 0, 73, 8⟩ BB) = some (.next, S11 w os, cE, ⟨74, 0, 74, 6⟩) := by
  have h := congrFun (p2 w) os
  rw [← PySem.W.Fast.te10110043849684766642, ← PySem.W.Fast.te14364793385576792824] at h
  unfold ThL2 at h
  rw [← PySem.W.Fast.te12563942051412417395] at h
  exact h
end Mine
end
section
open PySem PySem.W PyProof.Rows PySem.Calls
set_option maxHeartbeats 0
namespace Mine
noncomputable abbrev sg (w : World) (N : Nat) (s : Shared) (cur : Sem Fin) (pos : Pos) := segRun treeTable pw w 11 ann 1 N s ⟨cur, cE, pos, BB⟩
/-- m goes from s to s', hands on a, in at most c steps, whatever follows -/
noncomputable def J {α : Type} (w : World) (m : Sem α) (s : Shared) (a : α) (s' : Shared) (c : Nat) : Prop :=
  ∀ (K : α → Sem Fin) (H : Value → Sem Fin) (gd : Bool → Bool) (lv : List Value → List Value) (pos : Pos),
    ∃ n pos', n ≤ c ∧ ∀ N, sg w (N + n) s (m.wrap K H gd lv) pos = sg w N s' (K a) pos'
section
variable {α β : Type} {w : World} {s s' s'' : Shared} {c c' : Nat}
theorem J_pure {a : α} : J w (pure a) s a s 0 := fun _ _ _ _ pos => ⟨0, pos, Nat.le_refl _, fun _ => rfl⟩
theorem J_bind {m : Sem α} {f : α → Sem β} {a : α} {b : β} (h : J w m s a s' c) (k : J w (f a) s' b s'' c') : J w (m >>= f) s b s'' (c + c') := by
  intro K H gd lv pos
  refine Classical.byContradiction fun gK => ?_
  obtain ⟨n, p1, hn, e⟩ := h (fun a => (f a).wrap K H gd lv) H gd lv pos
  obtain ⟨n', p2, hn', e'⟩ := k K H gd lv p1
  refine gK ?_
  clear gK
  refine ⟨n' + n, p2, by lia, fun N => ?_⟩
  have q : (m >>= f).wrap K H gd lv = m.wrap (fun a => (f a).wrap K H gd lv) H gd lv := by
    show (m.bind f).wrap K H gd lv = _
    rw [Sem.bind_eq_wrap, Sem.wrap_wrap]
    exact Sem.wrap_congr _ _ _ (fun _ => rfl) fun _ => rfl
  rw [q, ← Nat.add_assoc, e, e']
theorem J_le {m : Sem α} {a : α} (h : J w m s a s' c) (hc : c ≤ c') : J w m s a s' c' := fun K H gd lv pos =>
  let ⟨n, p, hn, e⟩ := h K H gd lv pos
  ⟨n, p, Nat.le_trans hn hc, e⟩
theorem J_keep {m : Sem α} {a : α} {vs : List Value} (h : J w m s a s' c) : J w (m.keep vs) s a s' c := by
  intro K H gd lv pos
  rw [Sem.keep_eq_wrap, Sem.wrap_wrap]
  have := h K H (gd ∘ id) (lv ∘ (vs ++ ·)) pos
  refine Classical.byContradiction fun gK => ?_
  obtain ⟨n, p, hn, e⟩ := this
  refine gK ?_
  clear gK
  refine ⟨n, p, hn, fun N => ?_⟩
  rw [← e]
  rfl
theorem J_holding {m : Sem α} {a : α} {vs : List Value} (h : J w m s a s' c) : J w (holding vs m) s a s' c := by
  rw [holding_eq_keep]
  exact J_keep h
theorem J_onRaise {m : Sem α} {a : α} {k : Value → Sem Unit} (h : J w m s a s' c) : J w (m.onRaise k) s a s' c := by
  intro K H gd lv pos
  rw [Sem.onRaise_eq_wrap, Sem.wrap_wrap]
  refine Classical.byContradiction fun gK => ?_
  obtain ⟨n, p, hn, e⟩ := h K (fun e => ((k e).bind fun _ => .raise e).wrap K H gd lv) (gd ∘ id) (lv ∘ id) pos
  refine gK ?_
  clear gK
  refine ⟨n, p, hn, fun N => ?_⟩
  rw [← e]
  rfl
theorem J_rule {t : String} : J w (rule t) s () s 1 := fun _ _ _ _ pos => ⟨1, pos, Nat.le_refl _, fun _ => rfl⟩
theorem J_standAt {p : Pos} : J w (standAt p) s () s 1 := fun _ _ _ _ _ => ⟨1, p, Nat.le_refl _, fun _ => rfl⟩
theorem J_point : J w point s () s 1 := fun _ _ _ _ pos => ⟨1, pos, Nat.le_refl _, fun _ => rfl⟩
theorem J_fresh : J w fresh s s.toks { s with toks := s.toks + 1 } 1 := fun _ _ _ _ pos => ⟨1, pos, Nat.le_refl _, fun _ => rfl⟩
theorem J_ask : J w ask s ⟨pw, w.params⟩ s 1 := fun _ _ _ _ pos => ⟨1, pos, Nat.le_refl _, fun _ => rfl⟩
theorem J_alloc {o : Obj} : J w (alloc o) s s.heap.objs.size { s with heap := s.heap.push o } 1 := fun _ _ _ _ pos => ⟨1, pos, Nat.le_refl _, fun _ => rfl⟩
theorem J_loadPart {a : Addr} {q : Option Value} {o : Obj} (ho : s.heap.get? a = some o) : J w (loadPart a q) s o s 1 := fun K H gd lv pos => ⟨1, pos, Nat.le_refl _, fun N => by
  show segRun treeTable pw w 11 ann 1 (N + 1) s ⟨.load a q fun x => K x, cE, pos, BB⟩ = _
  conv => lhs; unfold segRun
  show (match PySem.step (denote treeTable) pw w s ⟨.load a q fun x => K x, cE, pos, BB⟩ with | .go s' t' => segRun treeTable pw w 11 ann 1 N s' t' | .halt _ _ => none) = _
  simp only [PySem.step, ho]⟩
theorem J_updatePart {a : Addr} {q : Option Value} {f : Obj → Obj} {o : Obj} (ho : s.heap.get? a = some o) (ha : 11 ≤ a) : J w (updatePart a q f) s () { s with heap := s.heap.update a f } 1 := fun K H gd lv pos => ⟨1, pos, Nat.le_refl _, fun N => by
  show segRun treeTable pw w 11 ann 1 (N + 1) s ⟨.update a q f fun x => K x, cE, pos, BB⟩ = _
  conv => lhs; unfold segRun
  have hk : stepOk 11 ann ⟨.update a q f fun x => K x, cE, pos, BB⟩ = true := by
    show (true && (Nat.ble 11 a || a == mainNs || a == cStatics || ann == some (.ref a))) = true
    rw [Nat.ble_eq_true_of_le ha]; rfl
  have he : endAt 1 ⟨.update a q f fun x => K x, cE, pos, BB⟩ = none := rfl
  rw [he, hk]
  simp only [PySem.step, ho, Option.isSome_some, if_true]⟩
theorem J_ite {p : Prop} [Decidable p] {a b : Sem α} {x : α} (hp : p) (h : J w a s x s' c) : J w (if p then a else b) s x s' c := by rw [if_pos hp]; exact h
theorem J_ite' {p : Prop} [Decidable p] {a b : Sem α} {x : α} (hp : ¬ p) (h : J w b s x s' c) : J w (if p then a else b) s x s' c := by rw [if_neg hp]; exact h
end
end Mine
end
section
open PySem PySem.W PyProof.Rows PySem.Calls
set_option maxHeartbeats 400000
namespace Mine
theorem hash_call (w : World) (N : Nat) (s : Shared) (k : Int) (t : Tok) (K : Value → Sem Fin) (H : Value → Sem Fin) (gd : Bool → Bool) (lv : List Value → List Value) (pos : Pos) :
  PySem.W.Fast.tw14374325043358763698 PySem.W.Fast.tw14364793385576792824 pw w 11 ann 1 (N + 4) s ⟨(PySem.call (.builtin "int.__hash__") [.int k t] []).wrap K H gd lv, cE, pos, BB⟩ =
  PySem.W.Fast.tw14374325043358763698 PySem.W.Fast.tw14364793385576792824 pw w 11 ann 1 N { s with toks := s.toks + 1 } ⟨K (.int (rawHash k) s.toks), cE, pos, BB⟩ := by kernel_rfl
section
variable {α β : Type} {w : World} {s s' s'' : Shared} {c c' : Nat}
theorem J_hash_call {k : Int} {t : Tok} : J w (PySem.call (.builtin "int.__hash__") [.int k t] []) s (.int (rawHash k) s.toks) { s with toks := s.toks + 1 } 4 := fun K H gd lv pos => ⟨4, pos, Nat.le_refl _, fun N => by
  have h := Mine.hash_call w N s k t K H gd lv pos
  rw [← PySem.W.Fast.te14374325043358763698, ← PySem.W.Fast.te14364793385576792824] at h
  exact h⟩
theorem J_map {m : Sem α} {a : α} {f : α → β} (h : J w m s a s' c) : J w (f <$> m) s (f a) s' c := by
  have : J w (m >>= fun a => Pure.pure (f a)) s (f a) s' (c + 0) := J_bind h J_pure
  exact this
theorem J_of_eq {m m' : Sem α} {a : α} (e : m = m') (h : J w m' s a s' c) : J w m s a s' c := e ▸ h
theorem special_int {k : Int} {t : Tok} : specialOf (.int k t) "__hash__" = pure (some (.builtin "int.__hash__")) := by
  unfold specialOf
  show typeLookup (.type "int") _ = _
  exact slot_int_hash.lookup
theorem psb (a : α) (f : α → Sem β) : (Pure.pure a >>= f) = f a := rfl
theorem J_hash {k : Int} {t : Tok} : J w (pyHash (.int k t)) s (hashInt k) { s with toks := s.toks + 1 } 5 := by
  have hr := rawHash_range k
  refine J_le (c := ((1 + 0) + (4 + 0)) + 0) ?_ (by decide)
  show J w (pyHashByItsType (.int k t)) s _ _ _
  unfold pyHashByItsType
  have hv : [Value.int k t].any Value.onHeap = false := rfl
  rw [cRoomFor, if_neg (by rw [hv]; exact Bool.false_ne_true)]
  rw [special_int]
  simp only [psb]
  refine J_ite' (by rw [beq_builtin_none]; exact Bool.false_ne_true) ?_
  refine J_ite' (by decide) ?_
  refine J_bind (a := some (.int (rawHash k) s.toks)) (s' := { s with toks := s.toks + 1 }) (c := (1 + 0) + (4 + 0)) (c' := 0) ?_ ?_
  · unfold callSpecialIfBoundUnlessNone? bindSpecialIfBound?
    refine J_holding ?_
    rw [special_int]
    refine J_bind (a := some (.builtin "int.__hash__", [.int k t])) (s' := s) (c := 1 + 0) (c' := 4 + 0) ?_ ?_
    · simp only [psb]
      refine J_bind (c := 1) (c' := 0) J_ask ?_
      simp only [slot_int_hash.bind]
      cases w.params.followText "special-get-raises" <;> exact J_pure
    · refine J_ite' (by decide) ?_
      exact J_bind J_hash_call J_pure
  · show J w (if (decide (-(2 : Int) ^ 63 ≤ rawHash k) && decide (rawHash k < 2 ^ 63)) = true then _ else _) _ _ _ _
    rw [if_pos (by rw [decide_eq_true hr.1, decide_eq_true hr.2]; rfl)]
    exact J_pure
end
end Mine
end
section
open PySem PySem.W PyProof.Rows PySem.Calls
set_option maxHeartbeats 400000
namespace Mine
noncomputable abbrev dObj (es : List DictEntry) (n : Nat) : Obj := { cls := .type "dict", data := .dict es.toArray n }
section
variable {α β : Type} {w : World} {s s' s'' : Shared} {c c' : Nat}
theorem J_dictEntries {d : Addr} {q : Option Value} {es : List DictEntry} {n : Nat} (ho : s.heap.get? d = some (dObj es n)) : J w (dictEntries d q) s es.toArray s 1 := by
  unfold PySem.dictEntries
  refine J_le (c := 1 + 0) (J_bind (J_loadPart ho) ?_) (by decide)
  exact J_pure
theorem J_dictEpoch {d : Addr} {q : Option Value} {es : List DictEntry} {n : Nat} (ho : s.heap.get? d = some (dObj es n)) : J w (dictEpoch d q) s n s 1 := by
  unfold PySem.dictEpoch
  refine J_le (c := 1 + 0) (J_bind (J_loadPart ho) ?_) (by decide)
  exact J_pure
theorem places_nil {es : List DictEntry} {h : Int} (ha : ∀ e ∈ es, e.hash ≠ h) : placesWithHash es.toArray.size (fun i => es.toArray[i]?.map (·.hash)) h = [] := by
  unfold placesWithHash
  rw [List.filter_eq_nil_iff]
  intro i hi
  simp only [List.size_toArray, List.mem_range] at hi
  simp only [List.getElem?_toArray, List.getElem?_eq_getElem hi, Option.map_some, beq_iff_eq, Option.some.injEq]
  exact ha _ (List.getElem_mem hi)
theorem J_find {d : Addr} {k : Int} {t : Tok} {h : Int} {es : List DictEntry} {n : Nat} (ho : s.heap.get? d = some (dObj es n)) (ha : ∀ e ∈ es, e.hash ≠ h) : J w (dictFind d (.int k t) h) s none s 1 := by
  unfold dictFind
  refine J_holding ?_
  refine J_le (c := 1 + 0) (J_bind (J_dictEntries ho) ?_) (by decide)
  rw [places_nil ha]
  exact J_pure
theorem J_updKeys {d : Addr} {q : Option Value} {es : List DictEntry} {n : Nat} {e : DictEntry} (ho : s.heap.get? d = some (dObj es n)) (hd : 11 ≤ d) (hs : es.length < 1000) :
    J w (updateDictKeys d (·.push e) q) s () { s with heap := s.heap.update d (Obj.mapDictKeys (·.push e)) } 3 := by
  unfold updateDictKeys
  refine J_le (c := 1 + (1 + (1 + 0))) (J_bind (J_loadPart ho) ?_) (by decide)
  refine J_bind (J_updatePart ho hd) ?_
  unfold lookBehind
  have hf : (Obj.mapDictKeys (·.push e) (dObj es n)).isFreed = false := rfl
  have hu := Heap.get?_update_self (Obj.mapDictKeys (·.push e)) ho hf
  refine J_bind (J_loadPart hu) ?_
  have hz : ((es.toArray.push e).size > sizeLine + 1) ↔ False := by
    simp only [Array.size_push, List.size_toArray, iff_false, Nat.not_lt, sizeLine]
    lia
  simp only [Obj.mapDictKeys, Data.pastItsLine, hz, if_false]
  exact J_pure
theorem J_setHashed {d : Addr} {k : Int} {t : Tok} {h : Int} {v : Value} {es : List DictEntry} {n : Nat} (ho : s.heap.get? d = some (dObj es n)) (ha : ∀ e ∈ es, e.hash ≠ h) (hd : 11 ≤ d) (hs : es.length < 1000) :
    J w (dictSetHashed d (.int k t) h v) s () { s with heap := s.heap.update d (Obj.mapDictKeys (·.push ⟨h, .int k t, v⟩)) } 5 := by
  unfold dictSetHashed
  refine J_holding ?_
  refine J_le (c := 1 + (1 + 3)) (J_bind (J_find ho ha) ?_) (by decide)
  exact J_bind J_rule (J_updKeys ho hd hs)
theorem J_dictSet {d : Addr} {k : Int} {t : Tok} {v : Value} {es : List DictEntry} {n : Nat} (ho : s.heap.get? d = some (dObj es n)) (ha : ∀ e ∈ es, e.hash ≠ hashInt k) (hd : 11 ≤ d) (hs : es.length < 1000) :
    J w (dictSet d (.int k t) v) s () { s with heap := s.heap.update d (Obj.mapDictKeys (·.push ⟨hashInt k, .int k t, v⟩)), toks := s.toks + 1 } 10 := by
  unfold PySem.dictSet
  refine J_holding ?_
  refine J_le (c := 5 + 5) (J_bind J_hash ?_) (by decide)
  exact J_setHashed (s := { s with toks := s.toks + 1 }) ho ha hd hs
theorem J_dictPut {d : Addr} {k : Int} {t : Tok} {h : Int} {v : Value} {es : List DictEntry} {n : Nat} (ho : s.heap.get? d = some (dObj es n)) (ha : ∀ e ∈ es, e.hash ≠ h) (hd : 11 ≤ d) (hs : es.length < 1000) :
    J w (dictPut d h (.int k t) v) s () { s with heap := s.heap.update d (Obj.mapDictKeys (·.push ⟨h, .int k t, v⟩)) } 4 := by
  unfold PySem.dictPut
  refine J_le (c := 1 + 3) (J_bind (J_find ho ha) ?_) (by decide)
  exact J_updKeys ho hd hs
end
/-- one more entry in a dict that lies at d -/
theorem upd_get {H : Heap} {d : Addr} {es : List DictEntry} {n : Nat} {e : DictEntry} (ho : H.get? d = some (dObj es n)) : (H.update d (Obj.mapDictKeys (·.push e))).get? d = some (dObj (es ++ [e]) (n + 1)) := by
  have := Heap.get?_update_self (Obj.mapDictKeys (·.push e)) ho rfl
  rw [this]
  simp [Obj.mapDictKeys, dObj]
noncomputable def putAll (d : Addr) : List DictEntry → Heap → Heap
  | [], H => H
  | e :: r, H => putAll d r (H.update d (Obj.mapDictKeys (·.push e)))
theorem putAll_get {d : Addr} : ∀ {r : List DictEntry} {H : Heap} {es : List DictEntry} {n : Nat}, H.get? d = some (dObj es n) → (putAll d r H).get? d = some (dObj (es ++ r) (n + r.length))
  | [], H, es, n, ho => by simpa [putAll] using ho
  | e :: r, H, es, n, ho => by
    have := putAll_get (r := r) (upd_get (e := e) ho)
    simp only [putAll, this, List.append_assoc, List.singleton_append, List.length_cons]
    rw [show n + 1 + r.length = n + (r.length + 1) by lia]
theorem putAll_ne {d b : Addr} (hb : b ≠ d) : ∀ {r : List DictEntry} {H : Heap}, (putAll d r H).get? b = H.get? b
  | [], _ => rfl
  | e :: r, H => by rw [putAll, putAll_ne hb, Heap.get?_update_ne _ _ _ _ hb]
theorem putAll_size {d : Addr} : ∀ {r : List DictEntry} {H : Heap}, (putAll d r H).objs.size = H.objs.size
  | [], _ => rfl
  | e :: r, H => by rw [putAll, putAll_size, Heap.size_update]
end Mine
end
section
open PySem PySem.W PyProof.Rows PySem.Calls
set_option maxHeartbeats 400000
namespace Mine
theorem push_upd (H : Heap) (o : Obj) (f : Obj → Obj) : (H.push o).update H.objs.size f = H.push (f o) := by
  obtain ⟨a, l⟩ := H
  simp only [Heap.push, Heap.update, Heap.mk.injEq, and_true]
  apply Array.ext_getElem?
  intro i
  rw [Array.getElem?_modify, Array.getElem?_push, Array.getElem?_push]
  by_cases h : a.size = i
  · subst h; simp
  · rw [if_neg h, if_neg (Ne.symm h), if_neg (Ne.symm h)]
theorem upd_upd (H : Heap) (d : Addr) (f g : Obj → Obj) : (H.update d f).update d g = H.update d (fun o => g (f o)) := by
  obtain ⟨a, l⟩ := H
  simp only [Heap.update, Heap.mk.injEq, and_true]
  apply Array.ext_getElem?
  intro i
  simp only [Array.getElem?_modify]
  by_cases h : d = i
  · simp only [if_pos h, Option.map_map]; rfl
  · simp only [if_neg h]
theorem upd_congr {H : Heap} {d : Addr} {o : Obj} {f g : Obj → Obj} (ho : H.get? d = some o) (e : f o = g o) : H.update d f = H.update d g := by
  obtain ⟨a, l⟩ := H
  have ha : a[d]? = some o := (Heap.get?_some_iff.mp ho).1
  simp only [Heap.update, Heap.mk.injEq, and_true]
  apply Array.ext_getElem?
  intro i
  simp only [Array.getElem?_modify]
  by_cases h : d = i
  · subst h; simp [ha, e]
  · simp only [if_neg h]
theorem upd_same {H : Heap} {d : Addr} {o : Obj} (ho : H.get? d = some o) : H.update d (fun _ => o) = H := by
  obtain ⟨a, l⟩ := H
  have ha : a[d]? = some o := (Heap.get?_some_iff.mp ho).1
  simp only [Heap.update, Heap.mk.injEq, and_true]
  apply Array.ext_getElem?
  intro i
  simp only [Array.getElem?_modify]
  by_cases h : d = i
  · subst h; simp [ha]
  · simp only [if_neg h]
section
variable {α β γ : Type} {w : World} {s s' s'' : Shared} {c c' : Nat}
theorem J_forIn {f : γ → PUnit → Sem (ForInStep PUnit)} : ∀ (l : List γ) (st : Nat → Shared), (∀ i (h : i < l.length), J w (f l[i] ⟨⟩) (st i) (.yield ⟨⟩) (st (i + 1)) c) → J w (forIn l PUnit.unit f) (st 0) PUnit.unit (st l.length) (c * l.length)
  | [], _, _ => J_pure
  | a :: l, st, h => by
    rw [List.forIn_cons]
    refine J_le (c := c + c * l.length) (J_bind (h 0 (by simp)) ?_) (by rw [List.length_cons, Nat.mul_succ]; lia)
    exact J_forIn l (fun i => st (i + 1)) fun i hi => h (i + 1) (by simp; lia)
theorem J_mkInt {k : Int} : J w (mkInt k) s (.int k s.toks) { s with toks := s.toks + 1 } 1 :=
  J_le (c := 1 + 0) (J_bind J_fresh J_pure) (by decide)
theorem J_mkText {x : Str} : J w (mkText x) s (.str x s.toks) { s with toks := s.toks + 1 } 1 :=
  J_le (c := 1 + 0) (J_bind J_fresh J_pure) (by decide)
end
noncomputable def ent3 (tk i : Nat) (p : Int × Str) : DictEntry := ⟨hashInt p.1, .int p.1 (tk + 3 * i), .str p.2 (tk + 3 * i + 1)⟩
noncomputable def ent2 (tk i : Nat) (p : Int × Str) : DictEntry := ⟨hashInt p.1, .int p.1 (tk + 2 * i), .str p.2 (tk + 2 * i + 1)⟩
noncomputable def entL (tk : Nat) (l : List (Int × Str)) : List DictEntry := if l.length ≤ 15 then l.mapIdx (ent2 tk) else l.mapIdx (ent3 tk)
noncomputable def item (p : Pos) (x : Int × Str) : Sem Value × Sem Value := (mkInt x.1, do let y ← mkText x.2; standAt p; pure y)
theorem hash_ent3 (tk : Nat) (l : List (Int × Str)) : (l.mapIdx (ent3 tk)).map (·.hash) = l.map fun x => hashInt x.1 := by
  apply List.ext_getElem?
  intro i
  simp only [List.getElem?_map, List.getElem?_mapIdx, Option.map_map]
  rfl
theorem hash_ent2 (tk : Nat) (l : List (Int × Str)) : (l.mapIdx (ent2 tk)).map (·.hash) = l.map fun x => hashInt x.1 := by
  apply List.ext_getElem?
  intro i
  simp only [List.getElem?_map, List.getElem?_mapIdx, Option.map_map]
  rfl
theorem hash_entL (tk : Nat) (l : List (Int × Str)) : (entL tk l).map (·.hash) = l.map fun x => hashInt x.1 := by
  unfold entL; split
  · exact hash_ent2 tk l
  · exact hash_ent3 tk l
theorem len_entL (tk : Nat) (l : List (Int × Str)) : (entL tk l).length = l.length := by
  unfold entL; split <;> simp
/-- the next key is none of those before -/
theorem fresh_at {l : List (Int × Str)} {E : List DictEntry} (hE : E.map (·.hash) = l.map fun x => hashInt x.1) (hn : (l.map fun x => hashInt x.1).Nodup) {i : Nat} (hi : i < l.length) : ∀ e ∈ E.take i, e.hash ≠ hashInt l[i].1 := by
  intro e he q
  have h1 : e.hash ∈ (l.map fun x => hashInt x.1).take i := by
    rw [← hE, ← List.map_take]
    exact List.mem_map_of_mem he
  rw [q] at h1
  refine Classical.byContradiction fun gK => ?_
  obtain ⟨j, hj, ej⟩ := List.getElem_of_mem h1
  refine gK ?_
  clear gK
  have hj' : j < i := by simp at hj; lia
  rw [List.getElem_take] at ej
  have := (List.nodup_iff_pairwise_ne.mp hn)
  have h2 := List.pairwise_iff_getElem.mp this j i (by simp; lia) (by simpa using hi) hj'
  apply h2
  rw [ej]
  simp
noncomputable def turn3 (d : Addr) (x : Sem Value × Sem Value) (_ : PUnit) : Sem (ForInStep PUnit) := do
  let kv ← x.1
  let vv ← holding [kv] x.2
  holding [kv, vv] (dictSet d kv vv)
  pure (ForInStep.yield PUnit.unit)
section
variable {w : World} {s : Shared}
theorem J_subLong {p : Pos} {l : List (Int × Str)} (h15 : 15 < l.length) (hl : l.length < 1000) (hn : (l.map fun x => hashInt x.1).Nodup) (hs : 11 ≤ s.heap.objs.size) :
    J w (subDict (l.map (item p))) s s.heap.objs.size { s with heap := s.heap.push (dObj (entL s.toks l) l.length), toks := s.toks + 3 * l.length } (2 + 13 * l.length) := by
  have eL : entL s.toks l = l.mapIdx (ent3 s.toks) := by unfold entL; rw [if_neg (by lia)]
  rw [eL]
  have key : ∀ q : Unit, J w (forIn (l.map (item p)) PUnit.unit (turn3 s.heap.objs.size)) { s with heap := s.heap.push (dObj [] 0) } PUnit.unit { s with heap := s.heap.push (dObj (l.mapIdx (ent3 s.toks)) l.length), toks := s.toks + 3 * l.length } (13 * l.length) := by
    intro _
    have := J_forIn (w := w) (c := 13) (l := l.map (item p)) (f := turn3 s.heap.objs.size) (fun i => { s with heap := s.heap.push (dObj ((l.mapIdx (ent3 s.toks)).take i) i), toks := s.toks + 3 * i }) ?_
    · have e2 : (l.mapIdx (ent3 s.toks)).take (l.map (item p)).length = l.mapIdx (ent3 s.toks) := List.take_of_length_le (by simp)
      rw [e2] at this
      simpa using this
    · intro i hi
      simp only [List.length_map] at hi
      simp only [List.getElem_map, item, turn3]
      refine J_le (c := 1 + ((1 + (1 + 0)) + (10 + 0))) (J_bind J_mkInt ?_) (by decide)
      refine J_bind (J_holding (J_bind J_mkText (J_bind J_standAt J_pure))) ?_
      have hg : (s.heap.push (dObj ((l.mapIdx (ent3 s.toks)).take i) i)).get? s.heap.objs.size = some (dObj ((l.mapIdx (ent3 s.toks)).take i) i) := Heap.get?_push_size _ rfl
      have hj := J_dictSet (w := w) (s := { s with heap := s.heap.push (dObj ((l.mapIdx (ent3 s.toks)).take i) i), toks := s.toks + 3 * i + 1 + 1 }) (k := l[i].1) (t := s.toks + 3 * i) (v := .str l[i].2 (s.toks + 3 * i + 1)) hg (fresh_at (hash_ent3 _ _) hn hi) hs (by simp; lia)
      refine J_bind (J_holding hj) ?_
      have e3 : (s.heap.push (dObj ((l.mapIdx (ent3 s.toks)).take i) i)).update s.heap.objs.size (Obj.mapDictKeys (·.push ⟨hashInt l[i].1, .int l[i].1 (s.toks + 3 * i), .str l[i].2 (s.toks + 3 * i + 1)⟩)) = s.heap.push (dObj ((l.mapIdx (ent3 s.toks)).take (i + 1)) (i + 1)) := by
        rw [push_upd]
        congr 1
        rw [List.take_add_one, List.getElem?_eq_getElem (by simpa using hi)]
        simp [Obj.mapDictKeys, dObj, ent3]
      show J w (pure _) { s with heap := (s.heap.push (dObj ((l.mapIdx (ent3 s.toks)).take i) i)).update s.heap.objs.size (Obj.mapDictKeys (·.push ⟨hashInt l[i].1, .int l[i].1 (s.toks + 3 * i), .str l[i].2 (s.toks + 3 * i + 1)⟩)), toks := s.toks + 3 * i + 1 + 1 + 1 } _ _ _
      rw [e3]
      exact J_pure
  unfold subDict
  refine J_le (c := 1 + ((1 + (13 * l.length + 0)) + 0)) (J_bind J_alloc ?_) (by lia)
  refine J_bind (a := ()) (J_holding ?_) J_pure
  refine J_ite' (by simpa using h15) ?_
  exact J_bind J_rule (J_bind (key ()) J_pure)

noncomputable def vals2 (tk i : Nat) (x : Int × Str) : Value × Value := (.int x.1 (tk + 2 * i), .str x.2 (tk + 2 * i + 1))
theorem J_evalPairs {p : Pos} : ∀ (l : List (Int × Str)) (s : Shared) (tk j : Nat), s.toks = tk + 2 * j → J w (evalPairs (l.map (item p))) s ((List.range l.length).map fun i => vals2 tk (j + i) (l.getD i (0, Str.empty))) { s with toks := tk + 2 * (j + l.length) } (4 * l.length)
  | [], s, tk, j, hs => by
    have : s = { s with toks := tk + 2 * (j + ([] : List (Int × Str)).length) } := by rw [List.length_nil, Nat.add_zero, ← hs]
    rw [← this]; exact J_pure
  | x :: l, s, tk, j, hs => by
    simp only [List.map_cons, item, evalPairs]
    refine J_le (c := 1 + ((1 + (1 + 0)) + (4 * l.length + 0))) (J_bind J_mkInt ?_) (by rw [List.length_cons, Nat.mul_succ]; lia)
    refine J_bind (J_holding (J_bind J_mkText (J_bind J_standAt J_pure))) ?_
    have ih := J_evalPairs (p := p) l { s with toks := s.toks + 1 + 1 } tk (j + 1) (by show s.toks + 1 + 1 = _; lia)
    refine J_bind (J_holding ih) ?_
    have e1 : ((List.range (x :: l).length).map fun i => vals2 tk (j + i) ((x :: l).getD i (0, Str.empty))) = (Value.int x.1 s.toks, Value.str x.2 (s.toks + 1)) :: ((List.range l.length).map fun i => vals2 tk (j + 1 + i) (l.getD i (0, Str.empty))) := by
      rw [List.length_cons, List.range_succ_eq_map, List.map_cons, List.map_map]
      congr 1
      · simp [vals2, hs]
      · apply List.map_congr_left
        intro i _
        simp [Function.comp, vals2, show j + (i + 1) = j + 1 + i by lia]
    rw [e1, show j + (x :: l).length = j + 1 + l.length by simp; lia]
    exact J_pure
noncomputable def turn2 (d : Addr) (x : Value × Value) (_ : PUnit) : Sem (ForInStep PUnit) := do
  dictSet d x.1 x.2
  pure (ForInStep.yield PUnit.unit)
theorem J_subShort {p : Pos} {l : List (Int × Str)} (h15 : l.length ≤ 15) (hn : (l.map fun x => hashInt x.1).Nodup) (hs : 11 ≤ s.heap.objs.size) :
    J w (subDict (l.map (item p))) s s.heap.objs.size { s with heap := s.heap.push (dObj (entL s.toks l) l.length), toks := s.toks + 3 * l.length } (1 + 14 * l.length) := by
  have eL : entL s.toks l = l.mapIdx (ent2 s.toks) := by unfold entL; rw [if_pos h15]
  rw [eL]
  have key : J w (forIn ((List.range l.length).map fun i => vals2 s.toks (0 + i) (l.getD i (0, Str.empty))) PUnit.unit (turn2 s.heap.objs.size)) { s with heap := s.heap.push (dObj [] 0), toks := s.toks + 2 * (0 + l.length) } PUnit.unit { s with heap := s.heap.push (dObj (l.mapIdx (ent2 s.toks)) l.length), toks := s.toks + 3 * l.length } (10 * l.length) := by
    have := J_forIn (w := w) (c := 10) (l := (List.range l.length).map fun i => vals2 s.toks (0 + i) (l.getD i (0, Str.empty))) (f := turn2 s.heap.objs.size) (fun i => { s with heap := s.heap.push (dObj ((l.mapIdx (ent2 s.toks)).take i) i), toks := s.toks + 2 * (0 + l.length) + i }) ?_
    · rw [List.length_map, List.length_range] at this
      have e2 : (l.mapIdx (ent2 s.toks)).take l.length = l.mapIdx (ent2 s.toks) := List.take_of_length_le (by simp)
      rw [e2] at this
      rw [show s.toks + 3 * l.length = s.toks + 2 * (0 + l.length) + l.length by lia]
      exact this
    · intro i hi
      simp only [List.length_map, List.length_range] at hi
      simp only [List.getElem_map, List.getElem_range, turn2, vals2, List.getD_eq_getElem?_getD, List.getElem?_eq_getElem hi, Option.getD_some, Nat.zero_add]
      have hg : (s.heap.push (dObj ((l.mapIdx (ent2 s.toks)).take i) i)).get? s.heap.objs.size = some (dObj ((l.mapIdx (ent2 s.toks)).take i) i) := Heap.get?_push_size _ rfl
      have hj := J_dictSet (w := w) (s := { s with heap := s.heap.push (dObj ((l.mapIdx (ent2 s.toks)).take i) i), toks := s.toks + 2 * l.length + i }) (k := l[i].1) (t := s.toks + 2 * i) (v := .str l[i].2 (s.toks + 2 * i + 1)) hg (fresh_at (hash_ent2 _ _) hn hi) hs (by simp; lia)
      refine J_le (c := 10 + 0) (J_bind hj ?_) (by decide)
      have e3 : (s.heap.push (dObj ((l.mapIdx (ent2 s.toks)).take i) i)).update s.heap.objs.size (Obj.mapDictKeys (·.push ⟨hashInt l[i].1, .int l[i].1 (s.toks + 2 * i), .str l[i].2 (s.toks + 2 * i + 1)⟩)) = s.heap.push (dObj ((l.mapIdx (ent2 s.toks)).take (i + 1)) (i + 1)) := by
        rw [push_upd]
        congr 1
        rw [List.take_add_one, List.getElem?_eq_getElem (by simpa using hi)]
        simp [Obj.mapDictKeys, dObj, ent2]
      show J w (pure _) { s with heap := (s.heap.push (dObj ((l.mapIdx (ent2 s.toks)).take i) i)).update s.heap.objs.size (Obj.mapDictKeys (·.push ⟨hashInt l[i].1, .int l[i].1 (s.toks + 2 * i), .str l[i].2 (s.toks + 2 * i + 1)⟩)), toks := s.toks + 2 * l.length + i + 1 } _ _ _
      rw [e3]
      exact J_pure
  unfold subDict
  refine J_le (c := 1 + ((4 * l.length + (10 * l.length + 0)) + 0)) (J_bind J_alloc ?_) (by lia)
  refine J_bind (a := ()) (J_holding ?_) J_pure
  refine J_ite (by simpa using h15) ?_
  refine J_bind (J_evalPairs l _ s.toks 0 rfl) ?_
  exact J_holding (J_bind key J_pure)
theorem J_sub {p : Pos} {l : List (Int × Str)} (hl : l.length < 1000) (hn : (l.map fun x => hashInt x.1).Nodup) (hs : 11 ≤ s.heap.objs.size) :
    J w (subDict (l.map (item p))) s s.heap.objs.size { s with heap := s.heap.push (dObj (entL s.toks l) l.length), toks := s.toks + 3 * l.length } (2 + 14 * l.length) := by
  by_cases h : l.length ≤ 15
  · exact J_le (J_subShort h hn hs) (by lia)
  · exact J_le (J_subLong (by lia) hl hn hs) (by lia)
end
end Mine
end
section
open PySem PySem.W PyProof.Rows PySem.Calls
set_option maxHeartbeats 400000
namespace Mine
section
variable {w : World} {s : Shared}
theorem J_typeOf {a : Addr} {es : List DictEntry} {n : Nat} (ha : s.heap.get? a = some (dObj es n)) : J w (typeOf (.ref a)) s (.type "dict") s 1 :=
  J_le (c := 1 + 0) (J_bind (J_loadPart ha) J_pure) (by decide)
theorem J_isDict {a : Addr} {es : List DictEntry} {n : Nat} (ha : s.heap.get? a = some (dObj es n)) : J w (isInstance (.ref a) (.type "dict")) s true s 1 := by
  unfold isInstance
  refine J_le (c := 1 + 0) (J_bind (J_typeOf ha) ?_) (by decide)
  rw [isSubtype_dict_dict]
  exact J_pure
theorem J_iterOf {a : Addr} {es : List DictEntry} {n : Nat} (ha : s.heap.get? a = some (dObj es n)) : J w (specialOf (.ref a) "__iter__") s (some (.builtin "dict.__iter__")) s 1 := by
  unfold specialOf
  refine J_le (c := 1 + 0) (J_bind (J_typeOf ha) ?_) (by decide)
  rw [F.slot_dict_iter.lookup]
  exact J_pure
noncomputable def turnM (d a : Addr) (epoch : Nat) (i : Nat) (_ : PUnit) : Sem (ForInStep PUnit) := do
  let some e := (← dictEntries a)[i]? | unsupported "dict.changed-during-merge"
  holding [e.key, e.val] do
    if false = true then
      if (← dictFind d e.key e.hash).isSome then rule "dict.merge.duplicate-key"; raiseNew (← newExc (.type "KeyError") [e.key])
    dictPut d e.hash e.key e.val
  if (← dictEpoch a) != epoch then unsupported "dict.changed-during-merge"
  pure (ForInStep.yield PUnit.unit)
theorem J_merge {d a : Addr} {E F : List DictEntry} {n m : Nat} (hd : s.heap.get? d = some (dObj E n)) (ha : s.heap.get? a = some (dObj F m)) (had : a ≠ d) (h11 : 11 ≤ d) (ha1 : a ≠ sysModules) (hE : E ≠ [])
    (hk : ∀ e ∈ F, ∃ k t, e.key = .int k t) (hn : ((E ++ F).map (·.hash)).Nodup) (hs : (E ++ F).length < 1000) :
    J w (mergeMapping d (.ref a) false) s () { s with heap := s.heap.update d (fun _ => dObj (E ++ F) (n + F.length)) } (5 + 6 * F.length) := by
  have st : ∀ i, (s.heap.update d (fun _ => dObj (E ++ F.take i) (n + i))).get? d = some (dObj (E ++ F.take i) (n + i)) := fun i => Heap.get?_update_self _ hd rfl
  have sa : ∀ i, (s.heap.update d (fun _ => dObj (E ++ F.take i) (n + i))).get? a = some (dObj F m) := fun i => by rw [Heap.get?_update_ne _ _ _ _ had]; exact ha
  have key : J w (forIn (List.range F.length) PUnit.unit (turnM d a m)) s PUnit.unit { s with heap := s.heap.update d (fun _ => dObj (E ++ F) (n + F.length)) } (6 * F.length) := by
    have := J_forIn (w := w) (c := 6) (l := List.range F.length) (f := turnM d a m) (fun i => { s with heap := s.heap.update d (fun _ => dObj (E ++ F.take i) (n + i)) }) ?_
    · rw [List.length_range, List.take_length, List.take_zero, List.append_nil, Nat.add_zero, upd_same hd] at this
      exact this
    · intro i hi
      simp only [List.length_range] at hi
      simp only [List.getElem_range, turnM]
      refine Classical.byContradiction fun gK => ?_
      obtain ⟨k, t, hkt⟩ := hk F[i] (List.getElem_mem hi)
      refine gK ?_
      clear gK
      refine J_le (c := 1 + (4 + (1 + 0))) (J_bind (J_dictEntries (sa i)) ?_) (by decide)
      simp only [List.getElem?_toArray, List.getElem?_eq_getElem hi]
      have hab : ∀ e ∈ E ++ F.take i, e.hash ≠ F[i].hash := by
        intro e he q
        rw [List.map_append, List.nodup_append] at hn
        rcases List.mem_append.mp he with h1 | h1
        · exact hn.2.2 _ (List.mem_map_of_mem h1) _ (List.mem_map_of_mem (List.getElem_mem hi)) q
        · obtain ⟨j, hj, rfl⟩ := List.getElem_of_mem h1
          have hj' : j < i := by simp at hj; lia
          have h2 := List.pairwise_iff_getElem.mp (List.nodup_iff_pairwise_ne.mp hn.2.1) j i (by simp; lia) (by simpa using hi) hj'
          apply h2
          simpa using q
      have hp := J_dictPut (w := w) (s := { s with heap := s.heap.update d (fun _ => dObj (E ++ F.take i) (n + i)) }) (k := k) (t := t) (h := F[i].hash) (v := F[i].val) (st i) hab h11 (by simp at hs ⊢; lia)
      rw [hkt]
      refine J_bind (a := ()) (J_holding hp) ?_
      have e3 : (s.heap.update d (fun _ => dObj (E ++ F.take i) (n + i))).update d (Obj.mapDictKeys (·.push ⟨F[i].hash, .int k t, F[i].val⟩)) = s.heap.update d (fun _ => dObj (E ++ F.take (i + 1)) (n + (i + 1))) := by
        rw [upd_upd]
        apply upd_congr hd
        rw [List.take_add_one, List.getElem?_eq_getElem hi]
        have : F[i] = ⟨F[i].hash, .int k t, F[i].val⟩ := by rw [← hkt]
        simp only [Obj.mapDictKeys, dObj, Option.toList_some, List.push_toArray, List.append_assoc]
        rw [← this]
        rfl
      show J w _ { s with heap := (s.heap.update d (fun _ => dObj (E ++ F.take i) (n + i))).update d (Obj.mapDictKeys (·.push ⟨F[i].hash, .int k t, F[i].val⟩)) } _ _ _
      rw [e3]
      refine J_bind (J_dictEpoch (sa (i + 1))) ?_
      refine J_ite' (by simp) J_pure
  unfold mergeMapping
  refine J_le (c := 1 + (1 + (1 + (1 + (1 + (6 * F.length + 0)))))) (J_bind (J_isDict ha) ?_) (by lia)
  refine J_ite rfl ?_
  refine J_bind (J_iterOf ha) ?_
  have ht : (some (Value.builtin "dict.__iter__") == some (Value.builtin "dict.__iter__")) = true := by decide
  simp only [ht]
  refine J_ite' (by simpa using ha1) ?_
  refine J_bind (J_dictEntries hd) ?_
  refine J_ite' (by simpa using hE) ?_
  refine J_bind (J_dictEntries ha) ?_
  refine J_bind (J_dictEpoch ha) ?_
  rw [List.size_toArray]
  exact J_bind key J_pure
end
end Mine
end
section
open PySem PySem.W PyProof.Rows PySem.Calls
set_option maxHeartbeats 400000
namespace Mine
noncomputable abbrev kh (x : Int × Str) : Int := hashInt x.1
noncomputable def addE (F : List DictEntry) (o : Obj) : Obj := match o.data with
  | .dict es n => dObj (es.toList ++ F) (n + F.length)
  | _ => o
noncomputable def flushH (H : Heap) (tk : Nat) : Option Addr → List (Int × Str) → Heap × Option Addr
  | none, run => (H.push (dObj (entL tk run) run.length), some H.objs.size)
  | some d, run => ((H.push (dObj (entL tk run) run.length)).update d (addE (entL tk run)), some d)
noncomputable def flushS (run : List (Sem Value × Sem Value)) (main : Option Addr) : Sem (Option Addr) := do
  if run.isEmpty then return main
  match main with
  | none => return some (← subDict run)
  | some d =>
    let sub ← holding [.ref d] (subDict run)
    (holding [.ref d, .ref sub] (mergeMapping d (.ref sub) false)).onRaise fun x => do let _ ← holding [.ref d, x] (runValue (.builtin "proto.let_go" {}))
    return some d
noncomputable def Inv (s : Shared) (done : List (Int × Str)) : Option Addr → Prop
  | none => done = []
  | some d => 11 ≤ d ∧ ∃ E n, s.heap.get? d = some (dObj E n) ∧ E.map (·.hash) = done.map kh ∧ E ≠ []
theorem key_entL (tk : Nat) (l : List (Int × Str)) : ∀ e ∈ entL tk l, ∃ k t, e.key = .int k t := by
  unfold entL
  split <;>
  · intro e he
    obtain ⟨i, hi, rfl⟩ := List.getElem_of_mem he
    rw [List.getElem_mapIdx]
    exact ⟨_, _, rfl⟩
section
variable {w : World} {s : Shared}
theorem J_flush {p : Pos} {done run : List (Int × Str)} {main : Option Addr} (I : Inv s done main) (hr : run ≠ []) (hn : ((done ++ run).map kh).Nodup) (hl : (done ++ run).length < 1000) (hs : 11 ≤ s.heap.objs.size) :
    J w (flushS (run.map (item p)) main) s (flushH s.heap s.toks main run).2 { s with heap := (flushH s.heap s.toks main run).1, toks := s.toks + 3 * run.length } (7 + 20 * run.length) ∧
    Inv { s with heap := (flushH s.heap s.toks main run).1, toks := s.toks + 3 * run.length } (done ++ run) (flushH s.heap s.toks main run).2 ∧ s.heap.objs.size ≤ (flushH s.heap s.toks main run).1.objs.size := by
  have hrun : (run.map kh).Nodup := by rw [List.map_append, List.nodup_append] at hn; exact hn.2.1
  have hne : entL s.toks run ≠ [] := fun q => hr (by have := len_entL s.toks run; rw [q] at this; exact List.length_eq_zero_iff.mp this.symm)
  have hrl : run.length < 1000 := by rw [List.length_append] at hl; lia
  have hi : (run.map (item p)).isEmpty = false := by simpa using hr
  cases main with
  | none =>
    obtain rfl : done = [] := I
    refine ⟨?_, ⟨hs, entL s.toks run, run.length, Heap.get?_push_size _ rfl, by simpa using hash_entL s.toks run, hne⟩, by simp [flushH, Heap.size_push]⟩
    unfold flushS
    refine J_ite' (by rw [hi]; decide) ?_
    exact J_le (c := (2 + 14 * run.length) + 0) (J_bind (J_sub hrl hrun hs) J_pure) (by lia)
  | some d =>
    refine Classical.byContradiction fun gK => ?_
    obtain ⟨hd, E, n, hE, hh, hEn⟩ := I
    refine gK ?_
    clear gK
    have hds : d < s.heap.objs.size := Heap.lt_size hE
    have hp : (s.heap.push (dObj (entL s.toks run) run.length)).get? d = some (dObj E n) := Heap.get?_push_of_some _ hE
    have hns : ((E ++ entL s.toks run).map (·.hash)).Nodup := by rw [List.map_append, hh, hash_entL, ← List.map_append]; exact hn
    have hEl : E.length = done.length := by have := congrArg List.length hh; simpa using this
    refine ⟨?_, ⟨hd, E ++ entL s.toks run, n + (entL s.toks run).length, ?_, ?_, by simp [hEn]⟩, by simp [flushH, Heap.size_update, Heap.size_push]⟩
    · unfold flushS
      refine J_ite' (by rw [hi]; decide) ?_
      refine J_le (c := (2 + 14 * run.length) + ((5 + 6 * (entL s.toks run).length) + 0)) (J_bind (J_holding (J_sub hrl hrun hs)) ?_) (by rw [len_entL]; lia)
      have hm := J_merge (w := w) (s := { s with heap := s.heap.push (dObj (entL s.toks run) run.length), toks := s.toks + 3 * run.length }) (d := d) (a := s.heap.objs.size) (m := run.length) hp (Heap.get?_push_size _ rfl) (Nat.ne_of_gt hds) hd (Nat.ne_of_gt (Nat.lt_of_lt_of_le (by decide) hs)) hEn (key_entL _ _) hns (by rw [List.length_append, len_entL, hEl]; rw [List.length_append] at hl; exact hl)
      refine J_bind (J_onRaise (J_holding hm)) ?_
      have e : (s.heap.push (dObj (entL s.toks run) run.length)).update d (fun _ => dObj (E ++ entL s.toks run) (n + (entL s.toks run).length)) = (s.heap.push (dObj (entL s.toks run) run.length)).update d (addE (entL s.toks run)) := upd_congr hp (by simp [addE, dObj])
      show J w _ { s with heap := (s.heap.push (dObj (entL s.toks run) run.length)).update d (fun _ => dObj (E ++ entL s.toks run) (n + (entL s.toks run).length)), toks := s.toks + 3 * run.length } _ _ _
      rw [e]
      exact J_pure
    · show ((s.heap.push (dObj (entL s.toks run) run.length)).update d (addE (entL s.toks run))).get? d = _
      rw [Heap.get?_update_self _ hp (by rfl)]
      simp [addE, dObj]
    · rw [List.map_append, hh, hash_entL, ← List.map_append]
/-- the loop over the rows of a display, on heaps -/
noncomputable def dispH : Heap → Nat → Option Addr → List (Int × Str) → List (Int × Str) → Heap × Nat × Option Addr × List (Int × Str)
  | H, tk, m, run, [] => (H, tk, m, run)
  | H, tk, m, run, x :: r => if (run ++ [x]).length = 17 then dispH (flushH H tk m (run ++ [x])).1 (tk + 3 * 17) (flushH H tk m (run ++ [x])).2 [] r else dispH H tk m (run ++ [x]) r
noncomputable abbrev rowT := Option (Sem Value) × Sem Value
noncomputable def rowS (p : Pos) (x : Int × Str) : rowT := (some (item p x).1, (item p x).2)
noncomputable abbrev stT := Option Addr × List (Sem Value × Sem Value)
theorem J_loop {p : Pos} {f : rowT → stT → Sem (ForInStep stT)} (hf : ∀ x main run, f (rowS p x) ⟨main, run⟩ = if ((run ++ [item p x]).length == 17) = true then flushS (run ++ [item p x]) main >>= fun m => pure (ForInStep.yield ⟨m, []⟩) else pure (ForInStep.yield ⟨main, run ++ [item p x]⟩)) :
    ∀ (rest run done : List (Int × Str)) (main : Option Addr) (s : Shared), Inv s done main → ((done ++ run ++ rest).map kh).Nodup → (done ++ run ++ rest).length < 1000 → 11 ≤ s.heap.objs.size → run.length < 17 →
      J w (forIn (rest.map (rowS p)) (⟨main, run.map (item p)⟩ : stT) f) s ⟨(dispH s.heap s.toks main run rest).2.2.1, (dispH s.heap s.toks main run rest).2.2.2.map (item p)⟩ { s with heap := (dispH s.heap s.toks main run rest).1, toks := (dispH s.heap s.toks main run rest).2.1 } (400 * rest.length) ∧
      ∃ done', Inv { s with heap := (dispH s.heap s.toks main run rest).1, toks := (dispH s.heap s.toks main run rest).2.1 } done' (dispH s.heap s.toks main run rest).2.2.1 ∧ done' ++ (dispH s.heap s.toks main run rest).2.2.2 = done ++ run ++ rest ∧ 11 ≤ (dispH s.heap s.toks main run rest).1.objs.size
  | [], run, done, main, s, I, _, _, hs, _ => by
    refine ⟨J_pure, done, I, by simp [dispH], hs⟩
  | x :: r, run, done, main, s, I, hn, hl, hs, hr => by
    rw [List.map_cons, List.forIn_cons, hf]
    have hlen : (run.map (item p) ++ [item p x]).length = run.length + 1 := by simp
    by_cases h17 : run.length = 16
    · have hrx : (run ++ [x]).length = 17 := by simp [h17]
      have e0 : run.map (item p) ++ [item p x] = (run ++ [x]).map (item p) := by simp
      rw [if_pos (by rw [hlen, h17]; rfl), e0]
      have hcat : done ++ (run ++ [x]) ++ r = done ++ run ++ x :: r := by simp
      have hn' : ((done ++ (run ++ [x])).map kh).Nodup := by
        rw [← hcat, List.map_append, List.nodup_append] at hn
        exact hn.1
      refine Classical.byContradiction fun gK => ?_
      obtain ⟨j, I', hsz⟩ := J_flush (w := w) (p := p) I (by simp : run ++ [x] ≠ []) hn' (by rw [← hcat, List.length_append] at hl; exact Nat.lt_of_le_of_lt (Nat.le_add_right _ _) hl) hs
      refine gK ?_
      clear gK
      rw [hrx] at j I'
      obtain ⟨jr, rest⟩ := J_loop hf r [] (done ++ (run ++ [x])) (flushH s.heap s.toks main (run ++ [x])).2 { s with heap := (flushH s.heap s.toks main (run ++ [x])).1, toks := s.toks + 3 * 17 } I' (by rw [List.append_nil, hcat]; exact hn) (by rw [List.append_nil, hcat]; exact hl) (Nat.le_trans hs hsz) (by decide)
      have ed : dispH s.heap s.toks main run (x :: r) = dispH (flushH s.heap s.toks main (run ++ [x])).1 (s.toks + 3 * 17) (flushH s.heap s.toks main (run ++ [x])).2 [] r := by rw [dispH, if_pos hrx]
      rw [ed]
      refine ⟨J_le (c := ((7 + 20 * 17) + 0) + 400 * r.length) (J_bind (J_bind j J_pure) jr) (by rw [List.length_cons, Nat.mul_succ]; lia), ?_⟩
      simpa only [List.append_nil, hcat] using rest
    · have hrx : ¬ (run ++ [x]).length = 17 := by simp; lia
      have e0 : run.map (item p) ++ [item p x] = (run ++ [x]).map (item p) := by simp
      rw [if_neg (by rw [hlen]; simp; lia), e0]
      have hcat : done ++ (run ++ [x]) ++ r = done ++ run ++ x :: r := by simp
      obtain ⟨jr, rest⟩ := J_loop hf r (run ++ [x]) done main s I (by rw [hcat]; exact hn) (by rw [hcat]; exact hl) hs (by simp; lia)
      have ed : dispH s.heap s.toks main run (x :: r) = dispH s.heap s.toks main (run ++ [x]) r := by rw [dispH, if_neg hrx]
      rw [ed]
      refine ⟨J_le (c := 0 + 400 * r.length) (J_bind J_pure jr) (by rw [List.length_cons, Nat.mul_succ]; lia), ?_⟩
      simpa only [hcat] using rest
end
end Mine
end
section
open PySem PySem.W PyProof.Rows PySem.Calls
set_option maxHeartbeats 400000
namespace Mine
theorem bind_wrap {α β γ : Type} (m : Sem α) (f : α → Sem β) (K : β → Sem γ) (H : Value → Sem γ) (gd : Bool → Bool) (lv : List Value → List Value) : (m >>= f).wrap K H gd lv = m.wrap (fun a => (f a).wrap K H gd lv) H gd lv := by
  show (m.bind f).wrap K H gd lv = _
  rw [Sem.bind_eq_wrap, Sem.wrap_wrap]
  exact Sem.wrap_congr _ _ _ (fun _ => rfl) fun _ => rfl
noncomputable def dPos : Pos := match stmtAt 13 with
  | .Assign _ (.Dict _ _ p) _ => p
  | _ => default
noncomputable def aPos : Pos := match stmtAt 13 with
  | .Assign _ _ p => p
  | _ => default
noncomputable def tgt : PySem.Expr := match stmtAt 13 with
  | .Assign (t :: _) _ _ => t
  | _ => .Name Str.empty default
noncomputable def t13p (P : Params) : BT := (.node (boot_o_0 P) (.node (boot_o_1 P) (.node (o3_p12 P) (.node (boot_o_7 P) (.node (o15 P) (.node (o31 P) (.node (o63 P) (.node (oSub 17 P) .nil .nil) .nil) (.node (o95 P) .nil .nil)) (.node (o47 P) (.node (o79 P) (.node (oSub 33 P) .nil .nil) .nil) (.node (oSub 1 P) .nil .nil))) (.node (o23 P) (.node (o39 P) (.node (o71 P) (.node (oSub 25 P) .nil .nil) .nil) (.node (o103 P) .nil .nil)) (.node (o55 P) (.node (o87 P) .nil .nil) (.node (oSub 9 P) .nil .nil)))) (.node (o11 P) (.node (o19 P) (.node (o35 P) (.node (o67 P) (.node (oSub 21 P) .nil .nil) .nil) (.node (o99 P) .nil .nil)) (.node (o51 P) (.node (o83 P) (.node (oSub 37 P) .nil .nil) .nil) (.node (oSub 5 P) .nil .nil))) (.node (o27 P) (.node (o43 P) (.node (o75 P) (.node (oSub 29 P) .nil .nil) .nil) (.node (o107 P) .nil .nil)) (.node (o59 P) (.node (o91 P) .nil .nil) (.node (oSub 13 P) .nil .nil))))) (.node (boot_o_5 P) (.node (boot_o_9 P) (.node (o17 P) (.node (o33 P) (.node (o65 P) (.node (oSub 19 P) .nil .nil) .nil) (.node (o97 P) .nil .nil)) (.node (o49 P) (.node (o81 P) (.node (oSub 35 P) .nil .nil) .nil) (.node (oSub 3 P) .nil .nil))) (.node (o25 P) (.node (o41 P) (.node (o73 P) (.node (oSub 27 P) .nil .nil) .nil) (.node (o105 P) .nil .nil)) (.node (o57 P) (.node (o89 P) .nil .nil) (.node (oSub 11 P) .nil .nil)))) (.node (o13 P) (.node (o21 P) (.node (o37 P) (.node (o69 P) (.node (oSub 23 P) .nil .nil) .nil) (.node (o101 P) .nil .nil)) (.node (o53 P) (.node (o85 P) .nil .nil) (.node (oSub 7 P) .nil .nil))) (.node (o29 P) (.node (o45 P) (.node (o77 P) (.node (oSub 31 P) .nil .nil) .nil) (.node (o109 P) .nil .nil)) (.node (o61 P) (.node (o93 P) .nil .nil) (.node (oSub 15 P) .nil .nil)))))) (.node (boot_o_2 P) (.node (boot_o_4 P) (.node (boot_o_8 P) (.node (o16 P) (.node (o32 P) (.node (o64 P) (.node (oSub 18 P) .nil .nil) .nil) (.node (o96 P) .nil .nil)) (.node (o48 P) (.node (o80 P) (.node (oSub 34 P) .nil .nil) .nil) (.node (oSub 2 P) .nil .nil))) (.node (o24 P) (.node (o40 P) (.node (o72 P) (.node (oSub 26 P) .nil .nil) .nil) (.node (o104 P) .nil .nil)) (.node (o56 P) (.node (o88 P) .nil .nil) (.node (oSub 10 P) .nil .nil)))) (.node (o12_p12 P) (.node (o20 P) (.node (o36 P) (.node (o68 P) (.node (oSub 22 P) .nil .nil) .nil) (.node (o100 P) .nil .nil)) (.node (o52 P) (.node (o84 P) (.node (oSub 38 P) .nil .nil) .nil) (.node (oSub 6 P) .nil .nil))) (.node (o28 P) (.node (o44 P) (.node (o76 P) (.node (oSub 30 P) .nil .nil) .nil) (.node (o108 P) .nil .nil)) (.node (o60 P) (.node (o92 P) .nil .nil) (.node (oSub 14 P) .nil .nil))))) (.node (boot_o_6 P) (.node (boot_o_10 P) (.node (o18 P) (.node (o34 P) (.node (o66 P) (.node (oSub 20 P) .nil .nil) .nil) (.node (o98 P) .nil .nil)) (.node (o50 P) (.node (o82 P) (.node (oSub 36 P) .nil .nil) .nil) (.node (oSub 4 P) .nil .nil))) (.node (o26 P) (.node (o42 P) (.node (o74 P) (.node (oSub 28 P) .nil .nil) .nil) (.node (o106 P) .nil .nil)) (.node (o58 P) (.node (o90 P) .nil .nil) (.node (oSub 12 P) .nil .nil)))) (.node (o14 P) (.node (o22 P) (.node (o38 P) (.node (o70 P) (.node (oSub 24 P) .nil .nil) .nil) (.node (o102 P) .nil .nil)) (.node (o54 P) (.node (o86 P) .nil .nil) (.node (oSub 8 P) .nil .nil))) (.node (o30 P) (.node (o46 P) (.node (o78 P) (.node (oSub 32 P) .nil .nil) .nil) (.node (o110 P) .nil .nil)) (.node (o62 P) (.node (o94 P) .nil .nil) (.node (oSub 16 P) .nil .nil)))))))
noncomputable abbrev S13p (w : World) (os : OsState) : SharedT := ⟨t13p w.params, 149, {}, #[], {}, 2315, os⟩
theorem ex13 : exec (stmtAt 13) env = (standAt aPos >>= fun _ => standAt dPos >>= fun _ => dictDisplay (b3.map (rowS dPos)) >>= fun v => assignStores env v none [assign tgt env]) := by kernel_rfl
noncomputable def rising : List Int → Bool
  | a :: b :: r => decide (a < b) && rising (b :: r)
  | _ => true
theorem keys_ok : rising (b3.map kh) = true := by kernel_rfl
theorem above_of_rising : ∀ {l : List Int} {a : Int}, rising (a :: l) = true → ∀ b ∈ l, a < b
  | [], _, _, _, h => nomatch h
  | c :: l, a, h, b, hb => by
    simp only [rising, Bool.and_eq_true, decide_eq_true_eq] at h
    rcases List.mem_cons.mp hb with rfl | hb
    · exact h.1
    · exact Int.lt_trans h.1 (above_of_rising h.2 b hb)
theorem nodup_of_rising : ∀ {l : List Int}, rising l = true → l.Nodup
  | [], _ => List.nodup_nil
  | a :: l, h => by
    refine List.nodup_cons.mpr ⟨fun hm => absurd (above_of_rising h a hm) (Int.lt_irrefl a), nodup_of_rising ?_⟩
    cases l with
    | nil => rfl
    | cons b l => simp only [rising, Bool.and_eq_true] at h; exact h.2
theorem len_ok : b3.length = 650 := by kernel_rfl
noncomputable def f0 (x : rowT) (r : stT) : Sem (ForInStep stT) := match x.1 with
  | some k => if ((r.2 ++ [(k, x.2)]).length == 17) = true then flushS (r.2 ++ [(k, x.2)]) r.1 >>= fun m => pure (ForInStep.yield ⟨m, []⟩) else pure (ForInStep.yield ⟨r.1, r.2 ++ [(k, x.2)]⟩)
  | none => unsupported ""
theorem J_display {w : World} {s : Shared} {p : Pos} {l : List (Int × Str)} {d : Addr} {H : Heap} {tk : Nat} {m : Option Addr} {run : List (Int × Str)} (e : dispH s.heap s.toks none [] l = (H, tk, m, run)) (hr : run ≠ []) (hm : (flushH H tk m run).2 = some d)
    (hn : (l.map kh).Nodup) (hl : l.length < 1000) (hs : 11 ≤ s.heap.objs.size) :
    J w (dictDisplay (l.map (rowS p))) s (.ref d) { s with heap := (flushH H tk m run).1, toks := tk + 3 * run.length } (400 * l.length + 20007) := by
  have key := fun f hf => J_loop (w := w) (p := p) (f := f) hf l [] [] none s rfl (by simpa using hn) (by simpa using hl) hs (by decide)
  simp only [e] at key
  unfold dictDisplay
  refine Classical.byContradiction fun gK => ?_
  obtain ⟨_, done', I, hd, hz⟩ := key f0 (fun _ _ _ => rfl)
  refine gK ?_
  clear gK
  simp only [List.nil_append] at hd
  have hrl : run.length ≤ 1000 := by have := congrArg List.length hd; simp at this; lia
  have fl := J_flush (w := w) (p := p) (s := { s with heap := H, toks := tk }) I hr (by rw [hd]; exact hn) (by rw [hd]; exact hl) hz
  rw [hm] at fl
  refine J_le (c := 400 * l.length + ((7 + 20 * run.length) + 0)) ?_ (by lia)
  show J w (forIn _ _ _ >>= _) s _ _ _
  refine J_bind (a := ((m, run.map (item p)) : stT)) (s' := { s with heap := H, toks := tk }) ?_ ?_
  · refine And.left (key _ ?_)
    intro x main run
    rfl
  · exact J_bind fl.1 J_pure
noncomputable def Hd (w : World) (os : OsState) := dispH (S12 w os).abs.heap 365 none [] b3
theorem hd_is (w : World) (os : OsState) : dispH (S12 w os).abs.heap 365 none [] b3 = ((Hd w os).1, 2303, some 110, b3.drop 646) := by kernel_rfl
theorem hd_end (w : World) (os : OsState) : flushH (Hd w os).1 2303 (some 110) (b3.drop 646) = ((S13p w os).abs.heap, some 110) := by kernel_rfl
end Mine
end
section
open PySem PySem.W PyProof.Rows PySem.Calls
set_option maxHeartbeats 400000
namespace Mine
theorem tail7 (w : World) (os : OsState) (N : Nat) (K : Flow → Sem Fin) (H : Value → Sem Fin) (gd : Bool → Bool) (lv : List Value → List Value) (pos : Pos) :
  sg w (N + 7) (S13p w os).abs ((assignStores env (.ref 110) none [assign tgt env]).wrap K H gd lv) pos = sg w N (S13 w os).abs (K .next) ⟨77, 0, 77, 13⟩ := by kernel_rfl
theorem drop_ne : b3.drop 646 ≠ [] := by
  intro h
  have := congrArg List.length h
  rw [List.length_drop, len_ok] at this
  exact absurd this (by decide)
theorem size12 (w : World) (os : OsState) : (S12 w os).abs.heap.objs.size = 110 := by kernel_rfl
theorem J_stmt (w : World) (os : OsState) : J w (standAt aPos >>= fun _ => standAt dPos >>= fun _ => dictDisplay (b3.map (rowS dPos))) (S12 w os).abs (.ref 110) (S13p w os).abs 280009 := by
  have hn : (b3.map kh).Nodup := nodup_of_rising keys_ok
  have hd := J_display (w := w) (s := (S12 w os).abs) (p := dPos) (l := b3) (d := 110) (hd_is w os) drop_ne (by rw [hd_end]) hn (by rw [len_ok]; decide) (by rw [size12]; decide)
  rw [hd_end] at hd
  have e : ({ (S12 w os).abs with heap := (S13p w os).abs.heap, toks := 2303 + 3 * (b3.drop 646).length } : Shared) = (S13p w os).abs := by
    rw [List.length_drop, len_ok]
    rfl
  have hd' : J w (dictDisplay (b3.map (rowS dPos))) (S12 w os).abs (.ref 110) (S13p w os).abs (400 * b3.length + 20007) := e ▸ hd
  rw [len_ok] at hd'
  exact J_le (c := 1 + (1 + (400 * 650 + 20007))) (J_bind J_standAt (J_bind J_standAt hd')) (by decide)
theorem g4 (w : World) (os : OsState) : segRun treeTable pw w 11 ann 1 280020 (S12 w os).abs (piecesOf L4 env cE ⟨75, 0, 76, 30⟩ BB) = some (.next, (S13 w os).abs, cE, ⟨77, 0, 77, 13⟩) := by
  have e : (execs L4 env).wrap doneF deadEnd id id = (standAt aPos >>= fun _ => standAt dPos >>= fun _ => dictDisplay (b3.map (rowS dPos))).wrap (fun v => (assignStores env v none [assign tgt env]).wrap (fun f => match f with | .next => (execs [] env).wrap doneF deadEnd id id | f => doneF f) deadEnd id id) deadEnd id id := by
    rw [execs_cons_wrap, ex13]
    simp only [bind_wrap]
    rfl
  show segRun treeTable pw w 11 ann 1 280020 (S12 w os).abs ⟨(execs L4 env).wrap doneF deadEnd id id, cE, ⟨75, 0, 76, 30⟩, BB⟩ = _
  rw [e]
  refine Classical.byContradiction fun gK => ?_
  obtain ⟨n, p, hn, h⟩ := J_stmt w os (fun v => (assignStores env v none [assign tgt env]).wrap (fun f => match f with | .next => (execs [] env).wrap doneF deadEnd id id | f => doneF f) deadEnd id id) deadEnd id id ⟨75, 0, 76, 30⟩
  obtain ⟨m, hm⟩ : ∃ m, 280020 = (m + 1 + 7) + n := ⟨280012 - n, by lia⟩
  refine gK ?_
  clear gK
  rw [hm]
  exact ((h (m + 1 + 7)).trans (tail7 w os (m + 1) _ _ _ _ p)).trans rfl
end Mine
end
section
open PySem PySem.W PyProof.Rows PySem.Calls
set_option maxHeartbeats 0
namespace Mine
theorem t_run (w : World) (os : OsState) : topRun treeTable pw w 11 ann (12 + (1 + (530 + (1100 + (40 + (280020 + (360 + 3))))))) ⟨boot_heap w.params, #[], boot_drawn, boot_toks, os⟩ (topStub pw) = some (S25 w os).abs := by
  refine go_top (g_pre w os) (piece_block (g_block w os) ?_)
  rw [split]
  exact piece_app (segRun_of (g1 w os)) (piece_app (segRun_of (g2 w os)) (piece_app (segRun_of (g3 w os)) (piece_app (g4 w os) (piece_app (segRun_of (g5 w os)) (piece_nil (g_fin w os))))))
theorem t_open : ∀ w : World, (fencedOpening treeTable pw w 400000).map (fun s => (s.heap, s.gens, s.drawn, s.toks)) = some (boot_heap w.params, Array.mk [], boot_drawn, boot_toks) :=
  boot_open (by kernel_rfl) (by rfl) (fun s => by kernel_rfl)
theorem t_size (w : World) : ((boot_heap w.params).isNs mainGlobals && (Array.mk [] : Array GenState).size == 0, (boot_heap w.params).objs.size, (boot_heap w.params).nsMap mainGlobals "__annotations__") = (true, 11, ann) := by kernel_rfl
noncomputable abbrev Xt (s : Shared) : Bool := xlAt view [] s && recOk [] s
noncomputable abbrev HK : Hook := kmHook K as as_eq [157]
theorem lookH1 (w : World) (os : OsState) : (staticsOk (importedModules pw.main.body) (boot_heap w.params) (S25 w os).abs.heap && namesBound pw (S25 w os).abs.heap && gensDone (S25 w os).abs && laidKept (boot_heap w.params) (S25 w os).abs.heap) = true := by kernel_rfl
theorem lookH3 (w : World) (os : OsState) : HK.obs (S25 w os).abs = HK.val w := by kernel_rfl
end Mine
end
section
open PySem PySem.W PyProof.Rows PySem.Calls
set_option maxHeartbeats 0
namespace Mine
theorem lookH2 (w : World) (os : OsState) : openSeen view loose (importedModules pw.main.body) Xt true (S25 w os).abs = openGood view loose := by kernel_rfl
end Mine
end
section
open PySem PySem.W PyProof.Rows PySem.Calls
set_option maxHeartbeats 0
namespace Mine
theorem left : LeftO pw view loose Xt HK.obs HK.val 400000 :=
  LeftO.of_pieces (H₀ := boot_heap) (H₁ := fun P => absHeap (t25 P) 212 {}) (gs₁ := #[]) (d₁ := {}) (k₁ := 2406) (M := 12 + (1 + (530 + (1100 + (40 + (280020 + (360 + 3))))))) t_open t_size t_run (by rfl) fun w => funext fun os => Prod.ext (lookH1 w os) (Prod.ext (lookH2 w os) (lookH3 w os))
end Mine
end
section
open PySem PySem.W PyProof.Rows PySem.Spec PySem.Calls
namespace Mine

noncomputable abbrev lw : List Str := looseW view loose ++ (recsOf view).map (·.name) ++ (litsOf view).map (·.1) ++ (clssOf view (looseW view loose)).map (·.name)
noncomputable def kinds : List Int := [97, 65, 119808, 119860, 119912, 120016, 120172, 120224, 120276, 120328, 120380, 120432]
noncomputable def unseen (p : Int) : Str := if p < 11 then Txt.item (Str.ofString "\u00ad\u034f\u1806\u180b\u180c\u180d\u200b\u200c\u200d\u2060\ufeff") p else if p < 27 then ⟨#[(65013 + p).toNat]⟩ else Str.ofString ""
noncomputable def sgn (c : Nat) (t : Int) : Nat := if 97 ≤ c ∧ c ≤ 122 then (kinds.getD (t.fmod 12).toNat 0 + c - 97).toNat else c
noncomputable def spell (c : Nat) (t : Int) : Str := unseen ((t.fdiv 12).fmod 28) ++ ⟨#[sgn c t]⟩
theorem kinds_le (i : Nat) : 0 ≤ kinds.getD i 0 ∧ kinds.getD i 0 ≤ 120432 := by
  by_cases h : i < 12
  · have : ∀ j : Fin 12, 0 ≤ kinds.getD j.1 0 ∧ kinds.getD j.1 0 ≤ 120432 := by decide
    exact this ⟨i, h⟩
  · rw [List.getD_eq_getElem?_getD, List.getElem?_eq_none (by simp [kinds]; omega)]
    decide
theorem a_le {c : Nat} : ({ cps := #[c] } : Str).cps.toList < (Str.ofString "a").cps.toList ↔ c < 97 := by
  have e : (Str.ofString "a").cps.toList = [97] := by decide +kernel
  rw [e]
  simp [List.cons_lt_cons_iff]
theorem z_lt {c : Nat} : (Str.ofString "z").cps.toList < ({ cps := #[c] } : Str).cps.toList ↔ 122 < c := by
  have e : (Str.ofString "z").cps.toList = [122] := by decide +kernel
  rw [e]
  simp [List.cons_lt_cons_iff]
theorem unseen_le (p : Int) : (unseen p).length ≤ 1 := by
  unfold unseen
  split
  · exact Nat.le_refl _
  · split
    · exact Nat.le_refl _
    · exact Nat.zero_le _
theorem add1_le {u v : Str} (h : u.length ≤ 1) (h' : v.length = 1) : u.length + v.length ≤ sizeLine := by
  have : sizeLine = 16777216 := rfl
  omega
/-- what stands behind the sign's forerunner -/
noncomputable def SpMid (g : Heap) (L : Addr) (news : List (Addr × Obj)) (c : Nat) (tc : Tok) (t : Int) (tt : Tok) (s s' : Shared) : Prop := ∃ h tk m tu, s' = { s with heap := h, toks := tk } ∧ Fr g L h m ∧ News g L h news ∧ m (Str.ofString "sign") = some (.str ⟨#[c]⟩ tc) ∧ m (Str.ofString "turn") = some (.int t tt) ∧ m (Str.ofString "unseen") = some (.str (unseen ((t.fdiv 12).fmod 28)) tu)
theorem SpMid.elim {g : Heap} {L : Addr} {news : List (Addr × Obj)} {c : Nat} {tc : Tok} {t : Int} {tt : Tok} {s s' : Shared} {C : Shared → Prop} (h : SpMid g L news c tc t tt s s')
    (k : ∀ h tk (m : Nm) tu, Fr g L h (setN (setN (setN m (Str.ofString "sign") (.str ⟨#[c]⟩ tc)) (Str.ofString "turn") (.int t tt)) (Str.ofString "unseen") (.str (unseen ((t.fdiv 12).fmod 28)) tu)) → News g L h news → C { s with heap := h, toks := tk }) : C s' := by
  obtain ⟨h, tk, m, tu, rfl, F, N, e1, e2, e3⟩ := h
  exact k h tk m tu (fixF3 F e1 e2 e3) N
theorem SpMid.intro {g h : Heap} {L : Addr} {news : List (Addr × Obj)} {c : Nat} {tc : Tok} {t : Int} {tt : Tok} {s : Shared} {tk : Nat} {m : Nm} {u : Str} {tu : Tok} (F : Fr g L h m) (N : News g L h news) (e1 : m (Str.ofString "sign") = some (.str ⟨#[c]⟩ tc)) (e2 : m (Str.ofString "turn") = some (.int t tt)) (e3 : m (Str.ofString "unseen") = some (.str u tu)) (e : unseen ((t.fdiv 12).fmod 28) = u) :
    SpMid g L news c tc t tt s { s with heap := h, toks := tk } := ⟨h, tk, m, tu, rfl, F, N, e1, e2, e ▸ e3⟩
set_option maxHeartbeats 0 in
theorem c_spelled (w : World) (mean : ExcName → Option Value) (mg mb : PySem.Str → Option Value) (news : List (Addr × Obj)) (c : Nat) (tc : Tok) (t : Int) (tt : Tok) (h0 : 0 ≤ t) (hc : c < 1000) :
  CbClaim PySem.Challenge.rw_tp0040_01.row.prog w (K w.params) topProg lw mean mg mb 169 news [] True [Value.str ⟨#[c]⟩ tc, Value.int t tt] (fun k => Value.str (spell c t) k) := by
  k_fill
  unfold CbClaim CbLists CbRet
  intros
  rename_i s Q E b1 b2 b3 b4 b5 b6 b7 b8 b9 hret
  refine wpAny_call ?_
  k_dflt cell_enter
  refine hideT fun tk00 => ?_
  rename_i g1 L1 h1 FG1 F1 N1 B1 X1 T1
  refine hideF2 (x0 := Str.ofString "sign") (x1 := Str.ofString "turn") F1 (by rfl) (by rfl) fun m0 F => ?_
  clear F1
  show wpAny _ _ (execs (_ :: _ :: _ :: _) _) _ _ _
  refine cut3 (SpMid g1 L1 news c tc t tt s) (fun s' hs => ?_) fun R hR => ?_
  · refine hs.elim fun h2 tk2 m2 tu F N => ?_
    clear hs
    show wpAny _ _ (execs (_ :: _) _) _ _ _
    k_steps
    any_goals (refine PyProof.Rows.add_str (fun _ _ => ?_) (add1_le (unseen_le _) (by rfl)); k_steps)
    all_goals try (
      have q1 : ¬ c < 97 := fun h => (by assumption : ¬ _ < (Str.ofString "a").cps.toList) (a_le.mpr h)
      have q2 : ¬ 122 < c := fun h => (by assumption : ¬ (Str.ofString "z").cps.toList < _) (z_lt.mpr h)
      have hkb := kinds_le (t.fmod 12).toNat
      unfold kinds at hkb
      refine P.chr_of_int (by rw [Bool.or_eq_false_iff, decide_eq_false_iff_not, decide_eq_false_iff_not]; omega) ?_
      k_steps)
    any_goals (refine PyProof.Rows.add_str (fun _ _ => ?_) (add1_le (unseen_le _) (by rfl)); k_steps)
    all_goals first
      | (refine cb_retS hret ?_ (by k_asm) (by first | k_asm | (refine' cb_drop ?cbN ?cbS; (case cbN => assumption); (case cbS => kcj_all)))
         unfold spell
         congr 1
         unfold sgn
         first
           | (rw [if_neg (fun h => by have := a_le.mp (by assumption); omega)])
           | (rw [if_neg (fun h => by have := z_lt.mp (by assumption); omega)])
           | (rw [if_pos ⟨by omega, by omega⟩]; rfl))
  · k_steps
    all_goals
      refine hR _ (SpMid.intro (by k_asm) (by k_asm) rfl rfl rfl ?_)
      unfold unseen
      first
        | rw [if_pos (by assumption)]
        | rw [if_neg (by assumption), if_pos (by assumption)]
        | rw [if_neg (by assumption), if_neg (by assumption)]
end Mine
end
section
open PySem PySem.W PyProof.Rows PySem.Spec PySem.Calls
namespace Mine
noncomputable def b1l : List Int := [173, 847, 6150, 6155, 6156, 6157, 8203, 8204, 8205, 8288, 65279, 65024, 65025, 65026, 65027, 65028, 65029, 65030, 65031, 65032, 65033, 65034, 65035, 65036, 65037, 65038, 65039]
noncomputable def isB1 (k : Int) : Bool := b1l.contains k
noncomputable def goodEl (e : Int × Value) : Bool := match e.2 with | .int k _ => e.1 == hashInt k && b1l.contains k | _ => false
noncomputable def elsOf (o : Obj) : List (Int × Value) := match o.data with | .set es _ _ => es.toList | _ => []
noncomputable def keyIn (es : List (Int × Value)) (k : Int) : Bool := es.any fun e => Value.isInt k e.2
theorem o99_data (P : Params) : ∃ es ep t, (o99 P).data = .set es ep t ∧ es.toList.all goodEl = true ∧ b1l.all (keyIn es.toList) = true ∧ es.size = 27 ∧ t.fits es.size = true := by
  refine ⟨_, _, _, rfl, by decide +kernel, by decide +kernel, rfl, by rfl⟩
theorem o99_set (prog : Program) (w : World) (P : Params) : (o99 P).SetObjOf (intKind prog w) isB1 27 := by
  refine Classical.byContradiction fun gK => ?_
  obtain ⟨es, ep, t, hd, hg, hk, hn, hf⟩ := o99_data P
  refine gK ?_
  clear gK
  refine ⟨⟨rfl, rfl, rfl⟩, es, ep, t, hd, ?_, ?_, hn, hf⟩
  · intro e he
    have g := List.all_eq_true.mp hg e he
    unfold goodEl at g
    obtain ⟨a, v⟩ := e
    cases v <;> simp only [Bool.false_eq_true] at g
    rename_i k t
    simp only [Bool.and_eq_true, beq_iff_eq] at g
    exact ⟨⟨k, by simp [intKind, Value.isInt], g.1⟩, rfl⟩
  · intro k
    constructor
    · intro h
      have := List.all_eq_true.mp hk k (by simpa [isB1] using h)
      refine Classical.byContradiction fun gK => ?_
      obtain ⟨e, he, h⟩ := List.any_eq_true.mp this
      refine gK ?_
      clear gK
      exact ⟨e, he, h⟩
    · rintro ⟨e, he, h⟩
      have g := List.all_eq_true.mp hg e he
      unfold goodEl at g
      obtain ⟨a, v⟩ := e
      cases v <;> simp only [Bool.false_eq_true] at g
      rename_i k' t
      simp only [Bool.and_eq_true, beq_iff_eq] at g
      have : k' = k := by simpa [intKind, Value.isInt] using h
      subst this
      exact g.2
theorem k99 (w : World) : (K w.params).lookup 99 = some (o99 w.params) := rfl
noncomputable def enc3 : Nat → List (Int × Str) → List (Int × Value)
  | _, [] => []
  | i, (k, s) :: r => (k, .str s (b3tok i + 1)) :: enc3 (i + 1) r
noncomputable def D3 : List (PyData × PyData) := b3.map fun p => (.int p.1, .str p.2)
theorem flat3 : ∀ i l, PyProof.V.FlatPairs PyData.int (enc3 i l) (l.map fun p => (.int p.1, .str p.2))
  | _, [] => .nil
  | i, (k, s) :: r => .cons (.str s _) (flat3 (i + 1) r)
theorem pairs3 (prog : Program) (w : World) : ∀ i l, Pairs (intKind prog w) (entsFrom i l) (enc3 i l)
  | _, [] => .nil
  | i, (k, s) :: r => .cons (by simp [intKind, Value.isInt]) rfl (pairs3 prog w (i + 1) r)
theorem keys3 (prog : Program) (w : World) : ∀ i l, (l.all fun p => p.1 == hashInt p.1) = true → ∀ e ∈ entsFrom i l, ∃ k, (intKind prog w).is k e.key = true ∧ e.hash = (intKind prog w).hash k
  | _, [], _, e, he => by simp [entsFrom] at he
  | i, (k, s) :: r, h, e, he => by
    simp only [List.all_cons, Bool.and_eq_true, beq_iff_eq] at h
    rcases List.mem_cons.mp he with rfl | he
    · exact ⟨k, by simp [intKind, Value.isInt], h.1⟩
    · exact keys3 prog w (i + 1) r h.2 e he
theorem fst3 : ∀ i l, (enc3 i l).map (·.1) = l.map (·.1)
  | _, [] => rfl
  | i, (k, s) :: r => congrArg (k :: ·) (fst3 (i + 1) r)
noncomputable def asc : List (Int × Str) → Bool
  | a :: b :: r => decide (a.1 < b.1) && asc (b :: r)
  | _ => true
theorem asc_lt : ∀ (a : Int × Str) (l : List (Int × Str)), asc (a :: l) = true → ∀ p ∈ l, a.1 < p.1
  | a, b :: r, h, p, hp => by
    simp only [asc, Bool.and_eq_true, decide_eq_true_eq] at h
    rcases List.mem_cons.mp hp with rfl | hp
    · exact h.1
    · exact Int.lt_trans h.1 (asc_lt b r h.2 p hp)
theorem asc_nodup : ∀ l : List (Int × Str), asc l = true → (l.map (·.1)).Nodup
  | [], _ => List.nodup_nil
  | a :: l, h => by
    rw [List.map_cons, List.nodup_cons]
    constructor
    · intro hm
      refine Classical.byContradiction fun gK => ?_
      obtain ⟨p, hp, e⟩ := List.mem_map.mp hm
      refine gK ?_
      clear gK
      have := asc_lt a l h p hp
      lia
    · cases l with
      | nil => exact List.nodup_nil
      | cons b r => exact asc_nodup (b :: r) (by simp only [asc, Bool.and_eq_true] at h; exact h.2)
theorem asc3 : asc b3 = true := by decide +kernel
theorem hash3 : (b3.all fun p => p.1 == hashInt p.1) = true := by decide +kernel
theorem o110_dict (prog : Program) (w : World) (P : Params) : (o110 P).IsDictOf (intKind prog w) (enc3 0 b3) :=
  ⟨ents.toArray, 650, ⟨rfl, rfl, rfl⟩, rfl, fun e he => keys3 prog w 0 b3 hash3 e (by simpa [ents] using he), pairs3 prog w 0 b3, by rw [fst3]; exact asc_nodup b3 asc3⟩
theorem k110 (w : World) : (K w.params).lookup 110 = some (o110 w.params) := rfl
section
variable {prog : Program} {w : World} {A : Around} {E : Value → Shared → Prop} {s : Shared} {h₀ : Heap} {L : Addr} {m : Str → Option Value}
theorem tab110 {h : Heap} (F : Fr h₀ L h m) (X : (K w.params).In h₀) : IntTab prog w h 110 D3 :=
  TabAt.ofObj rfl (F.keep _ _ (X 110 _ (k110 w))) (o110_dict prog w _) (flat3 0 b3)
theorem in99 {k : Int} {t : Tok} {Q : Value → Shared → Prop} (F : Fr h₀ L s.heap m) (X : (K w.params).In h₀) (h : Q (.bool (isB1 k)) { s with toks := s.toks + 1 }) :
    wpAny (model prog w) A (compareOp .In (.int k t) (.ref 99)) Q E s := in_argsetI F (o99_set prog w _) (X 99 _ (k99 w)) (by decide) h
theorem meth110 {pl : Sem Bool} {Q : Value × List Value → Shared → Prop} (F : Fr h₀ L s.heap m) (X : (K w.params).In h₀) (h : Q (.builtin "dict.get", [.ref 110]) s) :
    wpAny (model prog w) A (getMethod (.ref 110) "get" pl) Q E s := getMethod_intTab_get (tab110 F X) h
noncomputable def b3at (k : Int) : Option Str := (b3.find? fun p => p.1 == k).map (·.2)
theorem look3 (k : Int) : ∀ l : List (Int × Str), lookup (.int k) (l.map fun p => (PyData.int p.1, PyData.str p.2)) = ((l.find? fun p => p.1 == k).map (·.2)).map PyData.str
  | [] => rfl
  | (a, b) :: r => by
    show (if Spec.same (PyData.int a) (PyData.int k) = true then some (PyData.str b) else Spec.lookup (.int k) (r.map fun p => (PyData.int p.1, PyData.str p.2))) = _
    rw [show Spec.same (PyData.int a) (PyData.int k) = (a == k) from by simp only [Spec.same], List.find?_cons]
    cases h : (a == k) with
    | true => simp only [if_true, h, Option.map_some]
    | false => simp only [h, Bool.false_eq_true, if_false]; exact look3 k r
theorem get110 {k : Int} {t : Tok} {Q : Value → Shared → Prop} (F : Fr h₀ L s.heap m) (X : (K w.params).In h₀) (h₁ : ∀ x t, b3at k = some x → Q (.str x t) { s with toks := s.toks + 1 }) (h₂ : b3at k = none → Q .none { s with toks := s.toks + 1 }) :
    wpAny (model prog w) A (call (.builtin "dict.get") [.ref 110, .int k t]) Q E s := by
  refine call_get1_intTab (tab110 F X) fun v hv => ?_
  rw [D3, look3] at hv
  cases e : b3at k with
  | none =>
    rw [show ((b3.find? fun p => p.1 == k).map (·.2)) = none from e] at hv
    have : v = .none := by cases hv {} <;> rfl
    subst this
    exact h₂ e
  | some x =>
    rw [show ((b3.find? fun p => p.1 == k).map (·.2)) = some x from e] at hv
    obtain ⟨t, rfl⟩ := PyProof.V.Flat.str_inv hv
    exact h₁ x t e
end
end Mine
end
section
open PySem PySem.W PyProof.Rows PySem.Spec PySem.Calls
namespace Mine
local macro_rules | `(tactic| walk_at "compareOp In int ref") => `(tactic| (k_here; k_dflt (apply in99; k_asm; k_asm; k_whole)))
local macro_rules | `(tactic| walk_at "getMethod ref") => `(tactic| (k_here; k_dflt (apply meth110; k_asm; k_asm; k_whole)))
local macro_rules | `(tactic| walk_at "call builtin:dict.get") => `(tactic| (k_here; k_dflt (apply get110; k_asm; k_asm); (all_goals intros)))
set_option maxHeartbeats 0 in
theorem c_b1 (w : World) (mean : ExcName → Option Value) (mg mb : PySem.Str → Option Value) (news : List (Addr × Obj)) (c : Nat) (tc : Tok) :
  CbClaim PySem.Challenge.rw_tp0040_01.row.prog w (K w.params) topProg lw mean mg mb 109 news [] True [Value.str ⟨#[c]⟩ tc] (fun _ => Value.bool (isB1 c)) := by
  k_fill
  unfold CbClaim CbLists CbRet
  intros
  rename_i hret
  refine wpAny_call ?_
  k_dflt cell_enter
  refine hideT fun tk00 => ?_
  k_steps
  all_goals first
    | (refine cb_retB hret ?_ (by k_asm) (by first | k_asm | (refine' cb_drop ?cbN ?cbS; (case cbN => assumption); (case cbS => kcj_all)))
       rfl)
    | w_report
noncomputable def low3 (c : Nat) : Str := (b3at c).getD (Txt.lower ⟨#[c]⟩)
local macro_rules | `(tactic| walk_at "call builtin:str.lower") => `(tactic| (k_here; refine SCL.lower (by show (1 : Nat) ≤ _; decide) ?_; intro _))
set_option maxHeartbeats 0 in
theorem c_b3 (w : World) (mean : ExcName → Option Value) (mg mb : PySem.Str → Option Value) (news : List (Addr × Obj)) (c : Nat) (tc : Tok) :
  CbClaim PySem.Challenge.rw_tp0040_01.row.prog w (K w.params) topProg lw mean mg mb 155 news [] True [Value.str ⟨#[c]⟩ tc] (fun k => Value.str (low3 c) k) := by
  k_fill
  unfold CbClaim CbLists CbRet
  intros
  rename_i hret
  refine wpAny_call ?_
  k_dflt cell_enter
  refine hideT fun tk00 => ?_
  k_steps
  all_goals
    (refine cb_retS hret ?_ (by k_asm) (by first | k_asm | (refine' cb_drop ?cbN ?cbS; (case cbN => assumption); (case cbS => kcj_all)))
     first
       | (rw [low3, (by assumption : b3at _ = some _)]; rfl)
       | (rw [low3, (by assumption : b3at _ = none)]; rfl))
end Mine
end
section
open PySem PySem.W PyProof.Rows PySem.Spec PySem.Calls
namespace Mine

structure Steps (prog : Program) (w : World) (A : Around) (it : Value) (target : Expr) (env : Env) (own fp : List Addr) (n : Nat) (St : Nat → Heap → Prop) (B : Nat → Nm → Nm → Prop) : Prop where
  frame : ∀ i h h', St i h → (∀ b ∈ fp, ∀ o, h.get? b = some o → h'.get? b = some o) → St i h'
  step : ∀ i (s : Shared) (m : Nm) (Q : Shared → Prop) (E₀ E₁ E₂ : Value → Shared → Prop), i < n → St i s.heap → s.heap.Ns env.locals m → env.locals ∉ fp → env.locals ∉ own →
    (∀ h' tk m', B i m m' → St (i + 1) h' → h'.Ns env.locals m' → (∀ b o, b ∉ own → b ≠ env.locals → s.heap.get? b = some o → h'.get? b = some o) → Q { s with heap := h', toks := tk }) →
    wpAny (model prog w) A (pyNext it) (fun r s₁ => match r with
      | none => False
      | some v => wpAny (model prog w) A (letOwnedTupleGo target it v) (fun _ s₂ => wpAny (model prog w) A (assign target env v) (fun _ s₃ => Q s₃) E₂ s₂) E₁ s₁) E₀ s
  done : ∀ (s : Shared) (Q : Option Value → Shared → Prop) (E : Value → Shared → Prop), St n s.heap →
    (∀ h' tk, (∀ b o, b ∉ own → s.heap.get? b = some o → h'.get? b = some o) → Q none { s with heap := h', toks := tk }) → wpAny (model prog w) A (pyNext it) Q E s
  self : ∀ i (s : Shared) (Q : Value → Shared → Prop) (E : Value → Shared → Prop), St i s.heap → Q it s → wpAny (model prog w) A (pyIter it) Q E s

theorem Steps.name {prog : Program} {w : World} {A : Around} {I : Addr} {fp wr : List Addr} {n : Nat} {P : Nat → Value → Prop} {St : Nat → Heap → Prop} {x : Str} {px : Pos} {env : Env}
    (W : Walks prog w A I fp wr n P St) (hx : env.kindOf x = some .local) (hp : (env.scope.kind == .class || (env.scope.kind == .module && env.locals != env.globals)) = false) :
    Steps prog w A (.ref I) (.Name x px) env wr fp n St (fun i m m' => ∃ v, P i v ∧ m' = setN m x v) where
  frame := W.frame
  step := fun i s m Q E₀ E₁ E₂ hi hst hn hf ho hQ => by
    refine W.item i _ _ _ hi hst fun v h₁ tk₁ hP hst₁ hk₁ => ?_
    refine wpAny_pure ?_
    refine wpAny_assign_Name (wpAny_storeName_local hx (hn.at' fun o e => hk₁ _ o ho e) (fun h₂ hn₂ hs₂ => ?_) hp)
    refine hQ h₂ _ _ ⟨v, hP, rfl⟩ (W.frame _ _ _ hst₁ fun b hb o e => hs₂.extBut b o (fun q => hf (q ▸ hb)) e) hn₂ fun b o hb hc e => hs₂.extBut b o hc (hk₁ b o hb e)
  done := W.done
  self := W.self

theorem Steps.pair {prog : Program} {w : World} {A : Around} {I : Addr} {fp wr : List Addr} {n : Nat} {Pt : Nat → Array Value → Prop} {St : Nat → Heap → Prop} {Mid : Nat → Addr → Heap → Prop} {x y : Str} {px py pos : Pos} {env : Env} {k : Nat}
    (hh : A.handled = none) (W : WalksU prog w A I fp wr n Pt St Mid) (hpt : ∀ i vals, Pt i vals → vals.size = 2) (hx : env.kindOf x = some .local) (hy : env.kindOf y = some .local) (hp : (env.scope.kind == .class || (env.scope.kind == .module && env.locals != env.globals)) = false) :
    Steps prog w A (.ref I) (.Tuple [.Name x px, .Name y py] k pos) env wr fp n St (fun i m m' => ∃ a b, Pt i #[a, b] ∧ m' = setN (setN m x a) y b) where
  frame := W.frame
  step := fun i s m Q E₀ E₁ E₂ hi hst hn hf ho hQ => by
    refine W.item i _ _ _ hi hst fun T vals h₁ tk₁ hP hT hmid hk₁ => ?_
    refine W.go _ _ _ i T _ _ _ hmid fun h₂ hst₂ hk₂ => ?_
    have h2 := hpt i vals hP
    obtain ⟨a, b, rfl⟩ : ∃ a b, vals = #[a, b] := by
      obtain ⟨l⟩ := vals
      match l, h2 with
      | [a, b], _ => exact ⟨a, b, rfl⟩
    have hTw := W.apart i T h₁ hmid
    have hT₂ : h₂.IsTuple T #[a, b] := by obtain ⟨o, e, r⟩ := hT; exact ⟨o, hk₂ T o hTw e, r⟩
    have hn₂ : h₂.Ns env.locals m := (hn.at' fun o e => hk₁ _ o ho e).at' fun o e => hk₂ _ o ho e
    refine wpAny_assign_Tuple hh hT₂ rfl rfl fun h₃ hx₃ => ?_
    have up : ∀ b o, h₂.get? b = some o → h₃.get? b = some o := fun b o e => hx₃ b o (Nat.ne_of_lt (Heap.lt_size e)) e
    refine wpAny_assignInOrder_more ?_
    refine wpAny_assign_Name (wpAny_storeName_local hx (hn₂.at' fun o e => up _ o e) (fun h₄ hn₄ hs₄ => ?_) hp)
    refine wpAny_assignInOrder_more ?_
    refine wpAny_assign_Name (wpAny_storeName_local hy hn₄ (fun h₅ hn₅ hs₅ => ?_) hp)
    refine wpAny_assignInOrder_none ?_
    refine hQ h₅ _ _ ⟨a, b, hP, rfl⟩ (W.frame _ _ _ hst₂ fun b hb o e => hs₅.extBut b o (fun q => hf (q ▸ hb)) (hs₄.extBut b o (fun q => hf (q ▸ hb)) (up b o e))) hn₅
      fun b o hb hc e => hs₅.extBut b o hc (hs₄.extBut b o hc (up b o (hk₂ b o hb (hk₁ b o hb e))))
  done := W.done
  self := W.self
theorem Steps.go {prog : Program} {w : World} {A : Around} {it : Value} {target : Expr} {env : Env} {own fp : List Addr} {n : Nat} {St : Nat → Heap → Prop} {B : Nat → Nm → Nm → Prop} (SP : Steps prog w A it target env own fp n St B)
    {i : Nat} {s : Shared} {m : Nm} {Q : Option Value → Shared → Prop} {E E₁ E₂ : Value → Shared → Prop} {Qf : Shared → Prop}
    (hQ : ∀ v s₁, wpAny (model prog w) A (letOwnedTupleGo target it v) (fun _ s₂ => wpAny (model prog w) A (assign target env v) (fun _ s₃ => Qf s₃) E₂ s₂) E₁ s₁ → Q (some v) s₁)
    (hi : i < n) (hst : St i s.heap) (hn : s.heap.Ns env.locals m) (hf : env.locals ∉ fp) (ho : env.locals ∉ own)
    (h : ∀ h' tk m', B i m m' → St (i + 1) h' → h'.Ns env.locals m' → (∀ b o, b ∉ own → b ≠ env.locals → s.heap.get? b = some o → h'.get? b = some o) → s.toks ≤ tk → Qf { s with heap := h', toks := tk }) :
    wpAny (model prog w) A (pyNext it) Q E s :=
  wpAny_mono (wpAny_toks_of (Nat.le_refl _) (SP.step i s m (fun s₃ => s.toks ≤ s₃.toks → Qf s₃) E E₁ E₂ hi hst hn hf ho fun h' tk m' b st ns k t => h h' tk m' b st ns k t)) (fun r s₁ hr => by
    cases r with
    | none => exact hr.2.elim
    | some v =>
      refine hQ v s₁ (wpAny_mono (wpAny_toks_of hr.1 hr.2) (fun _ s₂ h₂ => wpAny_mono (wpAny_toks_of h₂.1 h₂.2) (fun _ s₃ h₃ => h₃.2 h₃.1) fun _ _ e => e.2) fun _ _ e => e.2)) fun _ _ e => e.2
theorem Steps.end {prog : Program} {w : World} {A : Around} {it : Value} {target : Expr} {env : Env} {own fp : List Addr} {n : Nat} {St : Nat → Heap → Prop} {B : Nat → Nm → Nm → Prop} (SP : Steps prog w A it target env own fp n St B)
    {s : Shared} {Q : Option Value → Shared → Prop} {E : Value → Shared → Prop} (hst : St n s.heap)
    (h : ∀ h' tk, (∀ b o, b ∉ own → s.heap.get? b = some o → h'.get? b = some o) → s.toks ≤ tk → Q none { s with heap := h', toks := tk }) : wpAny (model prog w) A (pyNext it) Q E s :=
  wpAny_with_toks (Nat.le_refl _) (SP.done _ _ _ hst fun h' tk hk t => h h' tk hk t)
end Mine
end
section
open PySem PySem.W PyProof.Rows PySem.Spec PySem.Calls
namespace Mine
open PyProof.Rows.LCg (NsObj ns_obj lst lst_snoc)
noncomputable abbrev Led := List (Addr × Obj)

noncomputable def ioOf (h : Heap) (own : List Addr) : Led := own.filterMap fun b => (h.get? b).map (b, ·)
theorem ioOf_mem {h : Heap} {own : List Addr} {p : Addr × Obj} : p ∈ ioOf h own ↔ p.1 ∈ own ∧ h.get? p.1 = some p.2 := by
  unfold ioOf
  rw [List.mem_filterMap]
  constructor
  · rintro ⟨b, hb, e⟩
    cases g : h.get? b with
    | none => rw [g] at e; cases e
    | some o => rw [g] at e; cases e; exact ⟨hb, g⟩
  · rintro ⟨hb, g⟩
    exact ⟨p.1, hb, by rw [g]; rfl⟩

theorem codeAny_compLoop_any {prog : Program} {w : World} {A : Around} {R : Result → Shared → Prop} {s : Shared} {elt target iter : Expr} {ifs : List Expr} {scope : Scope} {pos : Pos} {it acc : Value} {env : Env} (I : Nat → Shared → Prop)
    (turn : ∀ n s, I n s → wpAny (model prog w) A (pyNext it) (fun r s₁ => match r with
      | none => R (.ok .next) s₁
      | some v => wpAny (model prog w) A (letOwnedTupleGo target it v) (fun _ s₁' => wpAny (model prog w) A (assign target env v) (fun _ s₂ =>
          wpAny (model prog w) A (forIn ifs true fun c r => if r = true then do let ok ← isTrue c env (eval c env); pure (ForInStep.yield ok) else pure (ForInStep.yield r)) (fun ok s₃ =>
            if ok = true then wpAny (model prog w) A (eval elt env) (fun x s₄ =>
              wpAny (model prog w) A (call (.builtin "list.append") [acc, x]) (fun _ s₅ => ∃ m, m < n ∧ I m s₅) (notedBy (model prog w) A env fun e s' => R (.error e) s') s₄) (notedBy (model prog w) A env fun e s' => R (.error e) s') s₃
            else ∃ m, m < n ∧ I m s₃) (notedBy (model prog w) A env fun e s' => R (.error e) s') s₂) (notedBy (model prog w) A env fun e s' => R (.error e) s') s₁') (notedBy (model prog w) A env fun e s' => R (.error e) s') s₁) (notedBy (model prog w) A env fun e s' => R (.error e) s') s)
    (n : Nat) (h : I n s) :
    codeAny (model prog w) A (.compLoop (.ListComp elt [⟨target, iter, ifs, 0⟩] scope pos) 0 it acc env) R s := by
  refine codeAny_loop rfl I (fun n s hI => ?_) n h
  show wpAny _ A ((compTurn (.ListComp elt [⟨target, iter, ifs, 0⟩] scope pos) 0 it acc env).onRaise (fun x => do noteFrame x env; theTreesLotGoes x)) _ _ s
  refine wpAny_noted ?_
  rw [compTurn_list]
  refine wpAny_bind (wpAny_standAt (wpAny_bind (wpAny_mono (turn n s hI) (fun r s₁ h₁ => ?_) fun _ _ h' => h')))
  cases r with
  | none => exact wpAny_pure h₁
  | some v =>
    refine wpAny_bind (wpAny_mono h₁ (fun _ s₁' h₁' => ?_) fun _ _ h' => h')
    refine wpAny_bind (wpAny_mono h₁' (fun _ s₂ h₂ => wpAny_bind (wpAny_mono h₂ (fun ok s₃ h₃ => ?_) fun _ _ h' => h')) fun _ _ h' => h')
    cases ok with
    | false => exact wpAny_pure ⟨rfl, h₃⟩
    | true =>
      exact wpAny_bind (wpAny_bind (wpAny_mono h₃ (fun x s₄ h₄ => wpAny_bind (wpAny_mono h₄ (fun _ s₅ h₅ => wpAny_pure (wpAny_pure ⟨rfl, h₅⟩)) fun _ _ h' => h')) fun _ _ h' => h'))

noncomputable def TurnEnd (h₀ : Heap) (L : Addr) (mL : Nm) (s : Shared) (C : Addr) (oC : Obj) (D : Addr) (old : List Value) (rest : Led) (Lv : Addr → Prop) (inv : Nat → Led → Prop) (s' : Shared) : Prop :=
  ∃ h' tk' live', s' = { s with heap := h', toks := tk' } ∧ Fr h₀ L h' mL ∧ News h₀ L h' ((C, oC) :: (D, lst old) :: (live' ++ rest)) ∧ inv tk' live' ∧ ∀ p ∈ live', Lv p.1

noncomputable abbrev testsOf (prog : Program) (w : World) (A : Around) (ifs : List Expr) (env : Env) (Q : Bool → Shared → Prop) (E : Value → Shared → Prop) (s : Shared) : Prop :=
  wpAny (model prog w) A (forIn ifs true fun c r => if r = true then do let ok ← isTrue c env (eval c env); pure (ForInStep.yield ok) else pure (ForInStep.yield r)) Q E s
theorem testsOf_nil {prog : Program} {w : World} {A : Around} {env : Env} {E : Value → Shared → Prop} {s : Shared} {X Y : Shared → Prop} (h : X s) : testsOf prog w A [] env (fun ok s₃ => if ok = true then X s₃ else Y s₃) E s :=
  wpAny_tests_nil ((if_pos rfl : (if true = true then X s else Y s) = X s).mpr h)

theorem block_V {prog : Program} {w : World} {A : Around} {E : Value → Shared → Prop} {h₀ : Heap} {L : Addr} {mL : Nm} {env : Env} {elt target iter : Expr} {ifs : List Expr} {scope : Scope} {cl : List (Str × Addr)} {pos : Pos} {s₂ : Shared} {it : Value} {own fp : List Addr} {n : Nat} {St : Nat → Heap → Prop} {B : Nat → Nm → Nm → Prop}
    {live₀ frozen : Led} {Inv : Nat → Nat → List Value → Led → Prop} {Lv : Addr → Prop} {RR : Value → Addr → Result → Shared → Prop} {τ : Nat}
    (hτ : τ ≤ s₂.toks) (SP : ∀ C, C ∉ fp → C ∉ own → Steps prog w A it target (compEnvC scope cl C env) own fp n St B) (hsz : n ≤ sizeLine)
    (hcell : ∀ y ∈ scope.names, y.2 ≠ .cell) (hkind : scope.kind = .function) (hst : St 0 s₂.heap)
    (hfp : ∀ b ∈ fp, b < s₂.heap.objs.size ∧ (b ∈ own ∨ (∃ o, h₀.get? b = some o) ∨ ∃ o, (b, o) ∈ frozen))
    (hown : ∀ b ∈ own, b < s₂.heap.objs.size ∧ h₀.get? b = none ∧ b ≠ L ∧ ¬ Lv b ∧ ∀ p ∈ frozen, p.1 ≠ b)
    (F : Fr h₀ L s₂.heap mL) (N : News h₀ L s₂.heap (live₀ ++ frozen)) (hlv : ∀ p ∈ live₀, Lv p.1) (hLv : ∀ a, Lv a → a < s₂.heap.objs.size) (hfz : ∀ p ∈ frozen, ¬ Lv p.1) (hinv : Inv s₂.toks 0 [] live₀) (hmono : ∀ a b i ys live, a ≤ b → Inv a i ys live → Inv b i ys live)
    (turn : ∀ i ys live C D oC m m' h tk rest (E' : Value → Shared → Prop), i < n → Inv tk i ys live → B i m m' → NsObj oC m' → Fr h₀ L h mL → News h₀ L h ((C, oC) :: (D, lst ys) :: (live ++ rest)) →
      (∀ p ∈ rest, ¬ Lv p.1 ∧ p.1 ≠ C ∧ p.1 ≠ D) → (∀ p ∈ frozen, p ∈ rest) → ¬ Lv C → ¬ Lv D → @Ne Nat C D → τ ≤ tk →
      testsOf prog w A ifs (compEnvC scope cl C env) (fun ok s₃ => if ok = true
        then wpAny (model prog w) A (eval elt (compEnvC scope cl C env)) (fun y s₄ => TurnEnd h₀ L mL s₂ C oC D ys rest Lv (fun t => Inv t (i + 1) (ys ++ [y])) s₄) E' s₃
        else TurnEnd h₀ L mL s₂ C oC D ys rest Lv (fun t => Inv t (i + 1) ys) s₃) E' { s₂ with heap := h, toks := tk })
    (hlen : ∀ a i ys live, Inv a i ys live → ys.length ≤ i)
    (hRR : ∀ D C oC mC h tk ys live, Fr h₀ L h mL → News h₀ L h ((D, lst ys) :: (C, oC) :: (live ++ frozen)) → NsObj oC mC → s₂.heap.objs.size ≤ D → s₂.heap.objs.size ≤ C → @Ne Nat C D → (∀ p ∈ live, Lv p.1) → Inv tk n ys live → τ ≤ tk → RR (.ref D) C (.ok .next) { s₂ with heap := h, toks := tk }) :
    wpAny (model prog w) A (newList []) (fun acc s₃ => wpAny (model prog w) A (newFunctionEnv scope env.globals cl [] env.qual none .none (some env)) (fun cenv s₄ =>
      codeAny (model prog w) A (.compStart (.ListComp elt [⟨target, iter, ifs, 0⟩] scope pos) 0 it acc { cenv with scope := relabel scope env }) (RR acc cenv.locals) s₄) E s₃) E s₂ := by
  refine wpAny_newObj_type (wpAny_newFunctionEnv hcell (by intro y hy; simp at hy) (fun h₁ hns₁ hsb₁ => ?_) hkind)
  dsimp only at hns₁ hsb₁ ⊢
  generalize hH2 : s₂.heap.push { cls := .type "list", dict := none, data := .seq ([] : List Value).toArray } = H2 at hns₁ hsb₁ ⊢
  have hC : H2.objs.size = s₂.heap.objs.size + 1 := by rw [← hH2, Heap.size_push]
  generalize hCn : H2.objs.size = C at hns₁ hsb₁ hC ⊢
  have hH2C : H2.objs.size = C := hCn
  obtain ⟨D, hDd⟩ : ∃ D, D = s₂.heap.objs.size := ⟨_, rfl⟩
  rw [← hDd] at hC
  have hDC : D ≠ C := by rw [hC]; exact Nat.ne_of_lt (Nat.lt_succ_self _)
  have below : ∀ b, b < s₂.heap.objs.size → b ≠ C ∧ b ≠ D := fun b hb => ⟨by rw [hC, hDd]; exact Nat.ne_of_lt (Nat.lt_succ_of_lt hb), by rw [hDd]; exact Nat.ne_of_lt hb⟩
  have old : ∀ b o, s₂.heap.get? b = some o → h₁.get? b = some o := fun b o e => hsb₁.extBut b o (below b (Heap.lt_size e)).1 (Heap.get?_push_of_some _ (hH2 ▸ Heap.get?_push_of_some _ e))
  have hacc : h₁.get? D = some (lst []) := hsb₁.extBut _ _ hDC (Heap.get?_push_of_some _ (by rw [← hH2, hDd]; exact Heap.get?_push_size _ rfl))
  have fresh₀ : ∀ a, s₂.heap.objs.size ≤ a → h₀.get? a = none := fun a ha => by
    cases e : h₀.get? a with
    | none => rfl
    | some o' => exact absurd (Heap.lt_size (F.keep a o' e)) (Nat.not_lt.mpr ha)
  have hD₀ : h₀.get? D = none := fresh₀ _ (by rw [hDd]; exact Nat.le_refl _)
  have hC₀ : h₀.get? C = none := fresh₀ _ (by rw [hC, hDd]; exact Nat.le_succ _)
  have hLlt : L < s₂.heap.objs.size := F.ns.lt
  have hDL : D ≠ L := Ne.symm (below L hLlt).2
  have hCL : C ≠ L := Ne.symm (below L hLlt).1
  have hCf : C ∉ fp := fun hm => (below C (hfp C hm).1).1 rfl
  have hDf : D ∉ fp := fun hm => (below D (hfp D hm).1).2 rfl
  have hCo : C ∉ own := fun hm => (below C (hown C hm).1).1 rfl
  have hDo : D ∉ own := fun hm => (below D (hown D hm).1).2 rfl
  have hLo : L ∉ own := fun hm => (hown L hm).2.2.1 rfl
  have hLC : ¬ Lv C := fun x => (below C (hLv C x)).1 rfl
  have hLD : ¬ Lv D := fun x => (below D (hLv D x)).2 rfl
  have hfzlt : ∀ p ∈ frozen, p.1 < s₂.heap.objs.size := fun p hp => Heap.lt_size (N p (List.mem_append_right _ hp)).1
  have sp := SP C hCf hCo
  have main : ∀ s₃ : Shared, s₃ = { s₂ with heap := h₁, toks := s₂.toks + ([] : List (Str × Value)).length } →
      codeAny (model prog w) A (.compLoop (.ListComp elt [⟨target, iter, ifs, 0⟩] scope pos) 0 it (.ref D) (compEnvC scope cl C env)) (RR (.ref D) C) s₃ := by
    rintro s₃ rfl
    refine codeAny_compLoop_any
      (fun k s' => ∃ h' tk i ys m' live, s' = { s₂ with heap := h', toks := tk } ∧ i ≤ n ∧ k = n + 1 - i ∧ St i h' ∧ Fr h₀ L h' mL ∧ h'.Ns C m' ∧ News h₀ L h' ((D, lst ys) :: (live ++ frozen)) ∧ (∀ p ∈ live, Lv p.1) ∧ Inv tk i ys live ∧ τ ≤ tk) ?_ (n + 1)
      ⟨h₁, _, 0, [], _, live₀, rfl, Nat.zero_le _, rfl, sp.frame _ _ _ hst fun b _ o e => old b o e, F.keeps old, hns₁, fun p hp => ?_, hlv, hinv, hτ⟩
    · rintro k s' ⟨h', tk, i, ys, m', live, rfl, hi, rfl, hst', F', hn', N', hl', hI, hτk⟩
      have offl : ∀ p ∈ live, p.1 ∉ own ∧ p.1 ≠ C ∧ p.1 ≠ D := fun p hp => ⟨fun hm => (hown _ hm).2.2.2.1 (hl' p hp), fun q => hLC (q ▸ hl' p hp), fun q => hLD (q ▸ hl' p hp)⟩
      have offz : ∀ p ∈ frozen, p.1 ∉ own ∧ p.1 ≠ C ∧ p.1 ≠ D := fun p hp => ⟨fun hm => (hown _ hm).2.2.2.2 p hp rfl, (below _ (hfzlt p hp)).1, (below _ (hfzlt p hp)).2⟩
      have offa : ∀ p ∈ live ++ frozen, p.1 ∉ own ∧ p.1 ≠ C ∧ p.1 ≠ D := fun p hp => (List.mem_append.mp hp).elim (offl p) (offz p)
      by_cases hlt : i < n
      · refine sp.go (fun v sx hsx => hsx) hlt hst' hn' hCf hCo fun h₂ tk₂ m₂ hB hst₂ hn₂ hk₂ ht₂ => ?_
        · have hI := hmono _ tk₂ _ _ _ ht₂ hI
          have ht₂ : τ ≤ tk₂ := Nat.le_trans hτk ht₂
          refine Classical.byContradiction fun gK => ?_
          obtain ⟨oC, heC, hoC⟩ := ns_obj hn₂
          refine gK ?_
          clear gK
          have F₂ : Fr h₀ L h₂ mL := ⟨F'.ns.at' fun o e => hk₂ _ o hLo (Ne.symm hCL) e, fun b o e => hk₂ b o (fun hm => by rw [(hown b hm).2.1] at e; cases e) (fun (q : b = C) => by rw [q, hC₀] at e; cases e) (F'.keep b o e), F'.above⟩
          have N₂ : News h₀ L h₂ ((C, oC) :: (D, lst ys) :: (live ++ (ioOf h₂ own ++ frozen))) := fun p hp => by
            rcases List.mem_cons.mp hp with rfl | hp
            · exact ⟨heC, hCL, hC₀⟩
            rcases List.mem_cons.mp hp with rfl | hp
            · exact ⟨hk₂ _ _ hDo hDC (N' _ List.mem_cons_self).1, hDL, hD₀⟩
            have hm : p ∈ live ++ frozen ∨ p ∈ ioOf h₂ own := by
              simp only [List.mem_append] at hp ⊢; rcases hp with h | h | h
              · exact .inl (.inl h)
              · exact .inr h
              · exact .inl (.inr h)
            rcases hm with hm | hm
            · have z := N' p (List.mem_cons_of_mem _ hm)
              exact ⟨hk₂ _ _ (offa p hm).1 (offa p hm).2.1 z.1, z.2⟩
            · obtain ⟨ho, hg⟩ := ioOf_mem.mp hm
              exact ⟨hg, (hown _ ho).2.2.1, (hown _ ho).2.1⟩
          have hrest : ∀ p ∈ ioOf h₂ own ++ frozen, ¬ Lv p.1 ∧ p.1 ≠ C ∧ p.1 ≠ D := fun p hp => by
            rcases List.mem_append.mp hp with hm | hm
            · have ho := (ioOf_mem.mp hm).1
              exact ⟨(hown _ ho).2.2.2.1, fun q => hCo (q ▸ ho), fun q => hDo (q ▸ ho)⟩
            · exact ⟨hfz p hm, (offz p hm).2⟩
          have back : ∀ (s₄ : Shared) (inv : Nat → Led → Prop), TurnEnd h₀ L mL s₂ C oC D ys (ioOf h₂ own ++ frozen) Lv inv s₄ →
              ∃ h₃ tk₃ live', s₄ = { s₂ with heap := h₃, toks := tk₃ } ∧ St (i + 1) h₃ ∧ Fr h₀ L h₃ mL ∧ h₃.Ns C m₂ ∧ News h₀ L h₃ ((D, lst ys) :: (live' ++ frozen)) ∧ (∀ p ∈ live', Lv p.1) ∧ inv tk₃ live' := by
            rintro s₄ inv ⟨h₃, tk₃, live', rfl, F₃, N₃, hi₃, hl₃⟩
            refine ⟨h₃, tk₃, live', rfl, ?_, F₃, hoC.ns (N₃ _ List.mem_cons_self).1, fun p hp => ?_, hl₃, hi₃⟩
            · refine sp.frame _ _ _ hst₂ fun b hb o e => ?_
              rcases (hfp b hb).2 with ho | ⟨o', e'⟩ | ⟨o', hm⟩
              · exact (N₃ (b, o) (List.mem_cons_of_mem _ (List.mem_cons_of_mem _ (List.mem_append_right _ (List.mem_append_left _ (ioOf_mem.mpr ⟨ho, e⟩)))))).1
              · have := F₂.keep b o' e'
                rw [e] at this; cases this
                exact F₃.keep b o e'
              · have := (N₂ (b, o') (List.mem_cons_of_mem _ (List.mem_cons_of_mem _ (List.mem_append_right _ (List.mem_append_right _ hm))))).1
                rw [e] at this; cases this
                exact (N₃ (b, _) (List.mem_cons_of_mem _ (List.mem_cons_of_mem _ (List.mem_append_right _ (List.mem_append_right _ hm))))).1
            · refine N₃ p (List.mem_cons_of_mem _ ?_)
              rcases List.mem_cons.mp hp with rfl | hp
              · exact List.mem_cons_self
              · refine List.mem_cons_of_mem _ ?_
                rcases List.mem_append.mp hp with h | h
                · exact List.mem_append_left _ h
                · exact List.mem_append_right _ (List.mem_append_right _ h)
          refine wpAny_mono (wpAny_toks_of (n := τ) ht₂ (turn i ys live C D oC m' m₂ h₂ tk₂ (ioOf h₂ own ++ frozen) _ hlt hI hB hoC F₂ N₂ hrest (fun p hp => List.mem_append_right _ hp) hLC hLD (Ne.symm hDC) ht₂)) (fun ok s₃ hx₃ => ?_) fun _ _ e => e.2
          obtain ⟨ht₃, h₃⟩ := hx₃
          cases ok with
          | true =>
            rw [if_pos rfl] at h₃ ⊢
            refine wpAny_mono (wpAny_toks_of (n := τ) ht₃ h₃) (fun y s₄ hx₄ => ?_) fun _ _ e => e.2
            refine Classical.byContradiction fun gK => ?_
            obtain ⟨ht₄, h₄⟩ := hx₄
            obtain ⟨h₅, tk₅, live', rfl, hst₅, F₅, hn₅, N₅, hl₅, hi₅⟩ := back s₄ _ h₄
            refine gK ?_
            clear gK
            have offl₅ : ∀ p ∈ live', p.1 ≠ D := fun p hp q => hLD (q ▸ hl₅ p hp)
            have hle := hlen _ i ys live hI
            refine append_at (hsz := by show ys.toArray.size ≤ sizeLine; rw [List.size_toArray]; exact Nat.le_trans hle (Nat.le_trans hi hsz)) (N₅ _ List.mem_cons_self).1 fun h₆ hs₆ hD₆ => ?_
            refine ⟨n + 1 - (i + 1), by lia, h₆, tk₅, i + 1, ys ++ [y], _, live', rfl, hlt, rfl, sp.frame _ _ _ hst₅ fun b hb o e => hs₆.extBut b o (fun q => hDf (q ▸ hb)) e, F₅.change hs₆ hDL hD₀, hn₅.sameBut hs₆ (Ne.symm hDC), fun p hp => ?_, hl₅, hi₅, ht₄⟩
            rcases List.mem_cons.mp hp with rfl | hp
            · exact ⟨hD₆.trans (congrArg some (lst_snoc ys y)), hDL, hD₀⟩
            · have z := N₅ p (List.mem_cons_of_mem _ hp)
              refine ⟨hs₆.extBut _ _ ?_ z.1, z.2⟩
              rcases List.mem_append.mp hp with h | h
              · exact offl₅ p h
              · exact (offz p h).2.2
          | false =>
            rw [if_neg Bool.false_ne_true] at h₃ ⊢
            refine Classical.byContradiction fun gK => ?_
            obtain ⟨h₅, tk₅, live', rfl, hst₅, F₅, hn₅, N₅, hl₅, hi₅⟩ := back s₃ _ h₃
            refine gK ?_
            clear gK
            exact ⟨n + 1 - (i + 1), by lia, h₅, tk₅, i + 1, ys, _, live', rfl, hlt, rfl, hst₅, F₅, hn₅, N₅, hl₅, hi₅, ht₃⟩
      · obtain rfl : i = n := Nat.le_antisymm hi (Nat.not_lt.mp hlt)
        refine sp.end hst' fun h₂ tk₂ hk₂ ht₂ => ?_
        refine Classical.byContradiction fun gK => ?_
        obtain ⟨oC, heC, hoC⟩ := ns_obj (hn'.at' fun o e => hk₂ _ o hCo e)
        refine gK ?_
        clear gK
        refine hRR D C oC m' h₂ tk₂ ys live ⟨F'.ns.at' fun o e => hk₂ _ o hLo e, fun b o e => hk₂ b o (fun hm => by rw [(hown b hm).2.1] at e; cases e) (F'.keep b o e), F'.above⟩ (fun p hp => ?_) hoC (by rw [hDd]; exact Nat.le_refl _) (by rw [hC, hDd]; exact Nat.le_succ _) (Ne.symm hDC) hl' (hmono _ _ _ _ _ ht₂ hI) (Nat.le_trans hτk ht₂)
        rcases List.mem_cons.mp hp with rfl | hp
        · have z := N' _ List.mem_cons_self
          exact ⟨hk₂ _ _ hDo z.1, z.2⟩
        rcases List.mem_cons.mp hp with rfl | hp
        · exact ⟨heC, hCL, hC₀⟩
        · have z := N' p (List.mem_cons_of_mem _ hp)
          exact ⟨hk₂ _ _ (offa p hp).1 z.1, z.2⟩
    · rcases List.mem_cons.mp hp with rfl | hp
      · exact ⟨hacc, hDL, hD₀⟩
      · exact ⟨old _ _ (N p hp).1, (N p hp).2⟩
  rw [← hDd]
  exact codeAny_compStart_list (main _ rfl) (sp.self 0 _ _ _ (sp.frame _ _ _ hst fun b _ o e => old b o e) (main _ rfl))
end Mine
end
section
open PySem PySem.W PyProof.Rows PySem.Spec PySem.Calls
namespace Mine
open PyProof.Rows.LCg (NsObj ns_obj lst lst_snoc)

noncomputable def ForEnd (h₀ : Heap) (L : Addr) (s : Shared) (rest : Led) (Lv : Addr → Prop) (inv : Nm → Led → Prop) (s' : Shared) : Prop :=
  ∃ h' tk' m' live', s' = { s with heap := h', toks := tk' } ∧ Fr h₀ L h' m' ∧ News h₀ L h' (live' ++ rest) ∧ inv m' live' ∧ ∀ p ∈ live', Lv p.1

theorem for_V {prog : Program} {w : World} {A : Around} {h₀ : Heap} {env : Env} {target : Expr} {body : List Stmt} {s₂ : Shared} {it : Value} {own fp : List Addr} {n : Nat} {St : Nat → Heap → Prop} {B : Nat → Nm → Nm → Prop}
    {m₀ : Nm} {live₀ frozen : Led} (Inv : Nat → Nm → Led → Prop) (BrkI : Nm → Led → Prop) (RetI : Value → Nm → Led → Prop) (Lv : Addr → Prop) {R : Result → Shared → Prop}
    (SP : Steps prog w A it target env own fp n St B) (hst : St 0 s₂.heap)
    (hfp : ∀ b ∈ fp, b < s₂.heap.objs.size ∧ b ≠ env.locals ∧ (b ∈ own ∨ (∃ o, h₀.get? b = some o) ∨ ∃ o, (b, o) ∈ frozen))
    (hown : ∀ b ∈ own, b < s₂.heap.objs.size ∧ h₀.get? b = none ∧ b ≠ env.locals ∧ ¬ Lv b ∧ ∀ p ∈ frozen, p.1 ≠ b)
    (F : Fr h₀ env.locals s₂.heap m₀) (N : News h₀ env.locals s₂.heap (live₀ ++ frozen)) (hlv : ∀ p ∈ live₀, Lv p.1) (hfz : ∀ p ∈ frozen, ¬ Lv p.1) (hinv : Inv 0 m₀ live₀)
    (turn : ∀ i m m' live h tk rest (E' : Value → Shared → Prop), i < n → Inv i m live → B i m m' → Fr h₀ env.locals h m' → News h₀ env.locals h (live ++ rest) → (∀ p ∈ rest, ¬ Lv p.1) → (∀ p ∈ frozen, p ∈ rest) →
      wpAny (model prog w) A (execs body env) (fun f s₃ => match f with
        | .next | .cont => ForEnd h₀ env.locals s₂ rest Lv (Inv (i + 1)) s₃
        | .brk => ForEnd h₀ env.locals s₂ rest Lv BrkI s₃
        | .ret v => ForEnd h₀ env.locals s₂ rest Lv (RetI v) s₃) E' { s₂ with heap := h, toks := tk })
    (fin : ∀ h tk m live, Inv n m live → Fr h₀ env.locals h m → News h₀ env.locals h (live ++ frozen) → (∀ p ∈ live, Lv p.1) → R (.ok .next) { s₂ with heap := h, toks := tk })
    (brk : ∀ h tk m live, BrkI m live → Fr h₀ env.locals h m → News h₀ env.locals h (live ++ frozen) → (∀ p ∈ live, Lv p.1) → R (.ok .next) { s₂ with heap := h, toks := tk })
    (rtn : ∀ h tk m live v, RetI v m live → Fr h₀ env.locals h m → News h₀ env.locals h (live ++ frozen) → (∀ p ∈ live, Lv p.1) → R (.ok (.ret v)) { s₂ with heap := h, toks := tk }) :
    codeAny (model prog w) A (.forLoop target it body [] env) R s₂ := by
  have hLf : env.locals ∉ fp := fun hm => (hfp _ hm).2.1 rfl
  have hLo : env.locals ∉ own := fun hm => (hown _ hm).2.2.1 rfl
  refine codeAny_forLoop_any
    (fun k s' => ∃ h' tk i m live, s' = { s₂ with heap := h', toks := tk } ∧ i ≤ n ∧ k = n + 1 - i ∧ St i h' ∧ Fr h₀ env.locals h' m ∧ News h₀ env.locals h' (live ++ frozen) ∧ (∀ p ∈ live, Lv p.1) ∧ Inv i m live) ?_ (n + 1)
    ⟨s₂.heap, s₂.toks, 0, m₀, live₀, rfl, Nat.zero_le _, rfl, hst, F, N, hlv, hinv⟩
  rintro k s' ⟨h', tk, i, m, live, rfl, hi, rfl, hst', F', N', hl', hI⟩
  have offa : ∀ p ∈ live ++ frozen, p.1 ∉ own := fun p hp => (List.mem_append.mp hp).elim (fun hp hm => (hown _ hm).2.2.2.1 (hl' p hp)) fun hp hm => (hown _ hm).2.2.2.2 p hp rfl
  have hL₀ : h₀.get? env.locals = none := Heap.get?_none_of_le F.above
  by_cases hlt : i < n
  · refine SP.go (fun v sx hsx => hsx) hlt hst' F'.ns hLf hLo fun h₂ tk₂ m₂ hB hst₂ hn₂ hk₂ _ => ?_
    have F₂ : Fr h₀ env.locals h₂ m₂ := ⟨hn₂, fun b o e => hk₂ b o (fun hm => by rw [(hown b hm).2.1] at e; cases e) (fun (q : b = env.locals) => by rw [q, hL₀] at e; cases e) (F'.keep b o e), F'.above⟩
    have N₂ : News h₀ env.locals h₂ (live ++ (ioOf h₂ own ++ frozen)) := fun p hp => by
      have hm : p ∈ live ++ frozen ∨ p ∈ ioOf h₂ own := by
        simp only [List.mem_append] at hp ⊢; rcases hp with h | h | h
        · exact .inl (.inl h)
        · exact .inr h
        · exact .inl (.inr h)
      rcases hm with hm | hm
      · have z := N' p hm
        exact ⟨hk₂ _ _ (offa p hm) z.2.1 z.1, z.2⟩
      · obtain ⟨ho, hg⟩ := ioOf_mem.mp hm
        exact ⟨hg, (hown _ ho).2.2.1, (hown _ ho).2.1⟩
    have hrest : ∀ p ∈ ioOf h₂ own ++ frozen, ¬ Lv p.1 := fun p hp => by
      rcases List.mem_append.mp hp with hm | hm
      · exact (hown _ (ioOf_mem.mp hm).1).2.2.2.1
      · exact hfz p hm
    have drop : ∀ (h₃ : Heap) (live' : Led), News h₀ env.locals h₃ (live' ++ (ioOf h₂ own ++ frozen)) → News h₀ env.locals h₃ (live' ++ frozen) := fun h₃ live' N₃ p hp => N₃ p (by
      rcases List.mem_append.mp hp with h | h
      · exact List.mem_append_left _ h
      · exact List.mem_append_right _ (List.mem_append_right _ h))
    refine wpAny_mono (turn i m m₂ live h₂ tk₂ (ioOf h₂ own ++ frozen) _ hlt hI hB F₂ N₂ hrest fun p hp => List.mem_append_right _ hp) (fun f s₃ h₃ => ?_) fun _ _ e => e
    have nextCase : ForEnd h₀ env.locals s₂ (ioOf h₂ own ++ frozen) Lv (Inv (i + 1)) s₃ → ∃ m, m < n + 1 - i ∧ ∃ h' tk i m_1 live, s₃ = { s₂ with heap := h', toks := tk } ∧ i ≤ n ∧ m = n + 1 - i ∧ St i h' ∧ Fr h₀ env.locals h' m_1 ∧ News h₀ env.locals h' (live ++ frozen) ∧ (∀ p ∈ live, Lv p.1) ∧ Inv i m_1 live := by
      rintro ⟨h₄, tk₃, m₃, live', rfl, F₃, N₃, hi₃, hl₃⟩
      refine ⟨n + 1 - (i + 1), by omega, h₄, tk₃, i + 1, m₃, live', rfl, hlt, rfl, ?_, F₃, drop _ _ N₃, hl₃, hi₃⟩
      refine SP.frame _ _ _ hst₂ fun b hb o e => ?_
      rcases (hfp b hb).2.2 with ho | ⟨o', e'⟩ | ⟨o', hm⟩
      · exact (N₃ (b, o) (List.mem_append_right _ (List.mem_append_left _ (ioOf_mem.mpr ⟨ho, e⟩)))).1
      · have := F₂.keep b o' e'
        rw [e] at this; cases this
        exact F₃.keep b _ e'
      · have := (N₂ (b, o') (List.mem_append_right _ (List.mem_append_right _ hm))).1
        rw [e] at this; cases this
        exact (N₃ (b, _) (List.mem_append_right _ (List.mem_append_right _ hm))).1
    cases f with
    | next => exact nextCase h₃
    | cont => exact nextCase h₃
    | brk =>
      refine Classical.byContradiction fun gK => ?_
      obtain ⟨h₃, tk₃, m₃, live', rfl, F₃, N₃, hi₃, hl₃⟩ := h₃
      refine gK ?_
      clear gK
      exact brk h₃ tk₃ m₃ live' hi₃ F₃ (drop _ _ N₃) hl₃
    | ret v =>
      refine Classical.byContradiction fun gK => ?_
      obtain ⟨h₃, tk₃, m₃, live', rfl, F₃, N₃, hi₃, hl₃⟩ := h₃
      refine gK ?_
      clear gK
      exact rtn h₃ tk₃ m₃ live' v hi₃ F₃ (drop _ _ N₃) hl₃
  · obtain rfl : i = n := Nat.le_antisymm hi (Nat.not_lt.mp hlt)
    refine SP.done _ _ _ hst' fun h₂ tk₂ hk₂ => ?_
    refine wpAny_execs_nil ?_
    refine fin h₂ tk₂ m live hI ⟨F'.ns.at' fun o e => hk₂ _ o hLo e, fun b o e => hk₂ b o (fun hm => by rw [(hown b hm).2.1] at e; cases e) (F'.keep b o e), F'.above⟩ (fun p hp => ?_) hl'
    have z := N' p hp
    exact ⟨hk₂ _ _ (offa p hp) z.1, z.2⟩

/-- where the iterator of an iterable comes from: `dep` are the objects it reads, `lo` the height below which nothing of its own lies -/
structure Source (prog : Program) (w : World) (A : Around) (target : Expr) (okE : Env → Prop) (n : Nat) (B : Nat → Nm → Nm → Prop) (dep : List Addr) (lo : Nat) (s₁ : Shared) (x : Value) : Prop where
  run : ∀ (K : Value → Shared → Prop) (E : Value → Shared → Prop),
    (∀ it own fp St h, (∀ env', okE env' → Steps prog w A it target env' own fp n St B) → St 0 h → (∀ b ∈ fp, b < h.objs.size ∧ (b ∈ own ∨ b ∈ dep)) → (∀ b ∈ own, b < h.objs.size ∧ lo ≤ b) →
      (∀ b o, s₁.heap.get? b = some o → h.get? b = some o) → s₁.heap.objs.size ≤ h.objs.size → K it { s₁ with heap := h }) →
    wpAny (model prog w) A (pyIter x) K E s₁

noncomputable def okN (x : Str) (env : Env) : Prop := env.kindOf x = some .local ∧ (env.scope.kind == .class || (env.scope.kind == .module && env.locals != env.globals)) = false
noncomputable def okP (x y : Str) (env : Env) : Prop := env.kindOf x = some .local ∧ env.kindOf y = some .local ∧ (env.scope.kind == .class || (env.scope.kind == .module && env.locals != env.globals)) = false
noncomputable abbrev BN (x : Str) (P : Nat → Value → Prop) : Nat → Nm → Nm → Prop := fun i m m' => ∃ v, P i v ∧ m' = setN m x v
noncomputable abbrev BP (x y : Str) (P : Nat → Value → Value → Prop) : Nat → Nm → Nm → Prop := fun i m m' => ∃ a b, P i a b ∧ m' = setN (setN m x a) y b

section
variable {prog : Program} {w : World} {A : Around} {s₁ : Shared}
theorem src_strN (hh : A.handled = none) (x : Str) (t : Tok) (v : Str) (pv : Pos) :
    Source prog w A (.Name v pv) (okN v) x.cps.size (BN v fun i a => ∃ c u, x.cps[i]? = some c ∧ a = .str ⟨#[c]⟩ u) [] s₁.heap.objs.size s₁ (.str x t) where
  run := fun K E h => by
    cases ha : x.cps.all (· < 128)
    · refine wpAny_pyIter_wide ha ?_
      refine h _ [s₁.heap.objs.size] [s₁.heap.objs.size] _ _ (fun env' ok => Steps.name (Walks.strWide hh s₁.heap.objs.size x t) ok.1 ok.2) ⟨_, Heap.get?_push_size _ rfl, rfl, rfl⟩ (fun b hb => ⟨?_, .inl hb⟩) (fun b hb => ⟨?_, ?_⟩) (fun b o e => Heap.get?_push_of_some _ e) (by rw [Heap.size_push]; exact Nat.le_succ _)
      all_goals (rw [List.mem_singleton.mp hb]; first | exact Nat.le_refl _ | (rw [Heap.size_push]; exact Nat.lt_succ_self _))
    · refine wpAny_pyIter_ascii ha ?_
      refine h _ [s₁.heap.objs.size] [s₁.heap.objs.size] _ _ (fun env' ok => Steps.name (Walks.strAscii hh s₁.heap.objs.size x t) ok.1 ok.2) ⟨_, Heap.get?_push_size _ rfl, rfl, rfl⟩ (fun b hb => ⟨?_, .inl hb⟩) (fun b hb => ⟨?_, ?_⟩) (fun b o e => Heap.get?_push_of_some _ e) (by rw [Heap.size_push]; exact Nat.le_succ _)
      all_goals (rw [List.mem_singleton.mp hb]; first | exact Nat.le_refl _ | (rw [Heap.size_push]; exact Nat.lt_succ_self _))
theorem src_listN (hh : A.handled = none) (ax : Addr) (items : Array Value) (v : Str) (pv : Pos) (hl : s₁.heap.IsList ax items) :
    Source prog w A (.Name v pv) (okN v) items.size (BN v fun i a => items[i]? = some a) [ax] s₁.heap.objs.size s₁ (.ref ax) where
  run := fun K E h => by
    have hlt : ax < s₁.heap.objs.size := by obtain ⟨_, e, _⟩ := hl; exact Heap.lt_size e
    refine wpAny_pyIter_list hl ?_
    refine h _ [s₁.heap.objs.size] [s₁.heap.objs.size, ax] _ _ (fun env' ok => Steps.name (Walks.list hh s₁.heap.objs.size ax (Nat.ne_of_lt hlt) items) ok.1 ok.2) ⟨⟨_, Heap.get?_push_size _ rfl, rfl, rfl⟩, hl.push _⟩ (fun b hb => ?_) (fun b hb => ⟨?_, ?_⟩) (fun b o e => Heap.get?_push_of_some _ e) (by rw [Heap.size_push]; exact Nat.le_succ _)
    · rw [Heap.size_push]
      rcases List.mem_cons.mp hb with rfl | hb
      · exact ⟨Nat.lt_succ_self _, .inl List.mem_cons_self⟩
      · rw [List.mem_singleton.mp hb]; exact ⟨Nat.lt_succ_of_lt hlt, .inr List.mem_cons_self⟩
    all_goals (rw [List.mem_singleton.mp hb]; first | exact Nat.le_refl _ | (rw [Heap.size_push]; exact Nat.lt_succ_self _))
theorem src_tupleN (hh : A.handled = none) (ax : Addr) (items : Array Value) (v : Str) (pv : Pos) (hl : s₁.heap.IsTuple ax items) :
    Source prog w A (.Name v pv) (okN v) items.size (BN v fun i a => items[i]? = some a) [ax] s₁.heap.objs.size s₁ (.ref ax) where
  run := fun K E h => by
    have hlt : ax < s₁.heap.objs.size := by obtain ⟨_, e, _⟩ := hl; exact Heap.lt_size e
    refine wpAny_pyIter_tuple hl ?_
    refine h _ [s₁.heap.objs.size] [s₁.heap.objs.size, ax] _ _ (fun env' ok => Steps.name (Walks.tuple hh s₁.heap.objs.size ax (Nat.ne_of_lt hlt) items) ok.1 ok.2) ⟨⟨_, Heap.get?_push_size _ rfl, rfl, rfl⟩, hl.push _⟩ (fun b hb => ?_) (fun b hb => ⟨?_, ?_⟩) (fun b o e => Heap.get?_push_of_some _ e) (by rw [Heap.size_push]; exact Nat.le_succ _)
    · rw [Heap.size_push]
      rcases List.mem_cons.mp hb with rfl | hb
      · exact ⟨Nat.lt_succ_self _, .inl List.mem_cons_self⟩
      · rw [List.mem_singleton.mp hb]; exact ⟨Nat.lt_succ_of_lt hlt, .inr List.mem_cons_self⟩
    all_goals (rw [List.mem_singleton.mp hb]; first | exact Nat.le_refl _ | (rw [Heap.size_push]; exact Nat.lt_succ_self _))
theorem src_rangeN (hh : A.handled = none) {r : Addr} {a b : Int} {t u v' : Tok} {n : Nat} (v : Str) (pv : Pos) (hr : IsRange s₁.heap r a b 1 t u v') (hsm : Builtin.Range.small a b 1 = true) (hn : Builtin.Range.rangeSize a b 1 = ((n : Nat) : Int)) :
    Source prog w A (.Name v pv) (okN v) n (BN v fun i x => ∃ t, x = .int (a + (i : Int)) t) [] s₁.heap.objs.size s₁ (.ref r) where
  run := fun K E h => by
    refine wpAny_pyIter_range hr hsm ?_
    refine h _ [s₁.heap.objs.size] [s₁.heap.objs.size] _ _ (fun env' ok => Steps.name (LCg.range_walks hh a n) ok.1 ok.2) (by show IsRangeIter _ _ _ _ _; rw [hn]; simpa using Heap.get?_push_size _ rfl) (fun b hb => ⟨?_, .inl hb⟩) (fun b hb => ⟨?_, ?_⟩) (fun b o e => Heap.get?_push_of_some _ e) (by rw [Heap.size_push]; exact Nat.le_succ _)
    all_goals (rw [List.mem_singleton.mp hb]; first | exact Nat.le_refl _ | (rw [Heap.size_push]; exact Nat.lt_succ_self _))
end
end Mine
end
section
open PySem PySem.W PyProof.Rows PySem.Spec PySem.Calls
namespace Mine
open PyProof.Rows.LCg (NsObj ns_obj lst lst_snoc)

noncomputable def AfterIter (prog : Program) (w : World) (A : Around) (env : Env) (elt target iter : Expr) (ifs : List Expr) (scope : Scope) (cl : List (Str × Addr)) (pos : Pos) (use : Option (Value → Sem Unit)) (E Q : Value → Shared → Prop) (x : Value) (s₁ : Shared) : Prop :=
  wpAny (model prog w) A (pyIter x) (fun it s₂ => wpAny (model prog w) A (newList []) (fun acc s₃ => wpAny (model prog w) A (newFunctionEnv scope env.globals cl [] env.qual none .none (some env)) (fun cenv s₄ =>
    codeAny (model prog w) A (.compStart (.ListComp elt [⟨target, iter, ifs, 0⟩] scope pos) 0 it acc { cenv with scope := relabel scope env }) (compPost (model prog w) A E use Q acc cenv.locals) s₄) E s₃) E s₂) E s₁

section
variable {prog : Program} {w : World} {A : Around} {E : Value → Shared → Prop} {s : Shared} {env : Env}
theorem ListComp_W {elt target iter : Expr} {ifs : List Expr} {scope : Scope} {cl : List (Str × Addr)} {pos : Pos} {Q : Value → Shared → Prop}
    (hclos : closureFor scope env = pure cl) (hkind : scope.kind = .function) (hnames : ∀ y ∈ scope.names, y.2 = .local → scope.names.lookup y.1 = some .local)
    (h : wpAny (model prog w) A (eval iter env) (AfterIter prog w A env elt target iter ifs scope cl pos none E Q) E s)
    (hs : ∀ x, foldedSetIterable iter env x = pure x := by intro _; rfl) :
    wpAny (model prog w) A (eval (.ListComp elt [⟨target, iter, ifs, 0⟩] scope pos) env) Q E s := by
  rw [eval_ListComp]
  exact wpAny_comprehension_free (use := none) rfl hs hclos hkind hnames (wpAny_mono h (fun _ _ h₁ => h₁) fun _ _ e => e)
noncomputable def AfterIterB (τ : Nat) (P : Value → Shared → Prop) (x : Value) (s₁ : Shared) : Prop := τ ≤ s₁.toks → P x s₁
theorem ListComp_WT {τ : Nat} {elt target iter : Expr} {ifs : List Expr} {scope : Scope} {cl : List (Str × Addr)} {pos : Pos} {Q : Value → Shared → Prop} (hτ : τ ≤ s.toks)
    (hclos : closureFor scope env = pure cl) (hkind : scope.kind = .function) (hnames : ∀ y ∈ scope.names, y.2 = .local → scope.names.lookup y.1 = some .local)
    (h : wpAny (model prog w) A (eval iter env) (AfterIterB τ (AfterIter prog w A env elt target iter ifs scope cl pos none E Q)) E s)
    (hs : ∀ x, foldedSetIterable iter env x = pure x := by intro _; rfl) :
    wpAny (model prog w) A (eval (.ListComp elt [⟨target, iter, ifs, 0⟩] scope pos) env) Q E s :=
  ListComp_W hclos hkind hnames (wpAny_with_toks hτ (wpAny_mono h (fun _ _ h₁ => h₁) fun _ _ e _ => e)) hs
theorem AssignComp_W {elt target iter : Expr} {ifs : List Expr} {y : Str} {py : Pos} {scope : Scope} {cl : List (Str × Addr)} {pos spos : Pos} {Q : Flow → Shared → Prop}
    (hsw : swapsWith (.ListComp elt [⟨target, iter, ifs, 0⟩] scope pos) (some (.Name y py)) spos.line env = pure true)
    (hclos : closureFor scope env = pure cl) (hkind : scope.kind = .function) (hnames : ∀ z ∈ scope.names, z.2 = .local → scope.names.lookup z.1 = some .local)
    (h : wpAny (model prog w) A (eval iter env) (AfterIter prog w A env elt target iter ifs scope cl pos (some (assign (.Name y py) env)) E (fun _ s' => Q .next s')) E s)
    (hs : ∀ x, foldedSetIterable iter env x = pure x := by intro _; rfl) :
    wpAny (model prog w) A (exec (.Assign [.Name y py] (.ListComp elt [⟨target, iter, ifs, 0⟩] scope pos) spos) env) Q E s := by
  rw [exec_Assign_Name_used _ _ _ _ hsw]
  refine wpAny_bind (wpAny_standAt (wpAny_bind ?_))
  show wpAny _ A (do let _ ← comprehension (.ListComp elt [⟨target, iter, ifs, 0⟩] scope pos) scope env _ (newList []) false (eval iter env) (some (assign (.Name y py) env))) _ _ s
  exact wpAny_bind (wpAny_mono (wpAny_comprehension_free (use := some (assign (.Name y py) env)) (Q := fun _ s' => Q .next s') rfl hs hclos hkind hnames
    (wpAny_mono h (fun _ _ h₁ => h₁) fun _ _ e => e)) (fun _ s' hq => wpAny_pure (wpAny_pure hq)) fun _ _ e => e)

variable {h₀ : Heap} {L : Addr} {mL : Nm}
/-- what is left to show when the names of a comprehension go -/
noncomputable def LeaveC (h₀ : Heap) (L C : Addr) (Q : Value → Shared → Prop) (_ : Unit) (s'' : Shared) : Prop := ∃ m, s''.heap.Ns C m ∧ ∀ h', Heap.SameBut C s''.heap h' → Q .none { s'' with heap := h' }
theorem LeaveC.intro {C : Addr} {oC : Obj} {mC m : Nm} {Q : Value → Shared → Prop} {u : Unit} {h : Heap} {tk : Nat} {all : Led} (kept : Led) (F : Fr h₀ L h m) (N : News h₀ L h all) (hC : (C, oC) ∈ all) (hoC : NsObj oC mC) (sub : ∀ p ∈ kept, p ∈ all) (off : ∀ p ∈ kept, p.1 ≠ C)
    (k : ∀ h', Fr h₀ L h' m → News h₀ L h' kept → Q .none { s with heap := h', toks := tk }) : LeaveC h₀ L C Q u { s with heap := h, toks := tk } :=
  ⟨mC, hoC.ns (N _ hC).1, fun h' hs => k h' (F.change hs (N _ hC).2.1 (N _ hC).2.2) fun p hp => ⟨hs.extBut _ _ (off p hp) (N p (sub p hp)).1, (N p (sub p hp)).2⟩⟩

theorem comp_src {elt target iter : Expr} {ifs : List Expr} {scope : Scope} {cl : List (Str × Addr)} {pos : Pos} {use : Option (Value → Sem Unit)} {Q : Value → Shared → Prop} {s₁ : Shared} {x : Value} {okE : Env → Prop} {n : Nat} {B : Nat → Nm → Nm → Prop} {dep : List Addr} {lo τ : Nat} (hτ : τ ≤ s₁.toks)
    (live₀ frozen : Led) (Inv : Nat → Nat → List Value → Led → Prop) (Lv : Addr → Prop)
    (S : Source prog w A target okE n B dep lo s₁ x) (hok : ∀ C, okE (compEnvC scope cl C env)) (hsz : n ≤ sizeLine)
    (hcell : ∀ y ∈ scope.names, y.2 ≠ .cell) (hkind : scope.kind = .function)
    (F : Fr h₀ L s₁.heap mL) (N : News h₀ L s₁.heap (live₀ ++ frozen)) (hL : L < lo) (hbelow : ∀ p ∈ live₀ ++ frozen, p.1 < lo) (hlo : lo ≤ s₁.heap.objs.size) (hdep : ∀ b ∈ dep, (∃ o, h₀.get? b = some o) ∨ ∃ o, (b, o) ∈ frozen)
    (hlv : ∀ p ∈ live₀, Lv p.1) (hLv : ∀ a, Lv a → a < lo) (hfz : ∀ p ∈ frozen, ¬ Lv p.1) (hinv : Inv s₁.toks 0 [] live₀) (hmono : ∀ a b i ys live, a ≤ b → Inv a i ys live → Inv b i ys live)
    (hlen : ∀ a i ys live, Inv a i ys live → ys.length ≤ i)
    (turn : ∀ (g : Heap) i ys live C D oC m m' h tk rest (E' : Value → Shared → Prop), i < n → Inv tk i ys live → B i m m' → NsObj oC m' → Fr h₀ L h mL → News h₀ L h ((C, oC) :: (D, lst ys) :: (live ++ rest)) →
      (∀ p ∈ rest, ¬ Lv p.1 ∧ p.1 ≠ C ∧ p.1 ≠ D) → (∀ p ∈ frozen, p ∈ rest) → ¬ Lv C → ¬ Lv D → @Ne Nat C D → τ ≤ tk →
      testsOf prog w A ifs (compEnvC scope cl C env) (fun ok s₃ => if ok = true
        then wpAny (model prog w) A (eval elt (compEnvC scope cl C env)) (fun y s₄ => TurnEnd h₀ L mL { s₁ with heap := g } C oC D ys rest Lv (fun t => Inv t (i + 1) (ys ++ [y])) s₄) E' s₃
        else TurnEnd h₀ L mL { s₁ with heap := g } C oC D ys rest Lv (fun t => Inv t (i + 1) ys) s₃) E' { s₁ with heap := h, toks := tk })
    (fin : ∀ D C oC mC h tk ys live, Fr h₀ L h mL → News h₀ L h ((D, lst ys) :: (C, oC) :: (live ++ frozen)) → NsObj oC mC → lo ≤ D → lo ≤ C → @Ne Nat C D → (∀ p ∈ live, Lv p.1) → Inv tk n ys live → τ ≤ tk →
      compPost (model prog w) A E use Q (.ref D) C (.ok .next) { s₁ with heap := h, toks := tk }) :
    AfterIter prog w A env elt target iter ifs scope cl pos use E Q x s₁ := by
  unfold AfterIter
  refine S.run _ _ fun it own fp St h SP hst hfp hown hk hsl => ?_
  have hobj : h₀.objs.size ≤ lo := Nat.le_of_lt (Nat.lt_of_le_of_lt F.above hL)
  have fresh : ∀ b, lo ≤ b → h₀.get? b = none := fun b hb => Heap.get?_none_of_le (Nat.le_trans hobj hb)
  refine block_V (τ := τ) (s₂ := { s₁ with heap := h }) hτ (Inv := Inv) (Lv := Lv) (live₀ := live₀) (frozen := frozen) (fun C _ _ => SP _ (hok C)) hsz hcell hkind hst (fun b hb => ⟨(hfp b hb).1, (hfp b hb).2.elim .inl fun hd => .inr (hdep b hd)⟩) (fun b hb => ⟨(hown b hb).1, fresh b (hown b hb).2, fun q => ?_, fun hl => ?_, fun p hp q => ?_⟩)
    (F.keeps hk) (fun p hp => ⟨hk _ _ (N p hp).1, (N p hp).2⟩) hlv (fun a ha => ?_) hfz hinv hmono
    (fun i ys live C D oC m m' h' tk rest E' hi hI hB hoC F' N' hr hz h1 h2 h3 h4 => turn h i ys live C D oC m m' h' tk rest E' hi hI hB hoC F' N' hr hz h1 h2 h3 h4) hlen
    (fun D C oC mC h' tk ys live F' N' hoC hD hC hCD hl hI ht => fin D C oC mC h' tk ys live F' N' hoC ?_ ?_ hCD hl hI ht)
  · rw [q] at hb; exact absurd (Nat.lt_of_lt_of_le hL (hown _ hb).2) (Nat.lt_irrefl _)
  · exact absurd (Nat.lt_of_lt_of_le (hLv b hl) (hown _ hb).2) (Nat.lt_irrefl _)
  · rw [← q] at hb; exact absurd (Nat.lt_of_lt_of_le (hbelow p (List.mem_append_right _ hp)) (hown _ hb).2) (Nat.lt_irrefl _)
  · exact Nat.lt_of_lt_of_le (hLv a ha) (Nat.le_trans hlo hsl)
  · exact Nat.le_trans (Nat.le_trans hlo hsl) hD
  · exact Nat.le_trans (Nat.le_trans hlo hsl) hC
end
end Mine
end
section
open PySem PySem.W PyProof.Rows PySem.Spec PySem.Calls
namespace Mine
open PyProof.Rows.LCg (NsObj ns_obj lst lst_snoc)

/-- the end of a comprehension's turn that changes nothing of the ledger -/
noncomputable def TurnEnd0 (h₀ : Heap) (L : Addr) (mL : Nm) (s : Shared) (C : Addr) (oC : Obj) (D : Addr) (old : List Value) (rest : Led) (inv : Nat → Prop) (s' : Shared) : Prop :=
  ∃ h' tk', s' = { s with heap := h', toks := tk' } ∧ Fr h₀ L h' mL ∧ News h₀ L h' ((C, oC) :: (D, lst old) :: rest) ∧ inv tk'
theorem TurnEnd0.intro {h₀ : Heap} {L : Addr} {mL : Nm} {s : Shared} {C : Addr} {oC : Obj} {D : Addr} {old : List Value} {rest all : Led} {inv : Nat → Prop} {h' : Heap} {tk' : Nat}
    (F : Fr h₀ L h' mL) (N : News h₀ L h' all) (hs : ∀ p ∈ (C, oC) :: (D, lst old) :: rest, p ∈ all) (hi : inv tk') : TurnEnd0 h₀ L mL s C oC D old rest inv { s with heap := h', toks := tk' } :=
  ⟨h', tk', rfl, F, fun p hp => N p (hs p hp), hi⟩

section
variable {prog : Program} {w : World} {A : Around} {E : Value → Shared → Prop} {s : Shared} {env : Env} {h₀ : Heap} {L : Addr} {mL : Nm}
theorem comp_srcT {elt target iter : Expr} {ifs : List Expr} {scope : Scope} {cl : List (Str × Addr)} {pos : Pos} {use : Option (Value → Sem Unit)} {Q : Value → Shared → Prop} {s₁ : Shared} {x : Value} {okE : Env → Prop} {n : Nat} {B : Nat → Nm → Nm → Prop} {dep : List Addr} {lo τ : Nat} (hτ : τ ≤ s₁.toks)
    (frozen : Led) (Inv : Nat → Nat → List Value → Prop)
    (S : Source prog w A target okE n B dep lo s₁ x) (hL : L < lo) (hbelow : ∀ p ∈ frozen, p.1 < lo) (hlo : lo ≤ s₁.heap.objs.size) (hok : ∀ C, okE (compEnvC scope cl C env)) (hsz : n ≤ sizeLine)
    (hcell : ∀ y ∈ scope.names, y.2 ≠ .cell) (hkind : scope.kind = .function)
    (F : Fr h₀ L s₁.heap mL) (N : News h₀ L s₁.heap frozen) (hdep : ∀ b ∈ dep, (∃ o, h₀.get? b = some o) ∨ ∃ o, (b, o) ∈ frozen)
    (hinv : Inv s₁.toks 0 []) (hmono : ∀ a b i ys, a ≤ b → Inv a i ys → Inv b i ys)
    (turn : ∀ (g : Heap) i ys C D oC m m' h tk rest (E' : Value → Shared → Prop), i < n → Inv tk i ys → B i m m' → NsObj oC m' → Fr h₀ L h mL → News h₀ L h ((C, oC) :: (D, lst ys) :: rest) →
      (∀ p ∈ rest, p.1 ≠ C ∧ p.1 ≠ D) → (∀ p ∈ frozen, p ∈ rest) → @Ne Nat C D → τ ≤ tk →
      testsOf prog w A ifs (compEnvC scope cl C env) (fun ok s₃ => if ok = true
        then wpAny (model prog w) A (eval elt (compEnvC scope cl C env)) (fun y s₄ => TurnEnd0 h₀ L mL { s₁ with heap := g } C oC D ys rest (fun t => Inv t (i + 1) (ys ++ [y])) s₄) E' s₃
        else TurnEnd0 h₀ L mL { s₁ with heap := g } C oC D ys rest (fun t => Inv t (i + 1) ys) s₃) E' { s₁ with heap := h, toks := tk })
    (fin : ∀ D C oC mC h tk ys, Fr h₀ L h mL → News h₀ L h ((D, lst ys) :: (C, oC) :: frozen) → NsObj oC mC → (∀ p ∈ frozen, p.1 ≠ C ∧ p.1 < D) → @Ne Nat C D → Inv tk n ys → τ ≤ tk →
      compPost (model prog w) A E use Q (.ref D) C (.ok .next) { s₁ with heap := h, toks := tk }) :
    AfterIter prog w A env elt target iter ifs scope cl pos use E Q x s₁ := by
  refine comp_src (lo := lo) (τ := τ) hτ [] frozen (fun a i ys live => live = [] ∧ ys.length ≤ i ∧ Inv a i ys) (fun _ => False) S hok hsz hcell hkind F N hL hbelow hlo hdep (fun p hp => nomatch hp) (fun a ha => ha.elim) (fun p _ h => h)
    ⟨rfl, Nat.le_refl _, hinv⟩ (fun a b i ys live hab h => ⟨h.1, h.2.1, hmono a b i ys hab h.2.2⟩) (fun _ i ys live h => h.2.1) (fun g i ys live C D oC m m' h tk rest E' hi hI hB hoC F' N' hr hz _ _ hCD ht => ?_) fun D C oC mC h tk ys live F' N' hoC hD hC hCD hl hI ht => ?_
  · obtain ⟨rfl, hle, hI⟩ := hI
    refine wpAny_mono (turn g i ys C D oC m m' h tk rest E' hi hI hB hoC F' N' (fun p hp => (hr p hp).2) hz hCD ht) (fun ok s₃ h₃ => ?_) fun _ _ e => e
    have up : ∀ zs s₄, zs.length ≤ i + 1 → TurnEnd0 h₀ L mL { s₁ with heap := g } C oC D ys rest (fun t => Inv t (i + 1) zs) s₄ → TurnEnd h₀ L mL { s₁ with heap := g } C oC D ys rest (fun _ => False) (fun t live => live = [] ∧ zs.length ≤ i + 1 ∧ Inv t (i + 1) zs) s₄ := by
      rintro zs s₄ hl ⟨h', tk', rfl, F₄, N₄, hi⟩
      exact ⟨h', tk', [], rfl, F₄, N₄, ⟨rfl, hl, hi⟩, fun p hp => nomatch hp⟩
    cases ok with
    | true =>
      rw [if_pos rfl] at h₃ ⊢
      exact wpAny_mono h₃ (fun y s₄ h₄ => up _ _ (by rw [List.length_append, List.length_singleton]; exact Nat.succ_le_succ hle) h₄) fun _ _ e => e
    | false =>
      rw [if_neg Bool.false_ne_true] at h₃ ⊢
      exact up _ _ (Nat.le_succ_of_le hle) h₃
  · obtain ⟨rfl, hle, hI⟩ := hI
    exact fin D C oC mC h tk ys F' N' hoC (fun p hp => ⟨Nat.ne_of_lt (Nat.lt_of_lt_of_le (hbelow p hp) hC), Nat.lt_of_lt_of_le (hbelow p hp) hD⟩) hCD hI ht
theorem comp_srcTn {elt target iter : Expr} {ifs : List Expr} {scope : Scope} {cl : List (Str × Addr)} {pos : Pos} {Q : Value → Shared → Prop} {s₁ : Shared} {x : Value} {okE : Env → Prop} {n : Nat} {B : Nat → Nm → Nm → Prop} {dep : List Addr} {lo τ : Nat} (hτ : τ ≤ s₁.toks)
    (frozen : Led) (Inv : Nat → Nat → List Value → Prop)
    (S : Source prog w A target okE n B dep lo s₁ x) (hL : L < lo) (hbelow : ∀ p ∈ frozen, p.1 < lo) (hlo : lo ≤ s₁.heap.objs.size) (hok : ∀ C, okE (compEnvC scope cl C env)) (hsz : n ≤ sizeLine)
    (hcell : ∀ y ∈ scope.names, y.2 ≠ .cell) (hkind : scope.kind = .function)
    (F : Fr h₀ L s₁.heap mL) (N : News h₀ L s₁.heap frozen) (hdep : ∀ b ∈ dep, (∃ o, h₀.get? b = some o) ∨ ∃ o, (b, o) ∈ frozen)
    (hinv : Inv s₁.toks 0 []) (hmono : ∀ a b i ys, a ≤ b → Inv a i ys → Inv b i ys)
    (turn : ∀ (g : Heap) i ys C D oC m m' h tk rest (E' : Value → Shared → Prop), i < n → Inv tk i ys → B i m m' → NsObj oC m' → Fr h₀ L h mL → News h₀ L h ((C, oC) :: (D, lst ys) :: rest) →
      (∀ p ∈ rest, p.1 ≠ C ∧ p.1 ≠ D) → (∀ p ∈ frozen, p ∈ rest) → @Ne Nat C D → τ ≤ tk →
      testsOf prog w A ifs (compEnvC scope cl C env) (fun ok s₃ => if ok = true
        then wpAny (model prog w) A (eval elt (compEnvC scope cl C env)) (fun y s₄ => TurnEnd0 h₀ L mL { s₁ with heap := g } C oC D ys rest (fun t => Inv t (i + 1) (ys ++ [y])) s₄) E' s₃
        else TurnEnd0 h₀ L mL { s₁ with heap := g } C oC D ys rest (fun t => Inv t (i + 1) ys) s₃) E' { s₁ with heap := h, toks := tk })
    (fin : ∀ D h tk ys, Fr h₀ L h mL → News h₀ L h ((D, lst ys) :: frozen) → (∀ p ∈ frozen, p.1 < D) → Inv tk n ys → τ ≤ tk → Q (.ref D) { s₁ with heap := h, toks := tk }) :
    AfterIter prog w A env elt target iter ifs scope cl pos none E Q x s₁ := by
  refine comp_srcT (τ := τ) hτ frozen Inv S hL hbelow hlo hok hsz hcell hkind F N hdep hinv hmono turn fun D C oC mC h tk ys F' N' hoC off hCD hI ht => ?_
  refine ⟨mC, hoC.ns (N' _ (List.mem_cons_of_mem _ List.mem_cons_self)).1, fun h' hs => ?_⟩
  have zC := (N' _ (List.mem_cons_of_mem _ List.mem_cons_self)).2
  refine fin D h' tk ys (F'.change hs zC.1 zC.2) (fun p hp => ?_) (fun p hp => (off p hp).2) hI ht
  rcases List.mem_cons.mp hp with rfl | hp
  · exact ⟨hs.extBut _ _ (Ne.symm hCD) (N' _ List.mem_cons_self).1, (N' _ List.mem_cons_self).2⟩
  · have z := N' p (List.mem_cons_of_mem _ (List.mem_cons_of_mem _ hp))
    exact ⟨hs.extBut _ _ (off p hp).1 z.1, z.2⟩
theorem comp_srcG {elt target iter : Expr} {ifs : List Expr} {scope : Scope} {cl : List (Str × Addr)} {pos : Pos} {use : Option (Value → Sem Unit)} {Q : Value → Shared → Prop} {s₁ : Shared} {x : Value} {okE : Env → Prop} {n : Nat} {B : Nat → Nm → Nm → Prop} {dep : List Addr} {lo : Nat}
    (frozen : Led) (Inv : Nat → List Value → Prop)
    (S : Source prog w A target okE n B dep lo s₁ x) (hL : L < lo) (hbelow : ∀ p ∈ frozen, p.1 < lo) (hlo : lo ≤ s₁.heap.objs.size) (hok : ∀ C, okE (compEnvC scope cl C env)) (hsz : n ≤ sizeLine)
    (hcell : ∀ y ∈ scope.names, y.2 ≠ .cell) (hkind : scope.kind = .function)
    (F : Fr h₀ L s₁.heap mL) (N : News h₀ L s₁.heap frozen) (hdep : ∀ b ∈ dep, (∃ o, h₀.get? b = some o) ∨ ∃ o, (b, o) ∈ frozen)
    (hinv : Inv 0 [])
    (turn : ∀ (g : Heap) i ys C D oC m m' h tk rest (E' : Value → Shared → Prop), i < n → Inv i ys → B i m m' → NsObj oC m' → Fr h₀ L h mL → News h₀ L h ((C, oC) :: (D, lst ys) :: rest) →
      (∀ p ∈ rest, p.1 ≠ C ∧ p.1 ≠ D) → (∀ p ∈ frozen, p ∈ rest) → @Ne Nat C D →
      testsOf prog w A ifs (compEnvC scope cl C env) (fun ok s₃ => if ok = true
        then wpAny (model prog w) A (eval elt (compEnvC scope cl C env)) (fun y s₄ => TurnEnd0 h₀ L mL { s₁ with heap := g } C oC D ys rest (fun _ => Inv (i + 1) (ys ++ [y])) s₄) E' s₃
        else TurnEnd0 h₀ L mL { s₁ with heap := g } C oC D ys rest (fun _ => Inv (i + 1) ys) s₃) E' { s₁ with heap := h, toks := tk })
    (fin : ∀ D C oC mC h tk ys, Fr h₀ L h mL → News h₀ L h ((D, lst ys) :: (C, oC) :: frozen) → NsObj oC mC → (∀ p ∈ frozen, p.1 ≠ C ∧ p.1 < D) → @Ne Nat C D → Inv n ys →
      compPost (model prog w) A E use Q (.ref D) C (.ok .next) { s₁ with heap := h, toks := tk }) :
    AfterIter prog w A env elt target iter ifs scope cl pos use E Q x s₁ :=
  comp_srcT (τ := 0) (Nat.zero_le _) frozen (fun _ => Inv) S hL hbelow hlo hok hsz hcell hkind F N hdep hinv (fun _ _ _ _ _ h => h) (fun g i ys C D oC m m' h tk rest E' h1 h2 h3 h4 h5 h6 h7 h8 h9 _ => turn g i ys C D oC m m' h tk rest E' h1 h2 h3 h4 h5 h6 h7 h8 h9) fun D C oC mC h tk ys h1 h2 h3 h4 h5 h6 _ => fin D C oC mC h tk ys h1 h2 h3 h4 h5 h6
theorem comp_srcGn {elt target iter : Expr} {ifs : List Expr} {scope : Scope} {cl : List (Str × Addr)} {pos : Pos} {Q : Value → Shared → Prop} {s₁ : Shared} {x : Value} {okE : Env → Prop} {n : Nat} {B : Nat → Nm → Nm → Prop} {dep : List Addr} {lo : Nat}
    (frozen : Led) (Inv : Nat → List Value → Prop)
    (S : Source prog w A target okE n B dep lo s₁ x) (hL : L < lo) (hbelow : ∀ p ∈ frozen, p.1 < lo) (hlo : lo ≤ s₁.heap.objs.size) (hok : ∀ C, okE (compEnvC scope cl C env)) (hsz : n ≤ sizeLine)
    (hcell : ∀ y ∈ scope.names, y.2 ≠ .cell) (hkind : scope.kind = .function)
    (F : Fr h₀ L s₁.heap mL) (N : News h₀ L s₁.heap frozen) (hdep : ∀ b ∈ dep, (∃ o, h₀.get? b = some o) ∨ ∃ o, (b, o) ∈ frozen)
    (hinv : Inv 0 [])
    (turn : ∀ (g : Heap) i ys C D oC m m' h tk rest (E' : Value → Shared → Prop), i < n → Inv i ys → B i m m' → NsObj oC m' → Fr h₀ L h mL → News h₀ L h ((C, oC) :: (D, lst ys) :: rest) →
      (∀ p ∈ rest, p.1 ≠ C ∧ p.1 ≠ D) → (∀ p ∈ frozen, p ∈ rest) → @Ne Nat C D →
      testsOf prog w A ifs (compEnvC scope cl C env) (fun ok s₃ => if ok = true
        then wpAny (model prog w) A (eval elt (compEnvC scope cl C env)) (fun y s₄ => TurnEnd0 h₀ L mL { s₁ with heap := g } C oC D ys rest (fun _ => Inv (i + 1) (ys ++ [y])) s₄) E' s₃
        else TurnEnd0 h₀ L mL { s₁ with heap := g } C oC D ys rest (fun _ => Inv (i + 1) ys) s₃) E' { s₁ with heap := h, toks := tk })
    (fin : ∀ D h tk ys, Fr h₀ L h mL → News h₀ L h ((D, lst ys) :: frozen) → (∀ p ∈ frozen, p.1 < D) → Inv n ys → Q (.ref D) { s₁ with heap := h, toks := tk }) :
    AfterIter prog w A env elt target iter ifs scope cl pos none E Q x s₁ :=
  comp_srcTn (τ := 0) (Nat.zero_le _) frozen (fun _ => Inv) S hL hbelow hlo hok hsz hcell hkind F N hdep hinv (fun _ _ _ _ _ h => h) (fun g i ys C D oC m m' h tk rest E' h1 h2 h3 h4 h5 h6 h7 h8 h9 _ => turn g i ys C D oC m m' h tk rest E' h1 h2 h3 h4 h5 h6 h7 h8 h9) fun D h tk ys h1 h2 h3 h4 _ => fin D h tk ys h1 h2 h3 h4
theorem comp_src0 {elt target iter : Expr} {ifs : List Expr} {scope : Scope} {cl : List (Str × Addr)} {pos : Pos} {use : Option (Value → Sem Unit)} {Q : Value → Shared → Prop} {s₁ : Shared} {x : Value} {okE : Env → Prop} {n : Nat} {B : Nat → Nm → Nm → Prop} {dep : List Addr}
    (frozen : Led) (Inv : Nat → List Value → Prop)
    (S : Source prog w A target okE n B dep s₁.heap.objs.size s₁ x) (hok : ∀ C, okE (compEnvC scope cl C env)) (hsz : n ≤ sizeLine)
    (hcell : ∀ y ∈ scope.names, y.2 ≠ .cell) (hkind : scope.kind = .function)
    (F : Fr h₀ L s₁.heap mL) (N : News h₀ L s₁.heap frozen) (hdep : ∀ b ∈ dep, (∃ o, h₀.get? b = some o) ∨ ∃ o, (b, o) ∈ frozen)
    (hinv : Inv 0 [])
    (turn : ∀ (g : Heap) i ys C D oC m m' h tk rest (E' : Value → Shared → Prop), i < n → Inv i ys → B i m m' → NsObj oC m' → Fr h₀ L h mL → News h₀ L h ((C, oC) :: (D, lst ys) :: rest) →
      (∀ p ∈ rest, p.1 ≠ C ∧ p.1 ≠ D) → (∀ p ∈ frozen, p ∈ rest) → @Ne Nat C D →
      testsOf prog w A ifs (compEnvC scope cl C env) (fun ok s₃ => if ok = true
        then wpAny (model prog w) A (eval elt (compEnvC scope cl C env)) (fun y s₄ => TurnEnd0 h₀ L mL { s₁ with heap := g } C oC D ys rest (fun _ => Inv (i + 1) (ys ++ [y])) s₄) E' s₃
        else TurnEnd0 h₀ L mL { s₁ with heap := g } C oC D ys rest (fun _ => Inv (i + 1) ys) s₃) E' { s₁ with heap := h, toks := tk })
    (fin : ∀ D C oC mC h tk ys, Fr h₀ L h mL → News h₀ L h ((D, lst ys) :: (C, oC) :: frozen) → NsObj oC mC → (∀ p ∈ frozen, p.1 ≠ C ∧ p.1 < D) → @Ne Nat C D → Inv n ys →
      compPost (model prog w) A E use Q (.ref D) C (.ok .next) { s₁ with heap := h, toks := tk }) :
    AfterIter prog w A env elt target iter ifs scope cl pos use E Q x s₁ :=
  comp_srcG frozen Inv S F.ns.lt (fun p hp => Heap.lt_size (N p hp).1) (Nat.le_refl _) hok hsz hcell hkind F N hdep hinv turn fin
theorem comp_src0n {elt target iter : Expr} {ifs : List Expr} {scope : Scope} {cl : List (Str × Addr)} {pos : Pos} {Q : Value → Shared → Prop} {s₁ : Shared} {x : Value} {okE : Env → Prop} {n : Nat} {B : Nat → Nm → Nm → Prop} {dep : List Addr}
    (frozen : Led) (Inv : Nat → List Value → Prop)
    (S : Source prog w A target okE n B dep s₁.heap.objs.size s₁ x) (hok : ∀ C, okE (compEnvC scope cl C env)) (hsz : n ≤ sizeLine)
    (hcell : ∀ y ∈ scope.names, y.2 ≠ .cell) (hkind : scope.kind = .function)
    (F : Fr h₀ L s₁.heap mL) (N : News h₀ L s₁.heap frozen) (hdep : ∀ b ∈ dep, (∃ o, h₀.get? b = some o) ∨ ∃ o, (b, o) ∈ frozen)
    (hinv : Inv 0 [])
    (turn : ∀ (g : Heap) i ys C D oC m m' h tk rest (E' : Value → Shared → Prop), i < n → Inv i ys → B i m m' → NsObj oC m' → Fr h₀ L h mL → News h₀ L h ((C, oC) :: (D, lst ys) :: rest) →
      (∀ p ∈ rest, p.1 ≠ C ∧ p.1 ≠ D) → (∀ p ∈ frozen, p ∈ rest) → @Ne Nat C D →
      testsOf prog w A ifs (compEnvC scope cl C env) (fun ok s₃ => if ok = true
        then wpAny (model prog w) A (eval elt (compEnvC scope cl C env)) (fun y s₄ => TurnEnd0 h₀ L mL { s₁ with heap := g } C oC D ys rest (fun _ => Inv (i + 1) (ys ++ [y])) s₄) E' s₃
        else TurnEnd0 h₀ L mL { s₁ with heap := g } C oC D ys rest (fun _ => Inv (i + 1) ys) s₃) E' { s₁ with heap := h, toks := tk })
    (fin : ∀ D h tk ys, Fr h₀ L h mL → News h₀ L h ((D, lst ys) :: frozen) → (∀ p ∈ frozen, p.1 < D) → Inv n ys → Q (.ref D) { s₁ with heap := h, toks := tk }) :
    AfterIter prog w A env elt target iter ifs scope cl pos none E Q x s₁ :=
  comp_srcGn frozen Inv S F.ns.lt (fun p hp => Heap.lt_size (N p hp).1) (Nat.le_refl _) hok hsz hcell hkind F N hdep hinv turn fin
end
end Mine
end
section
open PySem PySem.W PyProof.Rows PySem.Spec PySem.Calls
namespace Mine
open PyProof.Rows.LCg (NsObj ns_obj lst lst_snoc)
/-- a list of texts, whatever their tokens -/
noncomputable def SV (ys : List Value) (ss : List Str) : Prop := ∃ l : List (Str × Tok), ys = strValues l ∧ l.map (·.1) = ss
theorem SV.nil : SV [] [] := ⟨[], rfl, rfl⟩
theorem SV.snoc {ys : List Value} {ss : List Str} (h : SV ys ss) (x : Str) (t : Tok) : SV (ys ++ [.str x t]) (ss ++ [x]) := by
  obtain ⟨l, rfl, rfl⟩ := h
  exact ⟨l ++ [(x, t)], by simp [strValues], by simp⟩
theorem SV.length {ys : List Value} {ss : List Str} (h : SV ys ss) : ys.length = ss.length := by
  obtain ⟨l, rfl, rfl⟩ := h
  simp [strValues]
theorem foldl_len (k : Nat) : ∀ (ss : List Str) (a : Nat), (∀ s ∈ ss, s.length ≤ k) → ss.foldl (fun a s => a + s.length + 0) a ≤ a + k * ss.length
  | [], a, _ => by simp
  | x :: r, a, h => by
    rw [List.foldl_cons, List.length_cons]
    have h1 := h x List.mem_cons_self
    have h2 := foldl_len k r (a + x.length + 0) fun s hs => h s (List.mem_cons_of_mem _ hs)
    rw [Nat.mul_succ]
    lia
theorem joinOk_small (k n : Nat) (hkn : k * n ≤ 100000) (ss : List Str) (h : ∀ s ∈ ss, s.length ≤ k) (hl : ss.length ≤ n) : JoinOk (Str.ofString "") ss = true := by
  unfold JoinOk
  rw [Bool.not_eq_true']
  unfold Builtin.Str.tooLong
  rw [decide_eq_false_iff_not]
  have e : (ss.toArray.foldl (fun x1 x2 => x1 + x2.length + (Str.ofString "").length) 0) = ss.foldl (fun a s => a + s.length + 0) 0 := by
    rw [List.foldl_toArray]
    rfl
  rw [e]
  have h1 := foldl_len k ss 0 h
  have h2 : k * ss.length ≤ k * n := Nat.mul_le_mul_left k hl
  have : sizeLine = 16777216 := rfl
  lia
section
variable {prog : Program} {w : World} {A : Around} {E : Value → Shared → Prop} {s : Shared} {h₀ : Heap} {L : Addr} {news : Led}
theorem join_lst {D : Addr} {ys : List Value} {ss : List Str} {t : Tok} {Q : Value → Shared → Prop} (N : News h₀ L s.heap news) (hm : (D, lst ys) ∈ news) (hv : SV ys ss) (hok : JoinOk (Str.ofString "") ss = true)
    (hq : ∀ t' k, Q (.str (Txt.join (Str.ofString "") ss) t') { s with toks := k }) : wpAny (model prog w) A (call (.builtin "str.join") [.str (Str.ofString "") t, .ref D]) Q E s := by
  obtain ⟨l, rfl, rfl⟩ := hv
  exact SC.join ⟨_, N.get hm, rfl, _, rfl⟩ rfl hok hq
end
/-- a list of texts whose tokens lie in [lo, hi) -/
noncomputable def SVT (lo hi : Nat) (ys : List Value) (ss : List Str) : Prop := ∃ l : List (Str × Tok), ys = strValues l ∧ l.map (·.1) = ss ∧ ∀ p ∈ l, @LE.le Nat _ lo p.2 ∧ @LT.lt Nat _ p.2 hi
theorem SVT.nil {lo hi : Nat} : SVT lo hi [] [] := ⟨[], rfl, rfl, fun p hp => nomatch hp⟩
theorem SVT.mono {lo hi hi' : Nat} {ys : List Value} {ss : List Str} (h : SVT lo hi ys ss) (hh : hi ≤ hi') : SVT lo hi' ys ss := by
  obtain ⟨l, rfl, rfl, h⟩ := h
  exact ⟨l, rfl, rfl, fun p hp => ⟨(h p hp).1, Nat.lt_of_lt_of_le (h p hp).2 hh⟩⟩
theorem SVT.snoc {lo hi : Nat} {ys : List Value} {ss : List Str} (h : SVT lo hi ys ss) (x : Str) (t : Tok) (h1 : @LE.le Nat _ lo t) (h2 : @LT.lt Nat _ t hi) : SVT lo hi (ys ++ [.str x t]) (ss ++ [x]) := by
  obtain ⟨l, rfl, rfl, h⟩ := h
  refine ⟨l ++ [(x, t)], by simp [strValues], by simp, fun p hp => ?_⟩
  rcases List.mem_append.mp hp with hp | hp
  · exact h p hp
  · rw [List.mem_singleton.mp hp]; exact ⟨h1, h2⟩
section
variable {prog : Program} {w : World} {A : Around} {E : Value → Shared → Prop} {s : Shared} {h₀ : Heap} {L : Addr} {news : Led}
theorem post_joinT {lo : Nat} {Q : Value → Shared → Prop} (hs : lo ≤ s.toks) : ∀ (l : List (Str × Tok)), (∀ p ∈ l, @LE.le Nat _ lo p.2 ∧ @LT.lt Nat _ p.2 s.toks) → (Txt.join (Str.ofString "") (l.map (·.1))).length ≤ sizeLine →
    (∀ t' k, @LE.le Nat _ lo t' → @LT.lt Nat _ t' k → Q (.str (Txt.join (Str.ofString "") (l.map (·.1))) t') { s with toks := k }) → (joinMade (Str.ofString "") l).post Q s
  | [], _, hl, h => ⟨hl, h _ _ hs (Nat.lt_succ_self _)⟩
  | [p], hp, _, h => h p.2 s.toks (hp p List.mem_cons_self).1 (hp p List.mem_cons_self).2
  | _ :: _ :: _, _, hl, h => ⟨hl, h _ _ hs (Nat.lt_succ_self _)⟩
theorem join_lstT {lo : Nat} {D : Addr} {ys : List Value} {ss : List Str} {t : Tok} {Q : Value → Shared → Prop} (hs : lo ≤ s.toks) (N : News h₀ L s.heap news) (hm : (D, lst ys) ∈ news) (hv : SVT lo s.toks ys ss) (hok : JoinOk (Str.ofString "") ss = true)
    (hq : ∀ t' k, @LE.le Nat _ lo t' → @LT.lt Nat _ t' k → Q (.str (Txt.join (Str.ofString "") ss) t') { s with toks := k }) : wpAny (model prog w) A (call (.builtin "str.join") [.str (Str.ofString "") t, .ref D]) Q E s := by
  obtain ⟨l, rfl, rfl, ht⟩ := hv
  unfold JoinOk at hok
  rw [Bool.not_eq_true'] at hok
  exact call_meets F.slot_str_join (typeIs_str _ _ _) F.entry_str_join (F.args_str_join_2 _ _) (meets_str_join_list (Str.ofString "") t D l hok) ⟨⟨_, N.get hm, rfl, _, rfl⟩, post_joinT hs l ht (joinFit_length hok) hq⟩
end
section
variable {w : World} {mean : ExcName → Option Value} {mg mb : PySem.Str → Option Value} {dp un : Nat} {gd : Option (List Code)} {cn : Str} {cs : Scope} {L a : Addr} {ccd : Value} {cl : List (Str × Addr)} {outer : List Env} {A₀ : Around} {base h₀ : Heap} {m : Nm} {s : Shared} {Q E : Value → Shared → Prop} {news : Led}
noncomputable abbrev CallAt (w : World) (mean : ExcName → Option Value) (mg mb : PySem.Str → Option Value) (dp un : Nat) (gd : Option (List Code)) (cn : Str) (cs : Scope) (L a : Addr) (ccd : Value) (cl : List (Str × Addr)) (outer : List Env) (f : Addr) (vs : List Value) (Q E : Value → Shared → Prop) (s : Shared) : Prop :=
  wpAny (model PySem.Challenge.rw_tp0040_01.row.prog w) (ktrTop dp un gd cn cs L a ccd cl outer) (call (.ref f) vs) Q E s
theorem use_b1 {c : Nat} {tc : Tok} (k1 : Below A₀ base outer h₀) (k2 : Fr h₀ L s.heap m) (k3 : (K w.params).In h₀) (k4 : News h₀ L s.heap news) (k5 : Top topProg lw mean mg mb h₀) (k6 : cs.kind = .function) (kd : dp + 1 < recursionLimit) (ku : un + 8 < cLine)
    (kR : ∀ (h' : Heap) (tk' : Nat), Fr h₀ L h' m → News h₀ L h' news → Q (.bool (isB1 c)) { s with heap := h', toks := tk' }) :
    wpAny (model PySem.Challenge.rw_tp0040_01.row.prog w) (ktrTop dp un gd cn cs L a ccd cl outer) (call (.ref 109) [.str ⟨#[c]⟩ tc]) Q E s :=
  c_b1 w mean mg mb news c tc dp un gd cn cs a ccd cl outer A₀ base h₀ L m s Q E k1 k2 k3 k4 k5 k6 trivial kd ku fun _ h' tk' => kR h' tk'
theorem use_b3 {c : Nat} {tc : Tok} (k1 : Below A₀ base outer h₀) (k2 : Fr h₀ L s.heap m) (k3 : (K w.params).In h₀) (k4 : News h₀ L s.heap news) (k5 : Top topProg lw mean mg mb h₀) (k6 : cs.kind = .function) (kd : dp + 1 < recursionLimit) (ku : un + 8 < cLine)
    (kR : ∀ (t : Tok) (h' : Heap) (tk' : Nat), Fr h₀ L h' m → News h₀ L h' news → Q (.str (low3 c) t) { s with heap := h', toks := tk' }) :
    wpAny (model PySem.Challenge.rw_tp0040_01.row.prog w) (ktrTop dp un gd cn cs L a ccd cl outer) (call (.ref 155) [.str ⟨#[c]⟩ tc]) Q E s :=
  c_b3 w mean mg mb news c tc dp un gd cn cs a ccd cl outer A₀ base h₀ L m s Q E k1 k2 k3 k4 k5 k6 trivial kd ku kR
theorem use_spelled {c : Nat} {tc : Tok} {t : Int} {tt : Tok} (h0 : 0 ≤ t) (hc : c < 1000) (k1 : Below A₀ base outer h₀) (k2 : Fr h₀ L s.heap m) (k3 : (K w.params).In h₀) (k4 : News h₀ L s.heap news) (k5 : Top topProg lw mean mg mb h₀) (k6 : cs.kind = .function) (kd : dp + 1 < recursionLimit) (ku : un + 8 < cLine)
    (kR : ∀ (t' : Tok) (h' : Heap) (tk' : Nat), Fr h₀ L h' m → News h₀ L h' news → Q (.str (spell c t) t') { s with heap := h', toks := tk' }) :
    wpAny (model PySem.Challenge.rw_tp0040_01.row.prog w) (ktrTop dp un gd cn cs L a ccd cl outer) (call (.ref 169) [.str ⟨#[c]⟩ tc, .int t tt]) Q E s :=
  c_spelled w mean mg mb news c tc t tt h0 hc dp un gd cn cs a ccd cl outer A₀ base h₀ L m s Q E k1 k2 k3 k4 k5 k6 trivial kd ku kR
end
end Mine
end
section
open PySem PySem.W PyProof.Rows PySem.Spec PySem.Calls
namespace Mine
open PyProof.Rows.LCg (NsObj ns_obj lst lst_snoc)
noncomputable abbrev Cl (w : World) (mean : ExcName → Option Value) (mg mb : PySem.Str → Option Value) (f : Addr) (news : Led) (vs : List Value) (Fin : Value → Led → Prop) : Prop :=
  ∀ (dp un : Nat) (gd : Option (List Code)) (cn : Str) (cs : Scope) (a : Addr) (ccd : Value) (cl : List (Str × Addr)) (outer : List Env) (A₀ : Around) (base h₀ : Heap) (L : Addr) (m : Str → Option Value) (s : Shared) (Q E : Value → Shared → Prop),
    Below A₀ base outer h₀ → Fr h₀ L s.heap m → (K w.params).In h₀ → News h₀ L s.heap news → Top topProg lw mean mg mb h₀ → cs.kind = .function → dp + 40 < recursionLimit → un + 200 < cLine →
    (∀ v news' h' tk', Fin v news' → Fr h₀ L h' m → News h₀ L h' news' → Q v { s with heap := h', toks := tk' }) →
      wpAny (model PySem.Challenge.rw_tp0040_01.row.prog w) (ktrTop dp un gd cn cs L a ccd cl outer) (call (.ref f) vs) Q E s
local macro_rules | `(tactic| walk_at "eval ListComp") => `(tactic| (k_here; k_dflt (refine ListComp_W (by with_unfolding_all rfl) (by rfl) (by decide) ?_)))
local macro_rules | `(tactic| walk_at "forIn") => `(tactic| (k_here; with_reducible refine wpAny_tests_one ?_))
-- 
local macro_rules | `(tactic| walk_at "call ref") => `(tactic| (k_here; first | (apply use_b1; walk_at "u8"; intros) | (apply use_b3; walk_at "u8"; intros)))
noncomputable def prep (x : List Nat) : List Str := (x.filter fun (c : Nat) => !isB1 (c : Int)).map low3
theorem prep_succ (l : List Nat) (i c : Nat) (h : l[i]? = some c) : prep (l.take (i + 1)) = prep (l.take i) ++ (if isB1 (c : Int) then [] else [low3 c]) := by
  unfold prep
  rw [List.take_add_one, h, Option.toList_some, List.filter_append, List.map_append]
  cases e : isB1 (c : Int) <;> simp [e]
set_option maxHeartbeats 0 in
theorem c_prepared (w : World) (mean : ExcName → Option Value) (mg mb : PySem.Str → Option Value) (news : Led) (x : Str) (tx : Tok) (hx : x.cps.size ≤ 100) (hl : ∀ c ∈ x.cps.toList, (low3 c).length ≤ 10) :
  Cl w mean mg mb 179 news [Value.str x tx] (fun v news' => news' = news ∧ ∃ t, v = .str (Txt.join (Str.ofString "") (prep x.cps.toList)) t) := by
  unfold Cl
  k_fill
  intros
  rename_i hret
  refine wpAny_call ?_
  k_dflt cell_enter
  refine hideT fun tk00 => ?_
  rename Fr _ _ _ _ => F1
  refine hideF1 (x0 := Str.ofString "word") F1 (by rfl) fun m0 F => ?_
  clear F1
  k_steps
  refine comp_src0n news (fun i ys => SV ys (prep (x.cps.toList.take i))) (src_strN (by rfl) _ _ _ _) (fun C => ⟨lookup_relabel_local (by rfl), by rfl⟩) (by have : sizeLine = 16777216 := rfl; omega) (by decide) rfl (by assumption) (by assumption) (fun b hb => nomatch hb) SV.nil ?_ ?_
  case refine_1 =>
    intro g i ys C D oC m m' h tk rest E' hi hI hB hoC F N hr hz hCD
    refine Classical.byContradiction fun gK => ?_
    obtain ⟨v, ⟨c, u, hc, rfl⟩, hm⟩ := hB
    refine gK ?_
    clear gK
    have hx : m' (Str.ofString "sign") = some (.str ⟨#[c]⟩ u) := by rw [hm]; exact if_pos rfl
    clear hm
    have hp := prep_succ x.cps.toList i c (by simpa using hc)
    refine wpAny_tests_one ?_
    k_steps
    all_goals (refine TurnEnd0.intro (by assumption) (by assumption) (fun _ h => h) ?_)
    · rw [hp, (by assumption : isB1 (c : Int) = true)]; simpa using hI
    · rw [hp, (by assumption : isB1 (c : Int) = false)]; exact hI.snoc _ _
  case refine_2 =>
    intro D h tk ys F N hD hI
    rw [List.take_of_length_le (by simp)] at hI
    have hj : JoinOk (Str.ofString "") (prep x.cps.toList) = true := joinOk_small 10 100 (by decide) _ (fun s hs => by
      obtain ⟨c, hc, rfl⟩ := List.mem_map.mp hs
      exact hl c (List.mem_filter.mp hc).1) (by unfold prep; rw [List.length_map]; exact Nat.le_trans (List.length_filter_le _ _) (by simpa using hx))
    k_steps
    refine join_lst (by assumption) List.mem_cons_self hI hj fun t' k => ?_
    k_steps
    exact hret _ news _ _ ⟨rfl, _, rfl⟩ (by k_asm) (cb_drop (by assumption) fun p hp => List.mem_cons_of_mem _ hp)
end Mine
end
open PySem PySem.W PyProof.Rows PySem.Calls Mine
local macro_rules | `(tactic| walk_at "eval ListComp") => `(tactic| (k_here; k_dflt (refine ListComp_W (by with_unfolding_all rfl) (by rfl) (by decide) ?_)))
section
open PySem PySem.W PyProof.Rows PySem.Spec PySem.Calls
namespace Mine
open PyProof.Rows.LCg (NsObj ns_obj lst lst_snoc)
local macro_rules | `(tactic| walk_at "eval ListComp") => `(tactic| (k_here; k_dflt (refine ListComp_WT (Nat.le_refl _) (by with_unfolding_all rfl) (by rfl) (by decide) ?_)))
local macro_rules | `(tactic| walk_at "forIn") => `(tactic| (k_here; with_reducible refine wpAny_tests_one ?_))
local macro_rules | `(tactic| walk_at "my enterC") => `(tactic| (apply code_defC; (walk_at "k5"); exact rfl; exact rfl; assumption; k_is; k_is; ktr_room; exact BindsTo.of_eq rfl; exact rfl; decide +kernel; rotate_left; (iterate 3 exact rfl); k_whole; intros; rename_i N9 Y9 B9 _ _ _; k_cells Y9; (try simp only [List.cons_append, List.nil_append] at N9); (try dsimp only); (try k_lift B9); (try k_fold)))
local macro_rules | `(tactic| walk_at "binaryOp Pow int int") => `(tactic| (k_here; (with_reducible refine pow_int_small ?_ ?_ ?_ ?_); (exact Int.natCast_nonneg _); assumption; decide))
local macro_rules | `(tactic| walk_at "binaryOp FloorDiv int int") => `(tactic| (k_here; (with_reducible refine floordiv_int ?_ ?_ (Or.inl (PyProof.noPylong_of_log2 ?_))); assumption; rotate_left; assumption))
theorem range_at {m m' : Nm} {x : Str} {i : Nat} {C : Prop} (h : BN x (fun i v => ∃ t, v = .int (0 + (i : Int)) t) i m m') (k : ∀ u, m' x = some (.int (i : Int) u) → C) : C :=
  h.elim fun _ h => h.1.elim fun u e => k u ((congrFun h.2 x).trans ((if_pos rfl).trans (congrArg some (e.trans (by rw [Int.zero_add])))))
theorem pow13 : ∀ i : Fin 5, (13 : Int) ^ ((i.1 : Nat) : Int).toNat ≠ 0 ∧ ((13 : Int) ^ ((i.1 : Nat) : Int).toNat).natAbs.log2 < 9000 ∧ ((i.1 : Nat) : Int) ≤ 1000000 := by decide +kernel
theorem pow13_of {i n : Nat} (h : i < n) (h5 : n ≤ 5) : (13 : Int) ^ ((i : Nat) : Int).toNat ≠ 0 ∧ ((13 : Int) ^ ((i : Nat) : Int).toNat).natAbs.log2 < 9000 ∧ ((i : Nat) : Int) ≤ 1000000 := pow13 ⟨i, Nat.lt_of_lt_of_le h h5⟩
theorem rangeSize_low (n : Nat) : Builtin.Range.rangeSize 0 n 1 = ((n : Nat) : Int) := by rw [rangeSize_nat]; simp
theorem news_with {h₀ h : Heap} {L : Addr} {a b p : Addr × Obj} {r : Led} (N : News h₀ L h (a :: b :: r)) (hp : p ∈ r) : News h₀ L h (a :: b :: p :: r) := fun q hq => by
  rcases List.mem_cons.mp hq with rfl | hq
  · exact N _ List.mem_cons_self
  rcases List.mem_cons.mp hq with rfl | hq
  · exact N _ (List.mem_cons_of_mem _ List.mem_cons_self)
  rcases List.mem_cons.mp hq with rfl | hq
  · exact N _ (List.mem_cons_of_mem _ (List.mem_cons_of_mem _ hp))
  · exact N _ (List.mem_cons_of_mem _ (List.mem_cons_of_mem _ hq))
noncomputable def lets1 : Str := Str.ofString "a\"\\ #bcdefghi"
noncomputable def lets2 : Str := Str.ofString "jklmnopqrstuv"
noncomputable def nameL (ls : Str) (n : Nat) (x : Int) : List Str := (List.range n).map fun p => Txt.item ls ((x.fdiv (13 ^ p)).fmod 13)
theorem nameL_succ (ls : Str) (n : Nat) (x : Int) : nameL ls (n + 1) x = nameL ls n x ++ [Txt.item ls ((x.fdiv (13 ^ n)).fmod 13)] := by
  unfold nameL
  rw [List.range_succ, List.map_append]
  rfl
noncomputable def nm1 (low : Nat) (one : Int) : Str := Txt.join (Str.ofString "") (nameL lets1 low one)
noncomputable def nm2 (high : Nat) (other : Int) : Str := Txt.join (Str.ofString "") (nameL lets2 high other)
theorem nameL_length (ls : Str) (n : Nat) (x : Int) : (nameL ls n x).length = n := by simp [nameL]
theorem item_len (ls : Str) (k : Int) : (Txt.item ls k).length ≤ 1 := Nat.le_refl _
theorem nameL_len (ls : Str) (n : Nat) (x : Int) : ∀ s ∈ nameL ls n x, s.length ≤ 1 := fun s hs => by
  obtain ⟨p, _, rfl⟩ := List.mem_map.mp hs
  exact item_len _ _
set_option maxHeartbeats 0 in
theorem c_names (w : World) (mean : ExcName → Option Value) (mg mb : PySem.Str → Option Value) (news : Led) (low high : Nat) (one other : Int) (t1 t2 t3 t4 : Tok) (hl : 1 ≤ low ∧ low ≤ 5) (hh : 1 ≤ high ∧ high ≤ 5) (ho : 0 ≤ one) (hr : 0 ≤ other) :
  Cl w mean mg mb 184 news [Value.int low t1, .int high t2, .int one t3, .int other t4] (fun v news' => ∃ D t1 t2, @LE.le Nat _ 1 t1 ∧ @LT.lt Nat _ t1 t2 ∧ v = .ref D ∧ news' = (D, W.listOf #[.str (nm1 low one) t1, .str (nm2 high other) t2] 0) :: news ∧ AllLt D news) := by
  unfold Cl
  k_fill
  intros
  rename_i hret
  refine wpAny_call ?_
  k_dflt (walk_at "my enterC")
  show wpAny _ _ _ _ _ _
  k_fold
  k_steps
  unfold AfterIterB
  intro hτ
  refine comp_srcTn (τ := 1) (Nat.le_trans (Nat.succ_le_succ (Nat.zero_le _)) hτ) _ (fun a i ys => SVT 1 a ys (nameL lets1 i one)) (src_rangeN (by rfl) _ _ (by assumption) (small_one (by decide) (by decide) (lo62 low) (hi62 hl.2)) (rangeSize_low low)) (Fr.ns (by assumption)).lt (fun p hp => Heap.lt_size (News.get (by assumption) hp)) (Nat.le_refl _) (fun C => ⟨lookup_relabel_local (by rfl), by rfl⟩) (leT hl.2 rfl) (by decide) rfl (by assumption) (by assumption) (fun b hb => nomatch hb) SVT.nil (fun _ _ _ _ hab h => h.mono hab) ?_ ?_
  case refine_1 =>
    clear hret
    intro g i ys C D oC m m' h tk rest E' hi hI hB hoC F N hr hz hCD ht
    refine testsOf_nil (hideQ fun Q' hQ => ?_)
    refine range_at hB fun u hx => ?_
    have hp := (pow13_of hi hl.2).1
    have hp2 := (pow13_of hi hl.2).2.1
    have hp3 := (pow13_of hi hl.2).2.2
    have N := news_with N (hz _ List.mem_cons_self)
    have N := news_with N (List.mem_cons_of_mem _ (hz _ (List.mem_cons_of_mem _ List.mem_cons_self)))
    clear hr hz
    clear hB
    walk1
    walk1
    refine wpAny_with_toks (n := tk) (Nat.le_succ _) ?_
    k_steps
    refine hQ _ _ ?_
    refine TurnEnd0.intro (by assumption) (by assumption) (fun p hp => by exact sub_use hp (by f_list)) ?_
    rw [nameL_succ]
    exact (hI.mono (Nat.le_succ_of_le (by assumption))).snoc _ _ (Nat.le_trans ht (by assumption)) (Nat.lt_succ_self _)
  case refine_2 =>
    intro Dlow h tk ys F N hD hI ht
    have hj : JoinOk (Str.ofString "") (nameL lets1 low one) = true := joinOk_small 1 5 (by decide) _ (nameL_len _ _ _) (by rw [nameL_length]; exact hl.2)
    k_steps
    refine join_lstT ht (by assumption) List.mem_cons_self hI hj fun t' k hn1 hk1 => ?_
    k_steps
    unfold AfterIterB
    intro hτ
    refine comp_srcTn (τ := t' + 1) (Nat.le_trans (Nat.le_succ_of_le hk1) hτ) _ (fun a i ys => SVT (t' + 1) a ys (nameL lets2 i other)) (src_rangeN (by rfl) _ _ (by assumption) (small_one (by decide) (by decide) (lo62 high) (hi62 hh.2)) (rangeSize_low high)) (Fr.ns (by assumption)).lt (fun p hp => Heap.lt_size (News.get (by assumption) hp)) (Nat.le_refl _) (fun C => ⟨lookup_relabel_local (by rfl), by rfl⟩) (leT hh.2 rfl) (by decide) rfl (by assumption) (by assumption) (fun b hb => nomatch hb) SVT.nil (fun _ _ _ _ hab h => h.mono hab) ?_ ?_
    case refine_1 =>
      clear hret
      intro g i ys C D oC m m' h tk rest E' hi hI hB hoC F N hr hz hCD ht
      refine testsOf_nil (hideQ fun Q' hQ => ?_)
      refine range_at hB fun u hx => ?_
      have hp := (pow13_of hi hh.2).1
      have hp2 := (pow13_of hi hh.2).2.1
      have hp3 := (pow13_of hi hh.2).2.2
      have N := news_with N (hz _ (List.mem_cons_of_mem _ List.mem_cons_self))
      have N := news_with N (List.mem_cons_of_mem _ (hz _ (List.mem_cons_of_mem _ (List.mem_cons_of_mem _ List.mem_cons_self))))
      clear hr hz
      clear hB
      walk1
      walk1
      refine wpAny_with_toks (n := tk) (Nat.le_succ _) ?_
      k_steps
      refine hQ _ _ ?_
      refine TurnEnd0.intro (by assumption) (by assumption) (fun p hp => by exact sub_use hp (by f_list)) ?_
      rw [nameL_succ]
      exact (hI.mono (Nat.le_succ_of_le (by assumption))).snoc _ _ (Nat.le_trans ht (by assumption)) (Nat.lt_succ_self _)
    case refine_2 =>
      intro Dhigh h tk ys F N hD hI ht
      have hj : JoinOk (Str.ofString "") (nameL lets2 high other) = true := joinOk_small 1 5 (by decide) _ (nameL_len _ _ _) (by rw [nameL_length]; exact hh.2)
      k_steps
      refine join_lstT ht (by assumption) List.mem_cons_self hI hj fun t2' k hn2 hk2 => ?_
      k_steps
      refine hret _ ((_, _) :: news) _ _ ⟨_, _, _, ?_, ?_, rfl, rfl, ?_⟩ (by k_asm) (cb_drop (by assumption) (sub_cons mm0 fun p hp => mem_t4 (mem_t hp)))
      · exact hn1
      · exact hn2
      · exact allLt_of fun p hp => (by assumption : ∀ p ∈ (_, _) :: (_, _) :: (_, _) :: (_, _) :: news, p.1 < _) p (mem_t4 hp)
end Mine
end
section
open PySem PySem.W PyProof.Rows PySem.Spec PySem.Calls
namespace Mine
open PyProof.Rows.LCg (NsObj ns_obj lst lst_snoc)
theorem Steps.mono {prog : Program} {w : World} {A : Around} {it : Value} {target : Expr} {env : Env} {own fp : List Addr} {n : Nat} {St : Nat → Heap → Prop} {B B' : Nat → Nm → Nm → Prop} (SP : Steps prog w A it target env own fp n St B) (hB : ∀ i m m', B i m m' → B' i m m') : Steps prog w A it target env own fp n St B' where
  frame := SP.frame
  step := fun i s m Q E₀ E₁ E₂ hi hst hn hf ho h => SP.step i s m Q E₀ E₁ E₂ hi hst hn hf ho fun h' tk m' b => h h' tk m' (hB _ _ _ b)
  done := SP.done
  self := SP.self
section
variable {prog : Program} {w : World} {A : Around} {s₁ : Shared}
theorem src_enumStr (hh : A.handled = none) {e it : Addr} {lo : Nat} {x : Str} {t : Tok} (a b : Str) (pa pb pos : Pos) (k : Nat) (he : IsEnum s₁.heap e it 0 .none) (hi : s₁.heap.IsStrIter it (strIterType x) x t 0) (h1 : lo ≤ it) (h2 : lo ≤ e) (hne : e ≠ it) :
    Source prog w A (.Tuple [.Name a pa, .Name b pb] k pos) (okP a b) x.cps.size (BP a b fun i p q => ∃ u c u', x.cps[i]? = some c ∧ p = .int i u ∧ q = .str ⟨#[c]⟩ u') [] lo s₁ (.ref e) where
  run := fun Kf E h => by
    refine wpAny_pyIter_enum he ?_
    have hite : it ≠ e := Ne.symm hne
    have helt : e < s₁.heap.objs.size := Heap.lt_size he
    have hilt : it < s₁.heap.objs.size := by obtain ⟨o, x, _⟩ := hi; exact Heap.lt_size x
    cases ha : x.cps.all (· < 128)
    · have hi' : s₁.heap.IsStrIter it "str_iterator" x t 0 := by simpa [strIterType, ha] using hi
      refine h (.ref e) [e, it] [e, it] _ s₁.heap (fun env' ok => (Steps.pair hh (WalksT.enumerateD (Draws.strWide (A := A.in1) hh it x t) e hne (by simpa using hne) (by simp)).toU (fun i vals ⟨_, _, _, q⟩ => by rw [q]; rfl) ok.1 ok.2.1 ok.2.2).mono ?_) ⟨⟨_, he⟩, hi'⟩ (fun c hc => ⟨?_, .inl hc⟩) (fun c hc => ?_) (fun _ _ e => e) (Nat.le_refl _)
      · rintro i m m' ⟨p, q, ⟨u, y, ⟨c, u', hc, rfl⟩, hv⟩, rfl⟩
        cases hv
        exact ⟨_, _, ⟨u, c, u', hc, rfl, rfl⟩, rfl⟩
      · rcases List.mem_cons.mp hc with rfl | hc
        · exact helt
        · rw [List.mem_singleton.mp hc]; exact hilt
      · rcases List.mem_cons.mp hc with rfl | hc
        · exact ⟨helt, h2⟩
        · rw [List.mem_singleton.mp hc]; exact ⟨hilt, h1⟩
    · have hi' : s₁.heap.IsStrIter it "str_ascii_iterator" x t 0 := by simpa [strIterType, ha] using hi
      refine h (.ref e) [e, it] [e, it] _ s₁.heap (fun env' ok => (Steps.pair hh (WalksT.enumerateD (Draws.strAscii (A := A.in1) hh it x t) e hne (by simpa using hne) (by simp)).toU (fun i vals ⟨_, _, _, q⟩ => by rw [q]; rfl) ok.1 ok.2.1 ok.2.2).mono ?_) ⟨⟨_, he⟩, hi'⟩ (fun c hc => ⟨?_, .inl hc⟩) (fun c hc => ?_) (fun _ _ e => e) (Nat.le_refl _)
      · rintro i m m' ⟨p, q, ⟨u, y, ⟨c, u', hc, rfl⟩, hv⟩, rfl⟩
        cases hv
        exact ⟨_, _, ⟨u, c, u', hc, rfl, rfl⟩, rfl⟩
      · rcases List.mem_cons.mp hc with rfl | hc
        · exact helt
        · rw [List.mem_singleton.mp hc]; exact hilt
      · rcases List.mem_cons.mp hc with rfl | hc
        · exact ⟨helt, h2⟩
        · rw [List.mem_singleton.mp hc]; exact ⟨hilt, h1⟩
theorem enum_str_L {E : Value → Shared → Prop} {s : Shared} {h₀ : Heap} {L : Addr} {m : Nm} {news : Led} {x : Str} {t : Tok} {Q : Value → Shared → Prop} (F : Fr h₀ L s.heap m) (N : News h₀ L s.heap news)
    (h : ∀ e it h' lo, Fr h₀ L h' m → News h₀ L h' news → IsEnum h' e it 0 .none → h'.IsStrIter it (strIterType x) x t 0 → lo ≤ it → lo ≤ e → @Ne Nat e it → @LT.lt Nat _ L lo → (∀ p ∈ news, @LT.lt Nat _ p.1 lo) → @LE.le Nat _ lo h'.objs.size → Q (.ref e) { s with heap := h' }) :
    wpAny (model prog w) A (call (.type "enumerate") [.str x t]) Q E s :=
  call_enumerate_str fun h' he hi hz hk => h _ _ h' s.heap.objs.size (F.keeps hk) (fun p hp => ⟨hk _ _ (N p hp).1, (N p hp).2⟩) he hi (Nat.le_refl _) (Nat.le_succ _) (Nat.succ_ne_self _) F.ns.lt (fun p hp => Heap.lt_size (N p hp).1) (by rw [hz]; exact Nat.le_add_right _ 2)
end
end Mine
end
section
open PySem PySem.W PyProof.Rows PySem.Spec PySem.Calls
namespace Mine
local macro_rules | `(tactic| walk_at "my enterC") => `(tactic| (apply code_defC; (walk_at "k5"); exact rfl; exact rfl; assumption; k_is; k_is; ktr_room; exact BindsTo.of_eq rfl; exact rfl; decide +kernel; rotate_left; (iterate 3 exact rfl); k_whole; intros; rename_i N9 Y9 B9 _ _ _; k_cells Y9; (try simp only [List.cons_append, List.nil_append] at N9); (try dsimp only); (try k_lift B9); (try k_fold)))
open PyProof.Rows.LCg (NsObj ns_obj lst lst_snoc)
local macro_rules | `(tactic| walk_at "forIn") => `(tactic| (k_here; with_reducible refine wpAny_tests_one ?_))
local macro_rules | `(tactic| walk_at "call type:enumerate") => `(tactic| (k_here; apply enum_str_L; k_asm; k_asm; intros))
local macro_rules | `(tactic| walk_at "call ref") => `(tactic| (k_here; apply use_spelled; assumption; assumption; walk_at "u8"; intros))
noncomputable def signsL (x : List Nat) (seed : Int) (n : Nat) : List Str := (List.range n).map fun i => spell (x.getD i 0) (seed * ((i : Int) + 1) + (i : Int))
theorem signsL_succ (x : List Nat) (seed : Int) (n : Nat) : signsL x seed (n + 1) = signsL x seed n ++ [spell (x.getD n 0) (seed * ((n : Int) + 1) + (n : Int))] := by
  unfold signsL
  rw [List.range_succ, List.map_append]
  rfl
theorem signsL_length (x : List Nat) (seed : Int) (n : Nat) : (signsL x seed n).length = n := by simp [signsL]
theorem unseen_len (p : Int) : (unseen p).length ≤ 1 := by
  unfold unseen
  split
  · exact Nat.le_refl _
  · split
    · exact Nat.le_refl _
    · exact Nat.zero_le _
theorem spell_len (c : Nat) (t : Int) : (spell c t).length ≤ 2 := by
  have h := unseen_len ((t.fdiv 12).fmod 28)
  have e : (spell c t).length = (unseen ((t.fdiv 12).fmod 28)).length + 1 := by
    show (_ ++ _ : Array Nat).size = _
    rw [Array.size_append]; rfl
  lia
theorem signsL_len (x : List Nat) (seed : Int) (n : Nat) : ∀ s ∈ signsL x seed n, s.length ≤ 2 := fun s hs => by
  obtain ⟨p, _, rfl⟩ := List.mem_map.mp hs
  exact spell_len _ _
theorem sum_le2 : ∀ l : List Str, (∀ s ∈ l, s.length ≤ 2) → (l.map (·.length)).sum ≤ 2 * l.length
  | [], _ => Nat.le_refl _
  | a :: r, h => by
    have h1 := h a List.mem_cons_self
    have h2 := sum_le2 r fun s hs => h s (List.mem_cons_of_mem _ hs)
    rw [List.map_cons, List.sum_cons, List.length_cons]
    lia
theorem txt_join (a : Str) (l : List Str) : Txt.join a l = Str.join a l := by
  first | rfl | (unfold Txt.join; rfl) | (simp only [Txt.join]; exact StrLaws.glued_eq_join _ _)
theorem signs_size (x : List Nat) (seed : Int) (n : Nat) : (Txt.join (Str.ofString "") (signsL x seed n)).cps.size ≤ 2 * n := by
  have h := StrLaws.join_length_le (Str.ofString "") (signsL x seed n)
  have h2 := sum_le2 _ (signsL_len x seed n)
  rw [signsL_length] at h h2
  have e : (Str.ofString "").length = 0 := rfl
  rw [e] at h
  have e2 : (Txt.join (Str.ofString "") (signsL x seed n)).cps.size = (Str.join (Str.ofString "") (signsL x seed n)).length := by rw [txt_join]; rfl
  lia
theorem occ_q (c : Nat) (h1 : c ≠ 34) (h2 : c ≠ 92) : (Builtin.Str.occurrences (Str.ofString "\"\\") { cps := #[c] } 0 (Str.ofString "\"\\").length 1).isEmpty = true := by
  have e : Str.ofString "\"\\" = ⟨#[34, 92]⟩ := by decide +kernel
  rw [e]
  have e2 : (⟨#[34, 92]⟩ : Str).length = 2 := rfl
  rw [e2]
  have e3 : (⟨#[c]⟩ : Str).length = 1 := rfl
  have s0 : Builtin.Str.subAt { cps := #[34, 92] } { cps := #[c] } 0 = false := by
    show ((#[34] : Array Nat) == #[c]) = false
    simp [Ne.symm h1]
  have s1 : Builtin.Str.subAt { cps := #[34, 92] } { cps := #[c] } 1 = false := by
    show ((#[92] : Array Nat) == #[c]) = false
    simp [Ne.symm h2]
  simp [Builtin.Str.occurrences, List.range', e3, s0, s1]
theorem occ_34 : (Builtin.Str.occurrences (Str.ofString "\"\\") { cps := #[34] } 0 (Str.ofString "\"\\").length 1).isEmpty = false := by decide +kernel
theorem occ_92 : (Builtin.Str.occurrences (Str.ofString "\"\\") { cps := #[92] } 0 (Str.ofString "\"\\").length 1).isEmpty = false := by decide +kernel
theorem bs_add (c : Nat) : Str.ofString "\\" ++ ({ cps := #[c] } : Str) = ⟨#[92, c]⟩ := by
  have : Str.ofString "\\" = ⟨#[92]⟩ := by decide +kernel
  rw [this]; rfl
noncomputable def escQ (x : List Nat) : List Str := x.map fun c => if c = 34 ∨ c = 92 then ⟨#[92, c]⟩ else ⟨#[c]⟩
noncomputable def escA (x : List Nat) : List Str := x.map fun c => ⟨#[92, c]⟩
theorem escQ_succ (l : List Nat) (i c : Nat) (h : l[i]? = some c) : escQ (l.take (i + 1)) = escQ (l.take i) ++ [if c = 34 ∨ c = 92 then ⟨#[92, c]⟩ else ⟨#[c]⟩] := by
  unfold escQ
  rw [List.take_add_one, h, Option.toList_some, List.map_append]; rfl
theorem escA_succ (l : List Nat) (i c : Nat) (h : l[i]? = some c) : escA (l.take (i + 1)) = escA (l.take i) ++ [⟨#[92, c]⟩] := by
  unfold escA
  rw [List.take_add_one, h, Option.toList_some, List.map_append]; rfl
theorem escQ_len (l : List Nat) : ∀ s ∈ escQ l, s.length ≤ 2 := fun s hs => by
  obtain ⟨c, _, rfl⟩ := List.mem_map.mp hs
  split
  · exact Nat.le_refl _
  · exact Nat.le_succ _
theorem escA_len (l : List Nat) : ∀ s ∈ escA l, s.length ≤ 2 := fun s hs => by
  obtain ⟨c, _, rfl⟩ := List.mem_map.mp hs
  exact Nat.le_refl _
theorem join_size (l : List Str) (h : ∀ s ∈ l, s.length ≤ 2) : (Txt.join (Str.ofString "") l).cps.size ≤ 2 * l.length := by
  have h1 := StrLaws.join_length_le (Str.ofString "") l
  have h2 := sum_le2 _ h
  have e : (Str.ofString "").length = 0 := rfl
  rw [e] at h1
  have e2 : (Txt.join (Str.ofString "") l).cps.size = (Str.join (Str.ofString "") l).length := by rw [txt_join]; rfl
  lia
noncomputable def signsT (x : Str) (seed : Int) : Str := Txt.join (Str.ofString "") (signsL x.cps.toList seed x.cps.size)
noncomputable def written (x : Str) (seed quoted : Int) : Str :=
  if quoted = 0 then Txt.join (Str.ofString "") (escA (signsT x seed).cps.toList)
  else Str.ofString "\"" ++ Txt.join (Str.ofString "") (escQ (signsT x seed).cps.toList) ++ Str.ofString "\""
set_option maxHeartbeats 0 in
theorem c_written (w : World) (mean : ExcName → Option Value) (mg mb : PySem.Str → Option Value) (news : Led) (x : Str) (seed quoted : Int) (t1 t2 t3 : Tok) (hx : x.cps.size ≤ 5) (hc : ∀ c ∈ x.cps.toList, c < 128) (hs : 0 ≤ seed) :
  Cl w mean mg mb 174 news [Value.str x t1, .int seed t2, .int quoted t3] (fun v news' => news' = news ∧ ∃ t, v = .str (written x seed quoted) t) := by
  unfold Cl
  k_fill
  intros
  rename_i hret
  refine wpAny_call ?_
  k_dflt (walk_at "my enterC")
  show wpAny _ _ _ _ _ _
  k_fold
  k_steps
  refine comp_srcGn _ (fun i ys => SV ys (signsL x.cps.toList seed i)) (src_enumStr (by rfl) _ _ _ _ _ _ (by assumption) (by assumption) (by assumption) (by assumption) (by assumption)) (by assumption) ?_ (by assumption) (fun C => ⟨lookup_relabel_local (by rfl), lookup_relabel_local (by rfl), by rfl⟩) (by have : sizeLine = 16777216 := rfl; lia) (by decide) rfl (by assumption) (by assumption) (fun b hb => nomatch hb) SV.nil ?_ ?_
  case refine_1 => assumption
  case refine_2 =>
    clear hret
    intro g i ys C D oC m m' h tk rest E' hi hI hB hoC F N hr hz hCD
    refine testsOf_nil (hideQ fun Q' hQ => ?_)
    refine Classical.byContradiction fun gK => ?_
    obtain ⟨v1, v2, ⟨u, c, u', hxc, rfl, rfl⟩, hm⟩ := hB
    refine gK ?_
    clear gK
    have hxp : m' (Str.ofString "place") = some (.int (i : Int) u) := by rw [hm]; rfl
    have hxs : m' (Str.ofString "sign") = some (.str ⟨#[c]⟩ u') := by rw [hm]; rfl
    clear hm
    have hc1 : c < 1000 := by have := hc c (by rw [Array.mem_toList_iff]; exact Array.mem_of_getElem? hxc); lia
    have hsp : 0 ≤ seed * ((i : Int) + 1) + (i : Int) := by have := Int.mul_nonneg hs (by lia : (0 : Int) ≤ (i : Int) + 1); lia
    have hgd : x.cps.toList.getD i 0 = c := by rw [List.getD_eq_getElem?_getD]; simp [hxc]
    have N := news_with N (hz _ List.mem_cons_self)
    clear hr hz
    k_steps
    refine hQ _ _ ?_
    refine TurnEnd0.intro (by assumption) (by assumption) (fun p hp => by simp only [List.mem_cons] at hp ⊢; rcases hp with h | h | h; exact .inl h; exact .inr (.inl h); exact .inr (.inr (.inr h))) ?_
    rw [signsL_succ, hgd]
    exact hI.snoc _ _
  case refine_3 =>
    intro D h tk ys F N hD hI
    have hj : JoinOk (Str.ofString "") (signsL x.cps.toList seed x.cps.size) = true := joinOk_small 2 5 (by decide) _ (signsL_len _ _ _) (by rw [signsL_length]; exact hx)
    k_steps
    refine join_lst (by assumption) List.mem_cons_self hI hj fun t' k => ?_
    have hsz := signs_size x.cps.toList seed x.cps.size
    generalize hsg : Txt.join (Str.ofString "") (signsL x.cps.toList seed x.cps.size) = sg at hsz ⊢
    k_steps
    · refine comp_src0n _ (fun i ys => SV ys (escQ (sg.cps.toList.take i))) (src_strN (by rfl) _ _ _ _) (fun C => ⟨lookup_relabel_local (by rfl), by rfl⟩) (by have : sizeLine = 16777216 := rfl; lia) (by decide) rfl (by assumption) (by assumption) (fun b hb => nomatch hb) SV.nil ?_ ?_
      case refine_1 =>
        clear hret
        intro g i ys C D oC m m' h tk rest E' hi hI hB hoC F N hr hz hCD
        refine testsOf_nil (hideQ fun Q' hQ => ?_)
        refine Classical.byContradiction fun gK => ?_
        obtain ⟨v1, ⟨c, u', hxc, rfl⟩, hm⟩ := hB
        refine gK ?_
        clear gK
        have hxs : m' (Str.ofString "sign") = some (.str ⟨#[c]⟩ u') := by rw [hm]; exact if_pos rfl
        clear hm
        k_steps
        · refine hQ _ _ ?_
          refine TurnEnd0.intro (by assumption) (by assumption) (fun _ h => h) ?_
          have ho : (Builtin.Str.occurrences (Str.ofString "\"\\") { cps := #[c] } 0 (Str.ofString "\"\\").length 1).isEmpty = true := by assumption
          have h34 : c ≠ 34 := fun q => by rw [q, occ_34] at ho; cases ho
          have h92 : c ≠ 92 := fun q => by rw [q, occ_92] at ho; cases ho
          rw [escQ_succ _ _ _ (by simpa using hxc), if_neg (by rintro (h | h); exact h34 h; exact h92 h)]
          exact hI.snoc _ _
        · refine hQ _ _ ?_
          refine TurnEnd0.intro (by assumption) (by assumption) (fun _ h => h) ?_
          have hq : c = 34 ∨ c = 92 := Classical.byContradiction fun hn => by
            have := occ_q c (fun q => hn (.inl q)) (fun q => hn (.inr q))
            have h2 : (Builtin.Str.occurrences (Str.ofString "\"\\") { cps := #[c] } 0 (Str.ofString "\"\\").length 1).isEmpty = false := by assumption
            rw [this] at h2; cases h2
          rw [escQ_succ _ _ _ (by simpa using hxc), if_pos hq, bs_add]
          exact hI.snoc _ _
      case refine_2 =>
        intro D h tk ys F N hD hI
        rw [List.take_of_length_le (by simp)] at hI
        have hll : (escQ sg.cps.toList).length = sg.cps.size := by simp [escQ]
        have hj : JoinOk (Str.ofString "") (escQ sg.cps.toList) = true := joinOk_small 2 100 (by decide) _ (escQ_len _) (by lia)
        have hjs := join_size _ (escQ_len sg.cps.toList)
        k_steps
        refine join_lst (by assumption) List.mem_cons_self hI hj fun t' k => ?_
        generalize hsr : Txt.join (Str.ofString "") (escQ sg.cps.toList) = sr at hjs ⊢
        have hsl : sr.length ≤ 100 := by show sr.cps.size ≤ 100; lia
        k_steps
        subst hsr hsg
        have ew : Str.ofString "\"" ++ Txt.join (Str.ofString "") (escQ (Txt.join (Str.ofString "") (signsL x.cps.toList seed x.cps.size)).cps.toList) ++ Str.ofString "\"" = written x seed quoted := by rw [written, if_neg (by assumption)]; rfl
        rw [ew]
        exact hret _ news _ _ ⟨rfl, _, rfl⟩ (by k_asm) (cb_drop (by assumption) fun p hp => by simp only [List.mem_cons]; exact .inr (.inr (.inr hp)))
    · refine comp_src0n _ (fun i ys => SV ys (escA (sg.cps.toList.take i))) (src_strN (by rfl) _ _ _ _) (fun C => ⟨lookup_relabel_local (by rfl), by rfl⟩) (by have : sizeLine = 16777216 := rfl; lia) (by decide) rfl (by assumption) (by assumption) (fun b hb => nomatch hb) SV.nil ?_ ?_
      case refine_1 =>
        clear hret
        intro g i ys C D oC m m' h tk rest E' hi hI hB hoC F N hr hz hCD
        refine testsOf_nil (hideQ fun Q' hQ => ?_)
        refine Classical.byContradiction fun gK => ?_
        obtain ⟨v1, ⟨c, u', hxc, rfl⟩, hm⟩ := hB
        refine gK ?_
        clear gK
        have hxs : m' (Str.ofString "sign") = some (.str ⟨#[c]⟩ u') := by rw [hm]; exact if_pos rfl
        clear hm
        k_steps
        refine hQ _ _ ?_
        refine TurnEnd0.intro (by assumption) (by assumption) (fun _ h => h) ?_
        rw [escA_succ _ _ _ (by simpa using hxc), bs_add]
        exact hI.snoc _ _
      case refine_2 =>
        intro D h tk ys F N hD hI
        rw [List.take_of_length_le (by simp)] at hI
        have hll : (escA sg.cps.toList).length = sg.cps.size := by simp [escA]
        have hj : JoinOk (Str.ofString "") (escA sg.cps.toList) = true := joinOk_small 2 100 (by decide) _ (escA_len _) (by lia)
        have hjs := join_size _ (escA_len sg.cps.toList)
        k_steps
        refine join_lst (by assumption) List.mem_cons_self hI hj fun t' k => ?_
        generalize hsr : Txt.join (Str.ofString "") (escA sg.cps.toList) = sr at hjs ⊢
        have hsl : sr.length ≤ 100 := by show sr.cps.size ≤ 100; lia
        k_steps
        subst hsr hsg
        have ew : Txt.join (Str.ofString "") (escA (Txt.join (Str.ofString "") (signsL x.cps.toList seed x.cps.size)).cps.toList) = written x seed quoted := by rw [written, if_pos (by assumption)]; rfl
        rw [ew]
        exact hret _ news _ _ ⟨rfl, _, rfl⟩ (by k_asm) (cb_drop (by assumption) fun p hp => by simp only [List.mem_cons]; exact .inr (.inr (.inr hp)))
end Mine
end
section
open PySem PySem.W PyProof.Rows PySem.Spec PySem.Calls
namespace Mine
open PyProof.Rows.LCg (NsObj ns_obj lst lst_snoc)
noncomputable def AfterFor (prog : Program) (w : World) (A : Around) (env : Env) (target : Expr) (body : List Stmt) (Q : Flow → Shared → Prop) (E : Value → Shared → Prop) (x : Value) (s₁ : Shared) : Prop :=
  wpAny (model prog w) A (pyIter x) (fun it s₂ => codeAny (model prog w) A (.forLoop target it body [] env) (fun r s' => match r with | .ok f => Q f s' | .error e => cameBackBy (model prog w) A env E e s') s₂) E s₁
section
variable {prog : Program} {w : World} {A : Around} {E : Value → Shared → Prop} {s : Shared} {env : Env}
theorem For_W {target iter : Expr} {body : List Stmt} {pos : Pos} {Q : Flow → Shared → Prop} (h : wpAny (model prog w) A (eval iter env) (AfterFor prog w A env target body Q E) E s)
    (hs : ∀ x, foldedSetIterable iter env x = pure x := by intro _; rfl) : wpAny (model prog w) A (exec (.For target iter body [] pos) env) Q E s :=
  wpAny_For (wpAny_mono h (fun _ _ h₁ => h₁) fun _ _ e => e) hs
variable {h₀ : Heap}
theorem for_src {target : Expr} {body : List Stmt} {Q : Flow → Shared → Prop} {s₁ : Shared} {x : Value} {okE : Env → Prop} {n : Nat} {B : Nat → Nm → Nm → Prop} {dep : List Addr} {lo : Nat} {L : Addr} {m₀ : Nm}
    (live₀ frozen : Led) (Inv : Nat → Nm → Led → Prop) (BrkI : Nm → Led → Prop) (RetI : Value → Nm → Led → Prop) (Lv : Addr → Prop)
    (S : Source prog w A target okE n B dep lo s₁ x) (hok : okE env) (hLe : env.locals = L)
    (F : Fr h₀ L s₁.heap m₀) (N : News h₀ L s₁.heap (live₀ ++ frozen)) (hL : L < lo) (hbelow : ∀ p ∈ live₀ ++ frozen, p.1 < lo) (hlo : lo ≤ s₁.heap.objs.size)
    (hdep : ∀ b ∈ dep, (∃ o, h₀.get? b = some o) ∨ ∃ o, (b, o) ∈ frozen) (hlv : ∀ p ∈ live₀, Lv p.1) (hLv : ∀ a, Lv a → a < lo) (hfz : ∀ p ∈ frozen, ¬ Lv p.1) (hinv : Inv 0 m₀ live₀)
    (turn : ∀ (g : Heap) i m m' live h tk rest (E' : Value → Shared → Prop), i < n → Inv i m live → B i m m' → Fr h₀ L h m' → News h₀ L h (live ++ rest) → (∀ p ∈ rest, ¬ Lv p.1) → (∀ p ∈ frozen, p ∈ rest) →
      wpAny (model prog w) A (execs body env) (fun f s₃ => match f with
        | .next | .cont => ForEnd h₀ L { s₁ with heap := g } rest Lv (Inv (i + 1)) s₃
        | .brk => ForEnd h₀ L { s₁ with heap := g } rest Lv BrkI s₃
        | .ret v => ForEnd h₀ L { s₁ with heap := g } rest Lv (RetI v) s₃) E' { s₁ with heap := h, toks := tk })
    (fin : ∀ h tk m live, Inv n m live → Fr h₀ L h m → News h₀ L h (live ++ frozen) → (∀ p ∈ live, Lv p.1) → Q .next { s₁ with heap := h, toks := tk })
    (brk : ∀ h tk m live, BrkI m live → Fr h₀ L h m → News h₀ L h (live ++ frozen) → (∀ p ∈ live, Lv p.1) → Q .next { s₁ with heap := h, toks := tk })
    (rtn : ∀ h tk m live v, RetI v m live → Fr h₀ L h m → News h₀ L h (live ++ frozen) → (∀ p ∈ live, Lv p.1) → Q (.ret v) { s₁ with heap := h, toks := tk }) :
    AfterFor prog w A env target body Q E x s₁ := by
  subst hLe
  unfold AfterFor
  refine S.run _ _ fun it own fp St h SP hst hfp hown hk hsl => ?_
  have hobj : h₀.objs.size ≤ lo := Nat.le_of_lt (Nat.lt_of_le_of_lt F.above hL)
  have fresh : ∀ b, lo ≤ b → h₀.get? b = none := fun b hb => Heap.get?_none_of_le (Nat.le_trans hobj hb)
  have hLn : ∀ b ∈ own, b ≠ env.locals := fun b hb q => by rw [q] at hb; exact absurd (Nat.lt_of_lt_of_le hL (hown _ hb).2) (Nat.lt_irrefl _)
  refine for_V (s₂ := { s₁ with heap := h }) (live₀ := live₀) (frozen := frozen) Inv BrkI RetI Lv (SP env hok) hst (fun b hb => ⟨(hfp b hb).1, ?_, (hfp b hb).2.elim .inl fun hd => .inr (hdep b hd)⟩)
    (fun b hb => ⟨(hown b hb).1, fresh b (hown b hb).2, hLn b hb, fun hl => ?_, fun p hp q => ?_⟩) (F.keeps hk) (fun p hp => ⟨hk _ _ (N p hp).1, (N p hp).2⟩) hlv hfz hinv
    (fun i m m' live h' tk rest E' hi hI hB F' N' hr hz => turn h i m m' live h' tk rest E' hi hI hB F' N' hr hz) fin brk rtn
  · rcases (hfp b hb).2 with ho | hd
    · exact hLn b ho
    · intro q
      rcases hdep b hd with ⟨o, e⟩ | ⟨o, hm⟩
      · rw [q, Heap.get?_none_of_le F.above] at e; cases e
      · exact (N _ (List.mem_append_right _ hm)).2.1 q
  · exact absurd (Nat.lt_of_lt_of_le (hLv b hl) (hown _ hb).2) (Nat.lt_irrefl _)
  · rw [← q] at hb; exact absurd (Nat.lt_of_lt_of_le (hbelow p (List.mem_append_right _ hp)) (hown _ hb).2) (Nat.lt_irrefl _)
end
noncomputable def ForEnd0 (h₀ : Heap) (L : Addr) (s : Shared) (rest : Led) (inv : Nm → Prop) (s' : Shared) : Prop :=
  ∃ h' tk' m', s' = { s with heap := h', toks := tk' } ∧ Fr h₀ L h' m' ∧ News h₀ L h' rest ∧ inv m'
theorem ForEnd0.intro {h₀ : Heap} {L : Addr} {s : Shared} {rest all : Led} {inv : Nm → Prop} {h' : Heap} {tk' : Nat} {m' : Nm} (F : Fr h₀ L h' m') (N : News h₀ L h' all) (hs : ∀ p ∈ rest, p ∈ all) (hi : inv m') :
    ForEnd0 h₀ L s rest inv { s with heap := h', toks := tk' } := ⟨h', tk', m', rfl, F, fun p hp => N p (hs p hp), hi⟩
section
variable {prog : Program} {w : World} {A : Around} {E : Value → Shared → Prop} {s : Shared} {env : Env} {h₀ : Heap}
theorem for_src0 {target : Expr} {body : List Stmt} {Q : Flow → Shared → Prop} {s₁ : Shared} {x : Value} {okE : Env → Prop} {n : Nat} {B : Nat → Nm → Nm → Prop} {dep : List Addr} {L : Addr} {m₀ : Nm}
    (frozen : Led) (Inv : Nat → Nm → Prop) (BrkI : Nm → Prop) (RetI : Value → Nm → Prop)
    (S : Source prog w A target okE n B dep s₁.heap.objs.size s₁ x) (hok : okE env) (hLe : env.locals = L)
    (F : Fr h₀ L s₁.heap m₀) (N : News h₀ L s₁.heap frozen)
    (hdep : ∀ b ∈ dep, (∃ o, h₀.get? b = some o) ∨ ∃ o, (b, o) ∈ frozen) (hinv : Inv 0 m₀)
    (turn : ∀ (g : Heap) i m m' h tk rest (E' : Value → Shared → Prop), i < n → Inv i m → B i m m' → Fr h₀ L h m' → News h₀ L h rest → (∀ p ∈ frozen, p ∈ rest) →
      wpAny (model prog w) A (execs body env) (fun f s₃ => match f with
        | .next | .cont => ForEnd0 h₀ L { s₁ with heap := g } rest (Inv (i + 1)) s₃
        | .brk => ForEnd0 h₀ L { s₁ with heap := g } rest BrkI s₃
        | .ret v => ForEnd0 h₀ L { s₁ with heap := g } rest (RetI v) s₃) E' { s₁ with heap := h, toks := tk })
    (fin : ∀ h tk m, Inv n m → Fr h₀ L h m → News h₀ L h frozen → Q .next { s₁ with heap := h, toks := tk })
    (brk : ∀ h tk m, BrkI m → Fr h₀ L h m → News h₀ L h frozen → Q .next { s₁ with heap := h, toks := tk })
    (rtn : ∀ h tk m v, RetI v m → Fr h₀ L h m → News h₀ L h frozen → Q (.ret v) { s₁ with heap := h, toks := tk }) :
    AfterFor prog w A env target body Q E x s₁ := by
  have up : ∀ (g : Heap) (rest : Led) (inv : Nm → Prop) (s₃ : Shared), ForEnd0 h₀ L { s₁ with heap := g } rest inv s₃ → ForEnd h₀ L { s₁ with heap := g } rest (fun _ => False) (fun m live => live = [] ∧ inv m) s₃ := by
    rintro g rest inv s₃ ⟨h', tk', m', rfl, F', N', hi⟩
    exact ⟨h', tk', m', [], rfl, F', N', ⟨rfl, hi⟩, fun p hp => nomatch hp⟩
  refine for_src [] frozen (fun i m live => live = [] ∧ Inv i m) (fun m live => live = [] ∧ BrkI m) (fun v m live => live = [] ∧ RetI v m) (fun _ => False) S hok hLe F N (by subst hLe; exact F.ns.lt) (fun p hp => Heap.lt_size (N p hp).1) (Nat.le_refl _)
    hdep (fun p hp => nomatch hp) (fun a ha => ha.elim) (fun p _ h => h) ⟨rfl, hinv⟩ (fun g i m m' live h tk rest E' hi hI hB F' N' _ hz => ?_)
    (fun h tk m live hI F' N' _ => by obtain ⟨rfl, hI⟩ := hI; exact fin h tk m hI F' N') (fun h tk m live hI F' N' _ => by obtain ⟨rfl, hI⟩ := hI; exact brk h tk m hI F' N') (fun h tk m live v hI F' N' _ => by obtain ⟨rfl, hI⟩ := hI; exact rtn h tk m v hI F' N')
  obtain ⟨rfl, hI⟩ := hI
  refine wpAny_mono (turn g i m m' h tk rest E' hi hI hB F' N' hz) (fun f s₃ h₃ => ?_) fun _ _ e => e
  cases f with
  | next => exact up _ _ _ _ h₃
  | cont => exact up _ _ _ _ h₃
  | brk => exact up _ _ _ _ h₃
  | ret v => exact up _ _ _ _ h₃
end
theorem SV.get {ys : List Value} {ss : List Str} (h : SV ys ss) {i : Nat} {v : Value} (e : ys[i]? = some v) : ∃ x t, ss[i]? = some x ∧ v = .str x t := by
  obtain ⟨l, rfl, rfl⟩ := h
  rw [strValues, List.getElem?_map] at e
  cases q : l[i]? with
  | none => rw [q] at e; cases e
  | some p => rw [q] at e; cases e; exact ⟨p.1, p.2, by rw [List.getElem?_map, q]; rfl, rfl⟩
theorem dep1 {h₀ : Heap} {a : Addr} {o : Obj} {fz : Led} (hm : (a, o) ∈ fz) : ∀ b ∈ [a], (∃ o, h₀.get? b = some o) ∨ ∃ o, (b, o) ∈ fz := fun b hb => by
  obtain rfl := List.mem_singleton.mp hb
  exact .inr ⟨o, hm⟩
local macro_rules | `(tactic| walk_at "exec For") => `(tactic| (k_here; k_dflt (refine For_W ?_)))
theorem is_strs {M : Model} {A : Around} {E : Value → Shared → Prop} {s : Shared} {x y : Str} {t u : Tok} {Q : Value → Shared → Prop} (ht : @LE.le Nat _ 1 t) (hu : @LE.le Nat _ 1 u) (hd : t = u ∨ x ≠ y)
    (h : Q (.bool (decide (t = u))) s) : wpAny M A (compareOp .Is (.str x t) (.str y u)) Q E s := by
  show wpAny M A (do return Value.bool (← isSame (.str x t) (.str y u))) Q E s
  refine wpAny_bind ?_
  show wpAny M A (isSame.created (x == y) t u) _ E s
  unfold isSame.created
  refine wpAny_ite ?_
  split
  · rename_i h0
    simp only [Bool.or_eq_true, beq_iff_eq] at h0
    rcases h0 with h0 | h0
    · rw [h0] at ht; exact absurd ht (by decide)
    · rw [h0] at hu; exact absurd hu (by decide)
  refine wpAny_ite ?_
  split
  · rename_i e
    have e := eq_of_beq e
    exact wpAny_pure (wpAny_pure (by rw [decide_eq_true e] at h; exact h))
  rename_i e
  have e' : t ≠ u := fun q => e (by rw [q]; exact beq_self_eq_true _)
  have hxy : x ≠ y := hd.resolve_left e'
  refine wpAny_ite ?_
  split
  · exact wpAny_pure (wpAny_pure (by rw [decide_eq_false e'] at h; exact h))
  · rename_i hc
    exact absurd (by simp [hxy]) hc
local macro_rules | `(tactic| walk_at "compareOp Is str str") => `(tactic| (k_here; apply is_strs; iterate 3 assumption))
theorem some_int {f : Option Value} {a b : Int} {t : Tok} (h : f = some (.int a t)) (e : a = b) : f = some (.int b t) := by rw [h, e]
set_option maxHeartbeats 0 in
theorem c_countOf (w : World) (mean : ExcName → Option Value) (mg mb : PySem.Str → Option Value) (news : Led) (l : Addr) (ys : List Value) (ss : List Str) (k : Nat) (y : Str) (t : Tok) (hv : SV ys ss)
    (ht : @LE.le Nat _ 1 t) (hy : ∀ x u, Value.str x u ∈ ys → @LE.le Nat _ 1 u ∧ ((u = t ∧ x = y) ∨ (u ≠ t ∧ x ≠ y))) :
  Cl w mean mg mb 84 ((l, W.listOf ys.toArray k) :: news) [Value.ref l, .str y t] (fun v news' => news' = (l, W.listOf ys.toArray k) :: news ∧ ∃ t, v = .int (ss.count y) t) := by
  unfold Cl
  k_fill
  intros
  rename_i hret
  refine wpAny_call ?_
  k_dflt cell_enter
  refine hideT fun tk0 => ?_
  k_steps
  have hll : ys.toArray.size = ss.length := by rw [List.size_toArray]; exact hv.length
  refine for_src0 ((l, W.listOf ys.toArray k) :: news) (fun i m => m (Str.ofString "b") = some (.str y t) ∧ ∃ tc, m (Str.ofString "count") = some (.int ((ss.take i).count y) tc)) (fun _ => False) (fun _ _ => False)
    (src_listN (by rfl) l ys.toArray _ _ ⟨_, News.get (by assumption) List.mem_cons_self, rfl, _, rfl⟩) ⟨by rfl, by rfl⟩ rfl (by assumption) (by assumption) (dep1 List.mem_cons_self) ⟨by rfl, _, by rfl⟩ ?_ ?_ (fun _ _ _ h => h.elim) (fun _ _ _ _ h => h.elim)
  · clear hret
    intro g i m m' h tk rest E' hi hI hB F N hz
    refine Classical.byContradiction fun gK => ?_
    obtain ⟨v, hP, hm⟩ := hB
    obtain ⟨x, tx, hx, rfl⟩ := hv.get (by simpa using hP)
    obtain ⟨hb, tc, hcn⟩ := hI
    refine gK ?_
    clear gK
    have hb' : m' (Str.ofString "b") = some (.str y t) := by rw [hm]; exact hb
    have hc' : m' (Str.ofString "count") = some (.int ((ss.take i).count y) tc) := by rw [hm]; exact hcn
    have hi' : m' (Str.ofString "i") = some (.str x tx) := by rw [hm]; exact if_pos rfl
    clear hm
    have F := fixF3 F hi' hc' hb'
    have hyx := hy x tx (List.mem_of_getElem? (by simpa using hP))
    have hu1 := hyx.1
    have hd : tx = t ∨ x ≠ y := hyx.2.imp And.left And.right
    have hcnt : (ss.take (i + 1)).count y = (ss.take i).count y + (if x = y then 1 else 0) := by
      rw [List.take_add_one, hx, Option.toList_some, List.count_append]
      simp [List.count_singleton]
    have hyes : x = y → (((ss.take (i + 1)).count y : Nat) : Int) = ((ss.take i).count y : Nat) + 1 := fun e => by rw [hcnt, if_pos e]; rfl
    have hno : x ≠ y → (((ss.take (i + 1)).count y : Nat) : Int) = ((ss.take i).count y : Nat) := fun e => by rw [hcnt, if_neg e]; rfl
    refine hideQ fun Q' hQ => ?_
    k_steps
    all_goals refine hQ _ _ ?_
    all_goals refine ForEnd0.intro (by assumption) (by assumption) (fun _ h => h) ?_
    · exact ⟨by rfl, _, some_int rfl (hyes (hyx.2.elim (fun h => h.2) fun h => absurd (by assumption) h.1)).symm⟩
    · exact ⟨by rfl, _, some_int rfl (hyes (eq_of_beq (by assumption))).symm⟩
    · exact ⟨by rfl, _, some_int rfl (hno (by intro e; have h : (x == y) = false := (by assumption); rw [e] at h; simp at h)).symm⟩
  · intro h tk m hI F N
    refine Classical.byContradiction fun gK => ?_
    obtain ⟨hb, tc, hc⟩ := hI
    refine gK ?_
    clear gK
    rw [hll, List.take_of_length_le (Nat.le_refl _)] at hc
    have F := fixF F hc
    k_steps
    exact hret _ _ _ _ ⟨rfl, _, rfl⟩ (by k_asm) (by assumption)
theorem use_countOf (w : World) (mean : ExcName → Option Value) (mg mb : PySem.Str → Option Value) {news : Led} {l : Addr} {ys : List Value} {ss : List Str} {k : Nat} {y : Str} {t : Tok} (hv : SV ys ss)
    (ht : @LE.le Nat _ 1 t) (hy : ∀ x u, Value.str x u ∈ ys → @LE.le Nat _ 1 u ∧ ((u = t ∧ x = y) ∨ (u ≠ t ∧ x ≠ y)))
    {dp un : Nat} {gd : Option (List Code)} {cn : Str} {cs : Scope} {a : Addr} {ccd : Value} {cl : List (Str × Addr)} {outer : List Env} {A₀ : Around} {base h₀ : Heap} {L : Addr} {m : Str → Option Value} {s : Shared} {Q E : Value → Shared → Prop}
    (hB : Below A₀ base outer h₀) (hF : Fr h₀ L s.heap m) (hX : (K w.params).In h₀) (hN : News h₀ L s.heap ((l, W.listOf ys.toArray k) :: news)) (hT : Top topProg lw mean mg mb h₀) (hk : cs.kind = .function) (hdp : dp + 40 < recursionLimit) (hun : un + 200 < cLine)
    (g : ∀ t h' tk', Fr h₀ L h' m → News h₀ L h' ((l, W.listOf ys.toArray k) :: news) → Q (.int (ss.count y) t) { s with heap := h', toks := tk' }) :
    wpAny (model PySem.Challenge.rw_tp0040_01.row.prog w) (ktrTop dp un gd cn cs L a ccd cl outer) (call (.ref 84) [.ref l, .str y t]) Q E s :=
  c_countOf w mean mg mb news l ys ss k y t hv ht hy dp un gd cn cs a ccd cl outer A₀ base h₀ L m s Q E hB hF hX hN hT hk hdp hun fun v news' h' tk' fin F N => fin.2.elim fun t e => by
    rw [e]
    exact g t h' tk' F (fin.1 ▸ N)
end Mine
end
section
open PySem PySem.W PyProof.Rows PySem.Spec PySem.Calls
namespace Mine
open PyProof.Rows.LCg (NsObj ns_obj lst lst_snoc)
section
variable {prog : Program} {w : World} {A : Around} {E : Value → Shared → Prop} {s : Shared}
theorem inplaceOp_list {l b : Addr} {Q : Value → Shared → Prop} (ha : s.TypeIs (.ref l) "list") (hb : s.TypeIs (.ref b) "list")
    (hc : wpAny (model prog w) A (call (.builtin "list.__iadd__") [.ref l, .ref b]) Q E s) : wpAny (model prog w) A (inplaceOp .Add (.ref l) (.ref b)) Q E s := by
  have hl : typeLookup (.type "list") (dunderI "add") = pure (some (.builtin "list.__iadd__")) := F.slot_list_iadd.lookup
  have hss : isSeqSlot (some (.builtin "list.__iadd__")) = true := by decide +kernel
  unfold inplaceOp
  refine wpAny_holding ?_
  have hfi : fillsInplaceSlot (.type "list") "add" (Operator.Add == .Add) = pure false := by
    unfold fillsInplaceSlot
    show (typeLookup (.type "list") (dunderI "add") >>= fun fi => pure (fi.isSome && !isSeqSlot fi)) = pure false
    rw [hl]; rfl
  refine wpAny_bind (wpAny_typeOf ha (wpAny_bind (wpAny_of_eq hfi ?_)))
  have hsi : seqSlot? (.type "list") (dunderI "add") = pure (some (.builtin "list.__iadd__")) := PySem.seqSlot_of (T := "list") (name := "__iadd__") (id := "list.__iadd__") F.slot_list_iadd.lookup (by decide +kernel)
  have hfill : fillsNumberSlot (.type "list") "add" = pure false := noFill_list_add
  show wpAny (model prog w) A (if false = true then _ else _) Q E s
  rw [if_neg Bool.false_ne_true]
  refine wpAny_bind (wpAny_binaryOp1_none (nm := "add") ha hb hfill ?_)
  refine wpAny_bind (wpAny_of_eq hsi ?_)
  exact wpAny_bind (wpAny_rule hc)
variable {h₀ : Heap} {L : Addr} {m : Nm} {news : Led}
theorem iadd_L {l b : Addr} {xs ys : Array Value} {n k : Nat} {g : Obj → Led} {Q : Value → Shared → Prop} (Fm : Fr h₀ L s.heap m) (N : News h₀ L s.heap news) (U : UpdF l (W.listOf xs n) news g) (hb : (b, W.listOf ys k) ∈ news)
    (hz : xs.size + ys.size ≤ 100000)
    (h : ∀ h' n', Fr h₀ L h' m → News h₀ L h' (g (W.listOf (xs ++ ys) n')) → Q (.ref l) { s with heap := h' }) : wpAny (model prog w) A (inplaceOp .Add (.ref l) (.ref b)) Q E s := by
  refine Classical.byContradiction fun gK => ?_
  obtain ⟨pre, post, e1, e2, e3, e4⟩ := U.split
  refine gK ?_
  clear gK
  have hl : (l, W.listOf xs n) ∈ news := by rw [e1]; exact List.mem_append_right _ List.mem_cons_self
  have gl := N.get hl
  have gb := N.get hb
  have hsl : sizeLine = 16777216 := rfl
  refine inplaceOp_list ⟨_, gl, rfl⟩ ⟨_, gb, rfl⟩ ?_
  refine call_meets F.slot_list_iadd ⟨_, gl, rfl⟩ F.entry_list_iadd (F.args_list_iadd_2 _ _) (AutoSeq1.list___iadd___list_list_0 l xs n b ys k ?_ (by lia) (by lia)) ⟨gl, gb, ?_⟩
  · intro hh
    simp only [Bool.and_eq_true, Builtin.List.listTooLong, decide_eq_true_eq] at hh
    lia
  · have hs : Heap.SameBut l s.heap (s.heap.update l (Obj.mapSeq fun x => x ++ ys)) := Heap.SameBut.update ..
    have z := N _ hl
    refine h _ (if (xs ++ ys).size == xs.size then n else n + 1) (Fm.change hs z.2.1 z.2.2) fun p hp => ?_
    rw [e2] at hp
    rcases List.mem_append.mp hp with hp | hp
    · have zp := N p (by rw [e1]; exact List.mem_append_left _ hp)
      exact ⟨hs.extBut _ _ (e3 p hp) zp.1, zp.2⟩
    rcases List.mem_cons.mp hp with rfl | hp
    · exact ⟨(Heap.get?_update_self _ gl rfl).trans rfl, z.2⟩
    · have zp := N p (by rw [e1]; exact List.mem_append_right _ (List.mem_cons_of_mem _ hp))
      exact ⟨hs.extBut _ _ (e4 p hp) zp.1, zp.2⟩
end
end Mine
end
section
open PySem PySem.W PyProof.Rows PySem.Spec PySem.Calls
namespace Mine
open PyProof.Rows.LCg (NsObj ns_obj lst lst_snoc)
local macro_rules | `(tactic| walk_at "inplaceOp Add ref ref") => `(tactic| (k_here; apply iadd_L; (iterate 5 assumption); intros))
set_option maxHeartbeats 0 in
theorem c_iadd (w : World) (mean : ExcName → Option Value) (mg mb : PySem.Str → Option Value) (news : Led) (l b : Addr) (xs ys : Array Value) (n k : Nat) (g : Obj → Led) (U : UpdF l (W.listOf xs n) news g) (hb : (b, W.listOf ys k) ∈ news)
    (hz : xs.size + ys.size ≤ 100000) :
  Cl w mean mg mb 91 news [Value.ref l, .ref b] (fun v news' => v = .ref l ∧ ∃ n', news' = g (W.listOf (xs ++ ys) n')) := by
  unfold Cl
  k_fill
  intros
  rename_i hret
  refine wpAny_call ?_
  k_dflt cell_enter
  refine hideT fun tk00 => ?_
  k_steps
  exact hret _ _ _ _ ⟨rfl, _, rfl⟩ (by k_asm) (by assumption)
noncomputable def repA (x : Value) (n : Nat) : List Value := List.replicate n x
theorem rep_foldl (x : Value) : ∀ (n : Nat) (a : Array Value), (List.replicate n #[x]).foldl (fun x1 x2 => x1 ++ x2) a = a ++ (List.replicate n x).toArray
  | 0, a => by simp
  | n + 1, a => by
    rw [List.replicate_succ, List.foldl_cons, rep_foldl x n, List.replicate_succ]
    apply Array.toList_inj.mp
    simp
section
variable {prog : Program} {w : World} {A : Around} {E : Value → Shared → Prop} {s : Shared} {h₀ : Heap} {L : Addr} {m : Nm} {news : Led}
theorem mul1 {l : Addr} {x : Value} {k : Nat} {i : Int} {t : Tok} {Q : Value → Shared → Prop} (Fm : Fr h₀ L s.heap m) (N : News h₀ L s.heap news) (hl : (l, W.listOf #[x] k) ∈ news) (h1 : -(2 ^ 63 : Int) ≤ i) (h2 : i ≤ 100000)
    (h : ∀ D h', (∀ p ∈ news, p.1 < D) → Fr h₀ L h' m → News h₀ L h' ((D, W.listOf (List.replicate i.toNat x).toArray 0) :: news) → Q (.ref D) { s with heap := h' }) : wpAny (model prog w) A (binaryOp .Mult (.ref l) (.int i t)) Q E s := by
  have e : List.foldl (fun x1 x2 => x1 ++ x2) #[] (List.replicate (if (#[x] : Array Value).isEmpty = true then 0 else i.toNat) #[x]) = (List.replicate i.toNat x).toArray := by
    rw [if_neg (by simp), rep_foldl]; simp
  refine mul_list Fm N (N.get hl) h1 (by lia) (by simp; lia) fun h' F' N' => ?_
  rw [e] at N'
  exact h _ h' (fun p hp => Heap.lt_size (N p hp).1) F' N'
end
local macro_rules | `(tactic| walk_at "binaryOp Mult ref int") => `(tactic| (k_here; apply mul1; k_asm; k_asm; k_mem; assumption; assumption; intros))
set_option maxHeartbeats 0 in
theorem c_mul (w : World) (mean : ExcName → Option Value) (mg mb : PySem.Str → Option Value) (news : Led) (l : Addr) (x : Value) (k : Nat) (i : Int) (t : Tok) (h1 : -(2 ^ 63 : Int) ≤ i) (h2 : i ≤ 100000) :
  Cl w mean mg mb 70 ((l, W.listOf #[x] k) :: news) [Value.ref l, .int i t] (fun v news' => ∃ D, v = .ref D ∧ news' = (D, W.listOf (List.replicate i.toNat x).toArray 0) :: (l, W.listOf #[x] k) :: news ∧ ∀ p ∈ (l, W.listOf #[x] k) :: news, p.1 < D) := by
  unfold Cl
  k_fill
  intros
  rename_i hret
  refine wpAny_call ?_
  k_dflt cell_enter
  refine hideT fun tk00 => ?_
  k_steps
  exact hret _ _ _ _ ⟨_, rfl, rfl, by assumption⟩ (by k_asm) (by assumption)
end Mine
end
section
open PySem PySem.W PyProof.Rows PySem.Spec PySem.Calls
namespace Mine
open PyProof.Rows.LCg (NsObj ns_obj lst lst_snoc)
section
variable {prog : Program} {w : World} {A : Around} {R : GenEnd} {s₀ : Shared} {fs : List Frame} {s : Shared} {env : Env}
noncomputable abbrev gTurn (prog : Program) (w : World) (AG : Around) (target : Expr) (it : Value) (st1 st2 : Stmt) (e : Expr) (env : Env) (Post : Value → Shared → Prop) (s : Shared) : Prop :=
  wpAny (model prog w) AG (pyNext it) (fun r s₁ => ∃ v, r = some v ∧ wpAny (model prog w) AG (letOwnedTupleGo target it v) (fun _ s₂ => wpAny (model prog w) AG (assign target env v) (fun _ s₃ =>
    wpAny (model prog w) AG (exec st1 env) (fun f s₄ => f = .next ∧ wpAny (model prog w) AG (exec st2 env) (fun f s₅ => f = .next ∧ wpAny (model prog w) AG (eval e env) Post (fun _ _ => False) s₅) (fun _ _ => False) s₄) (fun _ _ => False) s₃)
    (fun _ _ => False) s₂) (fun _ _ => False) s₁) (fun _ _ => False) s
theorem seg_gen_turn {Y : Protocol} {n : Nat} {target e : Expr} {it : Value} {st1 st2 st4 : Stmt} {yp ep : Pos} {AG : Around} (hA : A.over (.forLoop target it [st1, st2, .Expr (.Yield (some e) yp) ep, st4] [] env) fs = AG)
    (hfs : splitAtGen fs = none) (hfg : fs.any Frame.guarded = false) (hco : env.scope.isCoroutine = false) (hin : interactive env = false)
    (Post : Value → Shared → Prop) (Res : Shared → Prop)
    (turn : gTurn prog w AG target it st1 st2 e env Post s)
    (back : ∀ s'', Res s'' → wpAny (model prog w) AG (exec st4 env) (fun f s₁ => f = .next ∧ Seg (model prog w) A R Y n s'' (.forLoop target it [st1, st2, .Expr (.Yield (some e) yp) ep, st4] [] env)
      ((model prog w).den (.forLoop target it [st1, st2, .Expr (.Yield (some e) yp) ep, st4] [] env)) fs s₁) (fun _ _ => False) s'')
    (yields : ∀ v s' (kap : Resume → Shared → Prop), Post v s' → (∀ s'', Res s'' → kap (.send .none) s'') → Y n s₀ v s' kap) :
    Seg (model prog w) A R Y (n + 1) s₀ (.forLoop target it [st1, st2, .Expr (.Yield (some e) yp) ep, st4] [] env) ((model prog w).den (.forLoop target it [st1, st2, .Expr (.Yield (some e) yp) ep, st4] [] env)) fs s := by
  subst hA
  show Seg _ A R Y (n + 1) s₀ _ ((forTurn target it [st1, st2, .Expr (.Yield (some e) yp) ep, st4] [] env).onRaise (fun x => do noteFrame x env; theTreesLotGoes x)) fs s
  unfold forTurn
  rw [Sem.onRaise_eq_wrap, Sem.bind_eq_wrap', Sem.wrap_wrap]
  refine seg_wrap (wpAny_standAt ?_)
  rw [Sem.bind_eq_wrap', Sem.wrap_wrap]
  refine seg_wrap (wpAny_onRaise (wpAny_mono turn (fun r s₁ h₁ => ?_) fun _ _ h => h.elim))
  obtain ⟨v, rfl, h₁⟩ := h₁
  dsimp only
  rw [Sem.bind_eq_wrap', Sem.wrap_wrap]
  refine seg_wrap (wpAny_mono h₁ (fun _ s₂ h₂ => ?_) fun _ _ h => h.elim)
  rw [Sem.bind_eq_wrap', Sem.wrap_wrap]
  refine seg_wrap (wpAny_mono h₂ (fun _ s₃ h₃ => ?_) fun _ _ h => h.elim)
  rw [Sem.bind_eq_wrap', Sem.wrap_wrap]
  refine seg_execs_cons (seg_wrap (wpAny_mono h₃ (fun f s₄ h₄ => ?_) fun _ _ h => h.elim))
  obtain ⟨rfl, h₄⟩ := h₄
  refine seg_execs_cons (seg_wrap (wpAny_mono h₄ (fun f s₅ h₅ => ?_) fun _ _ h => h.elim))
  obtain ⟨rfl, h₅⟩ := h₅
  refine seg_execs_cons (seg_Expr_Yield hfs rfl hfg (wpAny_mono h₅ (fun v s₆ h₆ => ?_) fun _ _ h => h.elim) hco hin)
  intro kap hk
  refine yields v s₆ kap h₆ fun s'' hR => hk .none s'' ?_
  refine seg_execs_cons (seg_wrap (wpAny_mono (back s'' hR) (fun f s₁ h₁ => ?_) fun _ _ h => h.elim))
  obtain ⟨rfl, h₁⟩ := h₁
  exact seg_again rfl h₁
theorem seg_For_func {Y : Protocol} {n : Nat} {target iter : Expr} {body : List Stmt} {pos : Pos} {K : Flow → Sem Fin} {H : Value → Sem Fin} {gd : Bool → Bool} {lv : List Value → List Value} {c : Code} (hs : ∀ x, foldedSetIterable iter env x = pure x)
    (h : wpAny (model prog w) (A.over c fs) (eval iter env) (fun x s₁ => wpAny (model prog w) (A.over c fs) (pyIter x) (fun it s₂ => ∀ k p, Seg (model prog w) A R Y n s₀ (.forLoop target it body [] env) ((model prog w).den (.forLoop target it body [] env))
      (.ret k none (gd false) (lv []) c p [] :: fs) s₂) (fun _ _ => False) s₁) (fun _ _ => False) s) :
    Seg (model prog w) A R Y n s₀ c ((exec (.For target iter body [] pos) env).wrap K H gd lv) fs s := by
  rw [exec_For]
  rw [Sem.bind_eq_wrap', Sem.wrap_wrap]
  refine seg_wrap (wpAny_standAt ?_)
  rw [Sem.bind_eq_wrap', Sem.wrap_wrap]
  refine seg_wrap (wpAny_mono h (fun x s₁ h₁ => ?_) fun _ _ h => h.elim)
  rw [hs, Sem.bind_eq_wrap', Sem.wrap_wrap]
  refine seg_wrap (wpAny_pure ?_)
  rw [Sem.bind_eq_wrap', Sem.wrap_wrap]
  refine seg_wrap (wpAny_standAt ?_)
  rw [Sem.bind_eq_wrap', Sem.wrap_wrap]
  refine seg_wrap (wpAny_holding (wpAny_mono h₁ (fun it s₂ h₂ => ?_) fun _ _ h => h.elim))
  refine seg_call fun p => ?_
  exact h₂ _ p
end
end Mine
end
section
open PySem PySem.W PyProof.Rows PySem.Spec PySem.Calls
namespace Mine
open PyProof.Rows.LCg (NsObj ns_obj lst lst_snoc)
noncomputable def gStmts : List Stmt := match stmtAt 2 with | .FunctionDef _ _ b _ _ _ _ _ _ _ => b | _ => []
noncomputable def gFd : FuncData := fdOf (stmtAt 2) (Str.ofString "_grouping_intervals") (.str (Str.ofString "cpy313.locale") 187) (.ref 20)
noncomputable def forPart : Stmt → PySem.Expr × PySem.Expr × List Stmt × Pos
  | .For t i b _ p => (t, i, b, p)
  | _ => default
noncomputable def ePart : Stmt → PySem.Expr × Pos × Pos
  | .Expr (.Yield (some e) yp) p => (e, yp, p)
  | _ => default
noncomputable def gFor : Stmt := gStmts.getD 1 (.Pass default)
noncomputable def gT : PySem.Expr := (forPart gFor).1
noncomputable def gI : PySem.Expr := (forPart gFor).2.1
noncomputable def gP : Pos := (forPart gFor).2.2.2
noncomputable def gB (i : Nat) : Stmt := (forPart gFor).2.2.1.getD i (.Pass default)
noncomputable def gE : PySem.Expr := (ePart (gB 2)).1
noncomputable def gYp : Pos := (ePart (gB 2)).2.1
noncomputable def gEp : Pos := (ePart (gB 2)).2.2
noncomputable def gBody : List Stmt := [gB 0, gB 1, .Expr (.Yield (some gE) gYp) gEp, gB 3]
theorem gFor_eq : gFor = .For gT gI gBody [] gP := by rfl
theorem gStmts_eq : gStmts = [gStmts.getD 0 (.Pass default), .For gT gI gBody [] gP] := by rfl
noncomputable abbrev gEnv (GL : Addr) : Env := envX (Str.ofString "_grouping_intervals") gFd.scope GL 21 (.ref 20) []
noncomputable abbrev gLoop (GL IT : Addr) : Code := .forLoop gT (.ref IT) gBody [] (gEnv GL)
theorem g_over1 (dp un : Nat) (gd : Option (List Code)) (cn : Str) (cs : Scope) (L a : Addr) (ccd : Value) (cl : List (Str × Addr)) (outer : List Env) (GL : Addr) :
    (ktrTop dp un gd cn cs L a ccd cl outer).in1.over (.func gStmts (gEnv GL)) [] = ktrTop (dp + 1) (un + 4) gd (Str.ofString "_grouping_intervals") gFd.scope GL 21 (.ref 20) [] (envX cn cs L a ccd cl :: outer) := by
  rfl
theorem g_over2 (dp un : Nat) (gd : Option (List Code)) (cn : Str) (cs : Scope) (L a : Addr) (ccd : Value) (cl : List (Str × Addr)) (outer : List Env) (GL IT : Addr) (k : Result → Sem Fin) (p : Pos) (l : List Value) :
    (ktrTop dp un gd cn cs L a ccd cl outer).in1.over (gLoop GL IT) [.ret k none false l (.func gStmts (gEnv GL)) p []] = ktrTop (dp + 1) (un + 4) gd (Str.ofString "_grouping_intervals") gFd.scope GL 21 (.ref 20) [] (envX cn cs L a ccd cl :: outer) := by
  rfl
end Mine
end
section
open PySem PySem.W PyProof.Rows PySem.Spec PySem.Calls
namespace Mine
open PyProof.Rows.LCg (NsObj ns_obj lst lst_snoc)
noncomputable def GList (l : Addr) (i : Nat) (x : Int) (t : Tok) (h : Heap) : Prop := ∃ vals, h.IsList l vals ∧ vals[i]? = some (.int x t)
noncomputable def GNs (GL : Addr) (h : Heap) : Prop := ∃ mG v, h.Ns GL mG ∧ mG (Str.ofString "interval") = some v
structure GPre (h₀ : Heap) (l GL IT : Addr) (i : Nat) (x : Int) (t : Tok) (h : Heap) : Prop where
  keep : ∀ b o, h₀.get? b = some o → h.get? b = some o
  ns : ∃ mG, h.Ns GL mG
  it : h.IsListIter IT l i
  lst : GList l i x t h
noncomputable def GDone (l GL IT : Addr) (i : Nat) (s s' : Shared) : Prop :=
  ∃ h' tk', s' = { s with heap := h', toks := tk' } ∧ (∀ b o, b ≠ GL → b ≠ IT → s.heap.get? b = some o → h'.get? b = some o) ∧ GNs GL h' ∧ h'.IsListIter IT l (i + 1)
noncomputable abbrev gAround (dp un : Nat) (gd : Option (List Code)) (GL : Addr) (outer : List Env) : Around := ktrTop dp un gd (Str.ofString "_grouping_intervals") gFd.scope GL 21 (.ref 20) [] outer
noncomputable def others (h₀ h : Heap) (GL : Addr) : Led := ioOf h ((List.range h.objs.size).filter fun b => !(b == GL) && (h₀.get? b).isNone)
theorem others_mem {h₀ h : Heap} {GL : Addr} {b : Addr} {o : Obj} (hb : b ≠ GL) (e : h.get? b = some o) (e0 : h₀.get? b = none) : (b, o) ∈ others h₀ h GL := by
  refine ioOf_mem.mpr ⟨List.mem_filter.mpr ⟨List.mem_range.mpr (Heap.lt_size e), ?_⟩, e⟩
  rw [e0]
  simp
  exact hb
theorem others_news {h₀ h : Heap} {GL : Addr} : News h₀ GL h (others h₀ h GL) := fun p hp => by
  obtain ⟨h1, h2⟩ := ioOf_mem.mp hp
  have h3 := (List.mem_filter.mp h1).2
  simp only [Bool.and_eq_true, Bool.not_eq_true', beq_eq_false_iff_ne] at h3
  refine ⟨h2, h3.1, by have := h3.2; revert this; cases h₀.get? p.1 <;> simp⟩
set_option maxHeartbeats 0 in
theorem g_turn (w : World) (mean : ExcName → Option Value) (mg mb : PySem.Str → Option Value) (dp un : Nat) (gd : Option (List Code)) (outer : List Env) (h₀ : Heap) (l GL IT : Addr) (i : Nat) (x : Int) (t : Tok) (s : Shared)
    (X : (K w.params).In h₀) (T : Top topProg lw mean mg mb h₀) (hGL : h₀.objs.size ≤ GL) (hIT : IT ≠ GL) (h0IT : h₀.get? IT = none) (hx : 1 ≤ x ∧ x ≤ 100) (P : GPre h₀ l GL IT i x t s.heap) :
    gTurn PySem.Challenge.rw_tp0040_01.row.prog w (gAround dp un gd GL outer) gT (.ref IT) (gB 0) (gB 1) gE (gEnv GL) (fun v s' => v = .int x t ∧ GDone l GL IT i s s') s := by
  revert X
  k_fill
  intro X
  refine Classical.byContradiction fun gK => ?_
  obtain ⟨kp, ⟨mG, ns⟩, it, ⟨vals, hv, hi⟩⟩ := P
  refine gK ?_
  clear gK
  refine wpAny_pyNext_list_item it hv hi fun h1 it1 hs1 => ⟨_, rfl, ?_⟩
  refine wpAny_pure ?_
  have ns1 : h1.Ns GL mG := ns.at' fun o e => hs1.extBut _ _ hIT.symm e
  refine wpAny_assign_Name (wpAny_storeName_local (by rfl) ns1 (fun h2 ns2 hs2 => ?_) (by rfl))
  have hx1 : (x == 127) = false := by simp; omega
  have hx0 : (x == 0) = false := by simp; omega
  have F2 : Fr h₀ GL h2 (fun z => if z = Str.ofString "interval" then some (.int x t) else mG z) := ⟨ns2, fun b o e => hs2.extBut b o (fun q => by rw [q, Heap.get?_none_of_le hGL] at e; cases e) (hs1.extBut b o (fun q => by rw [q, h0IT] at e; cases e) (kp b o e)), hGL⟩
  have up : ∀ b o, b ≠ GL → b ≠ IT → s.heap.get? b = some o → h2.get? b = some o := fun b o e1 e2 e => hs2.extBut b o e1 (hs1.extBut b o e2 e)
  have it2 : h2.IsListIter IT l (i + 1) := it1.at fun o e => hs2.extBut _ _ hIT e
  show wpAny _ _ (exec (Stmt.If _ _ _ _) _) _ _ _
  k_steps
  show wpAny _ _ (exec (Stmt.If _ _ _ _) _) _ _ _
  k_steps
  show wpAny _ _ (eval (PySem.Expr.Name _ _) _) _ _ _
  k_steps
  exact ⟨h2, _, rfl, up, ⟨_, _, ns2, if_pos rfl⟩, it2⟩
noncomputable def GBack (GL : Addr) (s s₁ : Shared) : Prop := ∃ h' tk', s₁ = { s with heap := h', toks := tk' } ∧ (∀ b o, b ≠ GL → s.heap.get? b = some o → h'.get? b = some o) ∧ ∃ mG, h'.Ns GL mG
theorem g_back_end {h₀ h' : Heap} {GL : Addr} {s : Shared} {m' : Nm} {ot : Led} {tk : Nat} (F' : Fr h₀ GL h' m') (N' : News h₀ GL h' ot) (kp : ∀ b o, h₀.get? b = some o → s.heap.get? b = some o) (ho : ∀ b o, b ≠ GL → h₀.get? b = none → s.heap.get? b = some o → (b, o) ∈ ot) :
    GBack GL s { s with heap := h', toks := tk } := by
  refine ⟨h', tk, rfl, fun b o e1 e => ?_, m', F'.ns⟩
  cases q : h₀.get? b with
  | none => exact (N' _ (ho b o e1 q e)).1
  | some o' =>
    have z := kp b o' q
    rw [e] at z
    cases z
    exact F'.keep b o q
set_option maxHeartbeats 0 in
theorem g_back (w : World) (mean : ExcName → Option Value) (mg mb : PySem.Str → Option Value) (dp un : Nat) (gd : Option (List Code)) (outer : List Env) (h₀ : Heap) (GL : Addr) (s : Shared)
    (X : (K w.params).In h₀) (T : Top topProg lw mean mg mb h₀) (hGL : h₀.objs.size ≤ GL) (kp : ∀ b o, h₀.get? b = some o → s.heap.get? b = some o) (G : GNs GL s.heap) :
    wpAny (model PySem.Challenge.rw_tp0040_01.row.prog w) (gAround dp un gd GL outer) (exec (gB 3) (gEnv GL)) (fun f s₁ => f = .next ∧ GBack GL s s₁) (fun _ _ => False) s := by
  revert X
  k_fill
  intro X
  refine Classical.byContradiction fun gK => ?_
  obtain ⟨mG, v, ns, hv⟩ := G
  refine gK ?_
  clear gK
  have F : Fr h₀ GL s.heap mG := ⟨ns, kp, hGL⟩
  have N : News h₀ GL s.heap (others h₀ s.heap GL) := others_news
  have ho : ∀ b o, b ≠ GL → h₀.get? b = none → s.heap.get? b = some o → (b, o) ∈ others h₀ s.heap GL := fun b o e1 e3 e => others_mem e1 e e3
  generalize others h₀ s.heap GL = ot at N ho
  show wpAny _ _ (exec (Stmt.Assign _ _ _) _) _ _ _
  have F := fixF F hv
  k_steps
  exact g_back_end (by assumption) (by assumption) kp ho
end Mine
end
section
open PySem PySem.W PyProof.Rows PySem.Spec PySem.Calls
namespace Mine
open PyProof.Rows.LCg (NsObj ns_obj lst lst_snoc)
/-- what a turn of the generator tells: the i-th size of the list -/
noncomputable def GYv (l GL IT : Addr) (i : Nat) (s₀ : Shared) (v : Value) (s' : Shared) : Prop := (∃ x t, GList l i x t s₀.heap ∧ v = .int x t) ∧ GDone l GL IT i s₀ s'
/-- when it may go on -/
structure GRes (h₀ : Heap) (l GL IT : Addr) (i : Nat) (h : Heap) : Prop where
  keep : ∀ b o, h₀.get? b = some o → h.get? b = some o
  ns : GNs GL h
  it : h.IsListIter IT l i
  lst : ∃ x t, GList l i x t h ∧ 1 ≤ x ∧ x ≤ 100
noncomputable def gY (h₀ : Heap) (l GL IT : Addr) (N : Nat) : Protocol := fun n s₀ v s' kap => GYv l GL IT (N - 1 - n) s₀ v s' ∧ (n ≠ 0 → ∀ s'', GRes h₀ l GL IT (N - n) s''.heap → kap (.send .none) s'')
section
variable (w : World) (mean : ExcName → Option Value) (mg mb : PySem.Str → Option Value) (dp un : Nat) (gd : Option (List Code)) (cn : Str) (cs : Scope) (L a : Addr) (ccd : Value) (cl : List (Str × Addr)) (outer : List Env) (h₀ : Heap) (l GL IT : Addr) (R : GenEnd)
theorem g_seg (X : (K w.params).In h₀) (T : Top topProg lw mean mg mb h₀) (hGL : h₀.objs.size ≤ GL) (hIT : IT ≠ GL) (hl : l ≠ GL) (h0IT : h₀.get? IT = none) (N : Nat) (k : Result → Sem Fin) (p : Pos) (lv : List Value) :
    ∀ n i s₀ s x t, i + n + 1 = N → (∃ h' tk', s = { s₀ with heap := h', toks := tk' } ∧ ∀ b o, b ≠ GL → b ≠ IT → s₀.heap.get? b = some o → h'.get? b = some o) → 1 ≤ x ∧ x ≤ 100 → GList l i x t s₀.heap → GPre h₀ l GL IT i x t s.heap →
      Seg (model PySem.Challenge.rw_tp0040_01.row.prog w) (ktrTop dp un gd cn cs L a ccd cl outer).in1 R (gY h₀ l GL IT N) (n + 1) s₀ (gLoop GL IT) ((model PySem.Challenge.rw_tp0040_01.row.prog w).den (gLoop GL IT)) [.ret k none false lv (.func gStmts (gEnv GL)) p []] s := by
  intro n
  induction n with
  | zero =>
    intro i s₀ s x t hN hrel hx hL hP
    refine seg_gen_turn (g_over2 ..) rfl rfl rfl rfl (fun v s' => v = .int x t ∧ GDone l GL IT i s s') (fun _ => False) (g_turn w mean mg mb _ _ _ _ h₀ l GL IT i x t s X T hGL hIT h0IT hx hP) (fun _ h => h.elim) ?_
    rintro v s' kap ⟨rfl, h1, tk1, rfl, k1, g1, i1⟩ _
    refine Classical.byContradiction fun gK => ?_
    obtain ⟨h2, tk2, rfl, k2⟩ := hrel
    refine gK ?_
    clear gK
    have e : N - 1 - 0 = i := by lia
    refine ⟨?_, fun h => absurd rfl h⟩
    rw [e]
    exact ⟨⟨x, t, hL, rfl⟩, h1, tk1, rfl, fun b o n1 n2 e => k1 b o n1 n2 (k2 b o n1 n2 e), g1, i1⟩
  | succ m ih =>
    intro i s₀ s x t hN hrel hx hL hP
    refine seg_gen_turn (g_over2 ..) rfl rfl rfl rfl (fun v s' => v = .int x t ∧ GDone l GL IT i s s') (fun s'' => GRes h₀ l GL IT (i + 1) s''.heap) (g_turn w mean mg mb _ _ _ _ h₀ l GL IT i x t s X T hGL hIT h0IT hx hP) ?_ ?_
    · intro s'' hR
      refine Classical.byContradiction fun gK => ?_
      obtain ⟨kp, ns, it, x', t', hl', hx'⟩ := hR
      refine gK ?_
      clear gK
      refine wpAny_mono (g_back w mean mg mb _ _ _ _ h₀ GL s'' X T hGL kp ns) (fun f s₁ h => ⟨h.1, ?_⟩) fun _ _ h => h
      refine Classical.byContradiction fun gK => ?_
      obtain ⟨_, h1, tk1, rfl, k1, ns1⟩ := h
      refine gK ?_
      clear gK
      refine ih (i + 1) s'' _ x' t' (by lia) ⟨h1, tk1, rfl, fun b o n1 _ e => k1 b o n1 e⟩ hx' hl' ⟨fun b o e => k1 b o (fun q => by rw [q, Heap.get?_none_of_le hGL] at e; cases e) (kp b o e), ns1, it.at fun o e => k1 _ _ hIT e, ?_⟩
      refine Classical.byContradiction fun gK => ?_
      obtain ⟨vals, ⟨o, ho, r⟩, hv⟩ := hl'
      refine gK ?_
      clear gK
      exact ⟨vals, ⟨o, k1 _ _ hl ho, r⟩, hv⟩
    · rintro v s' kap ⟨rfl, h1, tk1, rfl, k1, g1, i1⟩ hk
      refine Classical.byContradiction fun gK => ?_
      obtain ⟨h2, tk2, rfl, k2⟩ := hrel
      refine gK ?_
      clear gK
      have e : N - 1 - (m + 1) = i := by lia
      have e2 : N - (m + 1) = i + 1 := by lia
      refine ⟨?_, fun _ s'' hR => hk s'' (by rw [e2] at hR; exact hR)⟩
      rw [e]
      exact ⟨⟨x, t, hL, rfl⟩, h1, tk1, rfl, fun b o n1 n2 e => k1 b o n1 n2 (k2 b o n1 n2 e), g1, i1⟩
end
end Mine
end
section
open PySem PySem.W PyProof.Rows PySem.Spec PySem.Calls
namespace Mine
open PyProof.Rows.LCg (NsObj ns_obj lst lst_snoc)
noncomputable abbrev GEndF : GenEnd := fun n s₀ r s₁ => r = .ok (.ret .none) ∧ (fun _ _ _ => False : Nat → Shared → Shared → Prop) n s₀ s₁
section
variable (w : World) (mean : ExcName → Option Value) (mg mb : PySem.Str → Option Value) (dp un : Nat) (gd : Option (List Code)) (cn : Str) (cs : Scope) (L a : Addr) (ccd : Value) (cl : List (Str × Addr)) (outer : List Env) (h₀ : Heap) (l GL IT : Addr) (R : GenEnd)
noncomputable def GReady (N i n : Nat) (gs : GenState) : Prop := n ≠ 0 → ∀ s'', GRes h₀ l GL IT i s''.heap → gs.Goes (model PySem.Challenge.rw_tp0040_01.row.prog w) (ktrTop dp un gd cn cs L a ccd cl outer).in1 GEndF (gY h₀ l GL IT N) n (.send .none) s''
theorem g_fresh (X : (K w.params).In h₀) (T : Top topProg lw mean mg mb h₀) (hGL : h₀.objs.size ≤ GL) (hl : l ≠ GL) (N n : Nat) (hN : n + 1 = N) (s : Shared) (mG : Nm) (x : Int) (t : Tok) (vals : Array Value)
    (kp : ∀ b o, h₀.get? b = some o → s.heap.get? b = some o) (ns : s.heap.Ns GL mG) (hg : mG (Str.ofString "grouping") = some (.ref l)) (hli : s.heap.IsList l vals) (hv : vals[0]? = some (.int x t)) (hx : 1 ≤ x ∧ x ≤ 100) :
    Seg (model PySem.Challenge.rw_tp0040_01.row.prog w) (ktrTop dp un gd cn cs L a ccd cl outer).in1 R (gY h₀ l GL s.heap.objs.size N) (n + 1) s (.func gStmts (gEnv GL)) ((model PySem.Challenge.rw_tp0040_01.row.prog w).den (.func gStmts (gEnv GL))) [] s := by
  have hlt : GL < s.heap.objs.size := ns.lt
  refine seg_func ?_
  refine (show Seg _ _ _ _ _ _ _ ((execs [gStmts.getD 0 (.Pass default), .For gT gI gBody [] gP] (gEnv GL)).wrap _ _ _ _) _ _ from ?_)
  refine seg_execs_cons (seg_wrap (m := exec (gStmts.getD 0 (.Pass default)) (gEnv GL)) ?_)
  show wpAny _ _ (exec (Stmt.Assign [PySem.Expr.Name (Str.ofString "last_interval") _] (PySem.Expr.Constant .none _ _) _) _) _ _ _
  refine wpAny_Assign_Name (wpAny_Constant_none (wpAny_storeName_local (by rfl) ns (fun h1 ns1 hs1 => ?_)))
  refine seg_execs_cons (seg_For_func (fun _ => rfl) ?_)
  have hli1 : h1.IsList l vals := by
    refine Classical.byContradiction fun gK => ?_
    obtain ⟨o, ho, r⟩ := hli
    refine gK ?_
    clear gK
    exact ⟨o, hs1.extBut _ _ hl ho, r⟩
  have hg1 : (fun x => if x = Str.ofString "last_interval" then some Value.none else mG x) (Str.ofString "grouping") = some (.ref l) := by
    dsimp only
    rw [if_neg (by decide)]
    exact hg
  show wpAny _ _ (eval (PySem.Expr.Name (Str.ofString "grouping") _) _) _ _ _
  refine wpAny_Name (wpAny_loadName_local (by rfl) (by rfl) ns1 hg1 ?_) (by decide)
  refine wpAny_pyIter_list hli1 (fun k p => ?_)
  have hsz : h1.objs.size = s.heap.objs.size := hs1.1
  dsimp only
  rw [hsz]
  have kp1 : ∀ b o, b ≠ GL → s.heap.get? b = some o → (h1.push { cls := .type "list_iterator", data := .fields #[.ref l, .int 0 0] }).get? b = some o := fun b o e1 e => Heap.get?_push_of_some _ (hs1.extBut b o e1 e)
  refine g_seg w mean mg mb dp un gd cn cs L a ccd cl outer h₀ l GL s.heap.objs.size R X T hGL (Nat.ne_of_gt hlt) hl ?_ N k p _ n 0 s _ x t (by lia) ⟨_, _, rfl, fun b o e1 _ e => kp1 b o e1 e⟩ hx ⟨vals, hli, hv⟩ ⟨fun b o e => kp1 b o (fun q => by rw [q, Heap.get?_none_of_le hGL] at e; cases e) (kp b o e), ⟨_, ns1.at' fun o e => Heap.get?_push_of_some _ e⟩, ?_, vals, ?_, hv⟩
  · exact Heap.get?_none_of_le (Nat.le_trans hGL (Nat.le_of_lt hlt))
  · refine ⟨_, by rw [← hsz]; exact Heap.get?_push_size _ rfl, rfl, rfl⟩
  · exact hli1.push _
theorem bare_set {s : Shared} {g : Nat} {x : GenState} (h : AllBare s.gens) (hx : x.bare = true) : AllBare (s.setGen g x).gens := fun y hy => by
  have hy : y ∈ s.gens.setIfInBounds g x := hy
  rcases Array.mem_or_eq_of_mem_setIfInBounds hy with e | e
  · exact h y e
  · rw [e]; exact hx
theorem pyNext_bare {prog : Program} {w : World} {A : Around} {E : Value → Shared → Prop} {s : Shared} {a : Addr} {g n : Nat} {gs : GenState} {Y : Protocol} {Q : Option Value → Shared → Prop}
    (hl : s.heap.NoLimit) (hroom : A.depth < recursionLimit) (hg : s.heap.IsGen a g) (hgs : s.gens[g]? = some gs)
    (hgo : gs.Goes (model prog w) A.in1 GEndF Y n (.send .none) (s.setGen g .running))
    (hY : ∀ v s₁ gs', gs'.bare = true → Y (n - 1) (s.setGen g .running) v s₁ (fun r' s'' => match n with
        | 0 => False
        | m + 1 => gs'.Goes (model prog w) A.in1 GEndF Y m r' s'') → Q (some v) (s₁.setGen g gs')) :
    wpAny (model prog w) A (pyNext (.ref a)) Q E s := by
  unfold pyNext
  refine wpAny_bind (wpAny_attempt (wpAny_callSpecial?_slot (name := Str.ofString "__next__") hg.typeIs slot_gen_next
    (wpAny_call_entry slot_gen_next hg.typeIs entry_gen_next ?_ (args_gen_next _))))
  show wpAny _ _ (Builtin.Generator.genWake (.ref a) (.send .none)) _ _ s
  unfold Builtin.Generator.genWake
  refine wpAny_bind (wpAny_holding (wpAny_genNumber hg (wpAny_bind (wpAny_genState hgs ?_))))
  cases gs with
  | running => exact hgo.elim
  | finished => exact hgo.elim
  | _ =>
    refine wpAny_bind (wpAny_roomToWake hl hroom ?_)
    show wpAny _ _ (.resume g (.send .none) [] _) _ _ s
    refine wpAny_resumeQ hgs hgo (fun x s₁ hx => hx.2.elim) (fun v s₁ gs' hb hv => ?_)
    exact wpAny_pure ⟨v, rfl, wpAny_pure (hY v s₁ gs' hb hv)⟩
theorem list_fun {h : Heap} {l : Addr} {v1 v2 : Array Value} (h1 : h.IsList l v1) (h2 : h.IsList l v2) : v1 = v2 := by
  refine Classical.byContradiction fun gK => ?_
  obtain ⟨o1, e1, _, n1, d1⟩ := h1
  obtain ⟨o2, e2, _, n2, d2⟩ := h2
  refine gK ?_
  clear gK
  rw [e1] at e2
  cases e2
  rw [d1] at d2
  cases d2
  rfl
theorem g_step {Q : Option Value → Shared → Prop} {E : Value → Shared → Prop} (T : Top topProg lw mean mg mb h₀) (N i n : Nat) (hN : i + n + 1 = N) (s : Shared) (kp : ∀ b o, h₀.get? b = some o → s.heap.get? b = some o) (hroom : dp < recursionLimit) (G : Addr) (g : Nat) (gs : GenState) (x : Int) (t : Tok)
    (hG : s.heap.IsGen G g) (hgs : s.gens[g]? = some gs) (hl : GList l i x t s.heap)
    (hgo : gs.Goes (model PySem.Challenge.rw_tp0040_01.row.prog w) (ktrTop dp un gd cn cs L a ccd cl outer).in1 GEndF (gY h₀ l GL IT N) (n + 1) (.send .none) (s.setGen g .running))
    (h : ∀ h' tk' gens' gs', (AllBare s.gens → AllBare gens') → gens'[g]? = some gs' → GReady w dp un gd cn cs L a ccd cl outer h₀ l GL IT N (i + 1) n gs' → (∀ b o, b ≠ GL → b ≠ IT → s.heap.get? b = some o → h'.get? b = some o) → GNs GL h' → h'.IsListIter IT l (i + 1) →
      Q (some (.int x t)) { s with heap := h', toks := tk', gens := gens' }) :
    wpAny (model PySem.Challenge.rw_tp0040_01.row.prog w) (ktrTop dp un gd cn cs L a ccd cl outer) (pyNext (.ref G)) Q E s := by
  refine pyNext_bare (n := n + 1) (T.nolimit.keeps kp) hroom hG hgs hgo (fun v s₁ gs' hbr hy => ?_)
  refine Classical.byContradiction fun gK => ?_
  obtain ⟨⟨⟨x', t', hl', rfl⟩, h1, tk1, e1, k1, g1, i1⟩, hres⟩ := hy
  refine gK ?_
  clear gK
  have ei : N - 1 - (n + 1 - 1) = i := by lia
  have en : N - (n + 1 - 1) = i + 1 := by lia
  rw [ei] at hl' i1
  rw [en] at hres
  refine Classical.byContradiction fun gK => ?_
  obtain ⟨v1, hv1, e⟩ := hl
  obtain ⟨v2, hv2, e'⟩ := hl'
  refine gK ?_
  clear gK
  have hv2 : s.heap.IsList l v2 := hv2
  obtain rfl := list_fun hv1 hv2
  rw [e] at e'
  cases e'
  subst e1
  exact h h1 tk1 _ gs' (fun hb => bare_set (s := s.setGen g .running) (bare_set hb rfl) hbr) (setGen_self (s := s.setGen g .running) (setGen_self hgs)) (fun hn s'' hR => hres hn s'' hR) k1 g1 i1
end
end Mine
end
section
open PySem PySem.W PyProof.Rows PySem.Spec PySem.Calls
namespace Mine
open PyProof.Rows.LCg (NsObj ns_obj lst lst_snoc)
noncomputable def GenObj (o : Obj) (g : Nat) : Prop := o.cls = .type "generator" ∧ (∃ nm qn, o.data = .fields #[.int g 0, nm, qn]) ∧ o.slots = #[]
theorem GenObj.is {o : Obj} {g : Nat} {h : Heap} {G : Addr} (x : GenObj o g) (e : h.get? G = some o) : h.IsGen G g := by
  refine Classical.byContradiction fun gK => ?_
  obtain ⟨c, ⟨nm, qn, d⟩, sl⟩ := x
  refine gK ?_
  clear gK
  exact ⟨o, nm, qn, e, c, d, sl⟩
section
variable (w : World) (mean : ExcName → Option Value) (mg mb : PySem.Str → Option Value) (dp un : Nat) (gd : Option (List Code)) (cn : Str) (cs : Scope) (L a : Addr) (ccd : Value) (cl : List (Str × Addr)) (outer : List Env) (h₀ : Heap)
theorem g_call {Q E : Value → Shared → Prop} {s : Shared} {m : Nm} {news : Led} (X : (K w.params).In h₀) (T : Top topProg lw mean mg mb h₀) (F : Fr h₀ L s.heap m) (N : News h₀ L s.heap news) (l : Addr) (hroom : dp < recursionLimit)
    (h : ∀ G GL oG oGL h' tk', Fr h₀ L h' m → News h₀ L h' ((G, oG) :: (GL, oGL) :: news) → NsObj oGL (fun y => [(Str.ofString "grouping", Value.ref l)].lookup y) → (∀ p ∈ news, p.1 ≠ G ∧ p.1 ≠ GL) → @Ne Nat G GL → @LT.lt Nat _ L GL → GenObj oG s.gens.size →
      Q (.ref G) { s with heap := h', toks := tk', gens := s.gens.push (.fresh (.func gStmts (gEnv GL))) }) :
    wpAny (model PySem.Challenge.rw_tp0040_01.row.prog w) (ktrTop dp un gd cn cs L a ccd cl outer) (call (.ref 21) [.ref l]) Q E s := by
  have X' := X.keeps F.keep
  refine wpAny_call ?_
  refine codeAny_call_generator (fd := gFd) (body := gStmts) hroom (X' 21 _ (by rfl)) (by rfl) (by rfl) (by rfl) (by rfl) (codeRec_of X' (by rfl)) ?_
  refine (BindsTo.of_eq (binds := [(Str.ofString "grouping", Value.ref l)]) (by rfl)) _ _ _ _ ?_
  refine wpAny_newFunctionEnv (by decide) (fun x hx => by rw [List.mem_singleton.mp hx]; rfl) (fun h1 hns hsb => ?_) (by rfl)
  have hlim := T.nolimit.keeps F.keep
  refine ⟨hlim.fresh _ hsb, ?_⟩
  refine Classical.byContradiction fun gK => ?_
  obtain ⟨oGL, eGL, nGL⟩ := ns_obj hns
  refine gK ?_
  clear gK
  have keep : ∀ b o, s.heap.get? b = some o → h1.get? b = some o := fun b o e => hsb.extBut b o (Nat.ne_of_lt (Heap.lt_size e)) (Heap.get?_push_of_some _ e)
  have hs1 : h1.objs.size = s.heap.objs.size + 1 := by rw [hsb.1, Heap.size_push]
  have up : ∀ q b o, s.heap.get? b = some o → (h1.push q).get? b = some o := fun q b o e => Heap.get?_push_of_some _ (keep b o e)
  have hz : h₀.objs.size ≤ s.heap.objs.size := Nat.le_trans F.above (Nat.le_of_lt F.ns.lt)
  refine h h1.objs.size s.heap.objs.size { cls := .type "generator", data := .fields #[.int s.gens.size 0, .str gFd.name (s.toks + 1), .str gFd.qualname (s.toks + 1 + 1)] } oGL _ _ ⟨F.ns.at' fun o e => up _ _ o e, fun b o e => up _ b o (F.keep b o e), F.above⟩ (fun p hp => ?_) (by simpa using nGL) (fun p hp => ?_) (by rw [hs1]; exact Nat.succ_ne_self _) F.ns.lt ⟨rfl, ⟨_, _, rfl⟩, rfl⟩
  · rcases List.mem_cons.mp hp with rfl | hp
    · exact ⟨Heap.get?_push_size _ rfl, by rw [hs1]; exact Nat.ne_of_gt (Nat.lt_succ_of_lt F.ns.lt), Heap.get?_none_of_le (by rw [hs1]; exact Nat.le_succ_of_le hz)⟩
    rcases List.mem_cons.mp hp with rfl | hp
    · exact ⟨Heap.get?_push_of_some _ eGL, Nat.ne_of_gt F.ns.lt, Heap.get?_none_of_le hz⟩
    · have z := N p hp
      exact ⟨up _ _ _ z.1, z.2⟩
  · have z := Heap.lt_size (N p hp).1
    exact ⟨by rw [hs1]; exact Nat.ne_of_lt (Nat.lt_succ_of_lt z), Nat.ne_of_lt z⟩
end
end Mine
end
section
open PySem PySem.W PyProof.Rows PySem.Spec PySem.Calls
namespace Mine
open PyProof.Rows.LCg (NsObj ns_obj lst lst_snoc)
noncomputable def GenLeft (h₀ : Heap) (L : Addr) (s : Shared) (rest : Led) (Lv : Addr → Prop) (inv : Nm → Led → Prop) (s' : Shared) : Prop :=
  ∃ h' tk' m' live', s' = { s with heap := h', toks := tk' } ∧ Fr h₀ L h' m' ∧ News h₀ L h' (live' ++ rest) ∧ inv m' live' ∧ ∀ p ∈ live', Lv p.1
theorem GenLeft.intro {h₀ : Heap} {L : Addr} {s : Shared} {rest all : Led} {Lv : Addr → Prop} {inv : Nm → Led → Prop} {h' : Heap} {tk' : Nat} {m' : Nm} (live' : Led) (F : Fr h₀ L h' m') (N : News h₀ L h' all) (hs : ∀ p ∈ live' ++ rest, p ∈ all) (hi : inv m' live') (hl : ∀ p ∈ live', Lv p.1) :
    GenLeft h₀ L s rest Lv inv { s with heap := h', toks := tk' } := ⟨h', tk', m', live', rfl, F, fun p hp => N p (hs p hp), hi, hl⟩
section
variable (w : World) (mean : ExcName → Option Value) (mg mb : PySem.Str → Option Value) (dp un : Nat) (gd : Option (List Code)) (cn : Str) (cs : Scope) (L a : Addr) (ccd : Value) (cl : List (Str × Addr)) (outer : List Env) (h₀ : Heap)
theorem ns_of_obj {o : Obj} {m : Nm} {h : Heap} {L : Addr} (x : NsObj o m) (e : h.get? L = some o) : h.Ns L m := by
  refine Classical.byContradiction fun gK => ?_
  obtain ⟨es, ep, a, b, c⟩ := x
  refine gK ?_
  clear gK
  exact ⟨o, es, ep, e, a, b, c⟩
theorem for_gen {v : Str} {pv : Pos} {body : List Stmt} {Q : Flow → Shared → Prop} {E : Value → Shared → Prop} {s₁ : Shared} {m₀ : Nm} {G GL l : Addr} {oG oGL : Obj} {g N : Nat} {live₀ frozen : Led}
    (Inv : Nat → Nm → Led → Prop) (RetI : Value → Nm → Led → Prop) (Lv : Addr → Prop)
    (X : (K w.params).In h₀) (T : Top topProg lw mean mg mb h₀) (hroom : dp < recursionLimit) (hv : okN v (envX cn cs L a ccd cl))
    (F : Fr h₀ L s₁.heap m₀) (Nw : News h₀ L s₁.heap (live₀ ++ (G, oG) :: (GL, oGL) :: frozen)) (hG : GenObj oG g) (hNs : NsObj oGL (fun y => [(Str.ofString "grouping", Value.ref l)].lookup y)) (hGGL : @Ne Nat G GL) (hLGL : @LT.lt Nat _ L GL)
    (hgs : s₁.gens[g]? = some (.fresh (.func gStmts (gEnv GL)))) (hlv : ∀ p ∈ live₀, Lv p.1) (hLv : ∀ a, Lv a → a < s₁.heap.objs.size ∧ a ≠ GL) (hll : Lv l) (hfz : ∀ p ∈ frozen, p.1 ≠ GL) (hN : 0 < N) (hinv : Inv 0 m₀ live₀)
    (hval : ∀ i m live, i < N → Inv i m live → ∃ vals k x t, (l, W.listOf vals k) ∈ live ∧ vals[i]? = some (.int x t) ∧ 1 ≤ x ∧ x ≤ 100)
    (turn : ∀ i m live h tk gens rest x t (E' : Value → Shared → Prop), i < N → Inv i m live → (∃ vals k, (l, W.listOf vals k) ∈ live ∧ vals[i]? = some (.int x t)) → Fr h₀ L h (setN m v (.int x t)) → News h₀ L h (live ++ rest) → (∀ p ∈ rest, ¬ Lv p.1) → (∀ p ∈ frozen, p ∈ rest) →
      wpAny (model PySem.Challenge.rw_tp0040_01.row.prog w) (ktrTop dp un gd cn cs L a ccd cl outer) (execs body (envX cn cs L a ccd cl)) (fun f s₃ => match f with
        | .next | .cont => i + 1 < N ∧ GenLeft h₀ L { s₁ with gens := gens } rest Lv (Inv (i + 1)) s₃
        | .brk => False
        | .ret v => GenLeft h₀ L { s₁ with gens := gens } rest Lv (RetI v) s₃) E' { s₁ with heap := h, toks := tk, gens := gens })
    (hfzL : ∀ p ∈ frozen, ¬ Lv p.1) (hGL' : ¬ Lv G)
    (rtn : ∀ h tk gens m live v, (AllBare s₁.gens → AllBare gens) → RetI v m live → Fr h₀ L h m → News h₀ L h (live ++ frozen) → Q (.ret v) { s₁ with heap := h, toks := tk, gens := gens }) :
    AfterFor PySem.Challenge.rw_tp0040_01.row.prog w (ktrTop dp un gd cn cs L a ccd cl outer) (envX cn cs L a ccd cl) (.Name v pv) body Q E (.ref G) s₁ := by
  have nG := Nw (G, oG) (List.mem_append_right _ List.mem_cons_self)
  have nGL := Nw (GL, oGL) (List.mem_append_right _ (List.mem_cons_of_mem _ List.mem_cons_self))
  have hGLlt : GL < s₁.heap.objs.size := Heap.lt_size nGL.1
  have hGlt : G < s₁.heap.objs.size := Heap.lt_size nG.1
  have hh0 : h₀.objs.size ≤ s₁.heap.objs.size := Nat.le_trans F.above (Nat.le_of_lt F.ns.lt)
  have hGLh : h₀.objs.size ≤ GL := Nat.le_trans F.above (Nat.le_of_lt hLGL)
  unfold AfterFor
  refine wpAny_pyIter_gen (hG.is nG.1) ?_
  generalize hIT : s₁.heap.objs.size = IT at hLv hGLlt hGlt hh0
  have hITn : h₀.get? IT = none := Heap.get?_none_of_le hh0
  have hLIT : L ≠ IT := by rw [← hIT]; exact Nat.ne_of_lt F.ns.lt
  have hGLIT : GL ≠ IT := Nat.ne_of_lt hGLlt
  have hGIT : G ≠ IT := Nat.ne_of_lt hGlt
  have hLGLn : L ≠ GL := Nat.ne_of_lt hLGL
  have hfIT : ∀ p ∈ frozen, p.1 ≠ IT := fun p hp => by
    have := Heap.lt_size (Nw p (List.mem_append_right _ (List.mem_cons_of_mem _ (List.mem_cons_of_mem _ hp)))).1
    rw [hIT] at this
    exact Nat.ne_of_lt this
  have hlIT := hLv l hll
  have fix : ∀ {b o} {m : Nm} {h h2 : Heap}, Heap.SameBut L h h2 → b ≠ L → h.get? b = some o → h2.get? b = some o := fun hs n e => hs.extBut _ _ n e
  have after : ∀ i n m live h' tk' gens' gs' oGL' oIT' x t (E₁ E₂ E₃ : Value → Shared → Prop) (R : Flow → Shared → Prop), i + n + 1 = N → Inv i m live → (∃ vals k, (l, W.listOf vals k) ∈ live ∧ vals[i]? = some (.int x t)) → (∀ p ∈ live, Lv p.1) →
      Fr h₀ L h' m → News h₀ L h' (live ++ (G, oG) :: (GL, oGL') :: (IT, oIT') :: frozen) → (AllBare s₁.gens → AllBare gens') → gens'[g]? = some gs' → GReady w dp un gd cn cs L a ccd cl outer h₀ l GL IT N (i + 1) n gs' → GNs GL h' → h'.IsListIter IT l (i + 1) →
      (∀ f s₃, (match f with
        | .next | .cont => i + 1 < N ∧ ∃ h tk gens gs m live oGL oIT, s₃ = { s₁ with heap := h, toks := tk, gens := gens } ∧ Inv (i + 1) m live ∧ (∀ p ∈ live, Lv p.1) ∧ Fr h₀ L h m ∧ News h₀ L h (live ++ (G, oG) :: (GL, oGL) :: (IT, oIT) :: frozen) ∧
            (AllBare s₁.gens → AllBare gens) ∧ gens[g]? = some gs ∧ GReady w dp un gd cn cs L a ccd cl outer h₀ l GL IT N (i + 1) n gs ∧ GNs GL h ∧ h.IsListIter IT l (i + 1)
        | .brk => False
        | .ret v => ∃ h tk gens m live, s₃ = { s₁ with heap := h, toks := tk, gens := gens } ∧ (AllBare s₁.gens → AllBare gens) ∧ RetI v m live ∧ Fr h₀ L h m ∧ News h₀ L h (live ++ frozen)) → R f s₃) →
      wpAny (model PySem.Challenge.rw_tp0040_01.row.prog w) (ktrTop dp un gd cn cs L a ccd cl outer) (letOwnedTupleGo (.Name v pv) (.ref G) (.int x t)) (fun _ s₂ =>
        wpAny (model PySem.Challenge.rw_tp0040_01.row.prog w) (ktrTop dp un gd cn cs L a ccd cl outer) (assign (.Name v pv) (envX cn cs L a ccd cl) (.int x t)) (fun _ s₃ =>
          wpAny (model PySem.Challenge.rw_tp0040_01.row.prog w) (ktrTop dp un gd cn cs L a ccd cl outer) (execs body (envX cn cs L a ccd cl)) R E₃ s₃) E₂ s₂) E₁ { s₁ with heap := h', toks := tk', gens := gens' } := by
    intro i n m live h' tk' gens' gs' oGL' oIT' x t E₁ E₂ E₃ R hin hI hvals hlive F' N' hbr hg' hR' hns' hit' hfin
    refine wpAny_pure ?_
    refine wpAny_assign_Name (wpAny_storeName_local hv.1 F'.ns (fun h2 ns2 hs2 => ?_) hv.2)
    have F2 : Fr h₀ L h2 (setN m v (.int x t)) := ⟨ns2, fun b o e => hs2.extBut b o (fun q => by rw [q, Heap.get?_none_of_le F.above] at e; cases e) (F'.keep b o e), F.above⟩
    have N2 : News h₀ L h2 (live ++ (G, oG) :: (GL, oGL') :: (IT, oIT') :: frozen) := fun p hp => by
      have z := N' p hp
      exact ⟨hs2.extBut _ _ z.2.1 z.1, z.2⟩
    refine wpAny_mono (turn i m live h2 _ gens' ((G, oG) :: (GL, oGL') :: (IT, oIT') :: frozen) x t E₃ (by lia) hI hvals F2 N2 (fun p hp => ?_) (fun p hp => List.mem_cons_of_mem _ (List.mem_cons_of_mem _ (List.mem_cons_of_mem _ hp)))) (fun f s₃ h₃ => hfin f s₃ ?_) fun _ _ e => e
    · rcases List.mem_cons.mp hp with rfl | hp
      · exact hGL'
      rcases List.mem_cons.mp hp with rfl | hp
      · exact fun h => (hLv _ h).2 rfl
      rcases List.mem_cons.mp hp with rfl | hp
      · exact fun h => Nat.lt_irrefl _ (hLv _ h).1
      · exact hfzL p hp
    have eGL' := (N' (GL, oGL') (List.mem_append_right _ (List.mem_cons_of_mem _ List.mem_cons_self))).1
    have eIT' := (N' (IT, oIT') (List.mem_append_right _ (List.mem_cons_of_mem _ (List.mem_cons_of_mem _ List.mem_cons_self)))).1
    have more : GenLeft h₀ L { s₁ with gens := gens' } ((G, oG) :: (GL, oGL') :: (IT, oIT') :: frozen) Lv (Inv (i + 1)) s₃ → ∃ h tk gens gs m live oGL oIT, s₃ = { s₁ with heap := h, toks := tk, gens := gens } ∧ Inv (i + 1) m live ∧ (∀ p ∈ live, Lv p.1) ∧ Fr h₀ L h m ∧ News h₀ L h (live ++ (G, oG) :: (GL, oGL) :: (IT, oIT) :: frozen) ∧
            (AllBare s₁.gens → AllBare gens) ∧ gens[g]? = some gs ∧ GReady w dp un gd cn cs L a ccd cl outer h₀ l GL IT N (i + 1) n gs ∧ GNs GL h ∧ h.IsListIter IT l (i + 1) := by
      rintro ⟨h3, tk3, m3, live3, rfl, F3, N3, i3, l3⟩
      refine ⟨h3, tk3, gens', gs', m3, live3, oGL', oIT', rfl, i3, l3, F3, N3, hbr, hg', hR', ?_, ?_⟩
      · refine Classical.byContradiction fun gK => ?_
        obtain ⟨mG, vG, nsG, hvG⟩ := hns'
        refine gK ?_
        clear gK
        refine ⟨mG, vG, nsG.at' fun o e => ?_, hvG⟩
        rw [eGL'] at e
        cases e
        exact (N3 (GL, oGL') (List.mem_append_right _ (List.mem_cons_of_mem _ List.mem_cons_self))).1
      · refine hit'.at fun o e => ?_
        rw [eIT'] at e
        cases e
        exact (N3 (IT, oIT') (List.mem_append_right _ (List.mem_cons_of_mem _ (List.mem_cons_of_mem _ List.mem_cons_self)))).1
    cases f with
    | next => exact ⟨h₃.1, more h₃.2⟩
    | cont => exact ⟨h₃.1, more h₃.2⟩
    | brk => exact h₃
    | ret v =>
      refine Classical.byContradiction fun gK => ?_
      obtain ⟨h3, tk3, m3, live3, rfl, F3, N3, i3, l3⟩ := h₃
      refine gK ?_
      clear gK
      refine ⟨h3, tk3, gens', m3, live3, rfl, hbr, i3, F3, fun p hp => N3 p ?_⟩
      rcases List.mem_append.mp hp with hp | hp
      · exact List.mem_append_left _ hp
      · exact List.mem_append_right _ (List.mem_cons_of_mem _ (List.mem_cons_of_mem _ (List.mem_cons_of_mem _ hp)))
  -- the ledger over a turn of the generator
  have move : ∀ live h h' (m : Nm) oGL oX, (∀ p ∈ live, Lv p.1) → Fr h₀ L h m → News h₀ L h (live ++ (G, oG) :: oX ++ frozen) → (∀ b o, b ≠ GL → b ≠ IT → h.get? b = some o → h'.get? b = some o) → (∀ p ∈ oX, p.1 = GL ∨ p.1 = IT) →
      GNs GL h' → h'.IsListIter IT l oGL → ∃ oGL' oIT', Fr h₀ L h' m ∧ News h₀ L h' (live ++ (G, oG) :: (GL, oGL') :: (IT, oIT') :: frozen) := by
    intro live h h' m j oX hlive F1 N1 hk _ hns hit
    refine Classical.byContradiction fun gK => ?_
    obtain ⟨mG, vG, nsG, _⟩ := hns
    obtain ⟨oGL', eGL', _⟩ := ns_obj nsG
    obtain ⟨oIT', eIT', _⟩ := hit
    refine gK ?_
    clear gK
    refine ⟨oGL', oIT', ⟨F1.ns.at' fun o e => hk L o hLGLn hLIT e, fun b o e => hk b o (fun q => by rw [q, Heap.get?_none_of_le hGLh] at e; cases e) (fun q => by rw [q, hITn] at e; cases e) (F1.keep b o e), F1.above⟩, fun p hp => ?_⟩
    rcases List.mem_append.mp hp with hp | hp
    · have z := N1 p (by simp [hp])
      have y := hLv _ (hlive p hp)
      exact ⟨hk _ _ y.2 (Nat.ne_of_lt y.1) z.1, z.2⟩
    rcases List.mem_cons.mp hp with rfl | hp
    · have z := N1 (G, oG) (by simp)
      exact ⟨hk _ _ hGGL hGIT z.1, z.2⟩
    rcases List.mem_cons.mp hp with rfl | hp
    · exact ⟨eGL', hLGLn.symm, nGL.2.2⟩
    rcases List.mem_cons.mp hp with rfl | hp
    · exact ⟨eIT', hLIT.symm, hITn⟩
    · have z := N1 p (by simp [hp])
      exact ⟨hk _ _ (hfz p hp) (hfIT p hp) z.1, z.2⟩
  refine codeAny_forLoop_any (fun n s' => (n = N ∧ s' = s₁) ∨ ∃ i, i + n = N ∧ i < N ∧ ∃ h tk gens gs m live oGL oIT, s' = { s₁ with heap := h, toks := tk, gens := gens } ∧ Inv i m live ∧ (∀ p ∈ live, Lv p.1) ∧ Fr h₀ L h m ∧ News h₀ L h (live ++ (G, oG) :: (GL, oGL) :: (IT, oIT) :: frozen) ∧
            (AllBare s₁.gens → AllBare gens) ∧ gens[g]? = some gs ∧ GReady w dp un gd cn cs L a ccd cl outer h₀ l GL IT N i n gs ∧ GNs GL h ∧ h.IsListIter IT l i) (fun n s' hI => ?_) N (.inl ⟨rfl, rfl⟩)
  rcases hI with ⟨rfl, rfl⟩ | ⟨i, hin, hiN, h, tk, gens, gs, m, live, oGL1, oIT1, rfl, hI, hlive, F1, N1, hbr1, hg1, hR1, hns1, hit1⟩
  · refine Classical.byContradiction fun gK => ?_
    obtain ⟨vals, k, x, t, hm, hx, hxb⟩ := hval 0 m₀ live₀ hN hinv
    obtain ⟨n', rfl⟩ : ∃ n', n = n' + 1 := ⟨n - 1, by lia⟩
    refine gK ?_
    clear gK
    have hli : s'.heap.IsList l vals := ⟨_, (Nw _ (List.mem_append_left _ hm)).1, rfl, _, rfl⟩
    refine g_step w mean mg mb dp un gd cn cs L a ccd cl outer h₀ l GL IT T (n' + 1) 0 n' (by lia) s' F.keep hroom G g _ x t (hG.is nG.1) hgs ⟨vals, hli, hx⟩ ⟨rfl, ?_⟩ (fun h' tk' gens' gs' hbr hg' hR' hk' hns' hit' => ?_)
    · have z := g_fresh w mean mg mb dp un gd cn cs L a ccd cl outer h₀ l GL GEndF X T hGLh (hLv l hll).2 (n' + 1) n' rfl (s'.setGen g .running) _ x t vals F.keep (ns_of_obj hNs nGL.1) (by rfl) hli hx hxb
      rw [show (s'.setGen g .running).heap.objs.size = IT from hIT] at z
      exact z
    · refine Classical.byContradiction fun gK => ?_
      obtain ⟨oGL', oIT', F', N'⟩ := move live₀ s'.heap h' m₀ 1 [(GL, oGL)] hlv F (by simpa using Nw) hk' (fun p hp => by rw [List.mem_singleton.mp hp]; exact .inl rfl) hns' hit'
      refine gK ?_
      clear gK
      refine after 0 n' m₀ live₀ h' tk' gens' gs' oGL' oIT' x t _ _ _ _ (by lia) hinv ⟨vals, k, hm, hx⟩ hlv F' N' hbr hg' hR' hns' hit' (fun f s₃ h₃ => ?_)
      cases f with
      | next => exact ⟨n', Nat.lt_succ_self _, .inr ⟨1, by lia, h₃.1, h₃.2⟩⟩
      | cont => exact ⟨n', Nat.lt_succ_self _, .inr ⟨1, by lia, h₃.1, h₃.2⟩⟩
      | brk => exact h₃.elim
      | ret v =>
        refine Classical.byContradiction fun gK => ?_
        obtain ⟨h3, tk3, g3, m3, live3, rfl, b3, i3, F3, N3⟩ := h₃
        refine gK ?_
        clear gK
        exact rtn h3 tk3 g3 m3 live3 v b3 i3 F3 N3
  · refine Classical.byContradiction fun gK => ?_
    obtain ⟨vals, k, x, t, hm, hx, hxb⟩ := hval i m live hiN hI
    obtain ⟨n', rfl⟩ : ∃ n', n = n' + 1 := ⟨n - 1, by lia⟩
    refine gK ?_
    clear gK
    have hli : h.IsList l vals := ⟨_, (N1 _ (List.mem_append_left _ hm)).1, rfl, _, rfl⟩
    refine g_step w mean mg mb dp un gd cn cs L a ccd cl outer h₀ l GL IT T N i n' (by lia) { s₁ with heap := h, toks := tk, gens := gens } F1.keep hroom G g gs x t (hG.is (N1 (G, oG) (by simp)).1) hg1 ⟨vals, hli, hx⟩ (hR1 (Nat.succ_ne_zero _) _ ⟨F1.keep, hns1, hit1, x, t, ⟨vals, hli, hx⟩, hxb⟩) (fun h' tk' gens' gs' hbr hg' hR' hk' hns' hit' => ?_)
    refine Classical.byContradiction fun gK => ?_
    obtain ⟨oGL', oIT', F', N'⟩ := move live h h' m (i + 1) [(GL, oGL1), (IT, oIT1)] hlive F1 (by simpa using N1) hk' (fun p hp => by
      rcases List.mem_cons.mp hp with rfl | hp
      · exact .inl rfl
      · rw [List.mem_singleton.mp hp]; exact .inr rfl) hns' hit'
    refine gK ?_
    clear gK
    refine after i n' m live h' tk' gens' gs' oGL' oIT' x t _ _ _ _ (by lia) hI ⟨vals, k, hm, hx⟩ hlive F' N' (fun hb => hbr (hbr1 hb)) hg' hR' hns' hit' (fun f s₃ h₃ => ?_)
    cases f with
    | next => exact ⟨n', Nat.lt_succ_self _, .inr ⟨i + 1, by lia, h₃.1, h₃.2⟩⟩
    | cont => exact ⟨n', Nat.lt_succ_self _, .inr ⟨i + 1, by lia, h₃.1, h₃.2⟩⟩
    | brk => exact h₃.elim
    | ret v =>
      refine Classical.byContradiction fun gK => ?_
      obtain ⟨h3, tk3, g3, m3, live3, rfl, b3, i3, F3, N3⟩ := h₃
      refine gK ?_
      clear gK
      exact rtn h3 tk3 g3 m3 live3 v b3 i3 F3 N3
end
end Mine
end
section
open PySem PySem.W PyProof.Rows PySem.Spec PySem.Calls
namespace Mine
open PyProof.Rows.LCg (NsObj ns_obj lst lst_snoc)
noncomputable abbrev CG (w : World) (mean : ExcName → Option Value) (mg mb : PySem.Str → Option Value) (f : Addr) (news : Led) (vs : List Value) (Fin : Value → Led → Prop) : Prop :=
  ∀ (dp un : Nat) (gd : Option (List Code)) (cn : Str) (cs : Scope) (a : Addr) (ccd : Value) (cl : List (Str × Addr)) (outer : List Env) (A₀ : Around) (base h₀ : Heap) (L : Addr) (m : Str → Option Value) (s : Shared) (Q E : Value → Shared → Prop),
    Below A₀ base outer h₀ → Fr h₀ L s.heap m → (K w.params).In h₀ → News h₀ L s.heap news → Top topProg lw mean mg mb h₀ → cs.kind = .function → dp + 60 < recursionLimit → un + 300 < cLine →
    (∀ v news' h' tk' gens', (AllBare s.gens → AllBare gens') → Fin v news' → Fr h₀ L h' m → News h₀ L h' news' → Q v { s with heap := h', toks := tk', gens := gens' }) →
      wpAny (model PySem.Challenge.rw_tp0040_01.row.prog w) (ktrTop dp un gd cn cs L a ccd cl outer) (call (.ref f) vs) Q E s
section
variable {prog : Program} {w : World} {A : Around} {E : Value → Shared → Prop} {env : Env} {h₀ : Heap} {L : Addr} {mL : Nm}
theorem comp_src0a {elt target iter : Expr} {ifs : List Expr} {scope : Scope} {cl : List (Str × Addr)} {pos : Pos} {y : Str} {py : Pos} {Q : Value → Shared → Prop} {s₁ : Shared} {x : Value} {okE : Env → Prop} {n : Nat} {B : Nat → Nm → Nm → Prop} {dep : List Addr}
    (frozen : Led) (Inv : Nat → List Value → Prop) (hy : okN y env) (hLe : env.locals = L)
    (S : Source prog w A target okE n B dep s₁.heap.objs.size s₁ x) (hok : ∀ C, okE (compEnvC scope cl C env)) (hsz : n ≤ sizeLine)
    (hcell : ∀ y ∈ scope.names, y.2 ≠ .cell) (hkind : scope.kind = .function)
    (F : Fr h₀ L s₁.heap mL) (N : News h₀ L s₁.heap frozen) (hdep : ∀ b ∈ dep, (∃ o, h₀.get? b = some o) ∨ ∃ o, (b, o) ∈ frozen)
    (hinv : Inv 0 [])
    (turn : ∀ (g : Heap) i ys C D oC m m' h tk rest (E' : Value → Shared → Prop), i < n → Inv i ys → B i m m' → NsObj oC m' → Fr h₀ L h mL → News h₀ L h ((C, oC) :: (D, lst ys) :: rest) →
      (∀ p ∈ rest, p.1 ≠ C ∧ p.1 ≠ D) → (∀ p ∈ frozen, p ∈ rest) → @Ne Nat C D →
      testsOf prog w A ifs (compEnvC scope cl C env) (fun ok s₃ => if ok = true
        then wpAny (model prog w) A (eval elt (compEnvC scope cl C env)) (fun y s₄ => TurnEnd0 h₀ L mL { s₁ with heap := g } C oC D ys rest (fun _ => Inv (i + 1) (ys ++ [y])) s₄) E' s₃
        else TurnEnd0 h₀ L mL { s₁ with heap := g } C oC D ys rest (fun _ => Inv (i + 1) ys) s₃) E' { s₁ with heap := h, toks := tk })
    (fin : ∀ D h tk ys, Fr h₀ L h (setN mL y (.ref D)) → News h₀ L h ((D, lst ys) :: frozen) → (∀ p ∈ frozen, p.1 < D) → Inv n ys → Q .none { s₁ with heap := h, toks := tk }) :
    AfterIter prog w A env elt target iter ifs scope cl pos (some (assign (.Name y py) env)) E Q x s₁ :=
  comp_src0 frozen Inv S hok hsz hcell hkind F N hdep hinv turn (fun D C oC mC h tk ys F' N' hoC hlt hCD hI => by
    subst hLe
    show wpAny _ A (assign (.Name y py) env (.ref D)) (fun _ s'' => ∃ m, s''.heap.Ns C m ∧ ∀ h', Heap.SameBut C s''.heap h' → Q .none { s'' with heap := h' }) E _
    have zC := N' (C, oC) (List.mem_cons_of_mem _ List.mem_cons_self)
    have zD := N' (D, lst ys) List.mem_cons_self
    refine wpAny_assign_Name (wpAny_storeName_local hy.1 F'.ns (fun h2 ns2 hs2 => ?_) hy.2)
    refine ⟨mC, ns_of_obj hoC (hs2.extBut _ _ zC.2.1 zC.1), fun h3 hs3 => ?_⟩
    refine fin D h3 _ ys ⟨ns2.at' fun o e => hs3.extBut _ _ zC.2.1.symm e, fun b o e => ?_, F'.above⟩ (fun p hp => ?_) (fun p hp => (hlt p hp).2) hI
    · refine hs3.extBut _ _ (fun q => ?_) (hs2.extBut _ _ (fun q => ?_) (F'.keep b o e))
      · rw [q, zC.2.2] at e; cases e
      · rw [q, Heap.get?_none_of_le F'.above] at e; cases e
    · rcases List.mem_cons.mp hp with rfl | hp
      · exact ⟨hs3.extBut _ _ hCD.symm (hs2.extBut _ _ zD.2.1 zD.1), zD.2⟩
      · have z := N' p (List.mem_cons_of_mem _ (List.mem_cons_of_mem _ hp))
        exact ⟨hs3.extBut _ _ (hlt p hp).1 (hs2.extBut _ _ z.2.1 z.1), z.2⟩)
end
section
variable {w : World} {mean : ExcName → Option Value} {mg mb : PySem.Str → Option Value} {dp un : Nat} {gd : Option (List Code)} {cn : Str} {cs : Scope} {L a : Addr} {ccd : Value} {cl : List (Str × Addr)} {outer : List Env} {A₀ : Around} {base h₀ : Heap} {m : Nm} {s : Shared} {Q E : Value → Shared → Prop} {news : Led}
theorem use_mul {l : Addr} {x : Value} {k : Nat} {i : Int} {t : Tok} (k1 : Below A₀ base outer h₀) (k2 : Fr h₀ L s.heap m) (k3 : (K w.params).In h₀) (k4 : News h₀ L s.heap news) (k5 : Top topProg lw mean mg mb h₀) (k6 : cs.kind = .function) (kd : dp + 40 < recursionLimit) (ku : un + 200 < cLine) (hl : (l, W.listOf #[x] k) ∈ news) (h1 : -(2 ^ 63 : Int) ≤ i) (h2 : i ≤ 100000)
    (kR : ∀ (D : Addr) (h' : Heap) (tk' : Nat), (∀ p ∈ news, p.1 < D) → Fr h₀ L h' m → News h₀ L h' ((D, W.listOf (List.replicate i.toNat x).toArray 0) :: news) → Q (.ref D) { s with heap := h', toks := tk' }) :
    wpAny (model PySem.Challenge.rw_tp0040_01.row.prog w) (ktrTop dp un gd cn cs L a ccd cl outer) (call (.ref 70) [.ref l, .int i t]) Q E s :=
  c_mul w mean mg mb news l x k i t h1 h2 dp un gd cn cs a ccd cl outer A₀ base h₀ L m s Q E k1 k2 k3 (fun p hp => by
    rcases List.mem_cons.mp hp with rfl | hp
    · exact k4 _ hl
    · exact k4 _ hp) k5 k6 kd ku (fun v news' h' tk' fin F' N' => by
    obtain ⟨D, rfl, rfl, hlt⟩ := fin
    refine kR D h' tk' (fun p hp => hlt p (List.mem_cons_of_mem _ hp)) F' fun p hp => ?_
    rcases List.mem_cons.mp hp with rfl | hp
    · exact N' _ List.mem_cons_self
    · exact N' _ (List.mem_cons_of_mem _ (List.mem_cons_of_mem _ hp)))
theorem use_iadd {l b : Addr} {xs ys : Array Value} {n k : Nat} {more : Led} (hl : (l, W.listOf xs n) ∈ news) (hm : ∀ p ∈ more, p ∈ news ∧ p.1 ≠ l) (hb : (b, W.listOf ys k) ∈ more) (hz : xs.size + ys.size ≤ 100000)
    (k1 : Below A₀ base outer h₀) (k2 : Fr h₀ L s.heap m) (k3 : (K w.params).In h₀) (k4 : News h₀ L s.heap news) (k5 : Top topProg lw mean mg mb h₀) (k6 : cs.kind = .function) (kd : dp + 40 < recursionLimit) (ku : un + 200 < cLine)
    (kR : ∀ (n' : Nat) (h' : Heap) (tk' : Nat), Fr h₀ L h' m → News h₀ L h' ((l, W.listOf (xs ++ ys) n') :: more) → Q (.ref l) { s with heap := h', toks := tk' }) :
    wpAny (model PySem.Challenge.rw_tp0040_01.row.prog w) (ktrTop dp un gd cn cs L a ccd cl outer) (call (.ref 91) [.ref l, .ref b]) Q E s :=
  c_iadd w mean mg mb ((l, W.listOf xs n) :: more) l b xs ys n k (fun o => (l, o) :: more) (UpdF.head fun p hp => (hm p hp).2) (List.mem_cons_of_mem _ hb) hz dp un gd cn cs a ccd cl outer A₀ base h₀ L m s Q E k1 k2 k3 (fun p hp => by
    rcases List.mem_cons.mp hp with rfl | hp
    · exact k4 _ hl
    · exact k4 _ (hm p hp).1) k5 k6 kd ku (fun v news' h' tk' fin F' N' => by
    obtain ⟨rfl, n', rfl⟩ := fin
    exact kR n' h' tk' F' N')
end
set_option maxHeartbeats 0 in
theorem c_sub (w : World) (mean : ExcName → Option Value) (mg mb : PySem.Str → Option Value) (news : Led) (x y : Int) (tx ty : Tok) :
  Cl w mean mg mb 77 news [Value.int x tx, .int y ty] (fun v news' => news' = news ∧ ∃ t, v = .int (x - y) t) := by
  unfold Cl
  k_fill
  intros
  rename_i hret
  refine wpAny_call ?_
  k_dflt cell_enter
  refine hideT fun tk00 => ?_
  k_steps
  exact hret _ _ _ _ ⟨rfl, _, rfl⟩ (by k_asm) (by assumption)
section
variable {w : World} {mean : ExcName → Option Value} {mg mb : PySem.Str → Option Value} {dp un : Nat} {gd : Option (List Code)} {cn : Str} {cs : Scope} {L a : Addr} {ccd : Value} {cl : List (Str × Addr)} {outer : List Env} {A₀ : Around} {base h₀ : Heap} {m : Nm} {s : Shared} {Q E : Value → Shared → Prop} {news : Led}
theorem use_sub {x y : Int} {tx ty : Tok} (k1 : Below A₀ base outer h₀) (k2 : Fr h₀ L s.heap m) (k3 : (K w.params).In h₀) (k4 : News h₀ L s.heap news) (k5 : Top topProg lw mean mg mb h₀) (k6 : cs.kind = .function) (kd : dp + 40 < recursionLimit) (ku : un + 200 < cLine)
    (kR : ∀ (t : Tok) (h' : Heap) (tk' : Nat), Fr h₀ L h' m → News h₀ L h' news → Q (.int (x - y) t) { s with heap := h', toks := tk' }) :
    wpAny (model PySem.Challenge.rw_tp0040_01.row.prog w) (ktrTop dp un gd cn cs L a ccd cl outer) (call (.ref 77) [.int x tx, .int y ty]) Q E s :=
  c_sub w mean mg mb news x y tx ty dp un gd cn cs a ccd cl outer A₀ base h₀ L m s Q E k1 k2 k3 k4 k5 k6 kd ku (fun v news' h' tk' fin F' N' => by
    obtain ⟨rfl, t, rfl⟩ := fin
    exact kR t h' tk' F' N')
end
end Mine
end
section
open PySem PySem.W PyProof.Rows PySem.Spec PySem.Calls
namespace Mine
open PyProof.Rows.LCg (NsObj ns_obj lst lst_snoc)
noncomputable def wln (low high : Nat) (k : Nat) : Nat := if k = 0 then low else high
noncomputable def wk (low high : Nat) : Nat → List Nat × Nat
  | 0 => ([0, if low = 1 then 1 else 0], 0)
  | i + 1 => ((wk low high i).1 ++ List.replicate ((wk low high i).2 + wln low high ((wk low high i).1.getD i 0) - (wk low high i).1.length) (i % 2), (wk low high i).2 + wln low high ((wk low high i).1.getD i 0))
noncomputable def wv (n1 : Str) (t1 : Tok) (n2 : Str) (t2 : Tok) (k : Nat) : Value := if k = 0 then .str n1 t1 else .str n2 t2
noncomputable def wn (n1 n2 : Str) (k : Nat) : Str := if k = 0 then n1 else n2
noncomputable def wt (t1 t2 : Tok) (k : Nat) : Tok := if k = 0 then t1 else t2
theorem wv_is (n1 : Str) (t1 : Tok) (n2 : Str) (t2 : Tok) (k : Nat) : wv n1 t1 n2 t2 k = .str (wn n1 n2 k) (wt t1 t2 k) := by
  unfold wv wn wt
  split
  · rfl
  · rfl
theorem wln_wn (n1 n2 : Str) (k : Nat) : wln n1.length n2.length k = (wn n1 n2 k).length := by
  unfold wln wn
  split
  · rfl
  · rfl
theorem wn_5 {n1 n2 : Str} (h1 : 1 ≤ n1.length ∧ n1.length ≤ 5) (h2 : 1 ≤ n2.length ∧ n2.length ≤ 5) (k : Nat) : (wn n1 n2 k).length ≤ 5 := by
  unfold wn
  split
  · exact h1.2
  · exact h2.2
/-- a list of ints, whatever their tokens -/
noncomputable def IV (ys : List Value) (zs : List Int) : Prop := ∃ l : List (Int × Tok), ys = l.map (fun p => .int p.1 p.2) ∧ l.map (·.1) = zs
theorem IV.nil : IV [] [] := ⟨[], rfl, rfl⟩
theorem IV.snoc {ys : List Value} {zs : List Int} (h : IV ys zs) (x : Int) (t : Tok) : IV (ys ++ [.int x t]) (zs ++ [x]) := by
  obtain ⟨l, rfl, rfl⟩ := h
  exact ⟨l ++ [(x, t)], by simp, by simp⟩
theorem IV.append {ys ys' : List Value} {zs zs' : List Int} (h : IV ys zs) (h' : IV ys' zs') : IV (ys ++ ys') (zs ++ zs') := by
  obtain ⟨l, rfl, rfl⟩ := h
  obtain ⟨l', rfl, rfl⟩ := h'
  exact ⟨l ++ l', by simp, by simp⟩
theorem IV.length {ys : List Value} {zs : List Int} (h : IV ys zs) : ys.length = zs.length := by
  obtain ⟨l, rfl, rfl⟩ := h
  simp
theorem IV.get {ys : List Value} {zs : List Int} (h : IV ys zs) {i : Nat} {z : Int} (e : zs[i]? = some z) : ∃ t, ys[i]? = some (.int z t) := by
  obtain ⟨l, rfl, rfl⟩ := h
  rw [List.getElem?_map] at e
  cases q : l[i]? with
  | none => rw [q] at e; cases e
  | some p => rw [q] at e; cases e; exact ⟨p.2, by rw [List.getElem?_map, q]; rfl⟩
theorem wv_get {n1 n2 : Str} {t1 t2 : Tok} {ks : List Nat} {i : Nat} {v : Value} (e : (ks.map (wv n1 t1 n2 t2)).toArray[i]? = some v) : ∃ q, ks[i]? = some q ∧ v = .str (wn n1 n2 q) (wt t1 t2 q) := by
  rw [List.getElem?_toArray, List.getElem?_map] at e
  cases q : ks[i]? with
  | none => rw [q] at e; cases e
  | some k => exact ⟨k, rfl, by rw [← wv_is n1 t1 n2 t2]; exact (Option.some.inj (by rw [q] at e; exact e)).symm⟩
theorem word_at {n1 n2 : Str} {t1 t2 : Tok} {ks : List Nat} {i : Nat} {m m' : Nm} {x : Str} {C : Prop} (h : BN x (fun i v => (ks.map (wv n1 t1 n2 t2)).toArray[i]? = some v) i m m') (k : ∀ q, ks[i]? = some q → m' x = some (.str (wn n1 n2 q) (wt t1 t2 q)) → C) : C :=
  h.elim fun _ h => (wv_get h.1).elim fun q e => k q e.1 ((congrFun h.2 x).trans ((if_pos rfl).trans (congrArg some e.2)))
theorem IV.word {n1 n2 : Str} {ks : List Nat} {i q : Nat} {ys : List Value} (hq : ks[i]? = some q) (h : IV ys ((ks.take i).map fun q => ((wln n1.length n2.length q : Nat) : Int))) (t : Tok) : IV (ys ++ [.int ((wn n1 n2 q).length : Nat) t]) ((ks.take (i + 1)).map fun q => ((wln n1.length n2.length q : Nat) : Int)) := by
  rw [List.take_add_one, hq, Option.toList_some, List.map_append, ← wln_wn]
  exact h.snoc _ _
theorem mod2_at {n1 n2 : Str} {t1 t2 : Tok} {i : Nat} {C : Prop} (k : 0 ≤ (i : Int).fmod 2 → (i : Int).fmod 2 < 2 ^ 63 → [Value.str n1 t1, .str n2 t2][((i : Int).fmod 2).toNat]? = some (wv n1 t1 n2 t2 (i % 2)) → C) : C := by
  have e : (i : Int).fmod 2 = ((i % 2 : Nat) : Int) := by rw [Int.fmod_eq_emod_of_nonneg _ (by decide)]; rfl
  refine k ?_ ?_ ?_ <;> rw [e]
  · exact Int.natCast_nonneg _
  · exact hi63 (Nat.le_of_lt_succ (Nat.mod_lt i (by decide)))
  · exact lt2 (P := fun j => [Value.str n1 t1, .str n2 t2][((j : Nat) : Int).toNat]? = some (wv n1 t1 n2 t2 j)) rfl rfl (Nat.mod_lt i (by decide))
theorem sub_lo {a b c : Nat} (hc : c ≤ 100) : -(2 ^ 63 : Int) ≤ (a : Int) + (b : Int) - (c : Int) := by omega
theorem sub_hi {a b c : Nat} (ha : a ≤ 100) (hb : b ≤ 5) : (a : Int) + (b : Int) - (c : Int) ≤ 100000 := by omega
theorem sub_nat {a b c : Nat} : ((a : Int) + (b : Int) - (c : Int)).toNat = a + b - c := by omega
theorem map_repl {n1 n2 : Str} {t1 t2 : Tok} {r k : Nat} : List.replicate r (wv n1 t1 n2 t2 k) = (List.replicate r k).map (wv n1 t1 n2 t2) := by rw [List.map_replicate]
theorem wk_one {low high i q : Nat} (h : (wk low high i).1[i]? = some q) : (wk low high (i + 1)).1 = (wk low high i).1 ++ List.replicate ((wk low high i).2 + wln low high q - (wk low high i).1.length) (i % 2) := by
  show (wk low high i).1 ++ List.replicate ((wk low high i).2 + wln low high ((wk low high i).1.getD i 0) - (wk low high i).1.length) (i % 2) = _
  rw [List.getD_eq_getElem?_getD, h]
  rfl
theorem wk_two {low high i q : Nat} (h : (wk low high i).1[i]? = some q) : (wk low high (i + 1)).2 = (wk low high i).2 + wln low high q := by
  show (wk low high i).2 + wln low high ((wk low high i).1.getD i 0) = _
  rw [List.getD_eq_getElem?_getD, h]
  rfl
theorem IV.at {ks : List Nat} {f : Nat → Int} {zs : List Value} {i q : Nat} {x : Int} {t : Tok} (h : IV zs (ks.map f)) (hq : ks[i]? = some q) (e : (List.toArray zs)[i]? = some (.int x t)) : x = f q :=
  (h.get (i := i) (z := f q) (by rw [List.getElem?_map, hq]; rfl)).elim fun t' e' => by
    rw [List.getElem?_toArray, e'] at e
    cases e
    rfl
theorem two_of {WA Z : Addr} {a : Obj} {vals : Array Value} {zs : List Value} {k k2 : Nat} (hWZ : WA ≠ Z) (h : (Z, W.listOf vals k) ∈ [(WA, a), (Z, W.listOf (List.toArray zs) k2)]) : vals = List.toArray zs := by
  cases h with
  | head => exact absurd rfl hWZ
  | tail _ h =>
    cases h with
    | head => rfl
    | tail _ h => cases h
theorem next12 {i : Nat} (h : i < 12) (hn : ¬ (i : Int) + 1 = 12) : i + 1 < 12 := by omega
theorem is12 {i : Nat} (h : (i : Int) + 1 = 12) : i + 1 = 12 := by omega
theorem map_take_succ {α β : Type} {ks : List α} {i : Nat} {q : α} (f : α → β) (e : ks[i]? = some q) : (ks.take (i + 1)).map f = (ks.take i).map f ++ [f q] := by
  rw [List.take_add_one, e, Option.toList_some, List.map_append]
  rfl
/-- where the walk over the words stands -/
inductive wInv (n1 : Str) (t1 : Tok) (n2 : Str) (t2 : Tok) (nl : Addr) (tt : Tok) (WA Z : Addr) (i : Nat) (m : Nm) : Led → Prop
  | mk {k1 k2 : Nat} {zs : List Value} {ta tb : Tok} (hzs : IV zs ((wk n1.length n2.length i).1.map fun q => ((wln n1.length n2.length q : Nat) : Int)))
    (hn : m (Str.ofString "names") = some (.ref nl)) (ht : m (Str.ofString "turns") = some (.int 12 tt)) (hw : m (Str.ofString "words") = some (.ref WA)) (hs : m (Str.ofString "sizes") = some (.ref Z)) (htot : m (Str.ofString "total") = some (.int ((wk n1.length n2.length i).2 : Nat) ta)) (htn : m (Str.ofString "turn") = some (.int i tb)) :
    wInv n1 t1 n2 t2 nl tt WA Z i m [(WA, W.listOf ((wk n1.length n2.length i).1.map (wv n1 t1 n2 t2)).toArray k1), (Z, W.listOf (List.toArray zs) k2)]
/-- where it ends -/
inductive wEnd (n1 : Str) (t1 : Tok) (n2 : Str) (t2 : Tok) (WA Z : Addr) : Value → Led → Prop
  | mk {k1 k2 : Nat} {zs : Array Value} : wEnd n1 t1 n2 t2 WA Z (.ref WA) [(WA, W.listOf ((wk n1.length n2.length 12).1.map (wv n1 t1 n2 t2)).toArray k1), (Z, W.listOf zs k2)]
-- 
local macro_rules | `(tactic| walk_at "subscriptTail Name BinOp ref int") => `(tactic| (k_here; with_unfolding_all (apply item_litK; (walk_at "li9"); omega; omega; assumption; rotate_left; rfl; k_whole)))
local macro_rules | `(tactic| walk_at "call ref") => `(tactic| (k_here; apply use_mul; walk_at "u8"; k_mem; assumption; assumption; intros))
local macro_rules | `(tactic| walk_at "call ref") => `(tactic| (k_here; apply use_sub; walk_at "u8"; intros))
noncomputable def wDef : Stmt := stmtAt 21
noncomputable def defBody : Stmt → List Stmt | .FunctionDef _ _ b _ _ _ _ _ _ _ => b | _ => []
noncomputable def defScope : Stmt → Scope | .FunctionDef _ _ _ _ _ _ sc _ _ _ => sc | _ => default
noncomputable def wLoop : List Stmt := (forPart ((defBody wDef).getD 3 (.Pass default))).2.2.1
set_option maxHeartbeats 0 in
theorem walked_turn (w : World) (mean : ExcName → Option Value) (mg mb : PySem.Str → Option Value) (nl : Addr) (n1 n2 : Str) (t1 t2 : Tok) (k : Nat) (tt : Tok) (h1 : 1 ≤ n1.length ∧ n1.length ≤ 5) (h2 : 1 ≤ n2.length ∧ n2.length ≤ 5)
    (hok : ∀ i, i < 12 → i < (wk n1.length n2.length i).1.length) (hsz : ∀ i, i ≤ 12 → (wk n1.length n2.length i).1.length ≤ 100 ∧ (wk n1.length n2.length i).2 ≤ 100)
    (dp un : Nat) (gd : Option (List Code)) (outer : List Env) (A₀ : Around) (base h₀ : Heap) (L : Addr) (WA Z : Addr) (hWZ : WA ≠ Z) (s₁ : Shared)
    (hB : Below A₀ base outer h₀) (hX : (K w.params).In h₀) (hT : Top topProg lw mean mg mb h₀) (hdp : dp + 50 < recursionLimit) (hun : un + 250 < cLine)
    (i : Nat) (m : Nm) (live : Led) (h : Heap) (tk : Nat) (gens : Array GenState) (rest : Led) (x : Int) (t : Tok) (E' : Value → Shared → Prop) (hi : i < 12) (hI : wInv n1 t1 n2 t2 nl tt WA Z i m live) (hv : ∃ vals k, (Z, W.listOf vals k) ∈ live ∧ vals[i]? = some (.int x t))
    (F : Fr h₀ L h (setN m (Str.ofString "size") (.int x t))) (N : News h₀ L h (live ++ rest)) (hr : ∀ p ∈ rest, ¬ (p.1 = WA ∨ p.1 = Z)) (hz : (nl, W.listOf #[.str n1 t1, .str n2 t2] k) ∈ rest) :
    wpAny (model PySem.Challenge.rw_tp0040_01.row.prog w) (ktrTop dp un gd (Str.ofString "_law_walked") (defScope wDef) L 189 (.ref 188) [] outer) (execs wLoop (envX (Str.ofString "_law_walked") (defScope wDef) L 189 (.ref 188) [])) (fun f s₃ => match f with
        | .next | .cont => i + 1 < 12 ∧ GenLeft h₀ L { s₁ with gens := gens } rest (fun a => a = WA ∨ a = Z) (wInv n1 t1 n2 t2 nl tt WA Z (i + 1)) s₃
        | .brk => False
        | .ret v => GenLeft h₀ L { s₁ with gens := gens } rest (fun a => a = WA ∨ a = Z) (fun _ => wEnd n1 t1 n2 t2 WA Z v) s₃) E' { s₁ with heap := h, toks := tk, gens := gens } := by
  revert hX
  k_fill
  intro hX
  refine hideQ fun Q' hQ => ?_
  refine hv.elim fun vals hv => hv.elim fun kv hv => ?_
  revert hv N
  refine hI.casesOn fun {k1 k2 zs ta tb} hzs hn ht hw hs htot htn N hv => ?_
  have hd : ∀ {y : Str} {v : Value}, y ≠ Str.ofString "size" → m y = some v → setN m (Str.ofString "size") (.int x t) y = some v := fun e e' => (if_neg e).trans e'
  have F := fixF7 F (if_pos rfl) (hd (by decide) htn) (hd (by decide) htot) (hd (by decide) hs) (hd (by decide) hw) (hd (by decide) ht) (hd (by decide) hn)
  have N : News h₀ L h ((nl, W.listOf #[.str n1 t1, .str n2 t2] k) :: (WA, W.listOf ((wk n1.length n2.length i).1.map (wv n1 t1 n2 t2)).toArray k1) :: (Z, W.listOf (List.toArray zs) k2) :: rest) := fun p hp => N p (sub_use hp (sub_cons (mem_t (mem_t hz)) fun _ h => h))
  have hsA : (List.map (wv n1 t1 n2 t2) (wk n1.length n2.length i).1).toArray.size = (wk n1.length n2.length i).1.length := by simp
  have hs1 := (hsz i (Nat.le_of_lt hi)).1
  have hs2 := (hsz i (Nat.le_of_lt hi)).2
  obtain ⟨q, hq⟩ : ∃ q, (wk n1.length n2.length i).1[i]? = some q := ⟨_, List.getElem?_eq_getElem (hok i hi)⟩
  have hxq : x = ((wln n1.length n2.length q : Nat) : Int) := hzs.at hq (two_of hWZ hv.1 ▸ hv.2)
  have hq5 : wln n1.length n2.length q ≤ 5 := by rw [wln_wn]; exact wn_5 h1 h2 q
  clear hv hI hn ht hw hs htot htn hd
  subst hxq
  have l1 := sub_lo (a := (wk n1.length n2.length i).2) (b := wln n1.length n2.length q) hs1
  have l2 := sub_hi (c := (wk n1.length n2.length i).1.length) hs2 hq5
  refine mod2_at (n1 := n1) (n2 := n2) (t1 := t1) (t2 := t2) (i := i) fun q0 q1 q2 => ?_
  show wpAny _ _ (execs (_ :: _) _) _ _ _
  k_steps
  rename_i hx tkx D hy tky ltD hD FD ND
  rw [sub_nat, map_repl] at ND
  have hW1 := wk_one hq
  have hil := List.length_replicate (n := (wk n1.length n2.length i).2 + wln n1.length n2.length q - (wk n1.length n2.length i).1.length) (a := i % 2)
  have hr10 : (wk n1.length n2.length i).2 + wln n1.length n2.length q - (wk n1.length n2.length i).1.length ≤ 105 := Nat.le_trans (Nat.sub_le _ _) (Nat.add_le_add hs2 hq5)
  generalize List.replicate ((wk n1.length n2.length i).2 + wln n1.length n2.length q - (wk n1.length n2.length i).1.length) (i % 2) = items at ND hW1 hil
  rw [← hil] at hr10
  have hDn : ∀ p ∈ (nl, W.listOf #[.str n1 t1, .str n2 t2] k) :: (WA, W.listOf ((wk n1.length n2.length i).1.map (wv n1 t1 n2 t2)).toArray k1) :: (Z, W.listOf (List.toArray zs) k2) :: rest, p.1 ≠ D := fun p hp => Nat.ne_of_lt (ltD p (mem_t hp))
  clear ltD l1 l2 q0 q1 q2 hil
  refine use_iadd (more := (D, W.listOf (items.map (wv n1 t1 n2 t2)).toArray 0) :: (nl, W.listOf #[.str n1 t1, .str n2 t2] k) :: (Z, W.listOf (List.toArray zs) k2) :: rest) (xs := ((wk n1.length n2.length i).1.map (wv n1 t1 n2 t2)).toArray) (n := k1) (by k_mem)
    (all_cons ⟨by f_tup, fun e => hDn _ mm1 e.symm⟩ (all_cons ⟨by f_tup, fun e => hr _ hz (.inl e)⟩ (all_cons ⟨by f_tup, fun e => hWZ e.symm⟩ fun p hp => ⟨by f_tup, fun e => hr _ hp (.inl e)⟩))) mm0 (by rw [hsA]; exact add_le hs1 (by simpa using hr10) rfl) (by assumption) (by assumption) (by assumption) ND (by assumption) (by rfl) (by ktr_room) (by ktr_units) ?_
  intro kW hW tkW FW NW
  rw [show ((wk n1.length n2.length i).1.map (wv n1 t1 n2 t2)).toArray ++ (items.map (wv n1 t1 n2 t2)).toArray = ((wk n1.length n2.length (i + 1)).1.map (wv n1 t1 n2 t2)).toArray from by rw [hW1]; simp] at NW
  k_steps
  refine comp_src0n _ (fun j ys => IV ys ((items.take j).map fun q => ((wln n1.length n2.length q : Nat) : Int))) (src_listN (by rfl) _ (items.map (wv n1 t1 n2 t2)).toArray _ _ ⟨_, News.get (by assumption) mm1, rfl, _, rfl⟩)
    (fun C => ⟨lookup_relabel_local (by rfl), by rfl⟩) (leT (by simpa using hr10) rfl) (by decide) rfl (by assumption) (by assumption) (dep1 mm1) IV.nil ?_ ?_
  · intro g i2 ys C D2 oC m2 m' h2 tk2 rest2 E2 hi2 hI2 hB2 hoC F2 N2 hr2 hz2 hCD2
    refine testsOf_nil (hideQ fun Q' hQ => ?_)
    refine word_at hB2 fun q2 hq2 hx2 => ?_
    have h5 := hi63 (wn_5 h1 ‹1 ≤ n2.length ∧ n2.length ≤ 5› q2)
    clear hB2
    k_steps
    exact hQ _ _ (TurnEnd0.intro (by assumption) (by assumption) (fun _ h => h) (by exact IV.word hq2 hI2 _))
  · intro Y h2 tk2 ys F2 N2 hY hI2
    rw [List.take_of_length_le (by simp)] at hI2
    k_steps
    have hlz : zs.length ≤ 100 := by rw [hzs.length, List.length_map]; exact hs1
    have hly : ys.length ≤ 105 := by rw [hI2.length, List.length_map]; exact hr10
    refine use_iadd (more := (Y, W.listOf ys.toArray ys.length) :: (WA, W.listOf ((wk n1.length n2.length (i + 1)).1.map (wv n1 t1 n2 t2)).toArray kW) :: rest) (xs := List.toArray zs) (n := k2) (by k_mem)
      (all_cons ⟨mm0, fun e => Nat.lt_irrefl Z (Nat.lt_of_lt_of_eq (ltM hY mm3) e)⟩ (all_cons ⟨mm1, hWZ⟩ fun p hp => ⟨by f_tup, fun e => hr _ hp (.inr e)⟩)) mm0 (add_le (by simpa using hlz) (by simpa using hly) rfl) (by assumption) (by assumption) (by assumption) N2 (by assumption) (by rfl) (by ktr_room) (by ktr_units) ?_
    intro kZ hZ tkZ FZ NZ
    rw [show List.toArray zs ++ ys.toArray = (zs ++ ys).toArray from by simp] at NZ
    have hIV : IV (zs ++ ys) ((wk n1.length n2.length (i + 1)).1.map fun q => ((wln n1.length n2.length q : Nat) : Int)) := by
      rw [hW1, List.map_append]
      exact hzs.append hI2
    have hT1 := wk_two hq
    k_steps
    · refine hQ _ _ (show GenLeft _ _ _ _ _ _ _ from ?_)
      refine GenLeft.intro [(WA, W.listOf ((wk n1.length n2.length (i + 1)).1.map (wv n1 t1 n2 t2)).toArray kW), (Z, W.listOf (zs ++ ys).toArray kZ)] (by assumption) (by assumption) (sub_cons mm2 (sub_cons mm0 fun p hp => mem_t (mem_t (mem_t hp)))) ?_ (by simp)
      rw [is12 (by assumption)]
      exact .mk
    · refine hQ _ _ ⟨next12 hi (by assumption), ?_⟩
      exact GenLeft.intro [(WA, W.listOf ((wk n1.length n2.length (i + 1)).1.map (wv n1 t1 n2 t2)).toArray kW), (Z, W.listOf (zs ++ ys).toArray kZ)] (by assumption) (by assumption) (sub_cons mm2 (sub_cons mm0 fun p hp => mem_t (mem_t (mem_t hp)))) (.mk hIV (by rfl) (by rfl) (by rfl) (by rfl) (some_int rfl (by rw [hT1]; rfl)) (some_int rfl (by rfl))) (by simp)
end Mine
end
section
open PySem PySem.W PyProof.Rows PySem.Spec PySem.Calls
namespace Mine
open PyProof.Rows.LCg (NsObj ns_obj lst lst_snoc)
local macro_rules | `(tactic| walk_at "exec Assign cons ListComp") => `(tactic| (k_here; k_dflt (refine AssignComp_W (by with_unfolding_all rfl) (by with_unfolding_all rfl) (by rfl) (by decide) ?_)))
local macro_rules | `(tactic| walk_at "exec For Name Call cons nil") => `(tactic| (k_here; k_dflt (refine For_W ?_)))
local macro_rules | `(tactic| walk_at "call ref") => `(tactic| (k_here; k_dflt (apply g_call; assumption; assumption; assumption; assumption; ktr_room); intros))
theorem allLt_mem {b : Addr} {l : Led} (h : AllLt b l) : ∀ {p : Addr × Obj}, p ∈ l → p.1 < b := by
  induction l with
  | nil => intro p hp; cases hp
  | cons q r ih =>
    obtain ⟨h1, h2⟩ := h
    intro p hp
    rcases List.mem_cons.mp hp with e | hp
    · rw [e]; exact h1
    · exact ih h2 hp
local macro_rules | `(tactic| walk_at "subscriptTail Name IfExp ref int") => `(tactic| (k_here; with_unfolding_all (apply item_litK; (walk_at "li9"); omega; omega; assumption; rotate_left; rfl; k_whole)))
noncomputable def ix (n : Nat) : Int := if n = 1 then 1 else 0
theorem ix_yes {n : Nat} (h : (n : Int) = 1) : ix n = 1 := if_pos (Int.ofNat.inj h)
theorem ix_no {n : Nat} (h : ¬ (n : Int) = 1) : ix n = 0 := if_neg fun e => h (congrArg Int.ofNat e)
theorem ix_at {n1 n2 : Str} {t1 t2 : Tok} {C : Prop} (k : 0 ≤ ix n1.length → ix n1.length < 2 ^ 63 → [Value.str n1 t1, .str n2 t2][(ix n1.length).toNat]? = some (wv n1 t1 n2 t2 (if n1.length = 1 then 1 else 0)) → C) : C := by
  unfold ix at k
  split at k
  · exact k (by decide) (by decide) rfl
  · exact k (by decide) (by decide) rfl
theorem one100 {n : Nat} (h : 1 ≤ n ∧ n ≤ 5) : 1 ≤ (n : Int) ∧ (n : Int) ≤ 100 := by omega
theorem wln_100 {a b : Nat} (h1 : 1 ≤ a ∧ a ≤ 5) (h2 : 1 ≤ b ∧ b ≤ 5) (k : Nat) : 1 ≤ ((wln a b k : Nat) : Int) ∧ ((wln a b k : Nat) : Int) ≤ 100 := by
  unfold wln
  split
  · exact one100 h1
  · exact one100 h2
theorem wInv.at {n1 : Str} {t1 : Tok} {n2 : Str} {t2 : Tok} {nl : Addr} {tt : Tok} {WA Z : Addr} {i : Nat} {m : Nm} {live : Led} (h : wInv n1 t1 n2 t2 nl tt WA Z i m live) (hi : i < (wk n1.length n2.length i).1.length) (h1 : 1 ≤ n1.length ∧ n1.length ≤ 5) (h2 : 1 ≤ n2.length ∧ n2.length ≤ 5) :
    ∃ vals k x t, (Z, W.listOf vals k) ∈ live ∧ vals[i]? = some (.int x t) ∧ 1 ≤ x ∧ x ≤ 100 :=
  h.casesOn fun {k1 k2 zs ta tb} hzs _ _ _ _ _ _ =>
    (hzs.get (i := i) (z := ((wln n1.length n2.length (wk n1.length n2.length i).1[i] : Nat) : Int)) (by rw [List.getElem?_map, List.getElem?_eq_getElem hi]; rfl)).elim fun t e =>
      ⟨List.toArray zs, k2, _, t, mm1, by rw [List.getElem?_toArray]; exact e, wln_100 h1 h2 _⟩
/-- what the words are -/
inductive WkFin (n1 : Str) (t1 : Tok) (n2 : Str) (t2 : Tok) (news : Led) : Value → Led → Prop
  | mk {D : Addr} {k' : Nat} (h : ∀ p ∈ news, p.1 < D) : WkFin n1 t1 n2 t2 news (.ref D) ((D, W.listOf ((wk n1.length n2.length 12).1.map (wv n1 t1 n2 t2)).toArray k') :: news)
set_option maxHeartbeats 0 in
theorem c_walked (w : World) (mean : ExcName → Option Value) (mg mb : PySem.Str → Option Value) (news : Led) (nl : Addr) (n1 n2 : Str) (t1 t2 : Tok) (k : Nat) (tt : Tok) (h1 : 1 ≤ n1.length ∧ n1.length ≤ 5) (h2 : 1 ≤ n2.length ∧ n2.length ≤ 5)
    (hok : ∀ i, i < 12 → i < (wk n1.length n2.length i).1.length) (hsz : ∀ i, i ≤ 12 → (wk n1.length n2.length i).1.length ≤ 100 ∧ (wk n1.length n2.length i).2 ≤ 100) :
  CG w mean mg mb 189 ((nl, W.listOf #[.str n1 t1, .str n2 t2] k) :: news) [Value.ref nl, .int 12 tt] (WkFin n1 t1 n2 t2 ((nl, W.listOf #[.str n1 t1, .str n2 t2] k) :: news)) := by
  unfold CG
  k_fill
  intro dp un gd cn cs a ccd cl outer A₀ base h₀ L m s Q E hB hF hX hN hT hk hdp hun hret
  refine wpAny_call ?_
  k_dflt cell_enter
  iterate 12 walk1
  rename Fr _ _ _ _ => F1
  rename News _ _ _ _ => N1
  refine ix_at (n1 := n1) (n2 := n2) (t1 := t1) (t2 := t2) fun q0 q1 q2 => ?_
  refine cutI (ix n1.length) F1 N1 ?_ fun hh1 tk1 ti F N => ?_
  · k_steps
    · exact .mk (ix_yes (by assumption)) (by assumption) (by assumption)
    · exact .mk (ix_no (by assumption)) (by assumption) (by assumption)
  clear F1 N1
  k_steps
  clear q0 q1 q2
  rename_i WA hX1 lW hX2 F1 N1
  refine comp_src0a _ (fun i ys => IV ys (((wk n1.length n2.length 0).1.take i).map fun q => ((wln n1.length n2.length q : Nat) : Int))) ⟨by rfl, by rfl⟩ rfl (src_listN (by rfl) _ ((wk n1.length n2.length 0).1.map (wv n1 t1 n2 t2)).toArray _ _ ⟨_, News.get (by assumption) mm0, rfl, 0, rfl⟩)
    (fun C => ⟨lookup_relabel_local (by rfl), by rfl⟩) (show 2 ≤ sizeLine by decide) (by decide) rfl F1 N1 (dep1 mm0) IV.nil ?_ ?_
  · intro g i ys C D oC m m' h tk rest E' hi hI hB hoC F N hr hz hCD
    refine testsOf_nil (hideQ fun Q' hQ => ?_)
    refine word_at hB fun q hq hx => ?_
    have h5 := hi63 (wn_5 h1 h2 q)
    clear hB hret
    k_steps
    refine hQ _ _ ?_
    exact TurnEnd0.intro (by assumption) (by assumption) (fun _ h => h) (by exact IV.word hq hI _)
  · intro Z h tk ys F N hZ hI
    have hI : IV ys ((wk n1.length n2.length 0).1.map fun q => ((wln n1.length n2.length q : Nat) : Int)) := hI
    have hZ1 := hZ _ mm0
    have hZ2 : ∀ p ∈ (nl, W.listOf #[.str n1 t1, .str n2 t2] k) :: news, p.1 < Z := fun p hp => hZ p (mem_t hp)
    clear hZ
    show wpAny _ _ (execs _ _) _ _ _
    k_steps
    rename_i G GL oG oGL h9 tk9 F9 N9 hN9 hd9 hne9 hlt9 hG9
    have N9' : News _ _ h9 ([(WA, W.listOf ((wk n1.length n2.length 0).1.map (wv n1 t1 n2 t2)).toArray 0), (Z, W.listOf ys.toArray ys.length)] ++ (G, oG) :: (GL, oGL) :: (nl, W.listOf #[.str n1 t1, .str n2 t2] k) :: news) := fun p hp => N9 p (sub_use hp (sub_app (sub_cons (mem_t4 mm0) (sub_cons mm3 sub_nil)) (sub_cons mm0 (sub_cons mm1 fun q hq => mem_t4 (mem_t hq)))))
    have dG := fun p hp => hd9 p (List.mem_cons_of_mem _ hp)
    refine for_gen w mean mg mb _ _ _ _ _ _ _ _ _ _ _ (N := 12) (live₀ := [(WA, W.listOf ((wk n1.length n2.length 0).1.map (wv n1 t1 n2 t2)).toArray 0), (Z, W.listOf ys.toArray ys.length)]) (frozen := (nl, W.listOf #[.str n1 t1, .str n2 t2] k) :: news)
      (wInv n1 t1 n2 t2 nl tt WA Z) (fun v _ => wEnd n1 t1 n2 t2 WA Z v) (fun a => a = WA ∨ a = Z) (by assumption) (by assumption) (by ktr_room) ⟨by rfl, by rfl⟩ F9 N9' hG9 hN9 hne9 hlt9 (by simp) (by simp) ?_ (.inr rfl) (fun p hp => (dG p (List.mem_cons_of_mem _ (List.mem_cons_of_mem _ hp))).2) (by decide) ?_ ?_ ?_ ?_ ?_ ?_
    · rintro a (rfl | rfl)
      · exact ⟨Heap.lt_size (N9' _ List.mem_cons_self).1, (dG _ (List.mem_cons_of_mem _ List.mem_cons_self)).2⟩
      · exact ⟨Heap.lt_size (N9' _ (List.mem_cons_of_mem _ List.mem_cons_self)).1, (dG _ List.mem_cons_self).2⟩
    · exact .mk hI (by rfl) (by rfl) (by rfl) (by rfl) (by rfl) (by rfl)
    · intro i m live hi hI
      exact hI.at (hok i hi) h1 h2
    · intro i m live h tk gens rest x t E' hi hI hv F N hr hz
      exact walked_turn w mean mg mb nl n1 n2 t1 t2 k tt h1 h2 hok hsz _ _ _ _ _ _ _ _ WA Z (fun e => Nat.ne_of_lt hZ1 e) _ (by assumption) (by assumption) (by assumption) (by ktr_room) (by ktr_units) i m live h tk gens rest x t E' hi hI hv F N hr (hz _ List.mem_cons_self)
    · intro p hp h
      rcases h with h | h
      · rcases List.mem_cons.mp hp with rfl | hp
        · exact Nat.ne_of_lt (ltM lW mm0) h
        · exact Nat.ne_of_lt (lW _ (mem_t hp)) h
      · exact Nat.ne_of_lt (hZ2 p hp) h
    · rintro (h | h)
      · exact (dG _ (List.mem_cons_of_mem _ List.mem_cons_self)).1 h.symm
      · exact (dG _ List.mem_cons_self).1 h.symm
    · intro h tk gens m live v hbr hE F N
      revert F N
      refine hE.casesOn fun {k1 k2 zs} F N => ?_
      dsimp only
      k_steps
      exact hret _ _ _ _ _ (fun hb => hbr (hb.push rfl)) (.mk (k' := k1) (all_cons (ltM lW mm0) fun p hp => lW _ (mem_t hp))) (by k_asm) (cb_drop (by assumption) (sub_cons mm0 fun p hp => mem_t (mem_t hp)))
end Mine
end
section
open PySem PySem.W PyProof.Rows PySem.Spec PySem.Calls
namespace Mine
local macro_rules | `(tactic| walk_at "my enterC") => `(tactic| (apply code_defC; (walk_at "k5"); exact rfl; exact rfl; assumption; k_is; k_is; ktr_room; exact BindsTo.of_eq rfl; exact rfl; decide +kernel; rotate_left; (iterate 3 exact rfl); k_whole; intros; rename_i N9 Y9 B9 _ _ _; k_cells Y9; (try simp only [List.cons_append, List.nil_append] at N9); (try dsimp only); (try k_lift B9); (try k_fold)))
open PyProof.Rows.LCg (NsObj ns_obj lst lst_snoc)
theorem all_ne_of_lt {d e : Nat} {l : Led} (h : ∀ p ∈ l, @LT.lt Nat _ p.1 e) (he : @LE.le Nat _ e d) : ∀ p ∈ l, p.1 ≠ d := fun p hp => Nat.ne_of_lt (Nat.lt_of_lt_of_le (h p hp) he)
local macro_rules | `(tactic| k_all) => `(tactic| first | assumption | exact all_ne_of_lt (by assumption) (by omega))
local macro_rules | `(tactic| walk_at "call ref") => `(tactic| (k_here; k_dflt (apply call_cls; k_asm; k_asm; k_asm; k_is; k_is; k_is; k_whole; intros; (try k_sweep); apply code_def; (walk_at "k5"); (iterate 3 exact rfl); k_is; k_is; walk_at "ent9")))
structure LexP where
  (pb lx dx f cd gone pb0 st dst c2 c1 : Addr)
  (oc o2 o1 : Obj)
  (dc ct nm : Value)
  (k1 k2 k3 k4 k5 j0 j1 j2 j3 j4 j5 j6 : Tok)
noncomputable def pieceDef : Stmt := (defBody (stmtAt 16)).getD 2 (.Pass default)
noncomputable def defArgs : Stmt → Arguments | .FunctionDef _ a _ _ _ _ _ _ _ _ => a | _ => default
noncomputable abbrev wsT : Str := Str.ofString "\n\t\r "
noncomputable abbrev pQual : Str := Str.ofString "_law_lexer.<locals>._law_piece"
noncomputable abbrev ent (p : Params) (n : Str) (t : Tok) (v : Value) : DictEntry := { hash := PyData.keyHash p n, key := .str n t, val := v }
/-- the lexer's objects: what changes is the list of read chars, the line, and the list of pushed words -/
noncomputable abbrev lexL (p : Params) (P : LexP) (gi : List Value) (kg : Nat) (line : Int) (tl : Tok) (pbs : List Value) (kp : Nat) : Led :=
  [(P.pb, W.listOf pbs.toArray kp), (P.lx, instObj 59 P.dx),
   (P.dx, dictOf [ent p (Str.ofString "lineno") P.k1 (.int line tl), ent p (Str.ofString "instream") P.k2 (.ref P.st), ent p (Str.ofString "whitespace") P.k3 (.str wsT P.k4), ent p (Str.ofString "pushback") P.k5 (.ref P.pb)] 4),
   (P.f, fnMade (Str.ofString "_law_piece") pQual (defArgs pieceDef) (defBody pieceDef) (defScope pieceDef) [(Str.ofString "text", P.c1), (Str.ofString "gone", P.c2)] P.dc P.nm P.cd P.ct), (P.cd, P.oc),
   (P.gone, W.listOf gi.toArray kg), (P.pb0, W.listOf #[] 0), (P.st, instObj 59 P.dst),
   (P.dst, dictOf [ent p (Str.ofString "lineno") P.j1 (.int 1 P.j0), ent p (Str.ofString "instream") P.j2 .none, ent p (Str.ofString "whitespace") P.j3 (.str wsT P.j4), ent p (Str.ofString "pushback") P.j5 (.ref P.pb0), ent p (Str.ofString "read") P.j6 (.ref P.f)] 5),
   (P.c2, P.o2), (P.c1, P.o1)]
structure LexOk (x : Str) (tx : Tok) (news : Led) (P : LexP) : Prop where
  o2 : P.o2.data = .cell (some (.ref P.gone))
  o1 : P.o1.data = .cell (some (.str x tx))
  oc : ∃ vs t, P.oc.data = .fields vs ∧ vs[1]? = some (.str pQual t)
  l0 : @LT.lt Nat _ 157 P.c1
  l1 : @LT.lt Nat _ P.c1 P.c2
  l2 : @LT.lt Nat _ P.c2 P.dst
  l3 : @LT.lt Nat _ P.dst P.st
  l4 : @LT.lt Nat _ P.st P.pb0
  l5 : @LT.lt Nat _ P.pb0 P.gone
  l6 : @LT.lt Nat _ P.gone P.cd
  l7 : @LT.lt Nat _ P.cd P.f
  l8 : @LT.lt Nat _ P.f P.dx
  l9 : @LT.lt Nat _ P.dx P.lx
  la : @LT.lt Nat _ P.lx P.pb
  new : ∀ p ∈ news, @LT.lt Nat _ p.1 P.c1
set_option maxHeartbeats 0 in
theorem c_lexer (w : World) (mean : ExcName → Option Value) (mg mb : PySem.Str → Option Value) (news : Led) (x : Str) (tx : Tok) (h157 : ∀ p ∈ news, p.1 ≠ 157) :
  Cl w mean mg mb 162 ((157, tabObj #[]) :: news) [Value.str x tx] (fun v news' => ∃ P tab tl nd1, v = .ref P.lx ∧ news' = lexL w.params P [] 0 1 tl [] nd1 ++ (157, tabObj tab) :: news ∧ LexOk x tx news P) := by
  unfold Cl
  k_fill
  intro dp un gd cn cs a ccd cl outer A₀ base h₀ L m s Q E hB hF hX hN hT hk hdp hun hret
  refine wpAny_call ?_
  k_dflt (walk_at "my enterC")
  show wpAny _ _ _ _ _ _
  k_fold
  have hC : CodeHd _ 161 157 := codeHd_of_K (by assumption) (by kernel_rfl)
  have h57 : @LT.lt Nat _ 157 _ := (by assumption : ∀ p ∈ (157, tabObj #[]) :: news, p.1 < _) _ List.mem_cons_self
  have hnL : ∀ p ∈ news, @LT.lt Nat _ p.1 _ := fun p hp => (by assumption : ∀ p ∈ (157, tabObj #[]) :: news, p.1 < _) p (List.mem_cons_of_mem _ hp)
  k_steps
  rename_i kF kN kT kX
  refine hret _ _ _ _ ?_ kF kN
  refine ⟨⟨_, _, _, _, _, _, _, _, _, _, _, _, _, _, _, _, _, _, _, _, _, _, _, _, _, _, _, _, _⟩, _, _, _, rfl, rfl, ?_⟩
  refine ⟨by assumption, by assumption, ⟨_, _, by assumption, by assumption⟩, ?_, ?_, ?_, ?_, ?_, ?_, ?_, ?_, ?_, ?_, ?_, fun p hp => Nat.lt_trans (hnL p hp) ?_⟩
  all_goals (dsimp only; omega)
end Mine
end
open PySem PySem.W PyProof.Rows PySem.Calls Mine
local macro_rules | `(tactic| k_all) => `(tactic| first | assumption | exact all_ne_of_lt (by assumption) (by omega))
section
open PySem PySem.W PyProof.Rows PySem.Spec PySem.Calls
namespace Mine
open PyProof.Rows.LCg (NsObj ns_obj lst lst_snoc)
section
variable {prog : Program} {w : World} {A : Around} {R : Result → Shared → Prop} {I : Addr} {fp wr : List Addr} {G : Array GenState → Array GenState → Prop} {n : Nat} {P : Nat → Value → Prop} {St : Nat → Shared → Prop}
theorem ext_loop (W : WalksS prog w A.in1 I fp wr G n P St) (S : Addr) (hSf : S ∉ fp) (res : Value) (bs : Array Value) (hn : n + bs.size ≤ 100000) :
    ∀ (k i : Nat) (s : Shared) (acc : Array Value) (c : Nat), n - i = k → i ≤ n → St i s → s.heap.get? S = some { cls := .type "list", dict := none, data := .seq (bs ++ acc) c, slots := #[] } → ItemsOf P acc i →
    (∀ s' acc' c', Moved (S :: wr) G s s' → s'.heap.get? S = some { cls := .type "list", dict := none, data := .seq (bs ++ acc') c', slots := #[] } → ItemsOf P acc' n → R (.ok (.ret res)) s') →
    codeAny (model prog w) A (.builtin "list.extend.loop" ⟨[.ref S, .ref I, res], []⟩) R s := by
  have hSw : S ∉ wr := fun h => hSf (W.sub _ h)
  have hsub : ∀ b ∈ wr, b ∈ S :: wr := fun b hb => List.mem_cons_of_mem _ hb
  have hsl : sizeLine = 16777216 := rfl
  intro k
  induction k with
  | zero =>
    intro i s acc c hk hi hst hS hacc hR
    have hin : i = n := by lia
    subst hin
    refine codeAny_builtin F.entry_extend_loop ?_
    rw [Around.under_plainId F.plain_extend_loop _]
    show wpAny _ A.in1 (pyNext (.ref I) >>= _) _ _ s
    refine wpAny_bind (W.done s _ _ hst fun s' hm => ?_)
    exact wpAny_pure (hR s' acc c (hm.mono hsub) (hm.heap S _ hSw hS) hacc)
  | succ k ih =>
    intro i s acc c hk hi hst hS hacc hR
    have hlt : i < n := by lia
    refine codeAny_builtin F.entry_extend_loop ?_
    rw [Around.under_plainId F.plain_extend_loop _]
    show wpAny _ A.in1 (pyNext (.ref I) >>= _) _ _ s
    refine wpAny_bind (W.item i s _ _ hlt hst fun v s' hP hst' hm => ?_)
    have hS' := hm.heap S _ hSw hS
    show wpAny _ A.in1 (updateSeq S (·.push v) >>= _) _ _ _
    refine wpAny_bind ?_
    have hpush : (bs ++ acc).push v = bs ++ acc.push v := by simp
    have hnew := Heap.get?_update_self (Obj.mapSeq (·.push v)) hS' rfl
    refine wpAny_updateSeq hS' rfl (wpAny_pure ⟨plainId_quiet F.plain_extend_loop _, ih (i + 1) _ (acc.push v) _ (by lia) hlt (W.frame _ s' _ s'.toks hst' (Nat.le_refl _) fun b hb o e => ?_) (by rw [← hpush]; exact hnew) (hacc.push hP) fun s'' acc' c' hm'' hS'' hacc' => ?_⟩)
      (by rw [Array.size_append, hacc.1]; lia) (by show ((bs ++ acc).push v).size ≤ sizeLine + 1; rw [Array.size_push, Array.size_append, hacc.1]; lia)
    · exact (Heap.get?_update_other _ _ (fun h : S = b => hSf (by rw [h]; exact hb))).trans e
    · refine hR s'' acc' c' (Moved.trans W.gtrans ((hm.mono hsub).then_heap (by first | exact Nat.le_refl _ | exact Nat.le_succ _ | lia) fun b o hb e => ?_) hm'') hS'' hacc'
      exact (Heap.get?_update_other _ _ (fun h : S = b => hb (by rw [h]; exact List.mem_cons_self))).trans e
end
section
variable {prog : Program} {w : World} {A : Around} {E : Value → Shared → Prop} {s : Shared}
theorem ext_str {R : Result → Shared → Prop} (hh : A.handled = none) (x : Str) (t : Tok) (S : Addr) (res : Value) (bs : Array Value) (c₀ : Nat) (hS : s.heap.get? S = some { cls := .type "list", data := .seq bs c₀ }) (hn : x.cps.size + bs.size ≤ 100000)
    (hR : ∀ h' tk acc' c', (∀ b o, b ≠ S → s.heap.get? b = some o → h'.get? b = some o) → h'.get? S = some { cls := .type "list", dict := none, data := .seq (bs ++ acc') c', slots := #[] } →
      acc'.size = x.cps.size → R (.ok (.ret res)) { s with heap := h', toks := tk }) :
    wpAny (model prog w) A.in1 (Builtin.List.listExtendWith (.ref S) (.str x t) res)
      (fun fin s' => match fin with | .done f => R (.ok f) s' | .again c' => c'.quiet = true ∧ codeAny (model prog w) A c' R s') (fun e s' => R (.error e) s') s := by
  have hSI : S ≠ s.heap.objs.size := Nat.ne_of_lt (Heap.lt_size hS)
  have hSf : S ∉ [s.heap.objs.size] := fun hm => hSI (List.mem_singleton.mp hm)
  unfold Builtin.List.listExtendWith
  refine wpAny_bind (wpAny_typeOf (T := "str") (v := .str x t) rfl ?_)
  have h1 : Builtin.List.listSameRef (.ref S) (.str x t) = false := rfl
  have h2 : (Value.type "str" == Value.type "list") = false := by decide
  have h3 : (Value.type "str" == Value.type "tuple") = false := by decide
  simp only [h1, h2, h3, Bool.or_false, Bool.false_eq_true, if_false]
  refine wpAny_bind (wpAny_pyIter_str fun o St W hst => ?_)
  refine wpAny_bind (wpAny_holding ?_)
  unfold Builtin.List.listLengthHint
  refine wpAny_bind (wpAny_specialOf (T := "str") (v := .str x t) rfl F.str_len ?_)
  wp_delta
  refine wpAny_bind (wpAny_isInstance (T := "str") (v := .str x t) (b := true) rfl (by rw [isSubtype_type]; kernel_rfl) ?_)
  show wpAny _ _ (typeOf (Value.str x t) >>= _) _ _ _
  refine wpAny_bind (wpAny_typeOf (T := "str") (v := .str x t) rfl ?_)
  refine wpAny_pure ?_
  rw [if_neg (by decide)]
  refine wpAny_pure ⟨plainId_quiet F.plain_extend_loop _, ext_loop (W A.in1 hh).toS _ hSf _ bs hn x.cps.size 0 _ #[] _ rfl (Nat.zero_le _) hst (by rw [Array.append_empty]; exact Heap.get?_push_of_some _ hS) (ItemsOf.nil _) fun s' acc' c' hm hS' hacc => ?_⟩
  rw [Moved.eq_with hm]
  refine hR s'.heap s'.toks acc' c' (fun b ob hb e => hm.heap b ob (fun hmem => ?_) (Heap.get?_push_of_some _ e)) hS' hacc.1
  rcases List.mem_cons.mp hmem with e' | hmem
  · exact hb e'
  · exact absurd (Heap.lt_size e) (by rw [List.mem_singleton.mp hmem]; exact Nat.lt_irrefl _)
theorem extend_str {h₀ : Heap} {L : Addr} {m : Nm} {news : Led} {g : Obj → Led} {D : Addr} {bs : Array Value} {c₀ : Nat} {x : Str} {t : Tok} {Q : Value → Shared → Prop} (hh : A.handled = none) (Fm : Fr h₀ L s.heap m) (N : News h₀ L s.heap news) (U : UpdF D (W.listOf bs c₀) news g) (hn : x.cps.size + bs.size ≤ 100000)
    (h : ∀ h' tk' acc c', acc.size = x.cps.size → Fr h₀ L h' m → News h₀ L h' (g (W.listOf (bs ++ acc) c')) → Q .none { s with heap := h', toks := tk' }) : wpAny (model prog w) A (call (.builtin "list.extend") [.ref D, .str x t]) Q E s := by
  refine Classical.byContradiction fun gK => ?_
  obtain ⟨pre, post, e1, e2, e3, e4⟩ := U.split
  refine gK ?_
  clear gK
  have hl : (D, W.listOf bs c₀) ∈ news := by rw [e1]; exact List.mem_append_right _ List.mem_cons_self
  have gl := N.get hl
  refine call_meetsIn F.slot_list_extend ⟨_, gl, rfl⟩ F.entry_list_extend (F.args_list_extend_2 _ _) (S := fun A R s' => A.handled = none ∧ s' = s ∧ ∀ h' tk acc' c', (∀ b o, b ≠ D → s.heap.get? b = some o → h'.get? b = some o) → h'.get? D = some { cls := .type "list", dict := none, data := .seq (bs ++ acc') c', slots := #[] } →
      acc'.size = x.cps.size → R (.ok (.ret .none)) { s with heap := h', toks := tk }) (fun A' R s' hs => ?_) ⟨hh, rfl, fun h' tk acc' c' hk hD hz => ?_⟩
  · obtain ⟨hh', rfl, hR⟩ := hs
    exact ext_str (A := A') hh' x t D .none bs c₀ gl hn hR
  · have z := N _ hl
    refine h h' tk acc' c' hz ⟨Fm.ns.at' fun o e => hk _ o z.2.1.symm e, fun b o e => hk b o (fun q => by rw [q, z.2.2] at e; cases e) (Fm.keep b o e), Fm.above⟩ fun p hp => ?_
    rw [e2] at hp
    rcases List.mem_append.mp hp with hp | hp
    · have zp := N p (by rw [e1]; exact List.mem_append_left _ hp)
      exact ⟨hk _ _ (e3 p hp) zp.1, zp.2⟩
    rcases List.mem_cons.mp hp with rfl | hp
    · exact ⟨hD, z.2⟩
    · have zp := N p (by rw [e1]; exact List.mem_append_right _ (List.mem_cons_of_mem _ hp))
      exact ⟨hk _ _ (e4 p hp) zp.1, zp.2⟩
end
open Builtin.Str in
theorem sliceIdx (i n : Nat) (h : i < n) : Builtin.Str.strSliceIndices (some (i : Int)) (some ((i : Int) + 1)) 1 n = [i] := by
  unfold Builtin.Str.strSliceIndices
  have h0 : ¬ (i : Int) < 0 := by lia
  have h1 : ¬ (i : Int) + 1 < 0 := by lia
  simp only [show (1 : Int) > 0 by decide, if_true, h0, h1, if_false]
  rw [show max 0 (min (i : Int) (n : Int)) = i by lia, show max 0 (min ((i : Int) + 1) (n : Int)) = i + 1 by lia]
  unfold sliceRange
  simp only [show (1 : Int) > 0 by decide, if_true, show (i : Int) < i + 1 by lia]
  rw [show ((i : Int) + 1 - i + 1 - 1) / 1 = 1 by lia]
  simp [List.range_succ]
theorem sliceIdx0 (i n : Nat) (h : n ≤ i) : Builtin.Str.strSliceIndices (some (i : Int)) (some ((i : Int) + 1)) 1 n = [] := by
  unfold Builtin.Str.strSliceIndices
  have h0 : ¬ (i : Int) < 0 := by lia
  have h1 : ¬ (i : Int) + 1 < 0 := by lia
  simp only [show (1 : Int) > 0 by decide, if_true, h0, h1, if_false]
  rw [show max 0 (min (i : Int) (n : Int)) = n by lia, show max 0 (min ((i : Int) + 1) (n : Int)) = n by lia]
  unfold sliceRange
  simp
theorem slice1 (x : Str) (i c : Nat) (h : x.cps[i]? = some c) (h2 : 1 < x.cps.size) : Txt.slice x (some (i : Int)) (some ((i : Int) + 1)) = ⟨#[c]⟩ := by
  have hi : i < x.cps.size := by
    rcases Nat.lt_or_ge i x.cps.size with h' | h'
    · exact h'
    · rw [Array.getElem?_eq_none h'] at h; cases h
  unfold Txt.slice
  rw [show x.length = x.cps.size from rfl, sliceIdx i _ hi]
  have : ([i].length == x.cps.size) = false := by simp; lia
  rw [this, if_neg (by simp)]
  simp [h]
theorem slice0 (x : Str) (i : Nat) (h : x.cps.size ≤ i) (h2 : 1 < x.cps.size) : Txt.slice x (some (i : Int)) (some ((i : Int) + 1)) = ⟨#[]⟩ := by
  unfold Txt.slice
  rw [show x.length = x.cps.size from rfl, sliceIdx0 i _ h]
  have : (([] : List Nat).length == x.cps.size) = false := by simp; lia
  rw [this, if_neg (by simp)]
  simp
end Mine
end
local macro_rules | `(tactic| walk_at "pad") => `(tactic| skip)
section
open PySem PySem.W PyProof.Rows PySem.Spec PySem.Calls
namespace Mine
open PyProof.Rows.LCg (NsObj ns_obj lst lst_snoc)
local macro_rules | `(tactic| k_all) => `(tactic| first | assumption | exact all_ne_of_lt (by assumption) (by lia))
noncomputable abbrev ClC (w : World) (mean : ExcName → Option Value) (mg mb : PySem.Str → Option Value) (f : Addr) (news : Led) (vs : List Value) (Fin : Value → Led → Prop) : Prop :=
  ∀ (dp un : Nat) (gd : Option (List Code)) (cn : Str) (cs : Scope) (a : Addr) (ccd : Value) (cl : List (Str × Addr)) (outer : List Env) (A₀ : Around) (base h₀ : Heap) (L : Addr) (m : Str → Option Value) (s : Shared) (Q E : Value → Shared → Prop),
    Below A₀ base outer h₀ → Fr h₀ L s.heap m → (K w.params).In h₀ → News h₀ L s.heap news → Top topProg lw mean mg mb h₀ → cs.kind = .function → dp + 40 < recursionLimit → un + 200 < cLine →
    (∀ v news' h' tk', Fin v news' → Fr h₀ L h' m → News h₀ L h' news' → Q v { s with heap := h', toks := tk' }) →
      codeAny (model PySem.Challenge.rw_tp0040_01.row.prog w) (ktrTop dp un gd cn cs L a ccd cl outer) (.call (.ref f) ⟨vs, []⟩) (fun r s' => match r with | .ok (.ret v) => Q v s' | .ok _ => False | .error e => E e s') s
theorem ClC.cl {w : World} {mean : ExcName → Option Value} {mg mb : PySem.Str → Option Value} {f : Addr} {news : Led} {vs : List Value} {Fin : Value → Led → Prop} (x : ClC w mean mg mb f news vs Fin) : Cl w mean mg mb f news vs Fin :=
  fun dp un gd cn cs a ccd cl outer A₀ base h₀ L m s Q E h1 h2 h3 h4 h5 h6 h7 h8 h9 => wpAny_call (x dp un gd cn cs a ccd cl outer A₀ base h₀ L m s Q E h1 h2 h3 h4 h5 h6 h7 h8 h9)
-- 
local macro_rules | `(tactic| walk_at "call ref") => `(tactic| (k_here; kn_here; k_dflt (apply wpAny_call; apply code_nest; (walk_at "k5"); exact rfl; exact rfl; (first | exact rfl | assumption); k_mem; exact codeRec_news (by k_asm) (by k_mem) (by assumption) (by assumption); walk_at "ent9")))
local macro_rules | `(tactic| walk_at "call builtin:list.extend") => `(tactic| (k_here; k_dflt (apply extend_str; rfl; k_asm; k_asm; k_updF; (simp only [List.size_toArray]; (try simp only [List.size_toArray, List.length_cons, List.length_nil]); lia); k_whole); walk_at "in9"))
theorem len_app1 (gi : List Value) (acc : Array Value) (k : Nat) (h : acc.size = k) : (gi ++ acc.toList).length = gi.length + k := by simp [h]
theorem char_nl {c : Nat} (h : ((⟨#[c]⟩ : Str) == Str.ofString "\n") = true) : c = 10 := by
  have e : (⟨#[c]⟩ : Str) = Str.ofString "\n" := eq_of_beq h
  have e2 : (#[c] : Array Nat) = #[10] := congrArg Str.cps e
  simpa using e2
theorem char_no {c : Nat} (h : ((⟨#[c]⟩ : Str) == Str.ofString "\n") = false) : c ≠ 10 := by
  rintro rfl
  exact absurd (show ((⟨#[10]⟩ : Str) == Str.ofString "\n") = true from by decide) (by rw [h]; decide)
set_option maxHeartbeats 0 in
theorem c_read (w : World) (mean : ExcName → Option Value) (mg mb : PySem.Str → Option Value) (news news0 : Led) (x : Str) (tx : Tok) (P : LexP) (gi : List Value) (kg : Nat) (line : Int) (tl : Tok) (pbs : List Value) (kp : Nat)
    (hx : 1 < x.cps.size ∧ x.cps.size ≤ 1000) (hP : LexOk x tx news0 P) (n1 : ∀ p ∈ news, p.1 ≠ P.pb) (n2 : ∀ p ∈ news, p.1 ≠ P.gone) (n3 : ∀ p ∈ news, p.1 ≠ P.dx) (c : Nat) (hc : x.cps[gi.length]? = some c) :
  ClC w mean mg mb 42 (lexL w.params P gi kg line tl pbs kp ++ news) [Value.ref P.lx] (fun v news' => ∃ gi' kg' tl' t, v = .str ⟨#[c]⟩ t ∧ gi'.length = gi.length + 1 ∧ news' = lexL w.params P gi' kg' (if c = 10 then line + 1 else line) tl' pbs kp ++ news) := by
  unfold ClC
  k_fill
  intro dp un gd cn cs a ccd cl outer A₀ base h₀ L m s Q E hB hF hX hN hT hk hdp hun hret
  refine Classical.byContradiction fun gK => ?_
  obtain ⟨e1, e2, ⟨vs, te, e3, e4⟩, l0, l1, l2, l3, l4, l5, l6, l7, l8, l9, la, _⟩ := hP
  refine gK ?_
  clear gK
  rcases P with ⟨pb, lx, dx, f, cd, gone, pb0, st, dst, c2, c1, oc, o2, o1, dc, ct, nm, k1, k2, k3, k4, k5, j0, j1, j2, j3, j4, j5, j6⟩
  simp only at e1 e2 e3 e4 l0 l1 l2 l3 l4 l5 l6 l7 l8 l9 la n1 n2 n3 hret
  simp only [lexL, List.cons_append, List.nil_append] at hN
  have hC : CodeHd h₀ 161 157 := codeHd_of_K hX (by kernel_rfl)
  have hgl : gi.length < x.cps.size := by
    rcases Nat.lt_or_ge gi.length x.cps.size with h | h
    · exact h
    · rw [Array.getElem?_eq_none h] at hc; cases hc
  have hga : gi.toArray.size = gi.length := by simp
  have hgb : gi.length ≤ 1000 := by lia
  k_dflt cell_enter
  refine hideT fun tk00 => ?_
  have hsl := slice1 x gi.length c hc hx.1
  k_steps
  rw [hsl]
  k_steps
  all_goals rename_i kF kN kT kX
  all_goals (
    have hz : ∀ acc : Array Value, acc.size = (⟨#[c]⟩ : Str).cps.size → (gi ++ acc.toList).length = gi.length + 1 := fun acc h => len_app1 gi acc 1 h
    have ha : ∀ acc : Array Value, gi.toArray ++ acc = (gi ++ acc.toList).toArray := fun acc => by simp
    simp only [ha] at kN
    rw [hsl]
    refine hret _ _ _ _ ?_ kF kN)
  · have h10 : c = 10 := char_nl (by rw [← hsl]; assumption)
    exact ⟨_, _, _, _, rfl, hz _ (by assumption), by rw [if_pos h10]; rfl⟩
  · have h10 : c ≠ 10 := char_no (by rw [← hsl]; assumption)
    exact ⟨_, _, _, _, rfl, hz _ (by assumption), by rw [if_neg h10]; rfl⟩
end Mine
end
section
open PySem PySem.W PyProof.Rows PySem.Spec PySem.Calls
namespace Mine
open PyProof.Rows.LCg (NsObj ns_obj lst lst_snoc)
local macro_rules | `(tactic| k_all) => `(tactic| first | assumption | exact all_ne_of_lt (by assumption) (by lia))
local macro_rules | `(tactic| walk_at "call ref") => `(tactic| (k_here; kn_here; k_dflt (apply wpAny_call; apply code_nest; (walk_at "k5"); exact rfl; exact rfl; (first | exact rfl | assumption); k_mem; exact codeRec_news (by k_asm) (by k_mem) (by assumption) (by assumption); walk_at "ent9")))
local macro_rules | `(tactic| walk_at "call builtin:list.extend") => `(tactic| (k_here; k_dflt (apply extend_str; rfl; k_asm; k_asm; k_updF; (simp only [List.size_toArray]; (try simp only [List.size_toArray, List.length_cons, List.length_nil]); lia); k_whole); walk_at "in9"))
set_option maxHeartbeats 0 in
theorem c_read0 (w : World) (mean : ExcName → Option Value) (mg mb : PySem.Str → Option Value) (news news0 : Led) (x : Str) (tx : Tok) (P : LexP) (gi : List Value) (kg : Nat) (line : Int) (tl : Tok) (pbs : List Value) (kp : Nat)
    (hx : 1 < x.cps.size ∧ x.cps.size ≤ 1000) (hP : LexOk x tx news0 P) (n1 : ∀ p ∈ news, p.1 ≠ P.pb) (n2 : ∀ p ∈ news, p.1 ≠ P.gone) (n3 : ∀ p ∈ news, p.1 ≠ P.dx) (hc : gi.length = x.cps.size) :
  ClC w mean mg mb 42 (lexL w.params P gi kg line tl pbs kp ++ news) [Value.ref P.lx] (fun v news' => ∃ gi' kg' tl' t, v = .str ⟨#[]⟩ t ∧ gi'.length = gi.length ∧ news' = lexL w.params P gi' kg' line tl' pbs kp ++ news) := by
  unfold ClC
  k_fill
  intro dp un gd cn cs a ccd cl outer A₀ base h₀ L m s Q E hB hF hX hN hT hk hdp hun hret
  refine Classical.byContradiction fun gK => ?_
  obtain ⟨e1, e2, ⟨vs, te, e3, e4⟩, l0, l1, l2, l3, l4, l5, l6, l7, l8, l9, la, _⟩ := hP
  refine gK ?_
  clear gK
  rcases P with ⟨pb, lx, dx, f, cd, gone, pb0, st, dst, c2, c1, oc, o2, o1, dc, ct, nm, k1, k2, k3, k4, k5, j0, j1, j2, j3, j4, j5, j6⟩
  simp only at e1 e2 e3 e4 l0 l1 l2 l3 l4 l5 l6 l7 l8 l9 la n1 n2 n3 hret
  simp only [lexL, List.cons_append, List.nil_append] at hN
  have hC : CodeHd h₀ 161 157 := codeHd_of_K hX (by kernel_rfl)
  have hga : gi.toArray.size = gi.length := by simp
  have hgb : gi.length ≤ 1000 := by lia
  k_dflt cell_enter
  refine hideT fun tk00 => ?_
  have hsl := slice0 x gi.length (Nat.le_of_eq hc.symm) hx.1
  k_steps
  rw [hsl]
  k_steps
  all_goals rename_i kF kN kT kX
  all_goals (
    have hz : ∀ acc : Array Value, acc.size = (⟨#[]⟩ : Str).cps.size → (gi ++ acc.toList).length = gi.length := fun acc h => len_app1 gi acc 0 h
    have ha : ∀ acc : Array Value, gi.toArray ++ acc = (gi ++ acc.toList).toArray := fun acc => by simp
    simp only [ha] at kN
    rw [hsl])
  · exact absurd (by rw [← hsl]; assumption : ((⟨#[]⟩ : Str) == Str.ofString "\n") = true) (by decide)
  · refine hret _ _ _ _ ?_ kF kN
    exact ⟨_, _, _, _, rfl, hz _ (by assumption), rfl⟩
end Mine
end
section
open PySem PySem.W PyProof.Rows PySem.Spec PySem.Calls
namespace Mine
open PyProof.Rows.LCg (NsObj ns_obj lst lst_snoc)
local macro_rules | `(tactic| k_all) => `(tactic| first | assumption | exact all_ne_of_lt (by assumption) (by lia))
set_option maxHeartbeats 0 in
theorem c_push (w : World) (mean : ExcName → Option Value) (mg mb : PySem.Str → Option Value) (news news0 : Led) (x : Str) (tx : Tok) (P : LexP) (gi : List Value) (kg : Nat) (line : Int) (tl : Tok) (pbs : List Value) (kp : Nat)
    (hP : LexOk x tx news0 P) (n1 : ∀ p ∈ news, p.1 ≠ P.pb) (hz : pbs.length ≤ 1000) (y : Str) (ty : Tok) :
  Cl w mean mg mb 56 (lexL w.params P gi kg line tl pbs kp ++ news) [Value.ref P.lx, .str y ty] (fun v news' => ∃ kp', v = .none ∧ news' = lexL w.params P gi kg line tl (pbs ++ [.str y ty]) kp' ++ news) := by
  unfold Cl
  k_fill
  intro dp un gd cn cs a ccd cl outer A₀ base h₀ L m s Q E hB hF hX hN hT hk hdp hun hret
  refine Classical.byContradiction fun gK => ?_
  obtain ⟨e1, e2, ⟨vs, te, e3, e4⟩, l0, l1, l2, l3, l4, l5, l6, l7, l8, l9, la, _⟩ := hP
  refine gK ?_
  clear gK
  rcases P with ⟨pb, lx, dx, f, cd, gone, pb0, st, dst, c2, c1, oc, o2, o1, dc, ct, nm, k1, k2, k3, k4, k5, j0, j1, j2, j3, j4, j5, j6⟩
  simp only at e1 e2 e3 e4 l0 l1 l2 l3 l4 l5 l6 l7 l8 l9 la n1 hret
  simp only [lexL, List.cons_append, List.nil_append] at hN
  have hga : pbs.toArray.size = pbs.length := by simp
  refine wpAny_call ?_
  k_dflt cell_enter
  refine hideT fun tk00 => ?_
  k_steps
  rename_i kF kN kT kX
  rw [show pbs.toArray.push (Value.str y ty) = (pbs ++ [Value.str y ty]).toArray from by simp] at kN
  exact hret _ _ _ _ ⟨_, rfl, rfl⟩ kF kN
theorem pop_idx (p0 : Value) (pbs : List Value) : PySem.seqIndex? 0 (p0 :: pbs).toArray.size = some 0 := by
  unfold PySem.seqIndex?
  simp
local macro_rules | `(tactic| walk_at "call builtin:list.pop") => `(tactic| (k_here; k_dflt (apply kl_popAt; k_asm; k_asm; rotate_left 3; k_upd; rotate_right 3; rfl; exact pop_idx _ _; rfl; (have hsl : sizeLine = 16777216 := rfl; simp; lia)); walk_at "in9"))
set_option maxHeartbeats 0 in
theorem c_pop (w : World) (mean : ExcName → Option Value) (mg mb : PySem.Str → Option Value) (news news0 : Led) (x : Str) (tx : Tok) (P : LexP) (gi : List Value) (kg : Nat) (line : Int) (tl : Tok) (p0 : Value) (pbs : List Value) (kp : Nat)
    (hP : LexOk x tx news0 P) (n1 : ∀ p ∈ news, p.1 ≠ P.pb) (hz : pbs.length ≤ 1000) :
  Cl w mean mg mb 49 (lexL w.params P gi kg line tl (p0 :: pbs) kp ++ news) [Value.ref P.lx] (fun v news' => ∃ kp', v = p0 ∧ news' = lexL w.params P gi kg line tl pbs kp' ++ news) := by
  unfold Cl
  k_fill
  intro dp un gd cn cs a ccd cl outer A₀ base h₀ L m s Q E hB hF hX hN hT hk hdp hun hret
  refine Classical.byContradiction fun gK => ?_
  obtain ⟨e1, e2, ⟨vs, te, e3, e4⟩, l0, l1, l2, l3, l4, l5, l6, l7, l8, l9, la, _⟩ := hP
  refine gK ?_
  clear gK
  rcases P with ⟨pb, lx, dx, f, cd, gone, pb0, st, dst, c2, c1, oc, o2, o1, dc, ct, nm, k1, k2, k3, k4, k5, j0, j1, j2, j3, j4, j5, j6⟩
  simp only at e1 e2 e3 e4 l0 l1 l2 l3 l4 l5 l6 l7 l8 l9 la n1 hret
  simp only [lexL, List.cons_append, List.nil_append] at hN
  have hga : (p0 :: pbs).toArray.size = pbs.length + 1 := by simp
  refine wpAny_call ?_
  k_dflt cell_enter
  refine hideT fun tk00 => ?_
  k_steps
  rename_i kF kN kT kX
  exact hret _ _ _ _ ⟨_, rfl, rfl⟩ kF kN
end Mine
end
section
open PySem PySem.W PyProof.Rows PySem.Spec PySem.Calls
namespace Mine
open PyProof.Rows.LCg (NsObj ns_obj lst lst_snoc)
theorem slot_ci_next : Slot "callable_iterator" "__next__" "callable_iterator.__next__" :=
  .of (owner := "callable_iterator") (n := "__next__") (by rw [typeLookup_type, builtinLookup_eq_fast]; kernel_rfl) (by decide +kernel) (by decide +kernel) (by decide +kernel)
    (by first | exact .inl (by decide +kernel) | exact .inr (by decide +kernel)) (by rw [isSubtype_type]; kernel_rfl)
theorem entry_ci_next : entryFor table "callable_iterator.__next__" = some Builtin.«callable_iterator.__next__» := entryFor_of_fast (by kernel_rfl)
theorem slot_ci_iter : Slot "callable_iterator" "__iter__" "callable_iterator.__iter__" :=
  .of (owner := "callable_iterator") (n := "__iter__") (by rw [typeLookup_type, builtinLookup_eq_fast]; kernel_rfl) (by decide +kernel) (by decide +kernel) (by decide +kernel)
    (by first | exact .inl (by decide +kernel) | exact .inr (by decide +kernel)) (by rw [isSubtype_type]; kernel_rfl)
theorem entry_ci_iter : entryFor table "callable_iterator.__iter__" = some Builtin.«dict_keyiterator.__iter__» :=
  entryFor_alias (id' := "dict_keyiterator.__iter__") (by kernel_rfl) rfl (by decide +kernel) (by kernel_rfl)
theorem args_ci_next (a : Value) : argsOk "callable_iterator.__next__" ⟨[a], []⟩ := by unfold argsOk; kernel_rfl
theorem args_ci_iter (a : Value) : argsOk "callable_iterator.__iter__" ⟨[a], []⟩ := by unfold argsOk; kernel_rfl
noncomputable abbrev ciObj (bm : Addr) (t : Tok) : Obj := { cls := .type "callable_iterator", data := .fields #[.ref bm, .str (Str.ofString "") t, .bool false] }
section
variable {prog : Program} {w : World} {A : Around} {E : Value → Shared → Prop} {s : Shared}
theorem borrows_method {M : Model} {bm f : Addr} {self : Value} {o : Obj} {fd : FuncData} {Q : Bool → Shared → Prop} (hb : s.heap.get? bm = some (methodObj (.ref f) self)) (hf : s.heap.get? f = some o) (hd : o.data = .func fd) (h : Q true s) : wpAny M A (borrowsExactly (.ref bm)) Q E s := by
  unfold borrowsExactly
  refine wpAny_bind (wpAny_load hb ?_)
  show wpAny M A (load f >>= fun o => _) Q E s
  refine wpAny_bind (wpAny_load hf ?_)
  rw [hd]
  exact wpAny_pure h
theorem callBorrowed_any {M : Model} {f : Value} {pos : List Value} {Q : Value → Shared → Prop} (hc : codeAny M A (.call f ⟨pos, []⟩) (fun r s' => match r with | .ok (.ret v) => Q v s' | .ok _ => False | .error e => E e s') s) : wpAny M A (callBorrowed f pos) Q E s :=
  fun Γ p hΓ => wpCode_mono (fun r s' h => by
    cases r with
    | error e => exact h
    | ok fl =>
      cases fl with
      | ret v => exact h
      | _ => exact h.elim) (hc _ p rfl (hΓ.enter _ none p (by intro x; cases x)))
theorem ci_iter {I bm : Addr} {t : Tok} {Q : Value → Shared → Prop} (hI : s.heap.get? I = some (ciObj bm t)) (h : Q (.ref I) s) : wpAny (model prog w) A (pyIter (.ref I)) Q E s := by
  have hT : s.TypeIs (.ref I) "callable_iterator" := ⟨_, hI, rfl⟩
  refine wpAny_pyIter_slot hT slot_ci_iter (wpAny_call_entry slot_ci_iter hT entry_ci_iter ?_ (args_ci_iter _))
  show wpAny _ _ (ret (.ref I)) _ _ s
  exact wpAny_pure ⟨_, rfl, "callable_iterator", _, hT, slot_ci_next.lookup, h⟩
theorem ci_item {I bm f : Addr} {self : Value} {t : Tok} {o : Obj} {fd : FuncData} {Q : Option Value → Shared → Prop} (hI : s.heap.get? I = some (ciObj bm t)) (hb : s.heap.get? bm = some (methodObj (.ref f) self)) (hf : s.heap.get? f = some o) (hd : o.data = .func fd)
    (hc : codeAny (model prog w) A.in1 (.call (.ref f) ⟨[self], []⟩) (fun r s' => match r with | .ok (.ret v) => (∃ x u, v = .str x u ∧ Str.ofString "" ≠ x) ∧ s'.heap.get? I = some (ciObj bm t) ∧ Q (some v) s' | .ok _ => False | .error _ => False) s) :
    wpAny (model prog w) A (pyNext (.ref I)) Q E s := by
  have hT : s.TypeIs (.ref I) "callable_iterator" := ⟨_, hI, rfl⟩
  unfold pyNext
  refine wpAny_bind (wpAny_attempt (wpAny_callSpecial?_slot (name := Str.ofString "__next__") hT slot_ci_next
    (wpAny_call_entry slot_ci_next hT entry_ci_next ?_ (args_ci_next _))))
  show wpAny _ _ (field (.ref I) 2 >>= _) _ _ s
  refine wpAny_bind (wpAny_field hI rfl (x := .bool false) rfl ?_)
  show wpAny _ _ (if (Value.bool false == Value.bool true) = true then _ else _) _ _ s
  rw [if_neg (by decide)]
  show wpAny _ _ (field (.ref I) 0 >>= _) _ _ s
  refine wpAny_bind (wpAny_field hI rfl (x := .ref bm) rfl ?_)
  refine wpAny_bind (wpAny_attempt ?_)
  unfold callOutOfASlot
  refine wpAny_bind (borrows_method hb hf hd ?_)
  rw [if_pos rfl]
  refine callBorrowed_any (method_call hb ?_)
  refine codeAny_mono hc fun r s' h => ?_
  cases r with
  | error e => exact h.elim
  | ok fl =>
    cases fl with
    | ret v =>
      refine Classical.byContradiction fun gK => ?_
      obtain ⟨⟨x, u, rfl, hx⟩, hI', hQ⟩ := h
      refine gK ?_
      clear gK
      show wpAny _ _ (field (.ref I) 2 >>= _) _ _ s'
      refine wpAny_bind (wpAny_field hI' rfl (x := .bool false) rfl ?_)
      show wpAny _ _ (if (Value.bool false == Value.bool true) = true then _ else _) _ _ s'
      rw [if_neg (by decide)]
      refine wpAny_bind (wpAny_field hI' rfl (x := .str (Str.ofString "") t) rfl ?_)
      refine wpAny_bind (wpAny_holding (wpAny_eqBool_str ?_))
      rw [decide_eq_false hx]
      exact wpAny_pure ⟨_, rfl, wpAny_pure hQ⟩
    | _ => exact h.elim
theorem ci_end {I bm f : Addr} {self : Value} {t : Tok} {o : Obj} {fd : FuncData} {Q : Option Value → Shared → Prop} (hh : A.handled = none) (hI : s.heap.get? I = some (ciObj bm t)) (hb : s.heap.get? bm = some (methodObj (.ref f) self)) (hf : s.heap.get? f = some o) (hd : o.data = .func fd) 
    (hc : codeAny (model prog w) A.in1 (.call (.ref f) ⟨[self], []⟩) (fun r s' => match r with | .ok (.ret v) => (∃ u, v = .str (Str.ofString "") u) ∧ s'.heap.get? I = some (ciObj bm t) ∧ s'.heap.get? bm = some (methodObj (.ref f) self) ∧ s'.heap.get? f = some o ∧
      (∀ h', (∀ b ob, b ≠ I → s'.heap.get? b = some ob → h'.get? b = some ob) → Q none { s' with heap := h' }) | .ok _ => False | .error _ => False) s) :
    wpAny (model prog w) A (pyNext (.ref I)) Q E s := by
  have hT : s.TypeIs (.ref I) "callable_iterator" := ⟨_, hI, rfl⟩
  unfold pyNext
  refine wpAny_bind (wpAny_attempt (wpAny_callSpecial?_slot (name := Str.ofString "__next__") hT slot_ci_next
    (wpAny_call_entry slot_ci_next hT entry_ci_next ?_ (args_ci_next _))))
  show wpAny _ _ (field (.ref I) 2 >>= _) _ _ s
  refine wpAny_bind (wpAny_field hI rfl (x := .bool false) rfl ?_)
  show wpAny _ _ (if (Value.bool false == Value.bool true) = true then _ else _) _ _ s
  rw [if_neg (by decide)]
  show wpAny _ _ (field (.ref I) 0 >>= _) _ _ s
  refine wpAny_bind (wpAny_field hI rfl (x := .ref bm) rfl ?_)
  refine wpAny_bind (wpAny_attempt ?_)
  unfold callOutOfASlot
  refine wpAny_bind (borrows_method hb hf hd ?_)
  rw [if_pos rfl]
  refine callBorrowed_any (method_call hb ?_)
  refine codeAny_mono hc fun r s' h => ?_
  cases r with
  | error e => exact h.elim
  | ok fl =>
    cases fl with
    | ret v =>
      refine Classical.byContradiction fun gK => ?_
      obtain ⟨⟨u, rfl⟩, hI', hb', hf', hQ⟩ := h
      refine gK ?_
      clear gK
      show wpAny _ _ (field (.ref I) 2 >>= _) _ _ s'
      refine wpAny_bind (wpAny_field hI' rfl (x := .bool false) rfl ?_)
      show wpAny _ _ (if (Value.bool false == Value.bool true) = true then _ else _) _ _ s'
      rw [if_neg (by decide)]
      refine wpAny_bind (wpAny_field hI' rfl (x := .str (Str.ofString "") t) rfl ?_)
      refine wpAny_bind (wpAny_holding (wpAny_eqBool_str ?_))
      rw [decide_eq_true rfl]
      show wpAny _ _ (rule "callable_iterator.__next__.sentinel" >>= _) _ _ s'
      refine wpAny_bind (wpAny_rule ?_)
      refine wpAny_bind ?_
      show wpAny _ _ (field (.ref I) 0 >>= fun old => (slotLetsGo "callable_iterator.__next__" old _ >>= fun _ => (setField (.ref I) 0 .none >>= fun _ => (setField (.ref I) 1 .none >>= fun _ => setField (.ref I) 2 (.bool true))))) _ _ s'
      refine wpAny_bind (wpAny_field hI' rfl (x := .ref bm) rfl ?_)
      refine wpAny_bind ?_
      show wpAny _ _ (borrowsExactly (.ref bm) >>= _) _ _ s'
      refine wpAny_bind (borrows_method hb' hf' hd ?_)
      rw [if_pos rfl]
      refine wpAny_pure ?_
      refine wpAny_bind (wpAny_setField hI' rfl (by simp) ?_)
      have h1 := Heap.get?_update_self (Obj.mapFields fun vs => vs.setIfInBounds 0 Value.none) hI' rfl
      refine wpAny_bind (wpAny_setField h1 rfl (by simp) ?_)
      have h2 := Heap.get?_update_self (Obj.mapFields fun vs => vs.setIfInBounds 1 Value.none) h1 rfl
      refine wpAny_setField h2 rfl (by simp) ?_
      show wpAny _ _ (newExc (.type "StopIteration") [] >>= _) _ _ _
      refine wpAny_bind ?_
      simp only [newExc, newTuple]
      refine wpAny_bind (wpAny_newObj_type ?_ (by size_fits))
      refine wpAny_bind (m := firstArgMember _ _) (wpAny_of_eq (a := Value.none) (by first | rfl | (simp only [firstArgMember]; rfl)) ?_)
      refine wpAny_newObj_type ?_ (by size_fits)
      simp only [raiseNew]
      refine wpAny_bind (wpAny_handled ?_)
      rw [show A.in1.handled = none from hh]
      refine wpAny_bind (wpAny_pure (wpAny_throw ?_))
      refine wpAny_bind (wpAny_isInstance (T := "StopIteration") (b := true) ⟨_, Heap.get?_push_size _ rfl, rfl⟩ isSubtype_stop ?_)
      exact wpAny_pure (hQ _ fun b ob hb e => Heap.get?_push_of_some _ (Heap.get?_push_of_some _ ((Heap.get?_update_other _ _ hb.symm).trans ((Heap.get?_update_other _ _ hb.symm).trans ((Heap.get?_update_other _ _ hb.symm).trans e)))))
    | _ => exact h.elim
end
end Mine
end
section
open PySem PySem.W PyProof.Rows PySem.Spec PySem.Calls
namespace Mine
open PyProof.Rows.LCg (NsObj ns_obj lst lst_snoc)
noncomputable def nlc (x : Str) (pos : Nat) : Int := 1 + (((x.cps.toList.take pos).count 10 : Nat) : Int)
theorem nlc_succ (x : Str) (pos c : Nat) (h : x.cps[pos]? = some c) : nlc x (pos + 1) = if c = 10 then nlc x pos + 1 else nlc x pos := by
  unfold nlc
  have h' : x.cps.toList[pos]? = some c := by simpa using h
  rw [List.take_add_one, h', Option.toList_some, List.count_append, List.count_singleton]
  by_cases e : c = 10
  · subst e; simp; omega
  · have e' : ¬ ((c == 10) = true) := by simpa using e
    rw [if_neg e, if_neg e']; simp
noncomputable abbrev ciLed (p : Params) (P : LexP) (I bm : Addr) (t : Tok) (gi : List Value) (kg : Nat) (line : Int) (tl : Tok) (kp : Nat) (news : Led) : Led :=
  (I, ciObj bm t) :: (bm, methodObj (.ref 42) (.ref P.lx)) :: (lexL p P gi kg line tl [] kp ++ news)
noncomputable def CiLeft (p : Params) (P : LexP) (I bm : Addr) (t : Tok) (kp : Nat) (news : Led) (x : Str) (h₀ : Heap) (L : Addr) (s : Shared) (pos : Nat) (inv : Nm → Prop) (s' : Shared) : Prop :=
  ∃ h' tk' m' gi kg tl, s' = { s with heap := h', toks := tk' } ∧ gi.length = pos ∧ Fr h₀ L h' m' ∧ News h₀ L h' (ciLed p P I bm t gi kg (nlc x pos) tl kp news) ∧ inv m'
theorem CiLeft.intro {p : Params} {P : LexP} {I bm : Addr} {t : Tok} {kp : Nat} {news : Led} {x : Str} {h₀ : Heap} {L : Addr} {s : Shared} {pos : Nat} {inv : Nm → Prop} {h' : Heap} {tk' : Nat} {m' : Nm} {gi : List Value} {kg : Nat} {tl : Tok} {all : Led}
    (hg : gi.length = pos) (F : Fr h₀ L h' m') (N : News h₀ L h' all) (hs : ∀ q ∈ ciLed p P I bm t gi kg (nlc x pos) tl kp news, q ∈ all) (hi : inv m') : CiLeft p P I bm t kp news x h₀ L s pos inv { s with heap := h', toks := tk' } :=
  ⟨h', tk', m', gi, kg, tl, rfl, hg, F, fun q hq => N q (hs q hq), hi⟩
noncomputable def CiNext (p : Params) (P : LexP) (I bm : Addr) (t : Tok) (kp : Nat) (news : Led) (x : Str) (h₀ : Heap) (L : Addr) (s : Shared) (pos : Nat) (inv : Nat → Nm → Prop) (s' : Shared) : Prop := ∃ pos', pos < pos' ∧ CiLeft p P I bm t kp news x h₀ L s pos' (inv pos') s'
noncomputable def CiRet (p : Params) (P : LexP) (I bm : Addr) (t : Tok) (kp : Nat) (news : Led) (x : Str) (h₀ : Heap) (L : Addr) (s : Shared) (inv : Nat → Nm → Prop) (s' : Shared) : Prop := ∃ pos', CiLeft p P I bm t kp news x h₀ L s pos' (inv pos') s'
structure CiFar (P : LexP) (I bm : Addr) (news : Led) : Prop where
  n1 : ∀ p ∈ news, p.1 ≠ P.pb
  n2 : ∀ p ∈ news, p.1 ≠ P.gone
  n3 : ∀ p ∈ news, p.1 ≠ P.dx
  i1 : I ≠ P.pb
  i2 : I ≠ P.gone
  i3 : I ≠ P.dx
  b1 : bm ≠ P.pb
  b2 : bm ≠ P.gone
  b3 : bm ≠ P.dx
theorem CiFar.of {P : LexP} {I bm : Addr} {news : Led} (h : CiFar P I bm news) (t : Tok) : (∀ p ∈ (I, ciObj bm t) :: (bm, methodObj (.ref 42) (.ref P.lx)) :: news, p.1 ≠ P.pb) ∧ (∀ p ∈ (I, ciObj bm t) :: (bm, methodObj (.ref 42) (.ref P.lx)) :: news, p.1 ≠ P.gone) ∧ (∀ p ∈ (I, ciObj bm t) :: (bm, methodObj (.ref 42) (.ref P.lx)) :: news, p.1 ≠ P.dx) := by
  refine ⟨fun p hp => ?_, fun p hp => ?_, fun p hp => ?_⟩
  all_goals (rcases List.mem_cons.mp hp with rfl | hp)
  · exact h.i1
  · rcases List.mem_cons.mp hp with rfl | hp
    · exact h.b1
    · exact h.n1 p hp
  · exact h.i2
  · rcases List.mem_cons.mp hp with rfl | hp
    · exact h.b2
    · exact h.n2 p hp
  · exact h.i3
  · rcases List.mem_cons.mp hp with rfl | hp
    · exact h.b3
    · exact h.n3 p hp
section
variable (w : World) (mean : ExcName → Option Value) (mg mb : PySem.Str → Option Value) (dp un : Nat) (gd : Option (List Code)) (cn : Str) (cs : Scope) (L a : Addr) (ccd : Value) (cl : List (Str × Addr)) (outer : List Env) (h₀ : Heap)
theorem for_ci {v : Str} {pv : Pos} {body : List Stmt} {Q : Flow → Shared → Prop} {E : Value → Shared → Prop} {s₁ : Shared} {m₀ : Nm} {A₀ : Around} {base : Heap} {news news0 : Led} {x : Str} {tx : Tok} {P : LexP} {I bm : Addr} {t : Tok} {kp pos₀ : Nat} {gi₀ : List Value} {kg₀ : Nat} {tl₀ : Tok}
    (Inv : Nat → Nm → Prop) (RetI : Value → Nat → Nm → Prop) (hx : 1 < x.cps.size ∧ x.cps.size ≤ 1000) (hP : LexOk x tx news0 P) (hfar : CiFar P I bm news)
    (B : Below A₀ base outer h₀) (X : (K w.params).In h₀) (T : Top topProg lw mean mg mb h₀) (hk : cs.kind = .function) (hdp : dp + 40 < recursionLimit) (hun : un + 201 < cLine) (hv : okN v (envX cn cs L a ccd cl))
    (F : Fr h₀ L s₁.heap m₀) (N : News h₀ L s₁.heap (ciLed w.params P I bm t gi₀ kg₀ (nlc x pos₀) tl₀ kp news)) (hg : gi₀.length = pos₀) (hoffI : ∀ q ∈ news, q.1 ≠ I) (hIlx : ∀ gi kg line tl, ∀ q ∈ lexL w.params P gi kg line tl [] kp, q.1 ≠ I) (hinv : Inv pos₀ m₀) (hle : ∀ pos m, Inv pos m → pos ≤ x.cps.size)
    (turn : ∀ pos c u m h tk gi kg tl (E' : Value → Shared → Prop), Inv pos m → x.cps[pos]? = some c → gi.length = pos + 1 → Fr h₀ L h (setN m v (.str ⟨#[c]⟩ u)) → News h₀ L h (ciLed w.params P I bm t gi kg (nlc x (pos + 1)) tl kp news) →
      wpAny (model PySem.Challenge.rw_tp0040_01.row.prog w) (ktrTop dp un gd cn cs L a ccd cl outer) (execs body (envX cn cs L a ccd cl)) (fun f s₃ => match f with
        | .next | .cont => CiNext w.params P I bm t kp news x h₀ L s₁ pos Inv s₃
        | .brk => False
        | .ret v => CiRet w.params P I bm t kp news x h₀ L s₁ (RetI v) s₃) E' { s₁ with heap := h, toks := tk })
    (fin : ∀ h tk gi kg tl m, Inv x.cps.size m → gi.length = x.cps.size → Fr h₀ L h m → News h₀ L h (lexL w.params P gi kg (nlc x x.cps.size) tl [] kp ++ news) → Q .next { s₁ with heap := h, toks := tk })
    (rtn : ∀ h tk gi kg tl m pos v, RetI v pos m → gi.length = pos → Fr h₀ L h m → News h₀ L h (ciLed w.params P I bm t gi kg (nlc x pos) tl kp news) → Q (.ret v) { s₁ with heap := h, toks := tk }) :
    AfterFor PySem.Challenge.rw_tp0040_01.row.prog w (ktrTop dp un gd cn cs L a ccd cl outer) (envX cn cs L a ccd cl) (.Name v pv) body Q E (.ref I) s₁ := by
  unfold AfterFor
  refine ci_iter (N _ List.mem_cons_self).1 ?_
  refine Classical.byContradiction fun gK => ?_
  obtain ⟨fd, ofn, hof, hofd⟩ : ∃ fd ofn, (K w.params).lookup 42 = some ofn ∧ ofn.data = .func fd := ⟨_, _, rfl, rfl⟩
  refine gK ?_
  clear gK
  refine codeAny_forLoop_any (fun n s' => ∃ pos h tk m gi kg tl, n = x.cps.size + 1 - pos ∧ s' = { s₁ with heap := h, toks := tk } ∧ Inv pos m ∧ gi.length = pos ∧ Fr h₀ L h m ∧ News h₀ L h (ciLed w.params P I bm t gi kg (nlc x pos) tl kp news)) (fun n s' hI => ?_) (x.cps.size + 1 - pos₀) ⟨pos₀, _, _, m₀, gi₀, kg₀, tl₀, rfl, rfl, hinv, hg, F, N⟩
  refine Classical.byContradiction fun gK => ?_
  obtain ⟨pos, h, tk, m, gi, kg, tl, rfl, rfl, hI, hgi, F1, N1⟩ := hI
  refine gK ?_
  clear gK
  have hpos := hle pos m hI
  have hN1 : News h₀ L h (lexL w.params P gi kg (nlc x pos) tl [] kp ++ ((I, ciObj bm t) :: (bm, methodObj (.ref 42) (.ref P.lx)) :: news)) := fun q hq => by
    refine N1 q ?_
    simp only [ciLed, List.mem_append, List.mem_cons] at hq ⊢
    rcases hq with hq | hq | hq | hq
    · exact .inr (.inr (.inl hq))
    · exact .inl hq
    · exact .inr (.inl hq)
    · exact .inr (.inr (.inr hq))
  have back : ∀ {h' : Heap} {gi' kg' tl' line}, News h₀ L h' (lexL w.params P gi' kg' line tl' [] kp ++ ((I, ciObj bm t) :: (bm, methodObj (.ref 42) (.ref P.lx)) :: news)) → News h₀ L h' (ciLed w.params P I bm t gi' kg' line tl' kp news) := fun hN q hq => by
    refine hN q ?_
    simp only [ciLed, List.mem_append, List.mem_cons] at hq ⊢
    rcases hq with hq | hq | hq | hq
    · exact .inr (.inl hq)
    · exact .inr (.inr (.inl hq))
    · exact .inl hq
    · exact .inr (.inr (.inr hq))
  have far := hfar.of t
  have hfn : ∀ {h' : Heap} {m' : Nm}, Fr h₀ L h' m' → h'.get? 42 = some ofn := fun F' => F'.keep _ _ (X _ _ hof)
  rcases Nat.lt_or_ge pos x.cps.size with hlt | hge
  · obtain ⟨c, hc⟩ : ∃ c, x.cps[pos]? = some c := ⟨_, Array.getElem?_eq_getElem hlt⟩
    refine ci_item (N1 _ List.mem_cons_self).1 (N1 _ (List.mem_cons_of_mem _ List.mem_cons_self)).1 (hfn F1) hofd ?_
    refine codeAny_mono (c_read w mean mg mb _ news0 x tx P gi kg (nlc x pos) tl [] kp hx hP far.1 far.2.1 far.2.2 c (by rw [hgi]; exact hc) dp (un + 1) gd cn cs a ccd cl outer A₀ base h₀ L m { s₁ with heap := h, toks := tk } (fun v s' => ∃ gi' kg' tl' u h' tk', v = .str ⟨#[c]⟩ u ∧ gi'.length = gi.length + 1 ∧ s' = { s₁ with heap := h', toks := tk' } ∧ Fr h₀ L h' m ∧ News h₀ L h' (ciLed w.params P I bm t gi' kg' (nlc x (pos + 1)) tl' kp news)) (fun _ _ => False)
      B F1 X hN1 T hk (by omega) (by omega) (fun v' news' h' tk' fin' F' N' => ?_)) (fun r s' hr => ?_)
    · refine Classical.byContradiction fun gK => ?_
      obtain ⟨gi', kg', tl', u, rfl, hl', rfl⟩ := fin'
      refine gK ?_
      clear gK
      rw [← nlc_succ x pos c hc] at N'
      exact ⟨gi', kg', tl', u, h', tk', rfl, hl', rfl, F', back N'⟩
    · cases r with
      | error e => exact hr
      | ok fl =>
        cases fl with
        | ret v' =>
          refine Classical.byContradiction fun gK => ?_
          obtain ⟨gi', kg', tl', u, h', tk', rfl, hl', rfl, F', N'⟩ := hr
          refine gK ?_
          clear gK
          refine ⟨⟨_, _, rfl, fun e => ?_⟩, (N' _ List.mem_cons_self).1, ?_⟩
          · have q : (Str.ofString "").cps.size = 1 := congrArg (fun z : Str => z.cps.size) e
            exact absurd q (by decide)
          · refine wpAny_pure ?_
            refine wpAny_assign_Name (wpAny_storeName_local hv.1 F'.ns (fun h2 ns2 hs2 => ?_) hv.2)
            have F2 : Fr h₀ L h2 (setN m v (.str ⟨#[c]⟩ u)) := ⟨ns2, fun b o e => hs2.extBut b o (fun q => by rw [q, Heap.get?_none_of_le F'.above] at e; cases e) (F'.keep b o e), F'.above⟩
            have N2 : News h₀ L h2 (ciLed w.params P I bm t gi' kg' (nlc x (pos + 1)) tl' kp news) := fun p hp => by
              have z := N' p hp
              exact ⟨hs2.extBut _ _ z.2.1 z.1, z.2⟩
            refine wpAny_mono (turn pos c u m h2 _ gi' kg' tl' _ hI hc (by rw [hl', hgi]) F2 N2) (fun f s₃ h₃ => ?_) fun _ _ e => e
            have more : (∃ pos', pos < pos' ∧ CiLeft w.params P I bm t kp news x h₀ L s₁ pos' (Inv pos') s₃) → ∃ m', m' < x.cps.size + 1 - pos ∧ ∃ pos h tk m gi kg tl, m' = x.cps.size + 1 - pos ∧ s₃ = { s₁ with heap := h, toks := tk } ∧ Inv pos m ∧ gi.length = pos ∧ Fr h₀ L h m ∧ News h₀ L h (ciLed w.params P I bm t gi kg (nlc x pos) tl kp news) := by
              rintro ⟨pos', hlt', h3, tk3, m3, gi3, kg3, tl3, rfl, hg3, F3, N3, i3⟩
              exact ⟨x.cps.size + 1 - pos', by omega, pos', h3, tk3, m3, gi3, kg3, tl3, rfl, rfl, i3, hg3, F3, N3⟩
            cases f with
            | next => exact more h₃
            | cont => exact more h₃
            | brk => exact h₃.elim
            | ret v =>
              refine Classical.byContradiction fun gK => ?_
              obtain ⟨pos', h3, tk3, m3, gi3, kg3, tl3, rfl, hg3, F3, N3, i3⟩ := h₃
              refine gK ?_
              clear gK
              exact rtn h3 tk3 gi3 kg3 tl3 m3 pos' v i3 hg3 F3 N3
        | _ => exact hr.elim
  · obtain rfl : pos = x.cps.size := Nat.le_antisymm hpos hge
    refine ci_end rfl (N1 _ List.mem_cons_self).1 (N1 _ (List.mem_cons_of_mem _ List.mem_cons_self)).1 (hfn F1) hofd ?_
    refine codeAny_mono (c_read0 w mean mg mb _ news0 x tx P gi kg (nlc x x.cps.size) tl [] kp hx hP far.1 far.2.1 far.2.2 hgi dp (un + 1) gd cn cs a ccd cl outer A₀ base h₀ L m { s₁ with heap := h, toks := tk } (fun v s' => ∃ gi' kg' tl' u h' tk', v = .str (Str.ofString "") u ∧ gi'.length = gi.length ∧ s' = { s₁ with heap := h', toks := tk' } ∧ Fr h₀ L h' m ∧ News h₀ L h' (ciLed w.params P I bm t gi' kg' (nlc x x.cps.size) tl' kp news)) (fun _ _ => False)
      B F1 X hN1 T hk (by omega) (by omega) (fun v' news' h' tk' fin' F' N' => ?_)) (fun r s' hr => ?_)
    · refine Classical.byContradiction fun gK => ?_
      obtain ⟨gi', kg', tl', u, rfl, hl', rfl⟩ := fin'
      refine gK ?_
      clear gK
      exact ⟨gi', kg', tl', u, h', tk', rfl, hl', rfl, F', back N'⟩
    · cases r with
      | error e => exact hr
      | ok fl =>
        cases fl with
        | ret v' =>
          refine Classical.byContradiction fun gK => ?_
          obtain ⟨gi', kg', tl', u, h', tk', rfl, hl', rfl, F', N'⟩ := hr
          refine gK ?_
          clear gK
          have zI := N' _ List.mem_cons_self
          have hoff : ∀ q ∈ lexL w.params P gi' kg' (nlc x x.cps.size) tl' [] kp ++ news, q.1 ≠ I := fun q hq => (List.mem_append.mp hq).elim (hIlx _ _ _ _ q) (hoffI q)
          refine ⟨⟨_, rfl⟩, zI.1, (N' _ (List.mem_cons_of_mem _ List.mem_cons_self)).1, hfn F', fun h2 hk2 => wpAny_execs_nil (fin h2 _ gi' kg' tl' m hI (by rw [hl', hgi]) ⟨F'.ns.at' fun o e => hk2 _ o zI.2.1.symm e, fun b o e => hk2 b o (fun q => by rw [q, zI.2.2] at e; cases e) (F'.keep b o e), F'.above⟩ fun q hq => ?_)⟩
          have zq := N' q (List.mem_cons_of_mem _ (List.mem_cons_of_mem _ hq))
          refine ⟨hk2 _ _ (hoff q hq) zq.1, zq.2⟩
        | _ => exact hr.elim
end
section
variable {w : World} {mean : ExcName → Option Value} {mg mb : PySem.Str → Option Value} {dp un : Nat} {gd : Option (List Code)} {cn : Str} {cs : Scope} {L a : Addr} {ccd : Value} {cl : List (Str × Addr)} {outer : List Env} {A₀ : Around} {base h₀ : Heap} {m : Nm} {s : Shared} {Q E : Value → Shared → Prop} {news news0 : Led} {x : Str} {tx : Tok} {P : LexP} {I bm : Addr} {t : Tok} {kp pos c : Nat} {gi : List Value} {kg : Nat} {tl : Tok}
theorem use_read (hx : 1 < x.cps.size ∧ x.cps.size ≤ 1000) (hP : LexOk x tx news0 P) (hfar : CiFar P I bm news) (hg : gi.length = pos) (hc : x.cps[pos]? = some c)
    (k1 : Below A₀ base outer h₀) (k2 : Fr h₀ L s.heap m) (k3 : (K w.params).In h₀) (k4 : News h₀ L s.heap (ciLed w.params P I bm t gi kg (nlc x pos) tl kp news)) (k5 : Top topProg lw mean mg mb h₀) (k6 : cs.kind = .function) (kd : dp + 40 < recursionLimit) (ku : un + 200 < cLine)
    (kR : ∀ (gi' : List Value) (kg' : Nat) (tl' u : Tok) (h' : Heap) (tk' : Nat), gi'.length = pos + 1 → Fr h₀ L h' m → News h₀ L h' (ciLed w.params P I bm t gi' kg' (nlc x (pos + 1)) tl' kp news) → Q (.str ⟨#[c]⟩ u) { s with heap := h', toks := tk' }) :
    wpAny (model PySem.Challenge.rw_tp0040_01.row.prog w) (ktrTop dp un gd cn cs L a ccd cl outer) (call (.ref 42) [.ref P.lx]) Q E s := by
  have far := hfar.of t
  refine wpAny_call (c_read w mean mg mb ((I, ciObj bm t) :: (bm, methodObj (.ref 42) (.ref P.lx)) :: news) news0 x tx P gi kg (nlc x pos) tl [] kp hx hP far.1 far.2.1 far.2.2 c (by rw [hg]; exact hc) dp un gd cn cs a ccd cl outer A₀ base h₀ L m s Q E k1 k2 k3 (fun q hq => k4 q ?_) k5 k6 kd ku (fun v' news' h' tk' fin' F' N' => ?_))
  · simp only [ciLed, List.mem_append, List.mem_cons] at hq ⊢
    rcases hq with hq | hq | hq | hq
    · exact .inr (.inr (.inl hq))
    · exact .inl hq
    · exact .inr (.inl hq)
    · exact .inr (.inr (.inr hq))
  · refine Classical.byContradiction fun gK => ?_
    obtain ⟨gi', kg', tl', u, rfl, hl', rfl⟩ := fin'
    refine gK ?_
    clear gK
    rw [← nlc_succ x pos c hc] at N'
    refine kR gi' kg' tl' u h' tk' (by rw [hl', hg]) F' fun q hq => N' q ?_
    simp only [ciLed, List.mem_append, List.mem_cons] at hq ⊢
    rcases hq with hq | hq | hq | hq
    · exact .inr (.inl hq)
    · exact .inr (.inr (.inl hq))
    · exact .inl hq
    · exact .inr (.inr (.inr hq))
end
end Mine
end
section
open PySem PySem.W PyProof.Rows PySem.Spec PySem.Calls
namespace Mine
open PyProof.Rows.LCg (NsObj ns_obj lst lst_snoc)
noncomputable def gtDef : Stmt := methAt 4 2
noncomputable abbrev gtN : Str := Str.ofString "_netrclex.get_token"
noncomputable def gtOuter : List Stmt := (forPart ((defBody gtDef).getD 3 (.Pass default))).2.2.1
noncomputable def ifPart : Stmt → PySem.Expr × List Stmt × List Stmt | .If t b o _ => (t, b, o) | _ => default
noncomputable def gtQuote : Stmt := gtOuter.getD 1 (.Pass default)
noncomputable def qBody : List Stmt := (forPart ((ifPart gtQuote).2.1.getD 0 (.Pass default))).2.2.1
noncomputable def uBody : List Stmt := (forPart ((ifPart gtQuote).2.2.getD 2 (.Pass default))).2.2.1
inductive QTok (x : Str) : Nat → List Nat → Nat → Prop
  | stop {p} : x.cps[p]? = some 34 → QTok x p [] (p + 1)
  | esc {p c tok q} : x.cps[p]? = some 92 → x.cps[p + 1]? = some c → QTok x (p + 2) tok q → QTok x p (c :: tok) q
  | char {p c tok q} : x.cps[p]? = some c → c ≠ 34 → c ≠ 92 → QTok x (p + 1) tok q → QTok x p (c :: tok) q
noncomputable def isWs (c : Nat) : Prop := c = 10 ∨ c = 9 ∨ c = 13 ∨ c = 32
inductive UTok (x : Str) : Nat → List Nat → Nat → Prop
  | stop {p c} : x.cps[p]? = some c → isWs c → UTok x p [] (p + 1)
  | esc {p c tok q} : x.cps[p]? = some 92 → x.cps[p + 1]? = some c → UTok x (p + 2) tok q → UTok x p (c :: tok) q
  | char {p c tok q} : x.cps[p]? = some c → ¬ isWs c → c ≠ 92 → UTok x (p + 1) tok q → UTok x p (c :: tok) q
theorem QTok.lt {x : Str} {p : Nat} {tok : List Nat} {q : Nat} (h : QTok x p tok q) : p < x.cps.size ∧ tok.length ≤ x.cps.size := by
  have aux : ∀ {p c : Nat}, x.cps[p]? = some c → p < x.cps.size := fun {p c} e => by
    rcases Nat.lt_or_ge p x.cps.size with h' | h'
    · exact h'
    · rw [Array.getElem?_eq_none h'] at e; cases e
  have key : p < x.cps.size ∧ p + tok.length < x.cps.size := by
    induction h with
    | stop e => exact ⟨aux e, aux e⟩
    | esc e1 e2 _ ih => simp only [List.length_cons]; exact ⟨aux e1, by lia⟩
    | char e1 _ _ _ ih => simp only [List.length_cons]; exact ⟨aux e1, by lia⟩
  exact ⟨key.1, by lia⟩
theorem UTok.lt {x : Str} {p : Nat} {tok : List Nat} {q : Nat} (h : UTok x p tok q) : p < x.cps.size ∧ tok.length ≤ x.cps.size := by
  have aux : ∀ {p c : Nat}, x.cps[p]? = some c → p < x.cps.size := fun {p c} e => by
    rcases Nat.lt_or_ge p x.cps.size with h' | h'
    · exact h'
    · rw [Array.getElem?_eq_none h'] at e; cases e
  have key : p < x.cps.size ∧ p + tok.length < x.cps.size := by
    induction h with
    | stop e _ => exact ⟨aux e, aux e⟩
    | esc e1 e2 _ ih => simp only [List.length_cons]; exact ⟨aux e1, by lia⟩
    | char e1 _ _ _ ih => simp only [List.length_cons]; exact ⟨aux e1, by lia⟩
  exact ⟨key.1, by lia⟩
theorem nws34 : ¬ isWs 34 := fun h => h.elim nofun fun h => h.elim nofun fun h => h.elim nofun nofun
theorem nws92 : ¬ isWs 92 := fun h => h.elim nofun fun h => h.elim nofun fun h => h.elim nofun nofun
theorem same_ch {o : Option Nat} {c d : Nat} (h : o = some c) (e : o = some d) : d = c := Option.some.inj (e.symm.trans h)
theorem QTok.at34 {x : Str} {p q : Nat} {r : List Nat} (h : QTok x p r q) (hc : x.cps[p]? = some 34) : r = [] ∧ p + 1 = q := by
  cases h with
  | stop _ => exact ⟨rfl, rfl⟩
  | esc e _ _ => exact nomatch same_ch hc e
  | char e n _ _ => exact absurd (same_ch hc e) n
theorem QTok.at92 {x : Str} {p q : Nat} {r : List Nat} {C : Prop} (h : QTok x p r q) (hc : x.cps[p]? = some 92) (k : ∀ c2 r2, r = c2 :: r2 → x.cps[p + 1]? = some c2 → QTok x (p + 2) r2 q → C) : C := by
  cases h with
  | stop e => exact nomatch same_ch hc e
  | char e _ n _ => exact absurd (same_ch hc e) n
  | esc _ e2 t => exact k _ _ rfl e2 t
theorem QTok.atC {x : Str} {p q c : Nat} {r : List Nat} {C : Prop} (h : QTok x p r q) (hc : x.cps[p]? = some c) (h34 : c ≠ 34) (h92 : c ≠ 92) (k : ∀ r2, r = c :: r2 → QTok x (p + 1) r2 q → C) : C := by
  cases h with
  | stop e => exact absurd (same_ch e hc) h34
  | esc e _ _ => exact absurd (same_ch e hc) h92
  | char e _ _ t => exact k _ (congrArg (· :: _) (same_ch hc e)) t
theorem UTok.atW {x : Str} {p q c : Nat} {r : List Nat} (h : UTok x p r q) (hc : x.cps[p]? = some c) (hw : isWs c) : r = [] ∧ p + 1 = q := by
  cases h with
  | stop _ _ => exact ⟨rfl, rfl⟩
  | esc e _ _ => exact absurd (same_ch e hc ▸ hw) nws92
  | char e n _ _ => exact absurd hw (same_ch e hc ▸ n)
theorem UTok.at92 {x : Str} {p q : Nat} {r : List Nat} {C : Prop} (h : UTok x p r q) (hc : x.cps[p]? = some 92) (k : ∀ c2 r2, r = c2 :: r2 → x.cps[p + 1]? = some c2 → UTok x (p + 2) r2 q → C) : C := by
  cases h with
  | stop e ws => exact absurd (same_ch hc e ▸ ws) nws92
  | char e _ n _ => exact absurd (same_ch hc e) n
  | esc _ e2 t => exact k _ _ rfl e2 t
theorem UTok.atC {x : Str} {p q c : Nat} {r : List Nat} {C : Prop} (h : UTok x p r q) (hc : x.cps[p]? = some c) (hw : ¬ isWs c) (h92 : c ≠ 92) (k : ∀ r2, r = c :: r2 → UTok x (p + 1) r2 q → C) : C := by
  cases h with
  | stop e w => exact absurd (same_ch hc e ▸ w) hw
  | esc e _ _ => exact absurd (same_ch e hc) h92
  | char e _ _ t => exact k _ (congrArg (· :: _) (same_ch hc e)) t
/-- what the names hold in a loop over the chars -/
noncomputable def tInv (Tok' : Nat → List Nat → Nat → Prop) (lx I : Addr) (full : List Nat) (qe : Nat) (pos : Nat) (m : Nm) : Prop :=
  m (Str.ofString "self") = some (.ref lx) ∧ m (Str.ofString "fiter") = some (.ref I) ∧ ∃ acc rest ta, Tok' pos rest qe ∧ acc ++ rest = full ∧ m (Str.ofString "token") = some (.str ⟨acc.toArray⟩ ta)
noncomputable def tRet (full : List Nat) (qe : Nat) (v : Value) (pos : Nat) (_ : Nm) : Prop := pos = qe ∧ ∃ t, v = .str ⟨full.toArray⟩ t
theorem tInv.elim {T : Nat → List Nat → Nat → Prop} {lx I : Addr} {full : List Nat} {qe pos : Nat} {m : Nm} {C : Prop} (h : tInv T lx I full qe pos m)
    (k : ∀ acc rest ta, m (Str.ofString "self") = some (.ref lx) → m (Str.ofString "fiter") = some (.ref I) → T pos rest qe → acc ++ rest = full → m (Str.ofString "token") = some (.str ⟨acc.toArray⟩ ta) → C) : C := by
  obtain ⟨h1, h2, acc, rest, ta, h3, h4, h5⟩ := h
  exact k acc rest ta h1 h2 h3 h4 h5
theorem tInv.mk {T : Nat → List Nat → Nat → Prop} {lx I : Addr} {full : List Nat} {qe pos : Nat} {m : Nm} (acc rest : List Nat) {ta : Tok} (h1 : m (Str.ofString "self") = some (.ref lx)) (h2 : m (Str.ofString "fiter") = some (.ref I)) (h3 : T pos rest qe) (h4 : acc ++ rest = full) (h5 : m (Str.ofString "token") = some (.str ⟨acc.toArray⟩ ta)) : tInv T lx I full qe pos m :=
  ⟨h1, h2, acc, rest, ta, h3, h4, h5⟩
theorem app1 {acc r r2 full : List Nat} {c : Nat} (h : acc ++ r = full) (e : r = c :: r2) : (acc ++ [c]) ++ r2 = full := by rw [← h, e, List.append_assoc]; rfl
theorem tRet.mk {full acc r : List Nat} {q p : Nat} {ta : Tok} {m : Nm} (h : acc ++ r = full) (e : r = [] ∧ p = q) : tRet full q (.str ⟨acc.toArray⟩ ta) p m := ⟨e.2, ta, by rw [← h, e.1, List.append_nil]⟩
theorem some_str {f : Option Value} {a b : Str} {t : Tok} (h : f = some (.str a t)) (e : a = b) : f = some (.str b t) := by rw [h, e]
theorem str_app (acc : List Nat) (c : Nat) : (⟨acc.toArray⟩ : Str) ++ (⟨#[c]⟩ : Str) = ⟨(acc ++ [c]).toArray⟩ := by
  show (⟨acc.toArray ++ #[c]⟩ : Str) = _
  simp
theorem ch_eq {c d : Nat} {y : Str} (hy : y = ⟨#[d]⟩) (h : ((⟨#[c]⟩ : Str) == y) = true) : c = d := by
  have e : (⟨#[c]⟩ : Str) = y := eq_of_beq h
  rw [hy] at e
  have e2 : (#[c] : Array Nat) = #[d] := congrArg Str.cps e
  simpa using e2
theorem ch_ne {c d : Nat} {y : Str} (hy : y = ⟨#[d]⟩) (h : ((⟨#[c]⟩ : Str) == y) = false) : c ≠ d := by
  rintro rfl
  rw [hy, beq_self_eq_true] at h
  cases h
set_option maxHeartbeats 0 in
theorem q_turn (w : World) (mean : ExcName → Option Value) (mg mb : PySem.Str → Option Value) (dp un : Nat) (gd : Option (List Code)) (outer : List Env) (A₀ : Around) (base h₀ : Heap) (L : Addr) (s₁ : Shared)
    {news news0 : Led} {x : Str} {tx : Tok} {P : LexP} {I bm : Addr} {t : Tok} {kp : Nat} (hx : 1 < x.cps.size ∧ x.cps.size ≤ 1000) (hP : LexOk x tx news0 P) (hfar : CiFar P I bm news)
    (hB : Below A₀ base outer h₀) (hX : (K w.params).In h₀) (hT : Top topProg lw mean mg mb h₀) (hdp : dp + 45 < recursionLimit) (hun : un + 210 < cLine) (full : List Nat) (hfull : full.length ≤ 1000) (qe : Nat)
    (pos c : Nat) (u : Tok) (m : Nm) (h : Heap) (tk : Nat) (gi : List Value) (kg : Nat) (tl : Tok) (E' : Value → Shared → Prop) (hI : tInv (QTok x) P.lx I full qe pos m) (hc : x.cps[pos]? = some c) (hg : gi.length = pos + 1)
    (F : Fr h₀ L h (setN m (Str.ofString "ch") (.str ⟨#[c]⟩ u))) (N : News h₀ L h (ciLed w.params P I bm t gi kg (nlc x (pos + 1)) tl kp news)) :
    wpAny (model PySem.Challenge.rw_tp0040_01.row.prog w) (ktrTop dp un gd gtN (defScope gtDef) L 49 (.ref 48) [] outer) (execs qBody (envX gtN (defScope gtDef) L 49 (.ref 48) [])) (fun f s₃ => match f with
        | .next | .cont => CiNext w.params P I bm t kp news x h₀ L s₁ pos (tInv (QTok x) P.lx I full qe) s₃
        | .brk => False
        | .ret v => CiRet w.params P I bm t kp news x h₀ L s₁ (tRet full qe v) s₃) E' { s₁ with heap := h, toks := tk } := by
  revert hX
  k_fill
  intro hX
  refine tInv.elim hI fun acc rest ta hself hfit htok hacc htoken => ?_
  have hd : ∀ {y : Str} {v : Value}, y ≠ Str.ofString "ch" → m y = some v → setN m (Str.ofString "ch") (.str ⟨#[c]⟩ u) y = some v := fun e e' => (if_neg e).trans e'
  have F := fixF4 F (if_pos rfl) (hd (by decide) htoken) (hd (by decide) hfit) (hd (by decide) hself)
  have l0 := hP.l0
  have l1 := hP.l1
  have l2 := hP.l2
  have l3 := hP.l3
  have l4 := hP.l4
  have l5 := hP.l5
  have l6 := hP.l6
  have l7 := hP.l7
  have l8 := hP.l8
  have l9 := hP.l9
  have la := hP.la
  have hal : acc.length ≤ 1000 := by rw [← hacc, List.length_append] at hfull; lia
  show wpAny _ _ (execs (_ :: _) _) _ _ _
  k_steps
  · have h34 : c = 34 := ch_eq (y := Str.ofString "\"") (by decide) (by assumption)
    show CiRet _ _ _ _ _ _ _ _ _ _ _ _ _
    exact ⟨pos + 1, CiLeft.intro hg (by assumption) (by assumption) (fun _ h => h) (tRet.mk hacc (htok.at34 (h34 ▸ hc)))⟩
  · have h92 : c = 92 := ch_eq (y := Str.ofString "\\") (by decide) (by assumption)
    refine htok.at92 (h92 ▸ hc) fun c2 rest2 hr e2 htok' => ?_
    show wpAny _ _ (call (.ref 42) [.ref P.lx]) _ _ _
    refine use_read hx hP hfar hg e2 hB (by assumption) (by assumption) N hT (by rfl) (by ktr_room) (by ktr_units) ?_
    intro gi2 kg2 tl2 u2 h2 tk2 hg2 F2 N2
    k_steps
    show CiNext _ _ _ _ _ _ _ _ _ _ _ _ _ _
    exact ⟨pos + 1 + 1, Nat.lt_succ_of_lt (Nat.lt_succ_self _), CiLeft.intro hg2 (by assumption) (by assumption) (fun _ h => h) (tInv.mk (acc ++ [c2]) rest2 (by rfl) (by rfl) htok' (app1 hacc hr) (some_str rfl (str_app acc c2)))⟩
  · have h34 : c ≠ 34 := ch_ne (y := Str.ofString "\"") (by decide) (by assumption)
    have h92 : c ≠ 92 := ch_ne (y := Str.ofString "\\") (by decide) (by assumption)
    show CiNext _ _ _ _ _ _ _ _ _ _ _ _ _ _
    refine htok.atC hc h34 h92 fun rest2 hr htok' => ?_
    exact ⟨pos + 1, Nat.lt_succ_self _, CiLeft.intro hg (by assumption) (by assumption) (fun _ h => h) (tInv.mk (acc ++ [c]) rest2 (by rfl) (by rfl) htok' (app1 hacc hr) (some_str rfl (str_app acc c)))⟩
end Mine
end
section
open PySem PySem.W PyProof.Rows PySem.Spec PySem.Calls
namespace Mine
open PyProof.Rows.LCg (NsObj ns_obj lst lst_snoc)
theorem occ_w (c : Nat) (h : ¬ isWs c) : (Builtin.Str.occurrences wsT { cps := #[c] } 0 wsT.length 1).isEmpty = true := by
  have e : wsT = ⟨#[10, 9, 13, 32]⟩ := by decide +kernel
  rw [e]
  have e2 : (⟨#[10, 9, 13, 32]⟩ : Str).length = 4 := rfl
  rw [e2]
  have e3 : (⟨#[c]⟩ : Str).length = 1 := rfl
  unfold isWs at h
  have h0 : c ≠ 10 := fun q => h (.inl q)
  have h1 : c ≠ 9 := fun q => h (.inr (.inl q))
  have h2 : c ≠ 13 := fun q => h (.inr (.inr (.inl q)))
  have h3 : c ≠ 32 := fun q => h (.inr (.inr (.inr q)))
  have s0 : Builtin.Str.subAt { cps := #[10, 9, 13, 32] } { cps := #[c] } 0 = false := by
    show ((#[10] : Array Nat) == #[c]) = false
    simp [Ne.symm h0]
  have s1 : Builtin.Str.subAt { cps := #[10, 9, 13, 32] } { cps := #[c] } 1 = false := by
    show ((#[9] : Array Nat) == #[c]) = false
    simp [Ne.symm h1]
  have s2 : Builtin.Str.subAt { cps := #[10, 9, 13, 32] } { cps := #[c] } 2 = false := by
    show ((#[13] : Array Nat) == #[c]) = false
    simp [Ne.symm h2]
  have s3 : Builtin.Str.subAt { cps := #[10, 9, 13, 32] } { cps := #[c] } 3 = false := by
    show ((#[32] : Array Nat) == #[c]) = false
    simp [Ne.symm h3]
  simp [Builtin.Str.occurrences, List.range', e3, s0, s1, s2, s3]
theorem occ_w1 (c : Nat) (h : isWs c) : (Builtin.Str.occurrences wsT { cps := #[c] } 0 wsT.length 1).isEmpty = false := by
  rcases h with rfl | rfl | rfl | rfl <;> decide +kernel
theorem ws_no {c : Nat} (h : (Builtin.Str.occurrences wsT { cps := #[c] } 0 wsT.length 1).isEmpty = true) : ¬ isWs c := fun q => by rw [occ_w1 c q] at h; cases h
theorem ws_yes {c : Nat} (h : (Builtin.Str.occurrences wsT { cps := #[c] } 0 wsT.length 1).isEmpty = false) : isWs c := Classical.byContradiction fun q => by rw [occ_w c q] at h; cases h
set_option maxHeartbeats 0 in
theorem u_turn (w : World) (mean : ExcName → Option Value) (mg mb : PySem.Str → Option Value) (dp un : Nat) (gd : Option (List Code)) (outer : List Env) (A₀ : Around) (base h₀ : Heap) (L : Addr) (s₁ : Shared)
    {news news0 : Led} {x : Str} {tx : Tok} {P : LexP} {I bm : Addr} {t : Tok} {kp : Nat} (hx : 1 < x.cps.size ∧ x.cps.size ≤ 1000) (hP : LexOk x tx news0 P) (hfar : CiFar P I bm news)
    (hB : Below A₀ base outer h₀) (hX : (K w.params).In h₀) (hT : Top topProg lw mean mg mb h₀) (hdp : dp + 45 < recursionLimit) (hun : un + 210 < cLine) (full : List Nat) (hfull : full.length ≤ 1000) (qe : Nat)
    (pos c : Nat) (u : Tok) (m : Nm) (h : Heap) (tk : Nat) (gi : List Value) (kg : Nat) (tl : Tok) (E' : Value → Shared → Prop) (hI : tInv (UTok x) P.lx I full qe pos m) (hc : x.cps[pos]? = some c) (hg : gi.length = pos + 1)
    (F : Fr h₀ L h (setN m (Str.ofString "ch") (.str ⟨#[c]⟩ u))) (N : News h₀ L h (ciLed w.params P I bm t gi kg (nlc x (pos + 1)) tl kp news)) :
    wpAny (model PySem.Challenge.rw_tp0040_01.row.prog w) (ktrTop dp un gd gtN (defScope gtDef) L 49 (.ref 48) [] outer) (execs uBody (envX gtN (defScope gtDef) L 49 (.ref 48) [])) (fun f s₃ => match f with
        | .next | .cont => CiNext w.params P I bm t kp news x h₀ L s₁ pos (tInv (UTok x) P.lx I full qe) s₃
        | .brk => False
        | .ret v => CiRet w.params P I bm t kp news x h₀ L s₁ (tRet full qe v) s₃) E' { s₁ with heap := h, toks := tk } := by
  revert hX
  k_fill
  intro hX
  refine tInv.elim hI fun acc rest ta hself hfit htok hacc htoken => ?_
  have hd : ∀ {y : Str} {v : Value}, y ≠ Str.ofString "ch" → m y = some v → setN m (Str.ofString "ch") (.str ⟨#[c]⟩ u) y = some v := fun e e' => (if_neg e).trans e'
  have F := fixF4 F (if_pos rfl) (hd (by decide) htoken) (hd (by decide) hfit) (hd (by decide) hself)
  have l0 := hP.l0
  have l1 := hP.l1
  have l2 := hP.l2
  have l3 := hP.l3
  have l4 := hP.l4
  have l5 := hP.l5
  have l6 := hP.l6
  have l7 := hP.l7
  have l8 := hP.l8
  have l9 := hP.l9
  have la := hP.la
  have hal : acc.length ≤ 1000 := by rw [← hacc, List.length_append] at hfull; lia
  show wpAny _ _ (execs (_ :: _) _) _ _ _
  k_steps
  · have h92 : c = 92 := ch_eq (y := Str.ofString "\\") (by decide) (by assumption)
    refine htok.at92 (h92 ▸ hc) fun c2 rest2 hr e2 htok' => ?_
    show wpAny _ _ (call (.ref 42) [.ref P.lx]) _ _ _
    refine use_read hx hP hfar hg e2 hB (by assumption) (by assumption) N hT (by rfl) (by ktr_room) (by ktr_units) ?_
    intro gi2 kg2 tl2 u2 h2 tk2 hg2 F2 N2
    k_steps
    show CiNext _ _ _ _ _ _ _ _ _ _ _ _ _ _
    exact ⟨pos + 1 + 1, Nat.lt_succ_of_lt (Nat.lt_succ_self _), CiLeft.intro hg2 (by assumption) (by assumption) (fun _ h => h) (tInv.mk (acc ++ [c2]) rest2 (by rfl) (by rfl) htok' (app1 hacc hr) (some_str rfl (str_app acc c2)))⟩
  · have hws : ¬ isWs c := ws_no (by assumption)
    have h92 : c ≠ 92 := ch_ne (y := Str.ofString "\\") (by decide) (by assumption)
    show CiNext _ _ _ _ _ _ _ _ _ _ _ _ _ _
    refine htok.atC hc hws h92 fun rest2 hr htok' => ?_
    exact ⟨pos + 1, Nat.lt_succ_self _, CiLeft.intro hg (by assumption) (by assumption) (fun _ h => h) (tInv.mk (acc ++ [c]) rest2 (by rfl) (by rfl) htok' (app1 hacc hr) (some_str rfl (str_app acc c)))⟩
  · have hws : isWs c := ws_yes (by assumption)
    show CiRet _ _ _ _ _ _ _ _ _ _ _ _ _
    exact ⟨pos + 1, CiLeft.intro hg (by assumption) (by assumption) (fun _ h => h) (tRet.mk hacc (htok.atW hc hws))⟩
end Mine
end
section
open PySem PySem.W PyProof.Rows PySem.Spec PySem.Calls
namespace Mine
open PyProof.Rows.LCg (NsObj ns_obj lst lst_snoc)
local macro_rules | `(tactic| walk_at "exec For Name Name cons nil") => `(tactic| (k_here; k_dflt (refine For_W ?_)))
inductive OTok (x : Str) : Nat → List Nat → Nat → Prop
  | ws {p c tok q} : x.cps[p]? = some c → isWs c → OTok x (p + 1) tok q → OTok x p tok q
  | quote {p tok q} : x.cps[p]? = some 34 → QTok x (p + 1) tok q → OTok x p tok q
  | esc {p c tok q} : x.cps[p]? = some 92 → x.cps[p + 1]? = some c → UTok x (p + 2) tok q → OTok x p (c :: tok) q
  | char {p c tok q} : x.cps[p]? = some c → ¬ isWs c → c ≠ 34 → c ≠ 92 → UTok x (p + 1) tok q → OTok x p (c :: tok) q
inductive OEnd (x : Str) : Nat → Prop
  | nil : OEnd x x.cps.size
  | ws {p c} : x.cps[p]? = some c → isWs c → OEnd x (p + 1) → OEnd x p
noncomputable def Out (x : Str) (full : List Nat) (qe pos : Nat) : Prop := OTok x pos full qe ∨ (full = [] ∧ qe = x.cps.size ∧ OEnd x pos)
theorem at_lt {x : Str} {p c : Nat} (e : x.cps[p]? = some c) : p < x.cps.size := by
  rcases Nat.lt_or_ge p x.cps.size with h' | h'
  · exact h'
  · rw [Array.getElem?_eq_none h'] at e; cases e
theorem OTok.lt {x : Str} {p : Nat} {tok : List Nat} {q : Nat} (h : OTok x p tok q) : p < x.cps.size := by
  cases h with
  | ws e => exact at_lt e
  | quote e => exact at_lt e
  | esc e => exact at_lt e
  | char e => exact at_lt e
theorem Out.le {x : Str} {full : List Nat} {qe pos : Nat} (h : Out x full qe pos) : pos ≤ x.cps.size := by
  rcases h with h | ⟨_, _, h⟩
  · exact Nat.le_of_lt h.lt
  · cases h with
    | nil => exact Nat.le_refl _
    | ws e => exact Nat.le_of_lt (at_lt e)
theorem Out.at34 {x : Str} {full : List Nat} {qe p : Nat} (h : Out x full qe p) (hc : x.cps[p]? = some 34) : QTok x (p + 1) full qe := by
  rcases h with h | ⟨_, _, h⟩
  · cases h with
    | ws e ws => exact absurd (same_ch hc e ▸ ws) nws34
    | esc e => exact nomatch same_ch hc e
    | char e _ n => exact absurd (same_ch hc e) n
    | quote _ t => exact t
  · cases h with
    | nil => exact absurd (at_lt hc) (Nat.lt_irrefl _)
    | ws e ws => exact absurd (same_ch hc e ▸ ws) nws34
theorem Out.at92 {x : Str} {full : List Nat} {qe p : Nat} {C : Prop} (h : Out x full qe p) (hc : x.cps[p]? = some 92) (k : ∀ c2 r2, c2 :: r2 = full → x.cps[p + 1]? = some c2 → UTok x (p + 2) r2 qe → C) : C := by
  rcases h with h | ⟨_, _, h⟩
  · cases h with
    | ws e ws => exact absurd (same_ch hc e ▸ ws) nws92
    | quote e _ => exact nomatch same_ch hc e
    | char e _ _ n => exact absurd (same_ch hc e) n
    | esc _ e2 t => exact k _ _ rfl e2 t
  · cases h with
    | nil => exact absurd (at_lt hc) (Nat.lt_irrefl _)
    | ws e ws => exact absurd (same_ch hc e ▸ ws) nws92
theorem Out.atC {x : Str} {full : List Nat} {qe p c : Nat} {C : Prop} (h : Out x full qe p) (hc : x.cps[p]? = some c) (hw : ¬ isWs c) (h34 : c ≠ 34) (h92 : c ≠ 92) (k : ∀ r2, c :: r2 = full → UTok x (p + 1) r2 qe → C) : C := by
  rcases h with h | ⟨_, _, h⟩
  · cases h with
    | ws e ws => exact absurd (same_ch hc e ▸ ws) hw
    | quote e _ => exact absurd (same_ch e hc) h34
    | esc e => exact absurd (same_ch e hc) h92
    | char e _ _ _ t => exact k _ (congrArg (· :: _) (same_ch e hc)) t
  · cases h with
    | nil => exact absurd (at_lt hc) (Nat.lt_irrefl _)
    | ws e ws => exact absurd (same_ch hc e ▸ ws) hw
theorem Out.atW {x : Str} {full : List Nat} {qe p c : Nat} (h : Out x full qe p) (hc : x.cps[p]? = some c) (hws : isWs c) : Out x full qe (p + 1) := by
  rcases h with h | ⟨h1, h2, h⟩
  · cases h with
    | ws e _ h => exact .inl h
    | quote e _ => exact absurd (same_ch e hc ▸ hws) nws34
    | esc e => exact absurd (same_ch e hc ▸ hws) nws92
    | char e n => exact absurd hws (same_ch e hc ▸ n)
  · cases h with
    | nil => exact absurd (at_lt hc) (Nat.lt_irrefl _)
    | ws e _ h => exact .inr ⟨h1, h2, h⟩
noncomputable def oInv (x : Str) (lx I : Addr) (full : List Nat) (qe : Nat) (pos : Nat) (m : Nm) : Prop :=
  m (Str.ofString "self") = some (.ref lx) ∧ m (Str.ofString "fiter") = some (.ref I) ∧ Out x full qe pos ∧ ∃ ta, m (Str.ofString "token") = some (.str (Str.ofString "") ta)
theorem oInv.elim {x : Str} {lx I : Addr} {full : List Nat} {qe pos : Nat} {m : Nm} {C : Prop} (h : oInv x lx I full qe pos m)
    (k : ∀ ta, m (Str.ofString "self") = some (.ref lx) → m (Str.ofString "fiter") = some (.ref I) → Out x full qe pos → m (Str.ofString "token") = some (.str (Str.ofString "") ta) → C) : C := by
  obtain ⟨h1, h2, h3, ta, h4⟩ := h
  exact k ta h1 h2 h3 h4
theorem oInv.mk {x : Str} {lx I : Addr} {full : List Nat} {qe pos : Nat} {m : Nm} {ta : Tok} (h1 : m (Str.ofString "self") = some (.ref lx)) (h2 : m (Str.ofString "fiter") = some (.ref I)) (h3 : Out x full qe pos) (h4 : m (Str.ofString "token") = some (.str (Str.ofString "") ta)) : oInv x lx I full qe pos m := ⟨h1, h2, h3, ta, h4⟩
theorem q_loop (w : World) (mean : ExcName → Option Value) (mg mb : PySem.Str → Option Value) (dp un : Nat) (gd : Option (List Code)) (outer : List Env) (A₀ : Around) (base h₀ : Heap) (L : Addr) {Q : Flow → Shared → Prop} {E : Value → Shared → Prop} {s₁ : Shared} {m₀ : Nm} {pv : Pos}
    {news news0 : Led} {x : Str} {tx : Tok} {P : LexP} {I bm : Addr} {t : Tok} {kp : Nat} (hx : 1 < x.cps.size ∧ x.cps.size ≤ 1000) (hP : LexOk x tx news0 P) (hfar : CiFar P I bm news) (hoffI : ∀ q ∈ news, q.1 ≠ I) (hIlx : ∀ gi kg line tl, ∀ q ∈ lexL w.params P gi kg line tl [] kp, q.1 ≠ I)
    (hB : Below A₀ base outer h₀) (hX : (K w.params).In h₀) (hT : Top topProg lw mean mg mb h₀) (hdp : dp + 45 < recursionLimit) (hun : un + 210 < cLine) (full : List Nat) (hfull : full.length ≤ 1000) (qe pos : Nat) (gi : List Value) (kg : Nat) (tl : Tok)
    (F : Fr h₀ L s₁.heap m₀) (N : News h₀ L s₁.heap (ciLed w.params P I bm t gi kg (nlc x pos) tl kp news)) (hg : gi.length = pos) (hinv : tInv (QTok x) P.lx I full qe pos m₀)
    (rtn : ∀ h tk gi kg tl m v, gi.length = qe → (∃ t, v = .str ⟨full.toArray⟩ t) → Fr h₀ L h m → News h₀ L h (ciLed w.params P I bm t gi kg (nlc x qe) tl kp news) → Q (.ret v) { s₁ with heap := h, toks := tk }) :
    AfterFor PySem.Challenge.rw_tp0040_01.row.prog w (ktrTop dp un gd gtN (defScope gtDef) L 49 (.ref 48) [] outer) (envX gtN (defScope gtDef) L 49 (.ref 48) []) (.Name (Str.ofString "ch") pv) qBody Q E (.ref I) s₁ := by
  refine for_ci w mean mg mb dp un gd gtN (defScope gtDef) L 49 (.ref 48) [] outer h₀ (tInv (QTok x) P.lx I full qe) (fun v pos m => tRet full qe v pos m) hx hP hfar hB hX hT (by rfl) (by omega) (by omega) ⟨by rfl, by rfl⟩ F N hg hoffI hIlx hinv (fun pos m hi => ?_) (fun pos c u m h tk gi kg tl E' hI hc hg F N => ?_) (fun h tk gi kg tl m hI _ _ _ => ?_) (fun h tk gi kg tl m pos v hR hg F N => ?_)
  · exact tInv.elim hi fun _ _ _ _ _ h1 _ _ => Nat.le_of_lt h1.lt.1
  · exact q_turn w mean mg mb dp un gd outer A₀ base h₀ L s₁ hx hP hfar hB hX hT hdp hun full hfull qe pos c u m h tk gi kg tl E' hI hc hg F N
  · exact tInv.elim hI fun _ _ _ _ _ h1 _ _ => absurd h1.lt.1 (Nat.lt_irrefl _)
  · have hp := hR.1
    exact rtn h tk gi kg tl m v (hg.trans hp) hR.2 F (hp ▸ N)
theorem u_loop (w : World) (mean : ExcName → Option Value) (mg mb : PySem.Str → Option Value) (dp un : Nat) (gd : Option (List Code)) (outer : List Env) (A₀ : Around) (base h₀ : Heap) (L : Addr) {Q : Flow → Shared → Prop} {E : Value → Shared → Prop} {s₁ : Shared} {m₀ : Nm} {pv : Pos}
    {news news0 : Led} {x : Str} {tx : Tok} {P : LexP} {I bm : Addr} {t : Tok} {kp : Nat} (hx : 1 < x.cps.size ∧ x.cps.size ≤ 1000) (hP : LexOk x tx news0 P) (hfar : CiFar P I bm news) (hoffI : ∀ q ∈ news, q.1 ≠ I) (hIlx : ∀ gi kg line tl, ∀ q ∈ lexL w.params P gi kg line tl [] kp, q.1 ≠ I)
    (hB : Below A₀ base outer h₀) (hX : (K w.params).In h₀) (hT : Top topProg lw mean mg mb h₀) (hdp : dp + 45 < recursionLimit) (hun : un + 210 < cLine) (full : List Nat) (hfull : full.length ≤ 1000) (qe pos : Nat) (gi : List Value) (kg : Nat) (tl : Tok)
    (F : Fr h₀ L s₁.heap m₀) (N : News h₀ L s₁.heap (ciLed w.params P I bm t gi kg (nlc x pos) tl kp news)) (hg : gi.length = pos) (hinv : tInv (UTok x) P.lx I full qe pos m₀)
    (rtn : ∀ h tk gi kg tl m v, gi.length = qe → (∃ t, v = .str ⟨full.toArray⟩ t) → Fr h₀ L h m → News h₀ L h (ciLed w.params P I bm t gi kg (nlc x qe) tl kp news) → Q (.ret v) { s₁ with heap := h, toks := tk }) :
    AfterFor PySem.Challenge.rw_tp0040_01.row.prog w (ktrTop dp un gd gtN (defScope gtDef) L 49 (.ref 48) [] outer) (envX gtN (defScope gtDef) L 49 (.ref 48) []) (.Name (Str.ofString "ch") pv) uBody Q E (.ref I) s₁ := by
  refine for_ci w mean mg mb dp un gd gtN (defScope gtDef) L 49 (.ref 48) [] outer h₀ (tInv (UTok x) P.lx I full qe) (fun v pos m => tRet full qe v pos m) hx hP hfar hB hX hT (by rfl) (by omega) (by omega) ⟨by rfl, by rfl⟩ F N hg hoffI hIlx hinv (fun pos m hi => ?_) (fun pos c u m h tk gi kg tl E' hI hc hg F N => ?_) (fun h tk gi kg tl m hI _ _ _ => ?_) (fun h tk gi kg tl m pos v hR hg F N => ?_)
  · exact tInv.elim hi fun _ _ _ _ _ h1 _ _ => Nat.le_of_lt h1.lt.1
  · exact u_turn w mean mg mb dp un gd outer A₀ base h₀ L s₁ hx hP hfar hB hX hT hdp hun full hfull qe pos c u m h tk gi kg tl E' hI hc hg F N
  · exact tInv.elim hI fun _ _ _ _ _ h1 _ _ => absurd h1.lt.1 (Nat.lt_irrefl _)
  · have hp := hR.1
    exact rtn h tk gi kg tl m v (hg.trans hp) hR.2 F (hp ▸ N)
set_option maxHeartbeats 0 in
theorem o_turn (w : World) (mean : ExcName → Option Value) (mg mb : PySem.Str → Option Value) (dp un : Nat) (gd : Option (List Code)) (outer : List Env) (A₀ : Around) (base h₀ : Heap) (L : Addr) (s₁ : Shared)
    {news news0 : Led} {x : Str} {tx : Tok} {P : LexP} {I bm : Addr} {t : Tok} {kp : Nat} (hx : 1 < x.cps.size ∧ x.cps.size ≤ 1000) (hP : LexOk x tx news0 P) (hfar : CiFar P I bm news) (hoffI : ∀ q ∈ news, q.1 ≠ I) (hIlx : ∀ gi kg line tl, ∀ q ∈ lexL w.params P gi kg line tl [] kp, q.1 ≠ I)
    (hB : Below A₀ base outer h₀) (hX : (K w.params).In h₀) (hT : Top topProg lw mean mg mb h₀) (hdp : dp + 45 < recursionLimit) (hun : un + 220 < cLine) (full : List Nat) (hfull : full.length ≤ 1000) (qe : Nat)
    (pos c : Nat) (u : Tok) (m : Nm) (h : Heap) (tk : Nat) (gi : List Value) (kg : Nat) (tl : Tok) (E' : Value → Shared → Prop) (hI : oInv x P.lx I full qe pos m) (hc : x.cps[pos]? = some c) (hg : gi.length = pos + 1)
    (F : Fr h₀ L h (setN m (Str.ofString "ch") (.str ⟨#[c]⟩ u))) (N : News h₀ L h (ciLed w.params P I bm t gi kg (nlc x (pos + 1)) tl kp news)) :
    wpAny (model PySem.Challenge.rw_tp0040_01.row.prog w) (ktrTop dp un gd gtN (defScope gtDef) L 49 (.ref 48) [] outer) (execs gtOuter (envX gtN (defScope gtDef) L 49 (.ref 48) [])) (fun f s₃ => match f with
        | .next | .cont => CiNext w.params P I bm t kp news x h₀ L s₁ pos (oInv x P.lx I full qe) s₃
        | .brk => False
        | .ret v => CiRet w.params P I bm t kp news x h₀ L s₁ (tRet full qe v) s₃) E' { s₁ with heap := h, toks := tk } := by
  revert hX
  k_fill
  intro hX
  refine oInv.elim hI fun ta hself hfit hout htoken => ?_
  have hd : ∀ {y : Str} {v : Value}, y ≠ Str.ofString "ch" → m y = some v → setN m (Str.ofString "ch") (.str ⟨#[c]⟩ u) y = some v := fun e e' => (if_neg e).trans e'
  have F := fixF4 F (if_pos rfl) (hd (by decide) htoken) (hd (by decide) hfit) (hd (by decide) hself)
  have l0 := hP.l0
  have l1 := hP.l1
  have l2 := hP.l2
  have l3 := hP.l3
  have l4 := hP.l4
  have l5 := hP.l5
  have l6 := hP.l6
  have l7 := hP.l7
  have l8 := hP.l8
  have l9 := hP.l9
  have la := hP.la
  show wpAny _ _ (execs (_ :: _) _) _ _ _
  have hs0 : Str.ofString "" = ⟨([] : List Nat).toArray⟩ := by decide
  have hs1 : ∀ c : Nat, Str.ofString "" ++ (⟨#[c]⟩ : Str) = ⟨[c].toArray⟩ := fun c => by rw [hs0]; exact str_app [] c
  k_steps
  · have h34 : c = 34 := ch_eq (y := Str.ofString "\"") (by decide) (by assumption)
    refine q_loop w mean mg mb dp un gd outer A₀ base h₀ L hx hP hfar hoffI hIlx hB (by assumption) hT hdp (by omega) full hfull qe (pos + 1) gi kg tl (by assumption) N hg (tInv.mk [] full (by rfl) (by rfl) (hout.at34 (h34 ▸ hc)) rfl (some_str rfl hs0)) (fun h tk gi kg tl m v hg hv F N => ?_)
    exact ⟨qe, CiLeft.intro hg F N (fun _ h => h) ⟨rfl, hv⟩⟩
  · have h92 : c = 92 := ch_eq (y := Str.ofString "\\") (by decide) (by assumption)
    refine hout.at92 (h92 ▸ hc) fun c2 rest2 hr e2 htok => ?_
    show wpAny _ _ (call (.ref 42) [.ref P.lx]) _ _ _
    refine use_read hx hP hfar hg e2 hB (by assumption) (by assumption) N hT (by rfl) (by ktr_room) (by ktr_units) ?_
    intro gi2 kg2 tl2 u2 h2 tk2 hg2 F2 N2
    k_steps
    refine u_loop w mean mg mb dp un gd outer A₀ base h₀ L hx hP hfar hoffI hIlx hB (by assumption) hT hdp (by omega) full hfull qe (pos + 1 + 1) gi2 kg2 tl2 (by assumption) (by assumption) hg2 (tInv.mk [c2] rest2 (by rfl) (by rfl) htok hr (some_str rfl (hs1 c2))) (fun h tk gi kg tl m v hg hv F N => ?_)
    exact ⟨qe, CiLeft.intro hg F N (fun _ h => h) ⟨rfl, hv⟩⟩
  · have hws : ¬ isWs c := ws_no (by assumption)
    have h34 : c ≠ 34 := ch_ne (y := Str.ofString "\"") (by decide) (by assumption)
    have h92 : c ≠ 92 := ch_ne (y := Str.ofString "\\") (by decide) (by assumption)
    refine hout.atC hc hws h34 h92 fun rest2 hr htok => ?_
    refine u_loop w mean mg mb dp un gd outer A₀ base h₀ L hx hP hfar hoffI hIlx hB (by assumption) hT hdp (by omega) full hfull qe (pos + 1) gi kg tl (by assumption) (by assumption) hg (tInv.mk [c] rest2 (by rfl) (by rfl) htok hr (some_str rfl (hs1 c))) (fun h tk gi kg tl m v hg hv F N => ?_)
    exact ⟨qe, CiLeft.intro hg F N (fun _ h => h) ⟨rfl, hv⟩⟩
  · have hws : isWs c := ws_yes (by assumption)
    show CiNext _ _ _ _ _ _ _ _ _ _ _ _ _ _
    exact ⟨pos + 1, Nat.lt_succ_self _, CiLeft.intro hg (by assumption) (by assumption) (fun _ h => h) (oInv.mk (by rfl) (by rfl) (hout.atW hc hws) (by rfl))⟩
end Mine
end
section
open PySem PySem.W PyProof.Rows PySem.Spec PySem.Calls
namespace Mine
open PyProof.Rows.LCg (NsObj ns_obj lst lst_snoc)
theorem entry_iter : entryFor table "iter" = some Builtin.«iter» := entryFor_of_tree (by kernel_rfl)
theorem kind_iter : builtinKind "iter" = none := by decide +kernel
theorem plain_iter : plainId "iter" = true := by decide +kernel
theorem args_iter2 (a b : Value) : argsOk "iter" ⟨[a, b], []⟩ := by unfold argsOk; kernel_rfl
theorem method_call_slot : ∃ r, typeLookup (.type "method") (Str.ofString "__call__") = pure (some r) := ⟨.builtin "method.__call__", by rw [typeLookup_type, builtinLookup_eq_fast]; kernel_rfl⟩
section
variable {prog : Program} {w : World} {A : Around} {E : Value → Shared → Prop} {s : Shared} {h₀ : Heap} {L : Addr} {m : Nm} {news : Led}
theorem iter_call {bm : Addr} {f self : Value} {t : Tok} {Q : Value → Shared → Prop} (F : Fr h₀ L s.heap m) (N : News h₀ L s.heap news) (hb : (bm, methodObj f self) ∈ news)
    (h : ∀ I h', Fr h₀ L h' m → News h₀ L h' ((I, ciObj bm t) :: news) → (∀ p ∈ news, p.1 < I) → Q (.ref I) { s with heap := h' }) : wpAny (model prog w) A (call (.builtin "iter") [.ref bm, .str (Str.ofString "") t]) Q E s := by
  obtain ⟨r, hr⟩ := method_call_slot
  refine Calls.call_function_entry kind_iter plain_iter entry_iter (args_iter2 _ _) ?_
  unfold Builtin.«iter»
  refine wpAny_bind (m := someArgs "iter" 1 2 _) (wpAny_pure ?_)
  show wpAny _ _ (specialOf (.ref bm) (Str.ofString "__call__") >>= _) _ _ _
  refine wpAny_bind (wpAny_specialOf (name := Str.ofString "__call__") (T := "method") ⟨_, (N _ hb).1, rfl⟩ hr ?_)
  show wpAny _ _ (rule "iter.sentinel" >>= _) _ _ _
  refine wpAny_bind (wpAny_rule ?_)
  show wpAny _ _ (newFields "callable_iterator" [.ref bm, .str (Str.ofString "") t, .bool false] >>= _) _ _ _
  refine wpAny_bind (wpAny_newObj_type (wpAny_pure ⟨_, rfl, h _ _ (F.push _) (News.push F N _) fun p hp => Heap.lt_size (N p hp).1⟩))
end
end Mine
end
section
open PySem PySem.W PyProof.Rows PySem.Spec PySem.Calls
namespace Mine
open PyProof.Rows.LCg (NsObj ns_obj lst lst_snoc)
local macro_rules | `(tactic| walk_at "exec For Name Name cons nil") => `(tactic| (k_here; k_dflt (refine For_W ?_)))
local macro_rules | `(tactic| walk_at "call builtin:iter") => `(tactic| (k_here; k_dflt (apply iter_call; k_asm; k_asm; k_mem); intros))
noncomputable abbrev ClB (w : World) (mean : ExcName → Option Value) (mg mb : PySem.Str → Option Value) (f : Addr) (news : Led) (vs : List Value) (Fin : Value → Led → Prop) : Prop :=
  ∀ (dp un : Nat) (gd : Option (List Code)) (cn : Str) (cs : Scope) (a : Addr) (ccd : Value) (cl : List (Str × Addr)) (outer : List Env) (A₀ : Around) (base h₀ : Heap) (L : Addr) (m : Str → Option Value) (s : Shared) (Q E : Value → Shared → Prop),
    Below A₀ base outer h₀ → Fr h₀ L s.heap m → (K w.params).In h₀ → News h₀ L s.heap news → Top topProg lw mean mg mb h₀ → cs.kind = .function → dp + 60 < recursionLimit → un + 300 < cLine →
    (∀ v news' h' tk', Fin v news' → Fr h₀ L h' m → News h₀ L h' news' → Q v { s with heap := h', toks := tk' }) →
      wpAny (model PySem.Challenge.rw_tp0040_01.row.prog w) (ktrTop dp un gd cn cs L a ccd cl outer) (call (.ref f) vs) Q E s
theorem lex_le {p : Params} {P : LexP} {gi : List Value} {kg : Nat} {line : Int} {tl : Tok} {pbs : List Value} {kp : Nat} {x : Str} {tx : Tok} {news0 : Led} (hP : LexOk x tx news0 P) : ∀ q ∈ lexL p P gi kg line tl pbs kp, @LE.le Nat _ q.1 P.pb := by
  refine Classical.byContradiction fun gK => ?_
  obtain ⟨_, _, _, l0, l1, l2, l3, l4, l5, l6, l7, l8, l9, la, _⟩ := hP
  refine gK ?_
  clear gK
  intro q hq
  simp only [lexL, List.mem_cons, List.not_mem_nil, or_false] at hq
  rcases hq with rfl | rfl | rfl | rfl | rfl | rfl | rfl | rfl | rfl | rfl | rfl <;> dsimp only <;> omega
set_option maxHeartbeats 0 in
theorem c_get (w : World) (mean : ExcName → Option Value) (mg mb : PySem.Str → Option Value) (news news0 : Led) (x : Str) (tx : Tok) (P : LexP) (gi : List Value) (kg : Nat) (tl : Tok) (kp : Nat)
    (hx : 1 < x.cps.size ∧ x.cps.size ≤ 1000) (hP : LexOk x tx news0 P) (n1 : ∀ p ∈ news, p.1 ≠ P.pb) (n2 : ∀ p ∈ news, p.1 ≠ P.gone) (n3 : ∀ p ∈ news, p.1 ≠ P.dx) (full : List Nat) (qe : Nat) (hfull : full.length ≤ 1000) (hout : Out x full qe gi.length) :
  ClB w mean mg mb 49 (lexL w.params P gi kg (nlc x gi.length) tl [] kp ++ news) [Value.ref P.lx] (fun v news' => ∃ gi' kg' tl' t, v = .str ⟨full.toArray⟩ t ∧ gi'.length = qe ∧ news' = lexL w.params P gi' kg' (nlc x qe) tl' [] kp ++ news) := by
  unfold ClB
  k_fill
  intro dp un gd cn cs a ccd cl outer A₀ base h₀ L m s Q E hB hF hX hN hT hk hdp hun hret
  have l0 := hP.l0
  have l1 := hP.l1
  have l2 := hP.l2
  have l3 := hP.l3
  have l4 := hP.l4
  have l5 := hP.l5
  have l6 := hP.l6
  have l7 := hP.l7
  have l8 := hP.l8
  have l9 := hP.l9
  have la := hP.la
  simp only [lexL, List.cons_append, List.nil_append] at hN
  refine wpAny_call ?_
  k_dflt cell_enter
  k_steps
  rename_i g0 L0 hx0 FG0 B0 X0 T0 tka tkb hx1 BM hx2 lB IT hx3 lI hx4 F4 N4
  have hIpb : @LT.lt Nat _ P.pb IT := lI (P.pb, _) (List.mem_cons_of_mem _ List.mem_cons_self)
  have hIBM : @LT.lt Nat _ BM IT := lI (BM, _) List.mem_cons_self
  have hIn : ∀ q ∈ news, q.1 ≠ IT := fun q hq => Nat.ne_of_lt (lI q (by simp only [List.mem_cons]; simp [hq]))
  have far : CiFar P IT BM news := ⟨n1, n2, n3, by k_ne, by k_ne, by k_ne, by k_ne, by k_ne, by k_ne⟩
  refine for_ci w mean mg mb _ _ _ _ _ _ _ _ _ _ _ (oInv x P.lx IT full qe) (fun v pos m => tRet full qe v pos m) hx hP far B0 X0 T0 (by rfl) (by ktr_room) (by ktr_units) ⟨by rfl, by rfl⟩ F4 N4 rfl hIn (fun gi kg line tl q hq => Nat.ne_of_lt (Nat.lt_of_le_of_lt (lex_le hP q hq) hIpb)) ⟨by rfl, by rfl, hout, _, by rfl⟩ (fun pos m hi => hi.2.2.1.le) (fun pos c u m h tk gi kg tl E' hI hc hg F N => ?_) (fun h tk gi kg tl m hI hg F N => ?_) (fun h tk gi kg tl m pos v hR hg F N => ?_)
  · exact o_turn w mean mg mb _ _ _ _ _ _ _ _ _ hx hP far hIn (fun gi kg line tl q hq => Nat.ne_of_lt (Nat.lt_of_le_of_lt (lex_le hP q hq) hIpb)) B0 X0 T0 (by ktr_room) (by ktr_units) full hfull qe pos c u m h tk gi kg tl E' hI hc hg F N
  · refine Classical.byContradiction fun gK => ?_
    obtain ⟨_, _, ho, ta, htk⟩ := hI
    refine gK ?_
    clear gK
    have hf : full = [] ∧ qe = x.cps.size := by
      rcases ho with ho | ⟨h1, h2, _⟩
      · exact absurd ho.lt (Nat.lt_irrefl _)
      · exact ⟨h1, h2⟩
    obtain ⟨rfl, rfl⟩ := hf
    have F := fixF F htk
    dsimp only
    k_steps
    exact hret _ _ _ _ ⟨gi, kg, tl, _, rfl, hg, rfl⟩ (by k_asm) (by assumption)
  · obtain ⟨rfl, t', rfl⟩ := hR
    dsimp only
    k_steps
    exact hret _ (lexL w.params P gi kg (nlc x pos) tl [] kp ++ news) _ _ ⟨gi, kg, tl, _, rfl, hg, rfl⟩ (by k_asm) (cb_drop (by assumption) fun q hq => List.mem_cons_of_mem _ (List.mem_cons_of_mem _ hq))
theorem use_get (w : World) (mean : ExcName → Option Value) (mg mb : PySem.Str → Option Value) {news news0 : Led} {x : Str} {tx : Tok} {P : LexP} {gi : List Value} {kg : Nat} {tl : Tok} {kp : Nat} {full : List Nat} {qe : Nat}
    (hx : 1 < x.cps.size ∧ x.cps.size ≤ 1000) (hP : LexOk x tx news0 P) (n1 : ∀ p ∈ news, p.1 ≠ P.pb) (n2 : ∀ p ∈ news, p.1 ≠ P.gone) (n3 : ∀ p ∈ news, p.1 ≠ P.dx) (hfull : full.length ≤ 1000) (hout : Out x full qe gi.length)
    {dp un : Nat} {gd : Option (List Code)} {cn : Str} {cs : Scope} {a : Addr} {ccd : Value} {cl : List (Str × Addr)} {outer : List Env} {A₀ : Around} {base h₀ : Heap} {L : Addr} {m : Str → Option Value} {s : Shared} {Q E : Value → Shared → Prop}
    (hB : Below A₀ base outer h₀) (hF : Fr h₀ L s.heap m) (hX : (K w.params).In h₀) (hN : News h₀ L s.heap (lexL w.params P gi kg (nlc x gi.length) tl [] kp ++ news)) (hT : Top topProg lw mean mg mb h₀) (hk : cs.kind = .function) (hdp : dp + 60 < recursionLimit) (hun : un + 300 < cLine)
    (g : ∀ gi' kg' tl' t h' tk', gi'.length = qe → Fr h₀ L h' m → News h₀ L h' (lexL w.params P gi' kg' (nlc x qe) tl' [] kp ++ news) → Q (.str ⟨full.toArray⟩ t) { s with heap := h', toks := tk' }) :
    wpAny (model PySem.Challenge.rw_tp0040_01.row.prog w) (ktrTop dp un gd cn cs L a ccd cl outer) (call (.ref 49) [.ref P.lx]) Q E s :=
  c_get w mean mg mb news news0 x tx P gi kg tl kp hx hP n1 n2 n3 full qe hfull hout dp un gd cn cs a ccd cl outer A₀ base h₀ L m s Q E hB hF hX hN hT hk hdp hun fun v news' h' tk' fin F N => fin.elim fun gi' f => f.elim fun kg' f => f.elim fun tl' f => f.elim fun t f => by
    rw [f.1]
    exact g gi' kg' tl' t h' tk' f.2.1 F (f.2.2 ▸ N)
end Mine
end
section
open PySem PySem.W PyProof.Rows PySem.Spec PySem.Calls
namespace Mine
open PyProof.Rows.LCg (NsObj ns_obj lst lst_snoc)
theorem Steps.own_mono {prog : Program} {w : World} {A : Around} {it : Value} {target : Expr} {env : Env} {own own' fp : List Addr} {n : Nat} {St : Nat → Heap → Prop} {B : Nat → Nm → Nm → Prop} (S : Steps prog w A it target env own fp n St B) (h : ∀ b ∈ own, b ∈ own') : Steps prog w A it target env own' fp n St B where
  frame := S.frame
  step := fun i s m Q E₀ E₁ E₂ hi hst hn hf ho hQ => S.step i s m Q E₀ E₁ E₂ hi hst hn hf (fun q => ho (h _ q)) fun h' tk m' b st ns k => hQ h' tk m' b st ns fun c o hc => k c o fun q => hc (h _ q)
  done := fun s Q E hst hQ => S.done s Q E hst fun h' tk k => hQ h' tk fun c o hc => k c o fun q => hc (h _ q)
  self := S.self
section
variable {prog : Program} {w : World} {A : Around} {s₁ : Shared}
theorem src_zip (hh : A.handled = none) {z TI TO i1 i2 l1 l2 : Addr} {lo : Nat} {xs ys : Array Value} (a b : Str) (pa pb pos : Pos) (k : Nat) (D : ZipApart z TI TO i1 i2 l1 l2)
    (hz : IsZip s₁.heap z TI TO .none) (h1 : IsPair s₁.heap TI (.ref i1) (.ref i2)) (h2 : IsPair s₁.heap TO .none .none) (h3 : s₁.heap.IsListIter i1 l1 0) (h4 : s₁.heap.IsListIter i2 l2 0) (h5 : s₁.heap.IsList l1 xs) (h6 : s₁.heap.IsList l2 ys)
    (b1 : lo ≤ z) (b2 : lo ≤ TI) (b3 : lo ≤ TO) (b4 : lo ≤ i1) (b5 : lo ≤ i2) :
    Source prog w A (.Tuple [.Name a pa, .Name b pb] k pos) (okP a b) (min xs.size ys.size) (BP a b fun i p q => xs[i]? = some p ∧ ys[i]? = some q) [l1, l2] lo s₁ (.ref z) where
  run := fun Kf E h => by
    refine wpAny_pyIter_zip hz ?_
    have lz := Heap.lt_size hz
    have lTI := Heap.lt_size h1
    have lTO := Heap.lt_size h2
    have li1 : i1 < s₁.heap.objs.size := by obtain ⟨_, e, _⟩ := h3; exact Heap.lt_size e
    have li2 : i2 < s₁.heap.objs.size := by obtain ⟨_, e, _⟩ := h4; exact Heap.lt_size e
    have ll1 : l1 < s₁.heap.objs.size := by obtain ⟨_, e, _⟩ := h5; exact Heap.lt_size e
    have ll2 : l2 < s₁.heap.objs.size := by obtain ⟨_, e, _⟩ := h6; exact Heap.lt_size e
    refine h (.ref z) [z, TI, TO, i1, i2] [z, TI, TO, i1, i2, l1, l2] _ s₁.heap (fun env' ok => ((Steps.pair hh (WalksT.zip2 (A := A) hh z TI TO i1 i2 l1 l2 D xs ys).toU (fun i vals ⟨_, _, _, _, q⟩ => by rw [q]; rfl) ok.1 ok.2.1 ok.2.2).own_mono ?_).mono ?_) ⟨hz, h1, ⟨_, _, h2⟩, h3, h4, h5, h6⟩ (fun c hc => ?_) (fun c hc => ?_) (fun _ _ e => e) (Nat.le_refl _)
    · intro c hc
      simp only [List.mem_cons, List.not_mem_nil, or_false] at hc ⊢
      rcases hc with rfl | rfl | rfl | rfl <;> simp
    · rintro i m m' ⟨p, q, ⟨u, y, hu, hy, hv⟩, rfl⟩
      cases hv
      exact ⟨_, _, ⟨hu, hy⟩, rfl⟩
    · simp only [List.mem_cons, List.not_mem_nil, or_false] at hc
      rcases hc with rfl | rfl | rfl | rfl | rfl | rfl | rfl
      · exact ⟨lz, .inl (by simp)⟩
      · exact ⟨lTI, .inl (by simp)⟩
      · exact ⟨lTO, .inl (by simp)⟩
      · exact ⟨li1, .inl (by simp)⟩
      · exact ⟨li2, .inl (by simp)⟩
      · exact ⟨ll1, .inr (by simp)⟩
      · exact ⟨ll2, .inr (by simp)⟩
    · simp only [List.mem_cons, List.not_mem_nil, or_false] at hc
      rcases hc with rfl | rfl | rfl | rfl | rfl
      · exact ⟨lz, b1⟩
      · exact ⟨lTI, b2⟩
      · exact ⟨lTO, b3⟩
      · exact ⟨li1, b4⟩
      · exact ⟨li2, b5⟩
structure ZipAt (h : Heap) (z l1 l2 : Addr) (lo : Nat) (TI TO i1 i2 : Addr) : Prop where
  D : ZipApart z TI TO i1 i2 l1 l2
  hz : IsZip h z TI TO .none
  h1 : IsPair h TI (.ref i1) (.ref i2)
  h2 : IsPair h TO .none .none
  h3 : h.IsListIter i1 l1 0
  h4 : h.IsListIter i2 l2 0
  b1 : lo ≤ z
  b2 : lo ≤ TI
  b3 : lo ≤ TO
  b4 : lo ≤ i1
  b5 : lo ≤ i2
theorem zip_L {E : Value → Shared → Prop} {s : Shared} {h₀ : Heap} {L : Addr} {m : Nm} {news : Led} {l1 l2 : Addr} {xs ys : Array Value} {k1 k2 : Nat} {Q : Value → Shared → Prop} (F : Fr h₀ L s.heap m) (N : News h₀ L s.heap news) (hl1 : (l1, W.listOf xs k1) ∈ news) (hl2 : (l2, W.listOf ys k2) ∈ news)
    (h : ∀ z TI TO i1 i2 h' lo, Fr h₀ L h' m → News h₀ L h' news → ZipAt h' z l1 l2 lo TI TO i1 i2 → @LT.lt Nat _ L lo → (∀ p ∈ news, @LT.lt Nat _ p.1 lo) → @LE.le Nat _ lo h'.objs.size → Q (.ref z) { s with heap := h' }) :
    wpAny (model prog w) A (call (.type "zip") [.ref l1, .ref l2]) Q E s := by
  have g1 := N _ hl1
  have g2 := N _ hl2
  have a1 : @LT.lt Nat _ l1 s.heap.objs.size := Heap.lt_size g1.1
  have a2 : @LT.lt Nat _ l2 s.heap.objs.size := Heap.lt_size g2.1
  refine call_zip_2 (xs := xs) (ys := ys) ⟨_, g1.1, rfl, _, rfl⟩ ⟨_, g2.1, rfl, _, rfl⟩ fun h' hz h1 h2 h3 h4 hs hk => ?_
  generalize hn : s.heap.objs.size = n at *
  refine h (n + 4) (n + 2) (n + 3) n (n + 1) h' n (F.keeps hk) (fun p hp => ⟨hk _ _ (N p hp).1, (N p hp).2⟩)
    ⟨⟨?_, ?_, ?_, ?_, ?_, ?_, ?_, ?_, ?_, ?_, ?_, ?_, ?_, ?_, ?_, ?_, ?_, ?_⟩, hz, h1, h2, h3, h4, ?_, ?_, ?_, ?_, ?_⟩ (by rw [← hn]; exact F.ns.lt) (fun p hp => by rw [← hn]; exact Heap.lt_size (N p hp).1) (by rw [hs]; exact Nat.le_add_right _ _)
  all_goals first
    | (refine Nat.ne_of_lt ?_; lia)
    | (refine Nat.ne_of_gt ?_; lia)
    | (show @LE.le Nat _ _ _; lia)
end
/-- a while loop; the invariant sees names and ledger -/
noncomputable def WTurn (h₀ : Heap) (L : Addr) (s : Shared) (J : Nat → Nm → Led → Prop) (n : Nat) (s₃ : Shared) : Prop :=
  ∃ h' tk m₂ news₂ n', s₃ = { s with heap := h', toks := tk } ∧ Fr h₀ L h' m₂ ∧ News h₀ L h' news₂ ∧ n' < n ∧ J n' m₂ news₂
theorem WTurn.intro {h₀ h' : Heap} {L : Addr} {s : Shared} {J : Nat → Nm → Led → Prop} {n tk : Nat} {m₂ : Nm} {all : Led} (n' : Nat) (news₂ : Led) (F : Fr h₀ L h' m₂) (N : News h₀ L h' all) (hs : ∀ q ∈ news₂, q ∈ all) (hn : n' < n) (hJ : J n' m₂ news₂) : WTurn h₀ L s J n { s with heap := h', toks := tk } :=
  ⟨h', tk, m₂, news₂, n', rfl, F, fun q hq => N q (hs q hq), hn, hJ⟩
theorem While_V {prog : Program} {w : World} {A : Around} {E : Value → Shared → Prop} {Q : Flow → Shared → Prop} {s : Shared} {env : Env} {h₀ : Heap} {L : Addr} {test : Expr} {body : List Stmt} {pos : Pos} {m : Nm} {news : Led} (J : Nat → Nm → Led → Prop) {n₀ : Nat}
    (F : Fr h₀ L s.heap m) (N : News h₀ L s.heap news) (hJ : J n₀ m news)
    (turn : ∀ n m₁ news₁ h₁ tk₁ (E' : Value → Shared → Prop), Fr h₀ L h₁ m₁ → News h₀ L h₁ news₁ → J n m₁ news₁ →
      wpAny (model prog w) A (isTrue test env (eval test env)) (fun b s₂ =>
        if b = true then wpAny (model prog w) A (execs body env) (fun f s₃ => match f with | .next => WTurn h₀ L s J n s₃ | _ => False) E' s₂ else Q .next s₂) E' { s with heap := h₁, toks := tk₁ }) :
    wpAny (model prog w) A (exec (.While test body [] pos) env) Q E s := by
  refine wpAny_While (codeAny_whileLoop (fun n s' => ∃ h₁ tk₁ m₁ news₁, s' = { s with heap := h₁, toks := tk₁ } ∧ Fr h₀ L h₁ m₁ ∧ News h₀ L h₁ news₁ ∧ J n m₁ news₁) ?_ n₀ ⟨s.heap, s.toks, m, news, rfl, F, N, hJ⟩)
  rintro n s' ⟨h₁, tk₁, m₁, news₁, rfl, F₁, N₁, J₁⟩
  refine wpAny_mono (turn n m₁ news₁ h₁ tk₁ _ F₁ N₁ J₁) (fun b s₂ h₂ => ?_) (fun _ _ e => e)
  cases b with
  | false =>
    simp only [Bool.false_eq_true, if_false] at h₂ ⊢
    exact wpAny_execs_nil h₂
  | true =>
    simp only [if_true] at h₂ ⊢
    refine wpAny_mono h₂ (fun f s₃ h₃ => ?_) (fun _ _ e => e)
    cases f with
    | next =>
      refine Classical.byContradiction fun gK => ?_
      obtain ⟨h', tk, m₂, news₂, n', rfl, F₂, N₂, hn, J₂⟩ := h₃
      refine gK ?_
      clear gK
      exact ⟨n', hn, h', tk, m₂, news₂, rfl, F₂, N₂, J₂⟩
    | _ => exact h₃.elim
end Mine
end
section
open PySem PySem.W PyProof.Rows PySem.Spec PySem.Calls
namespace Mine
open PyProof.Rows.LCg (NsObj ns_obj lst lst_snoc)
noncomputable def lexRest (p : Params) (P : LexP) (gi : List Value) (kg : Nat) : Led := (lexL p P gi kg 0 0 [] 0).drop 3
noncomputable abbrev dxObj (p : Params) (P : LexP) (line : Int) (tl : Tok) : Obj := dictOf [ent p (Str.ofString "lineno") P.k1 (.int line tl), ent p (Str.ofString "instream") P.k2 (.ref P.st), ent p (Str.ofString "whitespace") P.k3 (.str wsT P.k4), ent p (Str.ofString "pushback") P.k5 (.ref P.pb)] 4
theorem lex_split (p : Params) (P : LexP) (gi : List Value) (kg : Nat) (line : Int) (tl : Tok) (pbs : List Value) (kp : Nat) : lexL p P gi kg line tl pbs kp = (P.pb, W.listOf pbs.toArray kp) :: (P.lx, instObj 59 P.dx) :: (P.dx, dxObj p P line tl) :: lexRest p P gi kg := rfl
theorem lexRest_off {p : Params} {P : LexP} {gi : List Value} {kg : Nat} {x : Str} {tx : Tok} {news0 : Led} (hP : LexOk x tx news0 P) : ∀ q ∈ lexRest p P gi kg, q.1 ≠ P.pb := by
  refine Classical.byContradiction fun gK => ?_
  obtain ⟨_, _, _, l0, l1, l2, l3, l4, l5, l6, l7, l8, l9, la, _⟩ := hP
  refine gK ?_
  clear gK
  intro q hq
  simp only [lexRest, lexL, List.drop_succ_cons, List.drop_zero, List.mem_cons, List.not_mem_nil, or_false] at hq
  rcases hq with rfl | rfl | rfl | rfl | rfl | rfl | rfl | rfl <;> k_ne
section
variable {w : World} {mean : ExcName → Option Value} {mg mb : PySem.Str → Option Value} {dp un : Nat} {gd : Option (List Code)} {cn : Str} {cs : Scope} {L a : Addr} {ccd : Value} {cl : List (Str × Addr)} {outer : List Env} {A₀ : Around} {base h₀ : Heap} {m : Nm} {s : Shared} {Q E : Value → Shared → Prop} {led news0 : Led} {x : Str} {tx : Tok} {P : LexP} {kp : Nat} {gi : List Value} {kg : Nat} {line : Int} {tl : Tok} {g : Obj → Led}
theorem use_push {pbs : List Value} {y : Str} {ty : Tok}
    (k1 : Below A₀ base outer h₀) (k2 : Fr h₀ L s.heap m) (k3 : (K w.params).In h₀) (k4 : News h₀ L s.heap led) (k5 : Top topProg lw mean mg mb h₀) (k6 : cs.kind = .function) (kd : dp + 40 < recursionLimit) (ku : un + 200 < cLine)
    (hP : LexOk x tx news0 P) (U : UpdF P.pb (W.listOf pbs.toArray kp) led g) (hlx : (P.lx, instObj 59 P.dx) ∈ led) (hdx : (P.dx, dxObj w.params P line tl) ∈ led) (hlr : ∀ q ∈ lexRest w.params P gi kg, q ∈ led) (hz : pbs.length ≤ 1000)
    (kR : ∀ (kp' : Nat) (h' : Heap) (tk' : Nat), Fr h₀ L h' m → News h₀ L h' (g (W.listOf (pbs ++ [Value.str y ty]).toArray kp')) → Q .none { s with heap := h', toks := tk' }) :
    wpAny (model PySem.Challenge.rw_tp0040_01.row.prog w) (ktrTop dp un gd cn cs L a ccd cl outer) (call (.ref 56) [.ref P.lx, .str y ty]) Q E s := by
  refine Classical.byContradiction fun gK => ?_
  obtain ⟨pre, post, e1, e2, e3, e4⟩ := U.split
  refine gK ?_
  clear gK
  refine c_push w mean mg mb (pre ++ post) news0 x tx P gi kg line tl pbs kp hP (fun p hp => (List.mem_append.mp hp).elim (e3 p) (e4 p)) hz y ty dp un gd cn cs a ccd cl outer A₀ base h₀ L m s Q E k1 k2 k3 (fun q hq => k4 q ?_) k5 k6 kd ku (fun v' news' h' tk' fin' F' N' => ?_)
  · rw [lex_split] at hq
    simp only [List.cons_append, List.mem_cons, List.mem_append] at hq
    rw [e1]
    rcases hq with rfl | rfl | rfl | hq | hq | hq
    · exact List.mem_append_right _ List.mem_cons_self
    · exact e1 ▸ hlx
    · exact e1 ▸ hdx
    · exact e1 ▸ hlr q hq
    · exact List.mem_append_left _ hq
    · exact List.mem_append_right _ (List.mem_cons_of_mem _ hq)
  · obtain ⟨kp', rfl, rfl⟩ := fin'
    refine kR kp' h' tk' F' fun q hq => N' q ?_
    rw [e2] at hq
    rw [lex_split]
    simp only [List.cons_append, List.mem_cons, List.mem_append] at hq ⊢
    rcases hq with hq | hq | hq
    · exact .inr (.inr (.inr (.inr (.inl hq))))
    · exact .inl hq
    · exact .inr (.inr (.inr (.inr (.inr hq))))
theorem use_pop {p0 : Value} {pbs : List Value}
    (k1 : Below A₀ base outer h₀) (k2 : Fr h₀ L s.heap m) (k3 : (K w.params).In h₀) (k4 : News h₀ L s.heap led) (k5 : Top topProg lw mean mg mb h₀) (k6 : cs.kind = .function) (kd : dp + 40 < recursionLimit) (ku : un + 200 < cLine)
    (hP : LexOk x tx news0 P) (U : UpdF P.pb (W.listOf (p0 :: pbs).toArray kp) led g) (hlx : (P.lx, instObj 59 P.dx) ∈ led) (hdx : (P.dx, dxObj w.params P line tl) ∈ led) (hlr : ∀ q ∈ lexRest w.params P gi kg, q ∈ led) (hz : pbs.length ≤ 1000)
    (kR : ∀ (kp' : Nat) (h' : Heap) (tk' : Nat), Fr h₀ L h' m → News h₀ L h' (g (W.listOf pbs.toArray kp')) → Q p0 { s with heap := h', toks := tk' }) :
    wpAny (model PySem.Challenge.rw_tp0040_01.row.prog w) (ktrTop dp un gd cn cs L a ccd cl outer) (call (.ref 49) [.ref P.lx]) Q E s := by
  refine Classical.byContradiction fun gK => ?_
  obtain ⟨pre, post, e1, e2, e3, e4⟩ := U.split
  refine gK ?_
  clear gK
  refine c_pop w mean mg mb (pre ++ post) news0 x tx P gi kg line tl p0 pbs kp hP (fun p hp => (List.mem_append.mp hp).elim (e3 p) (e4 p)) hz dp un gd cn cs a ccd cl outer A₀ base h₀ L m s Q E k1 k2 k3 (fun q hq => k4 q ?_) k5 k6 kd ku (fun v' news' h' tk' fin' F' N' => ?_)
  · rw [lex_split] at hq
    simp only [List.cons_append, List.mem_cons, List.mem_append] at hq
    rw [e1]
    rcases hq with rfl | rfl | rfl | hq | hq | hq
    · exact List.mem_append_right _ List.mem_cons_self
    · exact e1 ▸ hlx
    · exact e1 ▸ hdx
    · exact e1 ▸ hlr q hq
    · exact List.mem_append_left _ hq
    · exact List.mem_append_right _ (List.mem_cons_of_mem _ hq)
  · obtain ⟨kp', rfl, rfl⟩ := fin'
    refine kR kp' h' tk' F' fun q hq => N' q ?_
    rw [e2] at hq
    rw [lex_split]
    simp only [List.cons_append, List.mem_cons, List.mem_append] at hq ⊢
    rcases hq with hq | hq | hq
    · exact .inr (.inr (.inr (.inr (.inl hq))))
    · exact .inl hq
    · exact .inr (.inr (.inr (.inr (.inr hq))))
end
-- 
-- 
-- 
section
variable {prog : Program} {w : World} {A : Around} {E : Value → Shared → Prop} {s : Shared} {h₀ : Heap} {L : Addr} {m : Nm} {news : Led}
theorem ext_L {l b : Addr} {xs ys : Array Value} {n k : Nat} {g : Obj → Led} {Q : Value → Shared → Prop} (Fm : Fr h₀ L s.heap m) (N : News h₀ L s.heap news) (U : UpdF l (W.listOf xs n) news g) (hb : (b, W.listOf ys k) ∈ news)
    (hz : xs.size + ys.size ≤ 100000)
    (h : ∀ h' n', Fr h₀ L h' m → News h₀ L h' (g (W.listOf (xs ++ ys) n')) → Q .none { s with heap := h' }) : wpAny (model prog w) A (call (.builtin "list.extend") [.ref l, .ref b]) Q E s := by
  refine Classical.byContradiction fun gK => ?_
  obtain ⟨pre, post, e1, e2, e3, e4⟩ := U.split
  refine gK ?_
  clear gK
  have hl : (l, W.listOf xs n) ∈ news := by rw [e1]; exact List.mem_append_right _ List.mem_cons_self
  have gl := N.get hl
  have gb := N.get hb
  have hsl : sizeLine = 16777216 := rfl
  refine call_meets F.slot_list_extend ⟨_, gl, rfl⟩ F.entry_list_extend (F.args_list_extend_2 _ _) (AutoSeq1.list_extend_list_list_0 l xs n b ys k ?_ (by omega) (by omega)) ⟨gl, gb, ?_⟩
  · intro hh
    simp only [Bool.and_eq_true, Builtin.List.listTooLong, decide_eq_true_eq] at hh
    omega
  · have hs : Heap.SameBut l s.heap (s.heap.update l (Obj.mapSeq fun x => x ++ ys)) := Heap.SameBut.update ..
    have z := N _ hl
    refine h _ (if (xs ++ ys).size == xs.size then n else n + 1) (Fm.change hs z.2.1 z.2.2) fun p hp => ?_
    rw [e2] at hp
    rcases List.mem_append.mp hp with hp | hp
    · have zp := N p (by rw [e1]; exact List.mem_append_left _ hp)
      exact ⟨hs.extBut _ _ (e3 p hp) zp.1, zp.2⟩
    rcases List.mem_cons.mp hp with rfl | hp
    · exact ⟨(Heap.get?_update_self _ gl rfl).trans rfl, z.2⟩
    · have zp := N p (by rw [e1]; exact List.mem_append_right _ (List.mem_cons_of_mem _ hp))
      exact ⟨hs.extBut _ _ (e4 p hp) zp.1, zp.2⟩
end
end Mine
end
section
open PySem PySem.W PyProof.Rows PySem.Spec PySem.Calls
namespace Mine
open PyProof.Rows.LCg (NsObj ns_obj lst lst_snoc)
local macro_rules | `(tactic| k_all) => `(tactic| first | assumption | exact all_ne_of_lt (by assumption) (by lia))
local macro_rules | `(tactic| walk_at "exec For Tuple Call cons nil") => `(tactic| (k_here; k_dflt (refine For_W ?_)))
local macro_rules | `(tactic| walk_at "call ref") => `(tactic| (k_here; (first | apply use_push | apply use_pop); walk_at "u8"; assumption; k_updF; k_mem; k_mem; f_list; (first | lia | (simp; lia) | simp); walk_at "in9"))
local macro_rules | `(tactic| walk_at "subscriptTail Name Constant ref int") => `(tactic| (k_here; with_unfolding_all (apply item_litK; (walk_at "li9"); decide; decide; rfl; rotate_left; rfl; k_whole)))
local macro_rules | `(tactic| walk_at "subscriptTail Name IfExp ref int") => `(tactic| (k_here; with_unfolding_all (apply item_litK; (walk_at "li9"); decide; decide; rfl; rotate_left; rfl; k_whole)))
local macro_rules | `(tactic| walk_at "subscriptTail") => `(tactic| (k_here; with_unfolding_all (apply item_litK; (walk_at "li9"); decide; decide; rfl; rotate_left; rfl; k_whole)))
local macro_rules | `(tactic| walk_at "call builtin:list.extend") => `(tactic| (k_here; k_dflt (apply ext_L; k_asm; k_asm; k_updF; k_mem; (simp; try lia); k_whole); walk_at "in9"))
local macro_rules | `(tactic| walk_at "exec For Tuple Call cons nil") => `(tactic| (k_here; k_dflt (refine For_W ?_)))
local macro_rules | `(tactic| walk_at "call type:zip") => `(tactic| (k_here; k_dflt (apply zip_L; k_asm; k_asm; k_mem; k_mem); intros))
theorem loadX_L {M : Model} {A : Around} {E : Value → Shared → Prop} {s : Shared} {h₀ : Heap} {L a : Addr} {m : Str → Option Value} {cn : Str} {cs : Scope} {ccd : Value} {cl : List (Str × Addr)} {x : Str} {v : Value} {Q : Value → Shared → Prop} (F : Fr h₀ L s.heap m) (hv : m x = some v) (h : Q v s)
    (hk : cs.kind = .function) (hx : (envX cn cs L a ccd cl).kindOf x = some .local) : wpAny M A (loadName (envX cn cs L a ccd cl) x) Q E s := wpAny_loadName_local hk hx F.ns hv h
local macro_rules | `(tactic| walk_at "loadName") => `(tactic| (k_here; k_dflt (apply loadX_L; k_asm; exact rfl; rotate_left; rfl; rfl; k_whole)))
noncomputable def lhalf (low high : Nat) (st : List Nat × Nat × Nat) (j k : Nat) : List Nat × Nat × Nat := (st.1 ++ List.replicate (st.2.1 + wln low high k - st.2.2) j, st.2.1 + wln low high k, max st.2.2 (st.2.1 + wln low high k))
noncomputable def lk (low high : Nat) : Nat → List Nat × List Nat × Nat × Nat
  | 0 => ([], [0, if low = 1 then 1 else 0], 0, 2)
  | r + 1 => ((lk low high r).1 ++ [(lk low high r).2.1.getD 0 0, (lk low high r).2.1.getD 1 0], lhalf low high (lhalf low high ((lk low high r).2.1.drop 2, (lk low high r).2.2) 0 ((lk low high r).2.1.getD 0 0)) 1 ((lk low high r).2.1.getD 1 0))
noncomputable def lnDef : Stmt := stmtAt 22
noncomputable def lnBody : List Stmt := (forPart ((defBody lnDef).getD 4 (.Pass default))).2.2.1
noncomputable abbrev lnN : Str := Str.ofString "_law_lined"
noncomputable abbrev lnCl (L : Addr) : List (Str × Addr) := [(Str.ofString "lexer", L + 1)]
theorem wv_str (n1 : Str) (t1 : Tok) (n2 : Str) (t2 : Tok) (a : Nat) : ∃ na ta, wv n1 t1 n2 t2 a = .str na ta ∧ na.length = wln n1.length n2.length a := by
  unfold wv wln
  by_cases h : a = 0
  · exact ⟨n1, t1, if_pos h, (if_pos h).symm⟩
  · exact ⟨n2, t2, if_neg h, (if_neg h).symm⟩
noncomputable def znBody : List Stmt := (forPart (lnBody.getD 2 (.Pass default))).2.2.1
noncomputable def whPart : Stmt → PySem.Expr × List Stmt | .While t b _ _ => (t, b) | _ => default
noncomputable def zInv (n1 : Str) (t1 : Tok) (n2 : Str) (t2 : Tok) (nl WA pb : Addr) (S : List Nat × Nat × Nat) (m : Nm) (live : Led) : Prop :=
  ∃ kp, live = [(pb, W.listOf (S.1.map (wv n1 t1 n2 t2)).toArray kp)] ∧ m (Str.ofString "names") = some (.ref nl) ∧ m (Str.ofString "words") = some (.ref WA) ∧ (∃ t, m (Str.ofString "total") = some (.int (S.2.1 : Nat) t)) ∧ ∃ t, m (Str.ofString "pushed") = some (.int (S.2.2 : Nat) t)
theorem zInv.elim {n1 : Str} {t1 : Tok} {n2 : Str} {t2 : Tok} {nl WA pb : Addr} {S : List Nat × Nat × Nat} {m : Nm} {live : Led} {C : Prop} (h : zInv n1 t1 n2 t2 nl WA pb S m live)
    (k : ∀ kp ta tb, live = [(pb, W.listOf (S.1.map (wv n1 t1 n2 t2)).toArray kp)] → m (Str.ofString "names") = some (.ref nl) → m (Str.ofString "words") = some (.ref WA) → m (Str.ofString "total") = some (.int (S.2.1 : Nat) ta) → m (Str.ofString "pushed") = some (.int (S.2.2 : Nat) tb) → C) : C := by
  obtain ⟨kp, e, a, b, ⟨ta, c⟩, tb, d⟩ := h
  exact k kp ta tb e a b c d
noncomputable def AfterWh (prog : Program) (w : World) (A : Around) (test : PySem.Expr) (body : List Stmt) (pos : Pos) (env : Env) (Q : Flow → Shared → Prop) (E : Value → Shared → Prop) (s : Shared) : Prop := wpAny (model prog w) A (exec (.While test body [] pos) env) Q E s
theorem AfterWh.go {prog : Program} {w : World} {A : Around} {test : PySem.Expr} {body : List Stmt} {pos : Pos} {env : Env} {Q : Flow → Shared → Prop} {E : Value → Shared → Prop} {s : Shared} (h : AfterWh prog w A test body pos env Q E s) : wpAny (model prog w) A (exec (.While test body [] pos) env) Q E s := h
local macro_rules | `(tactic| walk_at "last exec While") => `(tactic| (k_here; k_dflt (refine AfterWh.go ?_)))
set_option maxHeartbeats 0 in
theorem zn_turn (w : World) (mean : ExcName → Option Value) (mg mb : PySem.Str → Option Value) (news0 : Led) (x : Str) (tx : Tok) (P : LexP) (gi : List Value) (kg : Nat) (line : Int) (tl : Tok) (nl : Addr) (n1 n2 : Str) (t1 t2 : Tok)
    (hP : LexOk x tx news0 P) (dp un : Nat) (gd : Option (List Code)) (outer : List Env) (A₀ : Around) (base h₀ : Heap) (L : Addr) (WA : Addr) (oc : Obj) (hoc : oc.data = .cell (some (.ref P.lx))) (s₁ : Shared)
    (hB : Below A₀ base outer h₀) (hX : (K w.params).In h₀) (hT : Top topProg lw mean mg mb h₀) (hdp : dp + 50 < recursionLimit) (hun : un + 250 < cLine) (hLp : @Ne Nat (L + 1) P.pb)
    (S : List Nat × Nat × Nat) (i : Nat) (c : Nat) (nn ww : Str) (tn tw : Tok) (hnn : wv n1 t1 n2 t2 i = .str nn tn) (hww : ww.length = wln n1.length n2.length c) (hb1 : S.1.length ≤ 200) (hb2 : S.2.1 ≤ 200) (hb3 : S.2.2 ≤ 200) (hb4 : ww.length ≤ 5)
    (m : Nm) (live : Led) (h : Heap) (tk : Nat) (rest : Led) (E' : Value → Shared → Prop) (hI : zInv n1 t1 n2 t2 nl WA P.pb S m live)
    (F : Fr h₀ L h (setN (setN m (Str.ofString "name") (.str nn tn)) (Str.ofString "word") (.str ww tw))) (N : News h₀ L h (live ++ rest)) (hrp : ∀ p ∈ rest, p.1 ≠ P.pb)
    (z1 : (L + 1, oc) ∈ rest) (z2 : (P.lx, instObj 59 P.dx) ∈ rest) (z3 : (P.dx, dxObj w.params P line tl) ∈ rest) (hlr : ∀ q ∈ lexRest w.params P gi kg, q ∈ rest) :
    wpAny (model PySem.Challenge.rw_tp0040_01.row.prog w) (ktrTop dp un gd lnN (defScope lnDef) L 194 (.ref 193) (lnCl L) outer) (execs znBody (envX lnN (defScope lnDef) L 194 (.ref 193) (lnCl L))) (fun f s₃ => match f with
        | .next | .cont => GenLeft h₀ L s₁ rest (fun a => a = P.pb) (zInv n1 t1 n2 t2 nl WA P.pb (lhalf n1.length n2.length S i c)) s₃
        | _ => False) E' { s₁ with heap := h, toks := tk } := by
  revert hX
  k_fill
  intro hX
  refine hideQ fun Q' hQ => ?_
  have la : @LT.lt Nat _ P.lx P.pb := hP.la
  have l9 : @LT.lt Nat _ P.dx P.lx := hP.l9
  refine hI.elim fun kp ta tb e hn hw htot hpsh => ?_
  subst e
  have hd : ∀ {y : Str} {v : Value}, y ≠ Str.ofString "name" → y ≠ Str.ofString "word" → m y = some v → setN (setN m (Str.ofString "name") (.str nn tn)) (Str.ofString "word") (.str ww tw) y = some v := fun e1 e2 e' => (if_neg e2).trans ((if_neg e1).trans e')
  have F := fixF6 F (if_pos rfl : setN (setN m (Str.ofString "name") (.str nn tn)) (Str.ofString "word") (.str ww tw) (Str.ofString "word") = _) ((if_neg (by decide)).trans (if_pos rfl) : setN (setN m (Str.ofString "name") (.str nn tn)) (Str.ofString "word") (.str ww tw) (Str.ofString "name") = _) (hd (by decide) (by decide) hpsh) (hd (by decide) (by decide) htot) (hd (by decide) (by decide) hw) (hd (by decide) (by decide) hn)
  have N : News h₀ L h ((P.pb, W.listOf (S.1.map (wv n1 t1 n2 t2)).toArray kp) :: (L + 1, oc) :: (P.lx, instObj 59 P.dx) :: (P.dx, dxObj w.params P line tl) :: rest) := fun p hp => N p (sub_use hp (sub_cons mm0 (sub_cons (mem_t z1) (sub_cons (mem_t z2) (sub_cons (mem_t z3) fun q hq => mem_t hq)))))
  show wpAny _ _ (execs (_ :: _) _) _ _ _
  k_steps
  rename_i h2 F2 N2
  unfold AfterWh
  obtain ⟨tot', htot'⟩ : ∃ tot' : Nat, tot' = S.2.1 + wln n1.length n2.length c := ⟨_, rfl⟩
  have ht' : ((S.2.1 : Nat) : Int) + (ww.length : Nat) = (tot' : Nat) := by rw [htot', hww]; rfl
  refine While_V (fun n m led => ∃ cc kp, n = tot' - S.2.2 - cc ∧ cc ≤ tot' - S.2.2 ∧ led = (P.pb, W.listOf ((S.1 ++ List.replicate cc i).map (wv n1 t1 n2 t2)).toArray kp) :: (L + 1, oc) :: (P.lx, instObj 59 P.dx) :: (P.dx, dxObj w.params P line tl) :: rest ∧
    m (Str.ofString "names") = some (.ref nl) ∧ m (Str.ofString "words") = some (.ref WA) ∧ m (Str.ofString "name") = some (.str nn tn) ∧ (∃ t, m (Str.ofString "total") = some (.int tot' t)) ∧ ∃ t, m (Str.ofString "pushed") = some (.int ((S.2.2 + cc : Nat) : Int) t)) (n₀ := tot' - S.2.2) F2 N2 ⟨0, kp, by lia, Nat.zero_le _, by simp, by rfl, by rfl, by rfl, ⟨_, some_int rfl ht'⟩, ⟨_, some_int rfl (by simp)⟩⟩ (fun n m₁ led h₁ tk₁ E₁ F₁ N₁ hJ => ?_)
  refine Classical.byContradiction fun gK => ?_
  obtain ⟨cc, kp1, rfl, hcc, rfl, j1, j2, j3, ⟨tt, j4⟩, tp, j5⟩ := hJ
  refine gK ?_
  clear gK
  have F₁ := fixF5 F₁ j5 j4 j3 j2 j1
  have hlen : ((S.1 ++ List.replicate cc i).map (wv n1 t1 n2 t2)).length ≤ 1000 := by simp; lia
  have e : List.map (wv n1 t1 n2 t2) (S.1 ++ List.replicate cc i) ++ [Value.str nn tn] = List.map (wv n1 t1 n2 t2) (S.1 ++ List.replicate (cc + 1) i) := by
    rw [List.replicate_succ', ← List.append_assoc, List.map_append (l₂ := [i]), List.map_singleton, hnn]
  k_steps
  · have hlt : S.2.2 + cc < tot' := by lia
    show WTurn _ _ _ _ _ _
    refine WTurn.intro (tot' - S.2.2 - (cc + 1)) ((P.pb, W.listOf (List.map (wv n1 t1 n2 t2) (S.1 ++ List.replicate cc i) ++ [Value.str nn tn]).toArray _) :: (L + 1, oc) :: (P.lx, instObj 59 P.dx) :: (P.dx, dxObj w.params P line tl) :: rest) (by assumption) (by assumption) (fun _ h => h) (by lia) ⟨cc + 1, _, rfl, by lia, by rw [e], by rfl, by rfl, by rfl, ⟨_, by rfl⟩, ⟨_, some_int rfl (by lia)⟩⟩
  · have hge : cc = tot' - S.2.2 := by lia
    refine hQ _ _ ?_
    show GenLeft _ _ _ _ _ _ _
    refine GenLeft.intro [(P.pb, W.listOf ((S.1 ++ List.replicate cc i).map (wv n1 t1 n2 t2)).toArray kp1)] F₁ N₁ (fun q hq => ?_) ⟨kp1, ?_, by rfl, by rfl, ⟨_, some_int rfl ?_⟩, ⟨_, some_int rfl ?_⟩⟩ (by simp)
    · rcases List.mem_cons.mp hq with rfl | hq
      · exact List.mem_cons_self
      · exact List.mem_cons_of_mem _ (List.mem_cons_of_mem _ (List.mem_cons_of_mem _ (List.mem_cons_of_mem _ hq)))
    · show _ = [(P.pb, W.listOf ((S.1 ++ List.replicate (S.2.1 + wln n1.length n2.length c - S.2.2) i).map (wv n1 t1 n2 t2)).toArray kp1)]
      rw [hge, htot']
    · show ((tot' : Nat) : Int) = ((S.2.1 + wln n1.length n2.length c : Nat) : Int)
      rw [htot']
    · show (((S.2.2 + cc : Nat)) : Int) = ((max S.2.2 (S.2.1 + wln n1.length n2.length c) : Nat) : Int)
      rw [← htot', hge]
      lia
end Mine
end
open PySem PySem.W PyProof.Rows PySem.Calls Mine
local macro_rules | `(tactic| walk_at "loadName") => `(tactic| (k_here; k_dflt (apply loadX_L; k_asm; exact rfl; rotate_left; rfl; rfl; k_whole)))
section
open PySem PySem.W PyProof.Rows PySem.Spec PySem.Calls
namespace Mine
open PyProof.Rows.LCg (NsObj ns_obj lst lst_snoc)
local macro_rules | `(tactic| k_all) => `(tactic| first | assumption | exact all_ne_of_lt (by assumption) (by lia))
local macro_rules | `(tactic| walk_at "exec For Tuple Call cons nil") => `(tactic| (k_here; k_dflt (refine For_W ?_)))
local macro_rules | `(tactic| walk_at "call ref") => `(tactic| (k_here; (first | apply use_push | apply use_pop); walk_at "u8"; assumption; k_updF; k_mem; k_mem; f_list; (first | lia | (simp; lia) | simp); walk_at "in9"))
local macro_rules | `(tactic| walk_at "subscriptTail Name Constant ref int") => `(tactic| (k_here; with_unfolding_all (apply item_litK; (walk_at "li9"); decide; decide; rfl; rotate_left; rfl; k_whole)))
local macro_rules | `(tactic| walk_at "subscriptTail Name IfExp ref int") => `(tactic| (k_here; with_unfolding_all (apply item_litK; (walk_at "li9"); decide; decide; rfl; rotate_left; rfl; k_whole)))
local macro_rules | `(tactic| walk_at "subscriptTail") => `(tactic| (k_here; with_unfolding_all (apply item_litK; (walk_at "li9"); decide; decide; rfl; rotate_left; rfl; k_whole)))
local macro_rules | `(tactic| walk_at "call builtin:list.extend") => `(tactic| (k_here; k_dflt (apply ext_L; k_asm; k_asm; k_updF; k_mem; (simp; try lia); k_whole); walk_at "in9"))
local macro_rules | `(tactic| walk_at "exec For Tuple Call cons nil") => `(tactic| (k_here; k_dflt (refine For_W ?_)))
local macro_rules | `(tactic| walk_at "call type:zip") => `(tactic| (k_here; k_dflt (apply zip_L; k_asm; k_asm; k_mem; k_mem); intros))
noncomputable def lnInv (n1 : Str) (t1 : Tok) (n2 : Str) (t2 : Tok) (nl WA pb : Addr) (r : Nat) (m : Nm) (live : Led) : Prop :=
  ∃ kw kp, live = [(WA, W.listOf ((lk n1.length n2.length r).1.map (wv n1 t1 n2 t2)).toArray kw), (pb, W.listOf ((lk n1.length n2.length r).2.1.map (wv n1 t1 n2 t2)).toArray kp)] ∧
    m (Str.ofString "names") = some (.ref nl) ∧ m (Str.ofString "words") = some (.ref WA) ∧ (∃ t, m (Str.ofString "total") = some (.int ((lk n1.length n2.length r).2.2.1 : Nat) t)) ∧ ∃ t, m (Str.ofString "pushed") = some (.int ((lk n1.length n2.length r).2.2.2 : Nat) t)
set_option maxHeartbeats 0 in
theorem ln_turn (w : World) (mean : ExcName → Option Value) (mg mb : PySem.Str → Option Value) (news0 : Led) (x : Str) (tx : Tok) (P : LexP) (gi : List Value) (kg : Nat) (line : Int) (tl : Tok) (nl : Addr) (n1 n2 : Str) (t1 t2 : Tok) (k : Nat)
    (hP : LexOk x tx news0 P) (h1 : 1 ≤ n1.length ∧ n1.length ≤ 5) (h2 : 1 ≤ n2.length ∧ n2.length ≤ 5)
    (hok : ∀ r, r < 6 → 2 ≤ (lk n1.length n2.length r).2.1.length) (hsz : ∀ r, r ≤ 6 → (lk n1.length n2.length r).2.1.length ≤ 70 ∧ (lk n1.length n2.length r).1.length ≤ 70 ∧ (lk n1.length n2.length r).2.2.1 ≤ 70 ∧ (lk n1.length n2.length r).2.2.2 ≤ 70)
    (dp un : Nat) (gd : Option (List Code)) (outer : List Env) (A₀ : Around) (base h₀ : Heap) (L : Addr) (WA : Addr) (oc : Obj) (hoc : oc.data = .cell (some (.ref P.lx))) (s₁ : Shared)
    (hB : Below A₀ base outer h₀) (hX : (K w.params).In h₀) (hT : Top topProg lw mean mg mb h₀) (hdp : dp + 50 < recursionLimit) (hun : un + 250 < cLine)
    (hWp : @Ne Nat WA P.pb) (hWl : @Ne Nat WA P.lx) (hWd : @Ne Nat WA P.dx) (hWn : @Ne Nat WA nl) (hnp : @Ne Nat nl P.pb) (hLp : @Ne Nat (L + 1) P.pb) (hLW : @Ne Nat (L + 1) WA)
    (r : Nat) (m : Nm) (live : Led) (h : Heap) (tk : Nat) (rest : Led) (u : Tok) (E' : Value → Shared → Prop) (hr6 : r < 6) (hI : lnInv n1 t1 n2 t2 nl WA P.pb r m live)
    (F : Fr h₀ L h (setN m (Str.ofString "spare") (.int (r : Int) u))) (N : News h₀ L h (live ++ rest)) (hrW : ∀ p ∈ rest, p.1 ≠ WA) (hrp : ∀ p ∈ rest, p.1 ≠ P.pb)
    (z1 : (L + 1, oc) ∈ rest) (z2 : (P.lx, instObj 59 P.dx) ∈ rest) (z3 : (P.dx, dxObj w.params P line tl) ∈ rest) (z4 : (nl, W.listOf #[.str n1 t1, .str n2 t2] k) ∈ rest) (hlr : ∀ q ∈ lexRest w.params P gi kg, q ∈ rest) :
    wpAny (model PySem.Challenge.rw_tp0040_01.row.prog w) (ktrTop dp un gd lnN (defScope lnDef) L 194 (.ref 193) (lnCl L) outer) (execs lnBody (envX lnN (defScope lnDef) L 194 (.ref 193) (lnCl L))) (fun f s₃ => match f with
        | .next | .cont => GenLeft h₀ L s₁ rest (fun a => a = WA ∨ a = P.pb) (lnInv n1 t1 n2 t2 nl WA P.pb (r + 1)) s₃
        | _ => False) E' { s₁ with heap := h, toks := tk } := by
  revert hX
  k_fill
  intro hX
  refine hideQ fun Q' hQ => ?_
  have la : @LT.lt Nat _ P.lx P.pb := hP.la
  have l9 : @LT.lt Nat _ P.dx P.lx := hP.l9
  refine Classical.byContradiction fun gK => ?_
  obtain ⟨kw, kp, rfl, hn, hw, ⟨ta, htot⟩, tb, hpsh⟩ := hI
  refine gK ?_
  clear gK
  have hd : ∀ {y : Str} {v : Value}, y ≠ Str.ofString "spare" → m y = some v → setN m (Str.ofString "spare") (.int (r : Int) u) y = some v := fun e e' => (if_neg e).trans e'
  have F := fixF4 F (hd (by decide) hpsh) (hd (by decide) htot) (hd (by decide) hw) (hd (by decide) hn)
  refine Classical.byContradiction fun gK => ?_
  obtain ⟨a, b, q', hq⟩ : ∃ a b q', (lk n1.length n2.length r).2.1 = a :: b :: q' := by
    have h2 := hok r hr6
    cases hq : (lk n1.length n2.length r).2.1 with
    | nil => rw [hq] at h2; simp at h2
    | cons a t =>
      cases t with
      | nil => rw [hq] at h2; simp at h2
      | cons b q' => exact ⟨a, b, q', rfl⟩
  obtain ⟨hz1, hz2, hz3, hz4⟩ := hsz r (Nat.le_of_lt hr6)
  refine gK ?_
  clear gK
  have hql : q'.length ≤ 68 := by rw [hq] at hz1; simp at hz1; lia
  refine Classical.byContradiction fun gK => ?_
  obtain ⟨na, sa, hva, hla⟩ := wv_str n1 t1 n2 t2 a
  obtain ⟨nb, sb, hvb, hlb⟩ := wv_str n1 t1 n2 t2 b
  obtain ⟨W0, hW0⟩ : ∃ W0 : List Value, W0 = (lk n1.length n2.length r).1.map (wv n1 t1 n2 t2) := ⟨_, rfl⟩
  obtain ⟨Q0, hQ0⟩ : ∃ Q0 : List Value, Q0 = q'.map (wv n1 t1 n2 t2) := ⟨_, rfl⟩
  refine gK ?_
  clear gK
  have hW0l : W0.length ≤ 70 := by rw [hW0, List.length_map]; exact hz2
  have hQ0l : Q0.length ≤ 68 := by rw [hQ0, List.length_map]; exact hql
  rw [hq, ← hW0, List.map_cons, List.map_cons, hva, hvb, ← hQ0] at N
  have N : News h₀ L h ((WA, W.listOf W0.toArray kw) :: (P.pb, W.listOf (Value.str na sa :: .str nb sb :: Q0).toArray kp) :: (L + 1, oc) :: (P.lx, instObj 59 P.dx) :: (P.dx, dxObj w.params P line tl) :: (nl, W.listOf #[.str n1 t1, .str n2 t2] k) :: rest) := fun p hp => N p (sub_use hp (sub_cons mm0 (sub_cons mm1 (sub_cons (mem_t (mem_t z1)) (sub_cons (mem_t (mem_t z2)) (sub_cons (mem_t (mem_t z3)) (sub_cons (mem_t (mem_t z4)) fun q hq => mem_t (mem_t hq))))))))
  show wpAny _ _ (execs (_ :: _) _) _ _ _
  k_steps

  rename_i kpa ha tka kpb hb2 tkb PR hpr lPR hpr2 Fpr Npr tkc hw2 nW Fw Nw zz TI TO i1 i2 hz lo Fz Nz Zz Llo mlo nlo
  have hlk : lk n1.length n2.length (r + 1) = ((lk n1.length n2.length r).1 ++ [a, b], lhalf n1.length n2.length (lhalf n1.length n2.length (q', (lk n1.length n2.length r).2.2) 0 a) 1 b) := by
    show ((lk n1.length n2.length r).1 ++ _, _) = _
    rw [hq]
    rfl
  obtain ⟨Sz, hSz⟩ : ∃ Sz : Nat → List Nat × Nat × Nat, Sz = fun i => if i = 0 then (q', (lk n1.length n2.length r).2.2) else if i = 1 then lhalf n1.length n2.length (q', (lk n1.length n2.length r).2.2) 0 a else lhalf n1.length n2.length (lhalf n1.length n2.length (q', (lk n1.length n2.length r).2.2) 0 a) 1 b := ⟨_, rfl⟩
  have hS0 : Sz 0 = (q', (lk n1.length n2.length r).2.2) := by rw [hSz]; rfl
  have hS1 : Sz 1 = lhalf n1.length n2.length (Sz 0) 0 a := by rw [hS0, hSz]; rfl
  have hS2 : Sz 2 = lhalf n1.length n2.length (Sz 1) 1 b := by rw [hS1, hS0, hSz]; rfl
  have hwl : ∀ c, wln n1.length n2.length c ≤ 5 := fun c => by unfold wln; split <;> lia
  have b0 : (Sz 0).1.length ≤ 68 ∧ (Sz 0).2.1 ≤ 70 ∧ (Sz 0).2.2 ≤ 70 := by rw [hS0]; exact ⟨hql, hz3, hz4⟩
  have b1 : (Sz 1).1.length ≤ 143 ∧ (Sz 1).2.1 ≤ 75 ∧ (Sz 1).2.2 ≤ 75 := by
    rw [hS1]
    have := hwl a
    unfold lhalf
    simp only [List.length_append, List.length_replicate]
    lia
  let frozen : Led := (PR, W.listOf #[.str na sa, .str nb sb] 0) :: (WA, W.listOf (W0.toArray ++ #[.str na sa, .str nb sb]) nW) :: (L + 1, oc) :: (P.lx, instObj 59 P.dx) :: (P.dx, dxObj w.params P line tl) :: (nl, W.listOf #[.str n1 t1, .str n2 t2] k) :: rest
  have Nf : News h₀ L hz ([(P.pb, W.listOf Q0.toArray kpb)] ++ frozen) := fun p hp => by
    refine Nz p ?_
    (try dsimp only [frozen, List.cons_append, List.nil_append] at hp ⊢); exact sub_use hp (by f_list)
  have hfz : ∀ p ∈ frozen, ¬ p.1 = P.pb := fun p hp => by
    simp only [frozen, List.mem_cons] at hp
    rcases hp with rfl | rfl | rfl | rfl | rfl | rfl | hp
    · exact fun e => Nat.ne_of_gt (ltM lPR mm1) e
    · exact hWp
    · exact hLp
    · exact fun e => Nat.ne_of_lt la e
    · exact fun e => Nat.ne_of_lt (Nat.lt_trans l9 la) e
    · exact hnp
    · exact hrp p hp
  have hlst : ∀ {ad : Addr} {xs : Array Value} {kk : Nat}, (ad, W.listOf xs kk) ∈ frozen → hz.IsList ad xs := fun hm => ⟨_, (Nf _ (List.mem_append_right _ hm)).1, rfl, _, rfl⟩
  refine for_src (lo := lo) [(P.pb, W.listOf Q0.toArray kpb)] frozen (fun i m live => zInv n1 t1 n2 t2 nl WA P.pb (Sz i) m live) (fun _ _ => False) (fun _ _ _ => False) (fun a => a = P.pb)
    (src_zip (by rfl) _ _ _ _ _ _ Zz.D Zz.hz Zz.h1 Zz.h2 Zz.h3 Zz.h4 (hlst (xs := #[.str n1 t1, .str n2 t2]) (kk := k) (by simp [frozen])) (hlst (xs := #[.str na sa, .str nb sb]) (kk := 0) (by simp [frozen])) Zz.b1 Zz.b2 Zz.b3 Zz.b4 Zz.b5) ⟨by rfl, by rfl, by rfl⟩ rfl Fz Nf Llo (fun p hp => mlo p ?_) nlo (fun q hq => ?_) (by simp) (fun q hq => ?_) hfz ?_ (fun g i m m' live h tk rest' E' hi hI hB' F' N' hr hz' => ?_) (fun h tk m live hI F' N' _ => ?_) (fun _ _ _ _ h => h.elim) (fun _ _ _ _ _ h => h.elim)
  · (try dsimp only [frozen, List.cons_append, List.nil_append] at hp ⊢); exact sub_use hp (by f_list)
  · simp only [List.mem_cons, List.not_mem_nil, or_false] at hq
    rcases hq with e | e <;> rw [e]
    · exact .inr ⟨_, (by simp [frozen] : (nl, W.listOf #[.str n1 t1, .str n2 t2] k) ∈ frozen)⟩
    · exact .inr ⟨_, (by simp [frozen] : (PR, W.listOf #[.str na sa, .str nb sb] 0) ∈ frozen)⟩
  · rw [hq]
    exact mlo (P.pb, _) (List.mem_cons_of_mem _ (List.mem_cons_of_mem _ List.mem_cons_self))
  · rw [hS0]
    exact ⟨kpb, by rw [hQ0], by rfl, by rfl, ⟨_, by rfl⟩, ⟨_, by rfl⟩⟩
  · refine Classical.byContradiction fun gK => ?_
    obtain ⟨p1, p2, ⟨hp1, hp2⟩, rfl⟩ := hB'
    refine gK ?_
    clear gK
    have i01 : i = 0 ∨ i = 1 := by
      have : i < 2 := hi
      lia
    have conv : ∀ {f : Flow} {s₃ : Shared} {inv : Nm → Led → Prop}, (match f with | .next | .cont => GenLeft h₀ L { s₁ with heap := g, toks := tkc } rest' (fun a => a = P.pb) inv s₃ | _ => False) → (match f with
        | .next | .cont => ForEnd h₀ L { s₁ with heap := g, toks := tkc } rest' (fun a => a = P.pb) inv s₃
        | .brk => ForEnd h₀ L { s₁ with heap := g, toks := tkc } rest' (fun a => a = P.pb) (fun _ _ => False) s₃
        | .ret v => ForEnd h₀ L { s₁ with heap := g, toks := tkc } rest' (fun a => a = P.pb) (fun _ _ => False) s₃) := fun {f} {s₃} {inv} h => by
      cases f with
      | next => exact h
      | cont => exact h
      | brk => exact h.elim
      | ret v => exact h.elim
    have fz : ∀ {q : Addr × Obj}, q ∈ frozen → q ∈ rest' := fun hq => hz' _ hq
    have hlr' : ∀ q ∈ lexRest w.params P gi kg, q ∈ rest' := fun q hq => fz (by
      have := hlr q hq
      simp only [frozen, List.mem_cons]
      simp [this])
    rcases i01 with rfl | rfl
    · cases hp1
      cases hp2
      refine wpAny_mono (zn_turn w mean mg mb news0 x tx P gi kg line tl nl n1 n2 t1 t2 hP dp un gd outer A₀ base h₀ L WA oc hoc { s₁ with heap := g, toks := tkc } hB (by assumption) hT hdp hun hLp (Sz 0) 0 a n1 na t1 sa rfl hla (by lia) (by lia) (by lia) (by rw [hla]; exact hwl a) m live h tk rest' E' hI F' N' hr (fz (by simp [frozen])) (fz (by simp [frozen])) (fz (by simp [frozen])) hlr') (fun f s₃ h₃ => ?_) fun _ _ e => e
      rw [← hS1] at h₃
      exact conv h₃
    · cases hp1
      cases hp2
      refine wpAny_mono (zn_turn w mean mg mb news0 x tx P gi kg line tl nl n1 n2 t1 t2 hP dp un gd outer A₀ base h₀ L WA oc hoc { s₁ with heap := g, toks := tkc } hB (by assumption) hT hdp hun hLp (Sz 1) 1 b n2 nb t2 sb rfl hlb (by lia) (by lia) (by lia) (by rw [hlb]; exact hwl b) m live h tk rest' E' hI F' N' hr (fz (by simp [frozen])) (fz (by simp [frozen])) (fz (by simp [frozen])) hlr') (fun f s₃ h₃ => ?_) fun _ _ e => e
      rw [← hS2] at h₃
      exact conv h₃
  · refine Classical.byContradiction fun gK => ?_
    obtain ⟨kp2, rfl, m1, m2, m3, m4⟩ := hI
    refine gK ?_
    clear gK
    have e2 : Sz 2 = (lk n1.length n2.length (r + 1)).2 := by rw [hlk, hS2, hS1, hS0]
    have e1 : W0.toArray ++ #[.str na sa, .str nb sb] = ((lk n1.length n2.length (r + 1)).1.map (wv n1 t1 n2 t2)).toArray := by
      rw [hlk, hW0]
      simp [hva, hvb]
    have e3 : min (#[Value.str n1 t1, .str n2 t2] : Array Value).size (#[Value.str na sa, .str nb sb] : Array Value).size = 2 := rfl
    refine wpAny_execs_nil (hQ _ _ ?_)
    show GenLeft _ _ _ _ _ _ _
    rw [show (Sz (min (#[Value.str n1 t1, .str n2 t2] : Array Value).size (#[Value.str na sa, .str nb sb] : Array Value).size)) = (lk n1.length n2.length (r + 1)).2 from e2] at *
    refine GenLeft.intro [(WA, W.listOf ((lk n1.length n2.length (r + 1)).1.map (wv n1 t1 n2 t2)).toArray nW), (P.pb, W.listOf ((lk n1.length n2.length (r + 1)).2.1.map (wv n1 t1 n2 t2)).toArray kp2)] F' N' (fun q hq => ?_) ⟨nW, kp2, rfl, m1, m2, m3, m4⟩ (by simp)
    rw [← e1] at hq
    (try dsimp only [frozen, List.cons_append, List.nil_append] at hq ⊢); exact sub_use hq (by f_list)
end Mine
end
section
open PySem PySem.W PyProof.Rows PySem.Spec PySem.Calls
namespace Mine
open PyProof.Rows.LCg (NsObj ns_obj lst lst_snoc)
local macro_rules | `(tactic| k_all) => `(tactic| first | assumption | exact all_ne_of_lt (by assumption) (by lia))
local macro_rules | `(tactic| walk_at "call ref") => `(tactic| (k_here; (first | apply use_push | apply use_pop); walk_at "u8"; assumption; k_updF; k_mem; k_mem; f_list; (first | lia | (simp; lia) | simp); walk_at "in9"))
local macro_rules | `(tactic| walk_at "eval ListComp") => `(tactic| (k_here; k_dflt (refine ListComp_WT (Nat.le_refl _) (by with_unfolding_all rfl) (by rfl) (by decide) ?_)))
local macro_rules | `(tactic| walk_at "call builtin:len") => `(tactic| (k_here; k_dflt (apply call_len_list; (walk_at "li9"); (simp; lia); k_whole)))
theorem cat_L {prog : Program} {w : World} {A : Around} {E : Value → Shared → Prop} {s : Shared} {h₀ : Heap} {L a b : Addr} {m : Nm} {news : Led} {Q : Value → Shared → Prop} {xs ys : List Value} {n k : Nat} (F : Fr h₀ L s.heap m) (N : News h₀ L s.heap news) (ha : (a, W.listOf xs.toArray n) ∈ news) (hb : (b, W.listOf ys.toArray k) ∈ news) (hz : xs.length + ys.length ≤ 100000)
    (h : ∀ D h', Fr h₀ L h' m → News h₀ L h' ((D, W.listOf (xs ++ ys).toArray 0) :: news) → AllLt D news → Q (.ref D) { s with heap := h' }) : wpAny (model prog w) A (binaryOp .Add (.ref a) (.ref b)) Q E s := by
  have hsl : sizeLine = 16777216 := rfl
  refine add_lists F N ⟨_, N.get ha, rfl, _, rfl⟩ ⟨_, N.get hb, rfl, _, rfl⟩ (fun h' F' N' => h _ _ F' N' ?_) (by lia)
  refine allLt_of fun p hp => Heap.lt_size (N p hp).1
theorem TurnEnd_intro {h₀ : Heap} {L : Addr} {mL : Nm} {s : Shared} {C : Addr} {oC : Obj} {D : Addr} {old : List Value} {rest all : Led} {Lv : Addr → Prop} {inv : Nat → Led → Prop} {h' : Heap} {tk' : Nat} (live' : Led)
    (F : Fr h₀ L h' mL) (N : News h₀ L h' all) (hs : ∀ p ∈ (C, oC) :: (D, lst old) :: (live' ++ rest), p ∈ all) (hi : inv tk' live') (hl : ∀ p ∈ live', Lv p.1) : TurnEnd h₀ L mL s C oC D old rest Lv inv { s with heap := h', toks := tk' } :=
  ⟨h', tk', live', rfl, F, fun p hp => N p (hs p hp), hi, hl⟩
noncomputable def lnRet : Expr := match (defBody lnDef).getD 5 (.Pass default) with | .Return (some e) _ => e | _ => .Constant .none 0 default
set_option maxHeartbeats 0 in
theorem ln_fin (w : World) (mean : ExcName → Option Value) (mg mb : PySem.Str → Option Value) (news0 : Led) (x : Str) (tx : Tok) (P : LexP) (gi : List Value) (kg : Nat) (line : Int) (tl : Tok)
    (hP : LexOk x tx news0 P)
    (dp un : Nat) (gd : Option (List Code)) (outer : List Env) (A₀ : Around) (base h₀ : Heap) (L : Addr) (WA : Addr) (oc : Obj) (hoc : oc.data = .cell (some (.ref P.lx))) (s₁ : Shared)
    (hB : Below A₀ base outer h₀) (hX : (K w.params).In h₀) (hT : Top topProg lw mean mg mb h₀) (hdp : dp + 50 < recursionLimit) (hun : un + 250 < cLine)
    (hWp : @Ne Nat WA P.pb) (W0 Q0 : List Value) (hW : W0.length ≤ 70) (hQ : Q0.length ≤ 70) (ps : Nat) (hps : ps = W0.length + Q0.length) (kw kp : Nat)
    (m : Nm) (h : Heap) (tk : Nat) (rest : Led) (tp : Tok) (Q E' : Value → Shared → Prop)
    (hw : m (Str.ofString "words") = some (.ref WA)) (hpsh : m (Str.ofString "pushed") = some (.int (ps : Nat) tp))
    (F : Fr h₀ L h m) (N : News h₀ L h ((WA, W.listOf W0.toArray kw) :: (P.pb, W.listOf Q0.toArray kp) :: rest)) (hrp : ∀ p ∈ rest, p.1 ≠ P.pb)
    (z1 : (L + 1, oc) ∈ rest) (z2 : (P.lx, instObj 59 P.dx) ∈ rest) (z3 : (P.dx, dxObj w.params P line tl) ∈ rest) (hlr : ∀ q ∈ lexRest w.params P gi kg, q ∈ rest)
    (hret : ∀ D kD kp' h' tk' m', Fr h₀ L h' m' → News h₀ L h' ((D, W.listOf (W0 ++ Q0).toArray kD) :: (P.pb, W.listOf #[] kp') :: rest) → Q (.ref D) { s₁ with heap := h', toks := tk' }) :
    wpAny (model PySem.Challenge.rw_tp0040_01.row.prog w) (ktrTop dp un gd lnN (defScope lnDef) L 194 (.ref 193) (lnCl L) outer) (eval lnRet (envX lnN (defScope lnDef) L 194 (.ref 193) (lnCl L))) Q E' { s₁ with heap := h, toks := tk } := by
  revert hX
  k_fill
  intro hX
  have la : @LT.lt Nat _ P.lx P.pb := hP.la
  have l9 : @LT.lt Nat _ P.dx P.lx := hP.l9
  have F := fixF2 F hpsh hw
  have N : News h₀ L h ((WA, W.listOf W0.toArray kw) :: (P.pb, W.listOf Q0.toArray kp) :: (L + 1, oc) :: (P.lx, instObj 59 P.dx) :: (P.dx, dxObj w.params P line tl) :: rest) := fun p hp => by
    refine N p ?_
    simp only [List.mem_cons] at hp ⊢
    rcases hp with h | h | h | h | h | h
    · exact .inl h
    · exact .inr (.inl h)
    · exact .inr (.inr (h ▸ z1))
    · exact .inr (.inr (h ▸ z2))
    · exact .inr (.inr (h ▸ z3))
    · exact .inr (.inr h)
  show wpAny _ _ (eval (.BinOp _ _ _ _) _) _ _ _
  k_steps
  rename_i hz tkR tr ur vr aR aF aN aK
  unfold AfterIterB
  intro _
  refine comp_src (τ := 0) (Nat.zero_le _) [(P.pb, W.listOf Q0.toArray kp)] ((WA, W.listOf W0.toArray kw) :: (L + 1, oc) :: (P.lx, instObj 59 P.dx) :: (P.dx, dxObj w.params P line tl) :: rest) (fun _ i ys live => ∃ kp', live = [(P.pb, W.listOf (Q0.drop i).toArray kp')] ∧ ys = Q0.take i) (fun a => a = P.pb)
    (src_rangeN (n := Q0.length) (by rfl) _ _ aR (small_one (by decide) (by decide) (by simp; lia) (by simp; lia)) ?_) (fun C => ⟨lookup_relabel_local (by rfl), by rfl⟩) (by have : sizeLine = 16777216 := rfl; lia) (by decide) rfl aF ?_ (Fr.ns aF).lt ?_ (Nat.le_refl _) (fun b hb => nomatch hb) ?_ ?_ ?_ ?_ (fun _ _ _ _ _ _ h => h) ?_ ?_ ?_
  · have : (ps : Int) - ((W0.toArray.size : Nat) : Int) = (Q0.length : Nat) := by simp; lia
    rw [this]
    exact rangeSize_low _
  · exact fun p hp => aN p (by (try dsimp only [List.cons_append, List.nil_append] at hp ⊢); exact sub_use hp (by f_list))
  · exact fun p hp => Heap.lt_size (aN p (by (try dsimp only [List.cons_append, List.nil_append] at hp ⊢); exact sub_use hp (by f_list))).1
  · exact fun p hp => by rw [List.mem_singleton.mp hp]
  · exact fun a ha => by rw [ha]; exact Heap.lt_size (aN (P.pb, _) (List.mem_cons_of_mem _ List.mem_cons_self)).1
  · intro p hp
    simp only [List.mem_cons] at hp
    rcases hp with rfl | rfl | rfl | rfl | hp
    · exact hWp
    · exact hrp _ z1
    · exact hrp _ z2
    · exact hrp _ z3
    · exact hrp p hp
  · exact ⟨kp, rfl, rfl⟩
  · rintro a i ys live ⟨_, _, rfl⟩
    exact List.length_take_le _ _
  · intro g i ys live C D oC m1 m2 h9 tk9 rest9 E9 hi hI hB9 hoC F9 N9 hr9 hz9 hC9 hD9 hCD ht9
    refine Classical.byContradiction fun gK => ?_
    obtain ⟨v9, ⟨u9, rfl⟩, hm⟩ := hB9
    refine gK ?_
    clear gK
    clear hm
    obtain ⟨kp9, rfl, rfl⟩ := hI
    have hq : Q0.drop i = Q0[i] :: Q0.drop (i + 1) := List.drop_eq_getElem_cons hi
    have hlr9 : ∀ q ∈ lexRest w.params P gi kg, q ∈ rest9 := fun q hq => hz9 _ (by simp [hlr q hq])
    rw [hq] at N9
    have N8 : News h₀ L h9 ((P.pb, W.listOf (Q0[i] :: Q0.drop (i + 1)).toArray kp9) :: (C, oC) :: (D, lst (Q0.take i)) :: (L + 1, oc) :: (P.lx, instObj 59 P.dx) :: (P.dx, dxObj w.params P line tl) :: rest9) := fun p hp => by
      refine N9 p ?_
      simp only [List.cons_append, List.nil_append, List.mem_cons] at hp ⊢
      rcases hp with h | h | h | h | h | h | h
      · simp [h]
      · simp [h]
      · simp [h]
      · exact .inr (.inr (.inr (hz9 _ (by simp [h]))))
      · exact .inr (.inr (.inr (hz9 _ (by simp [h]))))
      · exact .inr (.inr (.inr (hz9 _ (by simp [h]))))
      · simp [h]
    have e9 : @Ne Nat C P.pb := hC9
    have f9 : @Ne Nat D P.pb := hD9
    have r9 : ∀ p ∈ rest9, p.1 ≠ P.pb := fun p hp => (hr9 p hp).1
    have hLp : @Ne Nat (L + 1) P.pb := hrp _ z1
    clear hr9 hrp aN aK aF z1 z2 z3 hret hz9 hlr
    have dl : (Q0.drop (i + 1)).length ≤ 100 := by rw [List.length_drop]; lia
    clear N9 hq
    obtain ⟨Q1, hQ1⟩ : ∃ Q1, Q1 = Q0.drop (i + 1) := ⟨_, rfl⟩
    rw [← hQ1] at N8 dl
    refine wpAny_tests_nil ?_
    rw [if_pos rfl]
    k_steps
    rename_i kpa ha tka Fa Na
    refine TurnEnd_intro [(P.pb, W.listOf Q1.toArray kpa)] Fa Na ?_ ⟨_, by rw [hQ1], by rw [List.take_append_getElem]⟩ (fun p hp => by rw [List.mem_singleton.mp hp])
    intro p hp
    (try dsimp only [List.cons_append, List.nil_append] at hp ⊢); exact sub_use hp (by f_list)
  · intro D C oC mC h9 tk9 ys live F9 N9 hoC hD9 hC9 hCD hl9 hI _
    obtain ⟨kp9, rfl, rfl⟩ := hI
    rw [List.drop_length, List.take_length] at N9
    refine ⟨mC, hoC.ns (N9 _ (List.mem_cons_of_mem _ List.mem_cons_self)).1, fun h8 hs => ?_⟩
    have zC := (N9 _ (List.mem_cons_of_mem _ List.mem_cons_self)).2
    have hb : ∀ p ∈ (WA, W.listOf W0.toArray kw) :: (P.pb, W.listOf Q0.toArray kp) :: (L + 1, oc) :: (P.lx, instObj 59 P.dx) :: (P.dx, dxObj w.params P line tl) :: rest, @Ne Nat p.1 C := fun p hp => Nat.ne_of_lt (Nat.lt_of_lt_of_le (Heap.lt_size (aN p hp).1) hC9)
    have off : ∀ p ∈ (D, lst Q0) :: (P.pb, W.listOf #[] kp9) :: (WA, W.listOf W0.toArray kw) :: rest, p.1 ≠ C := fun p hp => by
      simp only [List.mem_cons] at hp
      rcases hp with rfl | rfl | rfl | hp
      · exact Ne.symm hCD
      · exact hb (P.pb, W.listOf Q0.toArray kp) (List.mem_cons_of_mem _ List.mem_cons_self)
      · exact hb (WA, _) List.mem_cons_self
      · exact hb p (by simp [hp])
    have N8 : News h₀ L h8 ((D, lst Q0) :: (P.pb, W.listOf #[] kp9) :: (WA, W.listOf W0.toArray kw) :: rest) := fun p hp => by
      have z := N9 p (by
        (try dsimp only [List.cons_append, List.nil_append] at hp ⊢); exact sub_use hp (by f_list))
      exact ⟨hs.extBut _ _ (off p hp) z.1, z.2⟩
    refine cat_L (F9.change hs zC.1 zC.2) N8 (List.mem_cons_of_mem _ (List.mem_cons_of_mem _ List.mem_cons_self)) List.mem_cons_self (by lia) fun D8 h7 F7 N7 _ => ?_
    refine hret D8 0 kp9 h7 _ _ F7 fun p hp => N7 p ?_
    exact sub_use hp (by f_list)
end Mine
end
section
open PySem PySem.W PyProof.Rows PySem.Spec PySem.Calls
namespace Mine
local macro_rules | `(tactic| walk_at "my enterC") => `(tactic| (apply code_defC; (walk_at "k5"); exact rfl; exact rfl; assumption; k_is; k_is; ktr_room; exact BindsTo.of_eq rfl; exact rfl; decide +kernel; rotate_left; (iterate 3 exact rfl); k_whole; intros; rename_i N9 Y9 B9 _ _ _; k_cells Y9; (try simp only [List.cons_append, List.nil_append] at N9); (try dsimp only); (try k_lift B9); (try k_fold)))
open PyProof.Rows.LCg (NsObj ns_obj lst lst_snoc)
local macro_rules | `(tactic| walk_at "exec For Name Call cons nil") => `(tactic| (k_here; k_dflt (refine For_W ?_)))
local macro_rules | `(tactic| walk_at "call ref") => `(tactic| (k_here; (first | apply use_push | apply use_pop); walk_at "u8"; assumption; k_updF; k_mem; k_mem; f_list; (first | omega | (simp; omega) | simp); walk_at "in9"))
local macro_rules | `(tactic| walk_at "subscriptTail Name Constant ref int") => `(tactic| (k_here; with_unfolding_all (apply item_litK; (walk_at "li9"); decide; decide; rfl; rotate_left; rfl; k_whole)))
local macro_rules | `(tactic| walk_at "subscriptTail Name IfExp ref int") => `(tactic| (k_here; with_unfolding_all (apply item_litK; (walk_at "li9"); omega; omega; assumption; rotate_left; rfl; k_whole)))
local macro_rules | `(tactic| walk_at "subscriptTail") => `(tactic| (k_here; with_unfolding_all (apply item_litK; (walk_at "li9"); decide; decide; rfl; rotate_left; rfl; k_whole)))
theorem exec_ret {prog : Program} {w : World} {A : Around} {E : Value → Shared → Prop} {s : Shared} {env : Env} {e : Expr} {pos : Pos} {Q : Flow → Shared → Prop} (h : wpAny (model prog w) A (eval e env) (fun v s' => Q (.ret v) s') E s) :
    wpAny (model prog w) A (execs [.Return (some e) pos] env) Q E s := by
  refine wpAny_execs_cons ?_
  rw [exec_Return_some]
  exact wpAny_bind (wpAny_standAt (wpAny_bind (wpAny_mono h (fun v s' h' => wpAny_pure h') fun _ _ e => e)))
theorem lk_len (low high : Nat) : ∀ r, (lk low high r).1.length = 2 * r
  | 0 => rfl
  | r + 1 => by
    show ((lk low high r).1 ++ [_, _]).length = _
    rw [List.length_append, lk_len low high r]
    simp only [List.length_cons, List.length_nil]
    omega
theorem hide_rest {p : Params} {x : Str} {tx : Tok} {news0 news : Led} {P : LexP} {gi : List Value} {kg : Nat} {C : Prop} (hP : LexOk x tx news0 P) (hn : ∀ q ∈ news, q.1 ≠ P.pb)
    (k : ∀ rest : Led, (∀ q ∈ lexRest p P gi kg, q ∈ rest) → (∀ q ∈ news, q ∈ rest) → (∀ q ∈ rest, q.1 ≠ P.pb) → (∀ q ∈ rest, q ∈ lexRest p P gi kg ++ news) → C) : C :=
  k (lexRest p P gi kg ++ news) (fun _ h => mem_l h) (fun _ h => mem_r h) (all_app (lexRest_off hP) hn) fun _ h => h
theorem lnInv.elim {n1 : Str} {t1 : Tok} {n2 : Str} {t2 : Tok} {nl WA pb : Addr} {r : Nat} {m : Nm} {live : Led} {C : Prop} (h : lnInv n1 t1 n2 t2 nl WA pb r m live)
    (k : ∀ kw kp tb, live = [(WA, W.listOf ((lk n1.length n2.length r).1.map (wv n1 t1 n2 t2)).toArray kw), (pb, W.listOf ((lk n1.length n2.length r).2.1.map (wv n1 t1 n2 t2)).toArray kp)] → m (Str.ofString "words") = some (.ref WA) → m (Str.ofString "pushed") = some (.int ((lk n1.length n2.length r).2.2.2 : Nat) tb) → C) : C := by
  obtain ⟨kw, kp, e, _, b, _, tb, d⟩ := h
  exact k kw kp tb e b d
theorem end_of {h₀ : Heap} {L : Addr} {sA : Shared} {rest : Led} {Lv : Addr → Prop} {inv : Nm → Led → Prop} {f : Flow} {s₃ : Shared} (h : match f with | .next | .cont => GenLeft h₀ L sA rest Lv inv s₃ | _ => False) : match (generalizing := false) f with
    | .next | .cont => ForEnd h₀ L sA rest Lv inv s₃
    | .brk => ForEnd h₀ L sA rest Lv (fun _ _ => False) s₃
    | .ret v => ForEnd h₀ L sA rest Lv (fun _ _ => False) s₃ := by
  cases f with
  | next => exact h
  | cont => exact h
  | brk => exact h.elim
  | ret v => exact h.elim
theorem no2 {a b c : Addr} (h : @LT.lt Nat _ a b) (h' : a ≠ c) : ¬ (a = b ∨ a = c) := fun e => e.elim (Nat.ne_of_lt h) h'
/-- what the lines are -/
inductive LnFin (p : Params) (P : LexP) (gi : List Value) (kg : Nat) (line : Int) (tl : Tok) (n1 : Str) (t1 : Tok) (n2 : Str) (t2 : Tok) (news : Led) : Value → Led → Prop
  | mk {D : Addr} {kD kp' : Nat} : LnFin p P gi kg line tl n1 t1 n2 t2 news (.ref D) ((D, W.listOf (((lk n1.length n2.length 6).1 ++ (lk n1.length n2.length 6).2.1).map (wv n1 t1 n2 t2)).toArray kD) :: (lexL p P gi kg line tl [] kp' ++ news))
set_option maxHeartbeats 0 in
theorem c_lined (w : World) (mean : ExcName → Option Value) (mg mb : PySem.Str → Option Value) (news news0 : Led) (x : Str) (tx : Tok) (P : LexP) (gi : List Value) (kg : Nat) (line : Int) (tl : Tok) (kp : Nat) (nl : Addr) (n1 n2 : Str) (t1 t2 : Tok) (k : Nat) (tt : Tok)
    (hP : LexOk x tx news0 P) (hn : ∀ p ∈ news, p.1 ≠ P.pb) (hnl : nl ≠ P.pb) (h1 : 1 ≤ n1.length ∧ n1.length ≤ 5) (h2 : 1 ≤ n2.length ∧ n2.length ≤ 5)
    (hok : ∀ r, r < 6 → 2 ≤ (lk n1.length n2.length r).2.1.length) (hsz : ∀ r, r ≤ 6 → (lk n1.length n2.length r).2.1.length ≤ 70 ∧ (lk n1.length n2.length r).1.length ≤ 70 ∧ (lk n1.length n2.length r).2.2.1 ≤ 70 ∧ (lk n1.length n2.length r).2.2.2 ≤ 70) (hend : (lk n1.length n2.length 6).2.2.2 = 12 + (lk n1.length n2.length 6).2.1.length) :
  ClB w mean mg mb 194 (lexL w.params P gi kg line tl [] kp ++ (nl, W.listOf #[.str n1 t1, .str n2 t2] k) :: news) [Value.ref P.lx, .ref nl, .int 6 tt]
    (LnFin w.params P gi kg line tl n1 t1 n2 t2 ((nl, W.listOf #[.str n1 t1, .str n2 t2] k) :: news)) := by
  unfold ClB
  k_fill
  intro dp un gd cn cs a ccd cl outer A₀ base h₀ L m s Q E hB hF hX hN hT hk hdp hun hret
  have la : @LT.lt Nat _ P.lx P.pb := hP.la
  have l9 : @LT.lt Nat _ P.dx P.lx := hP.l9
  have hnl' : @Ne Nat nl P.pb := hnl
  refine hide_rest (p := w.params) (gi := gi) (kg := kg) hP hn fun rest hlr hln hroff hback => ?_
  have hN : News h₀ L s.heap ((P.pb, W.listOf #[] kp) :: (P.lx, instObj 59 P.dx) :: (P.dx, dxObj w.params P line tl) :: (nl, W.listOf #[.str n1 t1, .str n2 t2] k) :: rest) := fun p hp => hN p (by
    rw [lex_split]
    exact sub_use hp (sub_cons (mem_l mm0) (sub_cons (mem_l mm1) (sub_cons (mem_l mm2) (sub_cons (mem_r mm0) fun q hq => (List.mem_append.mp (hback q hq)).elim (fun h => mem_l (mem_t (mem_t (mem_t h)))) fun h => mem_r (mem_t h))))))
  clear hback
  refine wpAny_call ?_
  k_dflt (walk_at "my enterC")
  show wpAny _ _ _ _ _ _
  k_fold
  have hltL := (by assumption : ∀ p ∈ (P.pb, W.listOf #[] kp) :: (P.lx, instObj 59 P.dx) :: (P.dx, dxObj w.params P line tl) :: (nl, W.listOf #[.str n1 t1, .str n2 t2] k) :: rest, p.1 < _)
  have q1 : @LT.lt Nat _ P.pb _ := ltM hltL mm0
  have q2 : @LT.lt Nat _ P.lx _ := ltM hltL mm1
  have q3 : @LT.lt Nat _ P.dx _ := ltM hltL mm2
  have q4 : @LT.lt Nat _ nl _ := ltM hltL mm3
  have q5 : ∀ p ∈ rest, @LT.lt Nat _ p.1 _ := fun p hp => hltL p (mem_t4 hp)
  clear hltL
  iterate 30 walk1
  rename Fr _ _ _ _ => F1
  rename News _ _ _ _ => N1
  rename_i g0 L0 hh0 tk0 FG0 B0 X0 T0 lL oC dC WA hw1 lW hw2 FW NW kpa ha tka
  refine ix_at (n1 := n1) (n2 := n2) (t1 := t1) (t2 := t2) fun i0 i1 i2 => ?_
  rw [wv_is] at i2
  refine cutI (ix n1.length) F1 N1 ?_ fun hh1 tk1 ti F2 N => ?_
  · k_steps
    · exact .mk (ix_yes (by assumption)) (by assumption) (by assumption)
    · exact .mk (ix_no (by assumption)) (by assumption) (by assumption)
  refine hideF3 (x0 := Str.ofString "rounds") (x1 := Str.ofString "names") (x2 := Str.ofString "words") F2 (by rfl) (by rfl) (by rfl) fun m0 F => ?_
  clear F1 N1 F2
  k_steps
  clear i0 i1 i2
  rename_i kpb hb tkb DT hd1 lD hd2 hd3 hd4 FD ND hR tkR tr ur vr aR aF aN aK
  have Nf : News g0 L0 hR ((WA, W.listOf #[] 0) :: (P.pb, W.listOf ((lk n1.length n2.length 0).2.1.map (wv n1 t1 n2 t2)).toArray kpb) :: (L0 + 1, oC) :: (P.lx, instObj 59 P.dx) :: (P.dx, dxObj w.params P line tl) :: (nl, W.listOf #[.str n1 t1, .str n2 t2] k) :: rest) := fun p hp => aN p (sub_use hp (sub_cons (by f_tup) (sub_cons (by rw [show ((lk n1.length n2.length 0).2.1.map (wv n1 t1 n2 t2)).toArray = #[.str n1 t1, .str (wn n1 n2 (if n1.length = 1 then 1 else 0)) (wt t1 t2 (if n1.length = 1 then 1 else 0))] from by rw [← wv_is]; rfl]; f_tup) (by f_list))))
  have d1 := Nat.ne_of_gt (ltM lW mm1)
  have d2 := Nat.ne_of_gt (ltM lW mm2)
  have d3 := Nat.ne_of_gt (ltM lW mm3)
  have d4 := Nat.ne_of_gt (ltM lW (mem_t4 mm0))
  have d5 := Nat.ne_of_lt (ltM lW mm0)
  have d6 : @Ne Nat (L0 + 1) P.pb := Nat.ne_of_gt (Nat.lt_succ_of_lt q1)
  have hfz : ∀ p ∈ (L0 + 1, oC) :: (P.lx, instObj 59 P.dx) :: (P.dx, dxObj w.params P line tl) :: (nl, W.listOf #[.str n1 t1, .str n2 t2] k) :: rest, ¬ (p.1 = WA ∨ p.1 = P.pb) :=
    all_cons (no2 (ltM lW mm0) d6) (all_cons (no2 (ltM lW mm2) (Nat.ne_of_lt la)) (all_cons (no2 (ltM lW mm3) (Nat.ne_of_lt (Nat.lt_trans l9 la))) (all_cons (no2 (ltM lW (mem_t4 mm0)) hnl') fun p hp => no2 (lW _ (mem_t4 (mem_t hp))) (hroff p hp))))
  refine fold_tail2 Nf fun fz hin hback Nf => ?_
  have y0 := hin _ mm0
  have y1 := hin _ mm1
  have y2 := hin _ mm2
  have y3 := hin _ mm3
  have y4 : ∀ q ∈ rest, q ∈ fz := fun q hq => hin _ (mem_t4 hq)
  refine for_src [(WA, W.listOf #[] 0), (P.pb, W.listOf ((lk n1.length n2.length 0).2.1.map (wv n1 t1 n2 t2)).toArray kpb)] fz (lnInv n1 t1 n2 t2 nl WA P.pb) (fun _ _ => False) (fun _ _ _ => False) (fun a => a = WA ∨ a = P.pb) (src_rangeN (n := 6) (by rfl) _ _ aR (small_one (by decide) (by decide) (by decide) (by decide)) (rangeSize_low 6)) ⟨by rfl, by rfl⟩ rfl aF Nf (Fr.ns aF).lt (fun p hp => Heap.lt_size (Nf p hp).1) (Nat.le_refl _) (fun q hq => nomatch hq)
    (all_cons (.inl rfl) (all_cons (.inr rfl) all_nil)) (fun q hq => hq.elim (fun e => e ▸ Heap.lt_size (Nf _ mm0).1) fun e => e ▸ Heap.lt_size (Nf _ mm1).1) (fun p hp => hfz p (hback p hp)) ⟨0, kpb, rfl, by rfl, by rfl, ⟨_, by rfl⟩, ⟨_, by rfl⟩⟩ ?_ ?_ (fun _ _ _ _ h => h.elim) (fun _ _ _ _ _ h => h.elim)
  · intro g i m m' live h tk rest' E' hi hI hB' F' N' hr hz'
    refine hB'.elim fun v hB' => hB'.1.elim fun u hu => ?_
    rw [hB'.2, hu, Int.zero_add] at F'
    exact wpAny_mono (ln_turn w mean mg mb news0 x tx P gi kg line tl nl n1 n2 t1 t2 k hP h1 h2 hok hsz _ _ _ _ _ _ _ L0 WA oC dC _ B0 X0 T0 (by ktr_room) (by ktr_units) d1 d2 d3 d4 hnl' d6 d5 i m live h tk rest' u E' hi hI F' N' (fun p hp e => hr p hp (.inl e)) (fun p hp e => hr p hp (.inr e)) (hz' _ y0) (hz' _ y1) (hz' _ y2) (hz' _ y3) (fun q hq => hz' _ (y4 _ (hlr q hq)))) (fun f s₃ h₃ => end_of h₃) fun _ _ e => e
  · intro h tk m live hI F' N' hl
    refine hI.elim fun kw kp2 tb e hw hpsh => ?_
    rw [e] at N'
    have h6 := hsz 6 (Nat.le_refl _)
    have ns : (lk n1.length n2.length 6).1.length = 12 := lk_len _ _ 6
    refine exec_ret ?_
    refine ln_fin w mean mg mb news0 x tx P gi kg line tl hP _ _ _ _ _ _ _ L0 WA oC dC _ B0 X0 T0 (by ktr_room) (by ktr_units) d1 ((lk n1.length n2.length 6).1.map (wv n1 t1 n2 t2)) ((lk n1.length n2.length 6).2.1.map (wv n1 t1 n2 t2)) (by rw [List.length_map]; exact h6.2.1) (by rw [List.length_map]; exact h6.1) _ (by rw [List.length_map, List.length_map, ns, hend]) kw kp2 m h tk fz tb _ _ hw hpsh F' N' (fun p hp e => hfz p (hback p hp) (.inr e)) y0 y1 y2 (fun q hq => y4 _ (hlr q hq)) (fun D kD kp9 h9 tk9 m9 F9 N9 => ?_)
    rw [← List.map_append] at N9
    have N9 : News g0 L0 h9 ((D, W.listOf (((lk n1.length n2.length 6).1 ++ (lk n1.length n2.length 6).2.1).map (wv n1 t1 n2 t2)).toArray kD) :: (lexL w.params P gi kg line tl [] kp9 ++ (nl, W.listOf #[.str n1 t1, .str n2 t2] k) :: news)) := fun q hq => N9 q (by
      rw [lex_split] at hq
      exact sub_use hq (sub_cons mm0 (sub_app (sub_cons mm1 (sub_cons (mem_t (mem_t y1)) (sub_cons (mem_t (mem_t y2)) fun q hq => mem_t (mem_t (y4 _ (hlr q hq)))))) (sub_cons (mem_t (mem_t y3)) fun q hq => mem_t (mem_t (y4 _ (hln q hq)))))))
    clear hfz N' F' Nf hin hback y0 y1 y2 y3 y4
    k_steps
    exact hret _ _ _ _ .mk (by k_asm) (by assumption)
end Mine
end
section
open PySem PySem.W PyProof.Rows PySem.Spec PySem.Calls
namespace Mine
open PyProof.Rows.LCg (NsObj ns_obj lst lst_snoc)
theorem IV.ints {vs : List Value} {ns : List Int} (h : IV vs ns) : IntsAre vs ns := by
  obtain ⟨l, rfl, rfl⟩ := h
  induction l with
  | nil => exact .nil
  | cons p l ih => exact .cons p.1 p.2 ih
theorem sum_L {prog : Program} {w : World} {A : Around} {E : Value → Shared → Prop} {s : Shared} {h₀ : Heap} {L l : Addr} {m : Nm} {news : Led} {vs : List Value} {ns : List Int} {k : Nat} {Q : Value → Shared → Prop} (hh : A.handled = none) (F : Fr h₀ L s.heap m) (N : News h₀ L s.heap news) (hm : (l, W.listOf vs.toArray k) ∈ news) (hi : IV vs ns)
    (h : ∀ h' tk t', Fr h₀ L h' m → News h₀ L h' news → Q (.int ns.sum t') { s with heap := h', toks := tk }) :
    wpAny (model prog w) A (call (.builtin "sum") [.ref l]) Q E s := by
  have hi := hi.ints
  have hl : s.heap.IsList l vs.toArray := ⟨_, (N _ hm).1, rfl, k, rfl⟩
  obtain ⟨xs, hx⟩ := hi.allInts.items
  have hn : numsOf vs.toArray.toList = ns := by rw [show vs.toArray.toList = vs from rfl, hi.numsOf]
  rw [hx] at hl hn
  rw [nums_intItems] at hn
  refine sum_intListG hh hl fun h' tk t' hk => ?_
  have := h h' tk t' (F.keeps hk) (N.grown hk)
  rw [preSum_eq, List.take_of_length_le (by simp), hn]
  exact this
theorem item_negK {prog : Program} {w : World} {A : Around} {E : Value → Shared → Prop} {s : Shared} {value slice : PySem.Expr} {l : Addr} {vs : List Value} {u : Tok} {v : Value} {Q : Value → Shared → Prop} (hl : s.heap.IsList l (vs ++ [v]).toArray) (h : Q v s)
    (hs : subscripted slice false (.ref l) (.int (-1) u) = operate [.ref l, .int (-1) u] (getItem (.ref l) (.int (-1) u)) := by with_unfolding_all rfl) :
    wpAny (model prog w) A (subscriptTail value slice (.ref l) (.int (-1) u)) Q E s :=
  tail_any hl.typeIs slot_list_getitem.lookup (wpAny_getItem_list_neg hl (by decide) (by simp; lia) (by decide) (by
    have e : ((-1 : Int) + (((vs ++ [v]).toArray.size : Nat) : Int)).toNat = vs.length := by simp; lia
    rw [e]
    simp) h) hs
noncomputable abbrev T3 := Int × Int × Int
noncomputable def pk (p : T3) (c : Int) : Int := if c = 0 then p.1 else if c = 1 then p.2.1 else p.2.2
noncomputable def sm (p : T3) (im : List Int) : Int := (im.map (pk p)).sum
noncomputable def l3 (p : T3) : List Int := [p.1, p.2.1, p.2.2]
noncomputable def lst3 (i0 i1 i2 : List Int) (p : T3) : T3 := (sm p i0, sm p i1, sm p i2)
noncomputable def lvAt (i0 i1 i2 : List Int) : Nat → T3 × T3
  | 0 => ((1, 1, 1), (2, 1, 0))
  | r + 1 => (lst3 i0 i1 i2 (lvAt i0 i1 i2 r).1, lst3 i0 i1 i2 (lvAt i0 i1 i2 r).2)
noncomputable def tupO (vs : Array Value) : Obj := { cls := .type "tuple", data := .seq vs }
/-- one level in the ledger: a tuple of two lists of three ints -/
inductive LevIn (led : Led) : Value → T3 × T3 → Prop
  | mk {p : T3 × T3} {T C H : Addr} {a0 a1 a2 b0 b1 b2 : Tok} {kc kh : Nat} (z1 : (T, tupO #[.ref C, .ref H]) ∈ led) (z2 : (C, W.listOf #[.int p.1.1 a0, .int p.1.2.1 a1, .int p.1.2.2 a2] kc) ∈ led) (z3 : (H, W.listOf #[.int p.2.1 b0, .int p.2.2.1 b1, .int p.2.2.2 b2] kh) ∈ led) : LevIn led (.ref T) p
/-- the images in the ledger -/
inductive ImIn (led : Led) (im : Addr) (i0 i1 i2 : List Int) : Prop
  | mk {I0 I1 I2 : Addr} {v0 v1 v2 : List Value} {n k0 k1 k2 : Nat} (z : (im, W.listOf #[.ref I0, .ref I1, .ref I2] n) ∈ led) (z0 : (I0, W.listOf (List.toArray v0) k0) ∈ led) (z1 : (I1, W.listOf (List.toArray v1) k1) ∈ led) (z2 : (I2, W.listOf (List.toArray v2) k2) ∈ led) (e0 : IV v0 i0) (e1 : IV v1 i1) (e2 : IV v2 i2) : ImIn led im i0 i1 i2
theorem LevIn.mono {l1 l2 : Led} {v : Value} {p : T3 × T3} (h : LevIn l1 v p) (hs : ∀ q ∈ l1, q ∈ l2) : LevIn l2 v p :=
  h.casesOn fun z1 z2 z3 => .mk (hs _ z1) (hs _ z2) (hs _ z3)
theorem ImIn.mono {l1 l2 : Led} {im : Addr} {i0 i1 i2 : List Int} (h : ImIn l1 im i0 i1 i2) (hs : ∀ q ∈ l1, q ∈ l2) : ImIn l2 im i0 i1 i2 :=
  h.casesOn fun z z0 z1 z2 e0 e1 e2 => .mk (hs _ z) (hs _ z0) (hs _ z1) (hs _ z2) e0 e1 e2
noncomputable def is012 (c : Int) : Prop := c = 0 ∨ c = 1 ∨ c = 2
noncomputable def pick3 {α : Type} (c : Int) (a0 a1 a2 : α) : α := if c = 0 then a0 else if c = 1 then a1 else a2
theorem is012.lo {c : Int} (h : is012 c) : 0 ≤ c := by rcases h with rfl | rfl | rfl <;> decide
theorem is012.hi {c : Int} (h : is012 c) : c < 2 ^ 63 := by rcases h with rfl | rfl | rfl <;> decide
theorem is012.int {c : Int} (h : is012 c) (P : T3) (a0 a1 a2 : Tok) : [Value.int P.1 a0, .int P.2.1 a1, .int P.2.2 a2][c.toNat]? = some (.int (pk P c) (pick3 c a0 a1 a2)) := by rcases h with rfl | rfl | rfl <;> rfl
theorem is012.ref {c : Int} (h : is012 c) (a0 a1 a2 : Addr) : [Value.ref a0, .ref a1, .ref a2][c.toNat]? = some (.ref (pick3 c a0 a1 a2)) := by rcases h with rfl | rfl | rfl <;> rfl
noncomputable def imK (i0 i1 i2 : List Int) (k : Int) : List Int := if k = 0 then i0 else if k = 1 then i1 else i2
theorem ImIn.at {led : Led} {im : Addr} {i0 i1 i2 : List Int} {c : Int} {C : Prop} (h : ImIn led im i0 i1 i2) (hc : is012 c)
    (k : ∀ I0 I1 I2 n v kv, (im, W.listOf #[.ref I0, .ref I1, .ref I2] n) ∈ led → (pick3 c I0 I1 I2, W.listOf (List.toArray v) kv) ∈ led → IV v (imK i0 i1 i2 c) → C) : C :=
  h.casesOn fun {I0 I1 I2 v0 v1 v2 n k0 k1 k2} z z0 z1 z2 e0 e1 e2 => by
    rcases hc with rfl | rfl | rfl
    · exact k I0 I1 I2 n v0 k0 z z0 e0
    · exact k I0 I1 I2 n v1 k1 z z1 e1
    · exact k I0 I1 I2 n v2 k2 z z2 e2
noncomputable def nth3 {α : Type} (a b c : α) (i : Nat) : α := if i = 0 then a else if i = 1 then b else c
theorem nth3_2 {α β : Type} {P : α → β → Prop} {a0 a1 a2 : α} {b0 b1 b2 : β} (h0 : P a0 b0) (h1 : P a1 b1) (h2 : P a2 b2) (i : Nat) : P (nth3 a0 a1 a2 i) (nth3 b0 b1 b2 i) := by
  unfold nth3
  split
  · exact h0
  · split
    · exact h1
    · exact h2
theorem nth3_1 {α : Type} {P : α → Prop} {a0 a1 a2 : α} (h0 : P a0) (h1 : P a1) (h2 : P a2) (i : Nat) : P (nth3 a0 a1 a2 i) := nth3_2 (P := fun a (_ : α) => P a) (b0 := a0) (b1 := a0) (b2 := a0) h0 h1 h2 i
theorem nth3_mem {led : Led} {I0 I1 I2 : Addr} {v0 v1 v2 : List Value} {k0 k1 k2 : Nat} (h0 : (I0, W.listOf (List.toArray v0) k0) ∈ led) (h1 : (I1, W.listOf (List.toArray v1) k1) ∈ led) (h2 : (I2, W.listOf (List.toArray v2) k2) ∈ led) (i : Nat) : (nth3 I0 I1 I2 i, W.listOf (List.toArray (nth3 v0 v1 v2 i)) (nth3 k0 k1 k2 i)) ∈ led := by
  unfold nth3
  split
  · exact h0
  · split
    · exact h1
    · exact h2
theorem nth3_at {I0 I1 I2 : Addr} {i : Nat} {m m' : Nm} {x : Str} (hi : i < 3) (h : BN x (fun i a => (#[.ref I0, .ref I1, .ref I2] : Array Value)[i]? = some a) i m m') : m' x = some (.ref (nth3 I0 I1 I2 i)) :=
  h.elim fun a e => (congrFun e.2 x).trans ((if_pos rfl).trans (e.1.symm.trans (lt3 (P := fun i => (#[.ref I0, .ref I1, .ref I2] : Array Value)[i]? = some (.ref (nth3 I0 I1 I2 i))) rfl rfl rfl hi)))
theorem setN_at {m m' : Nm} {x : Str} {v : Value} (h : m' = setN m x v) : m' x = some v := by rw [h]; exact if_pos rfl
theorem IV.item {v : List Value} {il : List Int} {C : Prop} (e : IV v il) {i : Nat} {w : Value} (hi : i < v.toArray.size) (h : v.toArray[i]? = some w) (k : ∀ (hl : i < il.length) t, w = .int il[i] t → C) : C := by
  have hil : i < il.length := by rw [← e.length]; exact hi
  obtain ⟨t, ht⟩ := e.get (List.getElem?_eq_getElem hil)
  exact k hil t (Option.some.inj (h.symm.trans ((by simp : v.toArray[i]? = v[i]?).trans ht)))
theorem IV.turn {v : List Value} {il : List Int} {C : Prop} (e : IV v il) {i : Nat} {m m' : Nm} {x : Str} (hi : i < v.toArray.size) (h : BN x (fun i a => v.toArray[i]? = some a) i m m') (k : ∀ (hl : i < il.length) t, m' = setN m x (.int il[i] t) → C) : C := by
  obtain ⟨w, hw, hm⟩ := h
  exact e.item hi hw fun hl t ew => k hl t (ew ▸ hm)
theorem IV.step {ys : List Value} {il : List Int} {f : Int → Int} {i : Nat} (hl : i < il.length) (hI : IV ys ((il.take i).map f)) (t : Tok) : IV (ys ++ [.int (f il[i]) t]) ((il.take (i + 1)).map f) := by
  rw [List.take_succ_eq_append_getElem hl, List.map_append]
  exact hI.snoc _ _
theorem IV.all {ys v : List Value} {il : List Int} {f : Int → Int} (hv : IV v il) (hI : IV ys ((il.take v.toArray.size).map f)) : IV ys (il.map f) := by
  rw [show v.toArray.size = il.length from hv.length, List.take_length] at hI
  exact hI
theorem room_iv {v : List Value} {il : List Int} (hv : IV v il) (hz : il.length ≤ 100) : v.toArray.size ≤ sizeLine := by
  have : sizeLine = 16777216 := rfl
  have : v.toArray.size = il.length := hv.length
  lia
local macro_rules | `(tactic| k_all) => `(tactic| first | assumption | exact all_ne_of_lt (by assumption) (by lia))
local macro_rules | `(tactic| walk_at "call builtin:sum") => `(tactic| (k_here; k_dflt (apply sum_L; (with_unfolding_all rfl); k_asm; k_asm; k_mem; assumption; k_whole); intros))
noncomputable def lvDef : Stmt := stmtAt 23
noncomputable def lvBody : List Stmt := (whPart ((defBody lvDef).getD 1 (.Pass default))).2
noncomputable abbrev lvN : Str := Str.ofString "_law_levels"
noncomputable abbrev lvCl (L : Addr) : List (Str × Addr) := [(Str.ofString "heads", L + 2), (Str.ofString "pairs", L + 1)]
noncomputable def lvC1 : PySem.Expr := match lvBody.getD 1 (.Pass default) with | .Assign _ e _ => e | _ => .Constant .none 0 default
noncomputable def lvC2 : PySem.Expr := match lvBody.getD 2 (.Pass default) with | .Expr (.Call _ [.Tuple [_, e] _ _] _ _) _ => e | _ => .Constant .none 0 default
noncomputable def compElt : PySem.Expr → PySem.Expr | .ListComp e _ _ _ => e | e => e
noncomputable def compScope : PySem.Expr → Scope | .ListComp _ _ sc _ => sc | _ => default
local macro_rules | `(tactic| walk_at "subscriptTail Name Name ref int") => `(tactic| (k_here; with_unfolding_all (apply item_litK; (walk_at "li9"); lia; lia; assumption; rotate_left; rfl; k_whole)))
set_option maxHeartbeats 0 in
theorem lv_sum1 (w : World) (mean : ExcName → Option Value) (mg mb : PySem.Str → Option Value) (dp un : Nat) (gd : Option (List Code)) (outer : List Env) (A₀ : Around) (base h₀ : Heap) (L : Addr) (s₁ : Shared)
    (hB : Below A₀ base outer h₀) (hX : (K w.params).In h₀) (hT : Top topProg lw mean mg mb h₀) (hdp : dp + 50 < recursionLimit) (hun : un + 250 < cLine)
    (m m' : Nm) (C I Cc : Addr) (oC oP : Obj) (v : List Value) (im : List Int) (kI kc : Nat) (p : T3) (a0 a1 a2 : Tok) (led : Led) (h : Heap) (tk : Nat) (Q E' : Value → Shared → Prop)
    (hoC : NsObj oC m') (him : m' (Str.ofString "image") = some (.ref I)) (hP : oP.data = .cell (some (.ref Cc))) (hv : IV v im) (hr : ∀ c ∈ im, is012 c) (hz : im.length ≤ 100)
    (F : Fr h₀ L h m) (N : News h₀ L h led) (zO : (C, oC) ∈ led) (zP : (L + 1, oP) ∈ led) (zI : (I, W.listOf v.toArray kI) ∈ led) (zC : (Cc, W.listOf #[.int p.1 a0, .int p.2.1 a1, .int p.2.2 a2] kc) ∈ led)
    (hret : ∀ h' tk' t', Fr h₀ L h' m → News h₀ L h' led → Q (.int (sm p im) t') { s₁ with heap := h', toks := tk' }) :
    wpAny (model PySem.Challenge.rw_tp0040_01.row.prog w) (ktrTop dp un gd lvN (defScope lvDef) L 199 (.ref 198) (lvCl L) outer) (eval (compElt lvC1) (compEnvC (compScope lvC1) [(Str.ofString "pairs", L + 1)] C (envX lvN (defScope lvDef) L 199 (.ref 198) (lvCl L)))) Q E' { s₁ with heap := h, toks := tk } := by
  revert hX
  k_fill
  intro hX
  have N0 : News h₀ L h ((C, oC) :: (I, W.listOf v.toArray kI) :: led) := fun q hq => N q (sub_use hq (by f_list))
  show wpAny _ _ (eval (.Call _ _ _ _) _) _ _ _
  k_steps
  clear N0
  refine comp_src0n led (fun i ys => IV ys ((im.take i).map (pk p))) (src_listN (by rfl) _ v.toArray _ _ ⟨_, (N _ zI).1, rfl, kI, rfl⟩) (fun C => ⟨lookup_relabel_local (by rfl), by rfl⟩) (room_iv hv hz) (by decide) rfl F N (dep1 zI) IV.nil ?_ ?_
  · intro g i ys C2 D oC2 m1 m2 h tk rest' E' hi hI hB9 hoC2 F N hr9 hz9 hCD
    refine testsOf_nil (hideQ fun Q' hQ => ?_)
    refine IV.turn hv hi hB9 fun hl t hm => ?_
    have hx := setN_at hm
    have hc := hr _ (List.getElem_mem hl)
    have zP' := hz9 _ zP
    have zC' := hz9 _ zC
    have N8 : News h₀ L h ((C2, oC2) :: (L + 1, oP) :: (Cc, W.listOf #[.int p.1 a0, .int p.2.1 a1, .int p.2.2 a2] kc) :: (D, lst ys) :: rest') := fun q hq => N q (sub_use hq (by f_list))
    have q0 := hc.lo
    have q1 := hc.hi
    have q2 := hc.int p a0 a1 a2
    clear hm N hr9 hz9 hret zP zC zI zO hc hB9
    k_steps
    refine hQ _ _ ?_
    exact TurnEnd0.intro (by assumption) (by assumption) (fun q hq => by exact sub_use hq (by f_list)) (IV.step hl hI _)
  · intro D h9 tk9 ys F9 N9 hlt hI
    have hI := IV.all hv hI
    k_steps
    exact hret _ _ _ (by assumption) fun q hq => (by assumption : News _ _ _ _) q (List.mem_cons_of_mem _ hq)
set_option maxHeartbeats 0 in
theorem lv_sum2 (w : World) (mean : ExcName → Option Value) (mg mb : PySem.Str → Option Value) (dp un : Nat) (gd : Option (List Code)) (outer : List Env) (A₀ : Around) (base h₀ : Heap) (L : Addr) (s₁ : Shared)
    (hB : Below A₀ base outer h₀) (hX : (K w.params).In h₀) (hT : Top topProg lw mean mg mb h₀) (hdp : dp + 50 < recursionLimit) (hun : un + 250 < cLine)
    (m m' : Nm) (C I Cc : Addr) (oC oP : Obj) (v : List Value) (im : List Int) (kI kc : Nat) (p : T3) (a0 a1 a2 : Tok) (led : Led) (h : Heap) (tk : Nat) (Q E' : Value → Shared → Prop)
    (hoC : NsObj oC m') (him : m' (Str.ofString "image") = some (.ref I)) (hP : oP.data = .cell (some (.ref Cc))) (hv : IV v im) (hr : ∀ c ∈ im, is012 c) (hz : im.length ≤ 100)
    (F : Fr h₀ L h m) (N : News h₀ L h led) (zO : (C, oC) ∈ led) (zP : (L + 2, oP) ∈ led) (zI : (I, W.listOf v.toArray kI) ∈ led) (zC : (Cc, W.listOf #[.int p.1 a0, .int p.2.1 a1, .int p.2.2 a2] kc) ∈ led)
    (hret : ∀ h' tk' t', Fr h₀ L h' m → News h₀ L h' led → Q (.int (sm p im) t') { s₁ with heap := h', toks := tk' }) :
    wpAny (model PySem.Challenge.rw_tp0040_01.row.prog w) (ktrTop dp un gd lvN (defScope lvDef) L 199 (.ref 198) (lvCl L) outer) (eval (compElt lvC2) (compEnvC (compScope lvC2) [(Str.ofString "heads", L + 2)] C (envX lvN (defScope lvDef) L 199 (.ref 198) (lvCl L)))) Q E' { s₁ with heap := h, toks := tk } := by
  revert hX
  k_fill
  intro hX
  have N0 : News h₀ L h ((C, oC) :: (I, W.listOf v.toArray kI) :: led) := fun q hq => N q (sub_use hq (by f_list))
  show wpAny _ _ (eval (.Call _ _ _ _) _) _ _ _
  k_steps
  clear N0
  refine comp_src0n led (fun i ys => IV ys ((im.take i).map (pk p))) (src_listN (by rfl) _ v.toArray _ _ ⟨_, (N _ zI).1, rfl, kI, rfl⟩) (fun C => ⟨lookup_relabel_local (by rfl), by rfl⟩) (room_iv hv hz) (by decide) rfl F N (dep1 zI) IV.nil ?_ ?_
  · intro g i ys C2 D oC2 m1 m2 h tk rest' E' hi hI hB9 hoC2 F N hr9 hz9 hCD
    refine testsOf_nil (hideQ fun Q' hQ => ?_)
    refine IV.turn hv hi hB9 fun hl t hm => ?_
    have hx := setN_at hm
    have hc := hr _ (List.getElem_mem hl)
    have zP' := hz9 _ zP
    have zC' := hz9 _ zC
    have N8 : News h₀ L h ((C2, oC2) :: (L + 2, oP) :: (Cc, W.listOf #[.int p.1 a0, .int p.2.1 a1, .int p.2.2 a2] kc) :: (D, lst ys) :: rest') := fun q hq => N q (sub_use hq (by f_list))
    have q0 := hc.lo
    have q1 := hc.hi
    have q2 := hc.int p a0 a1 a2
    clear hm N hr9 hz9 hret zP zC zI zO hc hB9
    k_steps
    refine hQ _ _ ?_
    exact TurnEnd0.intro (by assumption) (by assumption) (fun q hq => by exact sub_use hq (by f_list)) (IV.step hl hI _)
  · intro D h9 tk9 ys F9 N9 hlt hI
    have hI := IV.all hv hI
    k_steps
    exact hret _ _ _ (by assumption) fun q hq => (by assumption : News _ _ _ _) q (List.mem_cons_of_mem _ hq)
end Mine
end
local macro_rules | `(tactic| walk_at "pad") => `(tactic| skip)
section
open PySem PySem.W PyProof.Rows PySem.Spec PySem.Calls
namespace Mine
open PyProof.Rows.LCg (NsObj ns_obj lst lst_snoc)
local macro_rules | `(tactic| k_all) => `(tactic| first | assumption | exact all_ne_of_lt (by assumption) (by lia))
local macro_rules | `(tactic| walk_at "exec Assign cons ListComp") => `(tactic| (k_here; k_dflt (refine AssignComp_W (by with_unfolding_all rfl) (by with_unfolding_all rfl) (by rfl) (by decide) ?_)))
local macro_rules | `(tactic| walk_at "subscriptTail Name UnaryOp ref int") => `(tactic| (k_here; with_unfolding_all (apply item_negK; (walk_at "li9"); rotate_left; rfl; k_whole)))
/-- where the while loop over the levels stands -/
inductive lvJ (news : Led) (im : Addr) (i0 i1 i2 : List Int) (st : Nat) (ts : Tok) (pl : Int) (tp : Tok) (R : Nat) (L LV : Addr) : Nat → Nm → Led → Prop
  | mk {n r : Nat} {fr : List Value} {kl kc kh : Nat} {oP oH : Obj} {vP vH : Option Value} {tail : Led} {T C H : Addr} {x0 x1 x2 y0 y1 y2 : Int} {a0 a1 a2 b0 b1 b2 : Tok} {m : Nm} (hn : n + r = R) (dP : oP.data = .cell vP) (dH : oH.data = .cell vH) (hnews : ∀ q ∈ news, q ∈ tail)
      (oa : ∀ q ∈ tail, q.1 ≠ LV) (ob : ∀ q ∈ tail, q.1 ≠ L + 1) (oc : ∀ q ∈ tail, q.1 ≠ L + 2) (hfr : fr.length = r) (hlev : ∀ j, j < r → ∃ v, fr[j]? = some v ∧ LevIn tail v (lvAt i0 i1 i2 j)) (hp : lvAt i0 i1 i2 r = ((x0, x1, x2), y0, y1, y2))
      (zT : (T, tupO #[.ref C, .ref H]) ∈ tail) (zC : (C, W.listOf #[.int x0 a0, .int x1 a1, .int x2 a2] kc) ∈ tail) (zH : (H, W.listOf #[.int y0 b0, .int y1 b1, .int y2 b2] kh) ∈ tail)
      (m1 : m (Str.ofString "images") = some (.ref im)) (m2 : m (Str.ofString "start") = some (.int st ts)) (m3 : m (Str.ofString "places") = some (.int pl tp)) (m4 : m (Str.ofString "levels") = some (.ref LV)) :
      lvJ news im i0 i1 i2 st ts pl tp R L LV n m ((LV, W.listOf (List.toArray (fr ++ [.ref T])) kl) :: (L + 1, oP) :: (L + 2, oH) :: tail)
theorem lev_step {fr : List Value} {r : Nat} {tail tail' : Led} {T : Addr} {f : Nat → T3 × T3} (hfr : fr.length = r) (hlev : ∀ j, j < r → ∃ v, fr[j]? = some v ∧ LevIn tail v (f j)) (hs : ∀ q ∈ tail, q ∈ tail') (z : LevIn tail' (.ref T) (f r)) : ∀ j, j < r + 1 → ∃ v, (fr ++ [.ref T])[j]? = some v ∧ LevIn tail' v (f j) := by
  intro j hj
  rcases Nat.lt_or_ge j r with h | h
  · exact (hlev j h).elim fun v hv => ⟨v, by rw [List.getElem?_append_left (hfr ▸ h)]; exact hv.1, hv.2.mono hs⟩
  · have e : j = r := Nat.le_antisymm (Nat.le_of_lt_succ hj) h
    exact ⟨.ref T, by rw [e, List.getElem?_append_right (Nat.le_of_eq hfr), hfr, Nat.sub_self]; rfl, e ▸ z⟩
theorem IV3 {ys : List Value} {a b c : Int} {C : Prop} (h : IV ys [a, b, c]) (k : ∀ t u v, ys = [.int a t, .int b u, .int c v] → C) : C :=
  (h.get (i := 0) rfl).elim fun t e0 => (h.get (i := 1) rfl).elim fun u e1 => (h.get (i := 2) rfl).elim fun v e2 => k t u v (list3_of h.length e0 e1 e2)
/-- the counts of the images told so far -/
noncomputable def imSm (i0 i1 i2 : List Int) (X : T3) (i : Nat) (ys : List Value) : Prop := IV ys (([i0, i1, i2].take i).map (sm X))
theorem imSm.step {i0 i1 i2 : List Int} {X : T3} {i : Nat} {ys : List Value} (hi : i < 3) (h : imSm i0 i1 i2 X i ys) (t : Tok) : imSm i0 i1 i2 X (i + 1) (ys ++ [.int (sm X (nth3 i0 i1 i2 i)) t]) :=
  lt3 (P := fun i => imSm i0 i1 i2 X i ys → imSm i0 i1 i2 X (i + 1) (ys ++ [Value.int (sm X (nth3 i0 i1 i2 i)) t])) (fun h => IV.snoc h (sm X i0) t) (fun h => IV.snoc h (sm X i1) t) (fun h => IV.snoc h (sm X i2) t) hi h
theorem imSm.three {i0 i1 i2 : List Int} {X : T3} {ys : List Value} {C : Prop} (h : imSm i0 i1 i2 X 3 ys) (k : ∀ t u v, ys = [.int (sm X i0) t, .int (sm X i1) u, .int (sm X i2) v] → C) : C := IV3 h k
theorem lvAt_succ {i0 i1 i2 : List Int} {r : Nat} {X Y : T3} (h : lvAt i0 i1 i2 r = (X, Y)) : lvAt i0 i1 i2 (r + 1) = ((sm X i0, sm X i1, sm X i2), sm Y i0, sm Y i1, sm Y i2) := by
  show (lst3 i0 i1 i2 (lvAt i0 i1 i2 r).1, lst3 i0 i1 i2 (lvAt i0 i1 i2 r).2) = _
  rw [h]
  rfl
theorem push_app {l : List Value} {v : Value} : (List.toArray l).push v = List.toArray (l ++ [v]) := by simp
noncomputable def lvWh : PySem.Expr × List Stmt := whPart ((defBody lvDef).getD 1 (.Pass default))
set_option maxHeartbeats 0 in
theorem lv_while (w : World) (mean : ExcName → Option Value) (mg mb : PySem.Str → Option Value) (dp un : Nat) (gd : Option (List Code)) (outer : List Env) (A₀ : Around) (base h₀ : Heap) (L LV : Addr) (s₁ : Shared) (hLV1 : @Ne Nat LV (L + 1)) (hLV2 : @Ne Nat LV (L + 2))
    (hB : Below A₀ base outer h₀) (hX : (K w.params).In h₀) (hT : Top topProg lw mean mg mb h₀) (hdp : dp + 50 < recursionLimit) (hun : un + 250 < cLine)
    (news : Led) (im : Addr) (i0 i1 i2 : List Int) (st : Nat) (ts : Tok) (pl : Int) (tp : Tok) (R : Nat) (hI : ImIn news im i0 i1 i2) (hst : st = 0 ∨ st = 1)
    (h0 : (∀ c ∈ i0, c = 0 ∨ c = 1 ∨ c = 2) ∧ i0.length ≤ 100) (h1 : (∀ c ∈ i1, c = 0 ∨ c = 1 ∨ c = 2) ∧ i1.length ≤ 100) (h2 : (∀ c ∈ i2, c = 0 ∨ c = 1 ∨ c = 2) ∧ i2.length ≤ 100) (hR : R ≤ 100)
    (hlo : ∀ r, r < R → pk (lvAt i0 i1 i2 r).1 st < pl) (hhi : pl ≤ pk (lvAt i0 i1 i2 R).1 st)
    (m : Nm) (led : Led) (h : Heap) (tk : Nat) (Q : Flow → Shared → Prop) (E' : Value → Shared → Prop) (F : Fr h₀ L h m) (N : News h₀ L h led) (hJ : lvJ news im i0 i1 i2 st ts pl tp R L LV R m led)
    (hfin : ∀ m' led' h' tk', Fr h₀ L h' m' → News h₀ L h' led' → lvJ news im i0 i1 i2 st ts pl tp R L LV 0 m' led' → Q .next { s₁ with heap := h', toks := tk' }) :
    wpAny (model PySem.Challenge.rw_tp0040_01.row.prog w) (ktrTop dp un gd lvN (defScope lvDef) L 199 (.ref 198) (lvCl L) outer) (exec ((defBody lvDef).getD 1 (.Pass default)) (envX lvN (defScope lvDef) L 199 (.ref 198) (lvCl L))) Q E' { s₁ with heap := h, toks := tk } := by
  revert hX
  k_fill
  intro hX
  show wpAny _ _ (exec (.While _ _ [] _) _) _ _ _
  refine While_V (lvJ news im i0 i1 i2 st ts pl tp R L LV) (n₀ := R) F N hJ (fun n m led h tk E' F N hJ => ?_)
  revert F N
  refine lvJ.casesOn hJ fun {r fr kl kc kh oP oH vP vH tail T C H x0 x1 x2 y0 y1 y2 a0 a1 a2 b0 b1 b2 m} hn dP dH hnews hoa hob hoc hfr hlev hp zT zC zH m1 m2 m3 m4 F N0 => ?_
  clear hJ
  have F := fixF4 F m1 m2 m3 m4
  have nT := hoa _ zT
  have nT1 := hob _ zT
  have nT2 := hoc _ zT
  have nC := hoa _ zC
  have nC1 := hob _ zC
  have nC2 := hoc _ zC
  have N : News h₀ L h ((LV, W.listOf (List.toArray (fr ++ [.ref T])) kl) :: (L + 1, oP) :: (L + 2, oH) :: (T, tupO #[.ref C, .ref H]) :: (C, W.listOf #[.int x0 a0, .int x1 a1, .int x2 a2] kc) :: tail) := fun q hq => N0 q (sub_use hq (by f_list))
  unfold tupO at N
  have hpk : [x0, x1, x2].getD ((st : Nat) : Int).toNat 0 = pk (x0, x1, x2) st := by rcases hst with rfl | rfl <;> rfl
  show wpAny _ _ (isTrue (.Compare _ _ _ _) _ _) _ _ _
  k_steps
  · rename_i hlt0 h9a h9b oP1 dP1 h9 oH1 F1 N1 dH1
    rw [hpk] at hlt0
    have hrR : r < R := by
      rcases Nat.lt_or_ge r R with hh | hh
      · exact hh
      · have : r = R := by lia
        rw [← this, hp] at hhi
        exact absurd hhi (Int.not_le.mpr hlt0)
    clear hlo hhi hfin nT nT1 nT2 nC nC1 nC2
    refine hI.casesOn fun {I0 I1 I2 v0 v1 v2 kI k0 k1 k2} zI zv0 zv1 zv2 e0 e1 e2 => ?_
    refine fold_led (led := (LV, W.listOf (List.toArray (fr ++ [.ref T])) kl) :: (L + 1, oP1) :: (L + 2, oH1) :: tail) (fun q hq => N1 q (sub_use hq (by f_list))) fun fz hfz N1f => ?_
    clear N1
    have g0 : ∀ q ∈ tail, q ∈ fz := fun q hq => hfz _ (mem_t (mem_t (mem_t hq)))
    have g1 : (L + 1, oP1) ∈ fz := hfz _ mm1
    have g7 : (L + 2, oH1) ∈ fz := hfz _ mm2
    have g3 := g0 _ (hnews _ zI)
    have z3 := nth3_mem (hnews _ zv0) (hnews _ zv1) (hnews _ zv2)
    have e3 := nth3_2 (P := IV) e0 e1 e2
    have h3 := nth3_1 (P := fun i : List Int => (∀ c ∈ i, is012 c) ∧ i.length ≤ 100) h0 h1 h2
    clear zv0 zv1 zv2 e0 e1 e2 h0 h1 h2
    refine comp_src0a fz (imSm i0 i1 i2 (x0, x1, x2)) ⟨by rfl, by rfl⟩ rfl (src_listN (by rfl) _ #[.ref I0, .ref I1, .ref I2] _ _ ⟨_, (N1f _ g3).1, rfl, kI, rfl⟩) (fun C => ⟨lookup_relabel_local (by rfl), by rfl⟩) (show 3 ≤ sizeLine by decide) (by decide) rfl F1 N1f (dep1 g3) IV.nil ?_ ?_
    · intro g i ys C9 D9 oC9 m1 m2 h8 tk8 rest8 E8 hi hI8 hB8 hoC8 F8 N8 hr8 hz8 hCD8
      refine testsOf_nil ?_
      exact lv_sum1 w mean mg mb dp un gd outer A₀ base h₀ L _ hB (by assumption) hT hdp hun _ m2 C9 _ C oC9 oP1 _ _ _ kc (x0, x1, x2) a0 a1 a2 _ h8 tk8 _ _ hoC8 (nth3_at hi hB8) dP1 (e3 i) (h3 i).1 (h3 i).2 F8 N8 mm0 (mem_t (mem_t (hz8 _ g1))) (mem_t (mem_t (hz8 _ (g0 _ (z3 i))))) (mem_t (mem_t (hz8 _ (g0 _ zC)))) fun h7 tk7 t7 F7 N7 => TurnEnd0.intro F7 N7 (fun q hq => hq) (hI8.step hi _)
    · intro D1 h8 tk8 ys1 F8 N8 hD1 hI1
      refine hI1.three fun q0 q1 q2 hy => ?_
      rw [hy] at N8
      clear hI1 hy N1f F1
      have hl8 : @LT.lt Nat _ LV D1 := ltM hD1 (hfz _ mm0)
      have hl9 : @LT.lt Nat _ (L + 1) D1 := ltM hD1 g1
      have hl10 : @LT.lt Nat _ (L + 2) D1 := ltM hD1 g7
      have hp1 : ∀ q ∈ tail, @LT.lt Nat _ q.1 D1 := fun q hq => hD1 q (g0 q hq)
      have gV := hfz _ mm0
      have N8e : News h₀ L h8 ((LV, W.listOf (List.toArray (fr ++ [.ref T])) kl) :: fz) := fun q hq => N8 q (sub_use hq (by f_list))
      show wpAny _ _ (execs (_ :: _) _) _ _ _
      k_steps
      clear N8e
      refine comp_src0n ((D1, lst [.int (sm (x0, x1, x2) i0) q0, .int (sm (x0, x1, x2) i1) q1, .int (sm (x0, x1, x2) i2) q2]) :: fz) (imSm i0 i1 i2 (y0, y1, y2)) (src_listN (by rfl) _ #[.ref I0, .ref I1, .ref I2] _ _ ⟨_, (N8 _ (mem_t g3)).1, rfl, kI, rfl⟩) (fun C => ⟨lookup_relabel_local (by rfl), by rfl⟩) (show 3 ≤ sizeLine by decide) (by decide) rfl F8 N8 (dep1 (mem_t g3)) IV.nil ?_ ?_
      · intro g i ys C9 D9 oC9 m1 m2 h7 tk7 rest8 E8 hi hI8 hB8 hoC8 F7 N7 hr8 hz8 hCD8
        refine testsOf_nil ?_
        exact lv_sum2 w mean mg mb dp un gd outer A₀ base h₀ L _ hB (by assumption) hT hdp hun _ m2 C9 _ H oC9 oH1 _ _ _ kh (y0, y1, y2) b0 b1 b2 _ h7 tk7 _ _ hoC8 (nth3_at hi hB8) dH1 (e3 i) (h3 i).1 (h3 i).2 F7 N7 mm0 (mem_t (mem_t (hz8 _ (mem_t g7)))) (mem_t (mem_t (hz8 _ (mem_t (g0 _ (z3 i)))))) (mem_t (mem_t (hz8 _ (mem_t (g0 _ zH))))) fun h7 tk7 t7 F7 N7 => TurnEnd0.intro F7 N7 (fun q hq => hq) (hI8.step hi _)
      · intro D2 h7 tk7 ys2 F7 N7 hD2 hI2
        refine hI2.three fun u0 u1 u2 hy => ?_
        rw [hy] at N7
        have hl6 : @LT.lt Nat _ D1 D2 := ltM hD2 mm0
        have hl7 : @LT.lt Nat _ LV D2 := Nat.lt_trans hl8 hl6
        have hp2 : ∀ q ∈ tail, @LT.lt Nat _ q.1 D2 := fun q hq => Nat.lt_trans (hp1 q hq) hl6
        have N7 : News h₀ L h7 ((D2, W.listOf #[.int (sm (y0, y1, y2) i0) u0, .int (sm (y0, y1, y2) i1) u1, .int (sm (y0, y1, y2) i2) u2] 3) :: (D1, W.listOf #[.int (sm (x0, x1, x2) i0) q0, .int (sm (x0, x1, x2) i1) q1, .int (sm (x0, x1, x2) i2) q2] 3) :: fz) := N7
        have N7 : News h₀ L h7 ((D2, W.listOf #[.int (sm (y0, y1, y2) i0) u0, .int (sm (y0, y1, y2) i1) u1, .int (sm (y0, y1, y2) i2) u2] 3) :: (D1, W.listOf #[.int (sm (x0, x1, x2) i0) q0, .int (sm (x0, x1, x2) i1) q1, .int (sm (x0, x1, x2) i2) q2] 3) :: (LV, W.listOf (List.toArray (fr ++ [.ref T])) kl) :: (L + 1, oP1) :: (L + 2, oH1) :: tail) := fun q hq => N7 q (sub_use hq (by f_list))
        clear hD1 hD2 N8 F8 hI2 hy
        k_steps
        rename_i T8 h6 l6 h5 F5 N5
        show WTurn _ _ _ _ _ _
        have hs3 : ∀ q ∈ tail, q ∈ (T8, tupO #[.ref D1, .ref D2]) :: (D2, W.listOf #[.int (sm (y0, y1, y2) i0) u0, .int (sm (y0, y1, y2) i1) u1, .int (sm (y0, y1, y2) i2) u2] 3) :: (D1, W.listOf #[.int (sm (x0, x1, x2) i0) q0, .int (sm (x0, x1, x2) i1) q1, .int (sm (x0, x1, x2) i2) q2] 3) :: tail := fun q hq => mem_t (mem_t (mem_t hq))
        refine WTurn.intro (n - 1) _ F5 N5 (fun q hq => ?_) (by lia) (lvJ.mk (fr := fr ++ [.ref T]) (kl := kl + 1) (T := T8) (by lia) dP1 dH1 (fun q hq => hs3 q (hnews q hq)) (all_cons (Nat.ne_of_gt (ltM l6 mm2)) (all_cons (Nat.ne_of_gt hl7) (all_cons (Nat.ne_of_gt hl8) hoa))) (all_cons (Nat.ne_of_gt (ltM l6 mm3)) (all_cons (Nat.ne_of_gt (Nat.lt_trans hl9 hl6)) (all_cons (Nat.ne_of_gt hl9) hob)))
          (all_cons (Nat.ne_of_gt (ltM l6 (mem_t4 mm0))) (all_cons (Nat.ne_of_gt (Nat.lt_trans hl10 hl6)) (all_cons (Nat.ne_of_gt hl10) hoc))) (by rw [List.length_append, hfr]; rfl) (lev_step hfr hlev hs3 (by rw [hp]; exact .mk (hs3 _ zT) (hs3 _ zC) (hs3 _ zH))) (lvAt_succ hp) mm0 mm2 mm1 (by rfl) (by rfl) (by rfl) (by rfl))
        rw [← push_app] at hq
        dsimp only [tupO] at hq
        exact sub_use hq (by f_list)
  · have hr : r = R := by
      rcases Nat.lt_or_ge r R with hh | hh
      · have := hlo r hh
        rw [hp, (hpk.symm : pk ((x0, x1, x2), (y0, y1, y2)).1 st = _)] at this
        exact absurd this (by assumption)
      · lia
    exact hfin _ _ _ _ F N0 (.mk (by lia) dP dH hnews hoa hob hoc hfr hlev hp zT zC zH (by rfl) (by rfl) (by rfl) (by rfl))
end Mine
end
local macro_rules | `(tactic| walk_at "pad") => `(tactic| skip)
section
open PySem PySem.W PyProof.Rows PySem.Spec PySem.Calls
namespace Mine
local macro_rules | `(tactic| walk_at "my enterC") => `(tactic| (apply code_defC; (walk_at "k5"); exact rfl; exact rfl; assumption; k_is; k_is; ktr_room; exact BindsTo.of_eq rfl; exact rfl; decide +kernel; rotate_left; (iterate 3 exact rfl); k_whole; intros; rename_i N9 Y9 B9 _ _ _; k_cells Y9; (try simp only [List.cons_append, List.nil_append] at N9); (try dsimp only); (try k_lift B9); (try k_fold)))
open PyProof.Rows.LCg (NsObj ns_obj lst lst_snoc)
local macro_rules | `(tactic| walk_at "exec While") => `(tactic| (k_here; k_dflt (refine AfterWh.go ?_)))
/-- what the levels are when they are told -/
inductive LvFin (news : Led) (i0 i1 i2 : List Int) (R : Nat) : Value → Led → Prop
  | mk {D : Addr} {kD : Nat} {refs : List Value} {led : Led} (hn : ∀ q ∈ news, q ∈ led) (hl : refs.length = R + 1) (hv : ∀ r, r ≤ R → ∃ v, refs[r]? = some v ∧ LevIn led v (lvAt i0 i1 i2 r)) : LvFin news i0 i1 i2 R (.ref D) ((D, W.listOf (List.toArray refs) kD) :: led)
set_option maxHeartbeats 0 in
theorem c_levels (w : World) (mean : ExcName → Option Value) (mg mb : PySem.Str → Option Value) (news : Led) (im : Addr) (i0 i1 i2 : List Int) (st : Nat) (ts : Tok) (pl : Int) (tp : Tok) (R : Nat)
    (hI : ImIn news im i0 i1 i2) (hst : st = 0 ∨ st = 1)
    (h0 : (∀ c ∈ i0, c = 0 ∨ c = 1 ∨ c = 2) ∧ i0.length ≤ 100) (h1 : (∀ c ∈ i1, c = 0 ∨ c = 1 ∨ c = 2) ∧ i1.length ≤ 100) (h2 : (∀ c ∈ i2, c = 0 ∨ c = 1 ∨ c = 2) ∧ i2.length ≤ 100) (hR : R ≤ 100)
    (hlo : ∀ r, r < R → pk (lvAt i0 i1 i2 r).1 st < pl) (hhi : pl ≤ pk (lvAt i0 i1 i2 R).1 st) :
  ClB w mean mg mb 199 news [Value.ref im, .int st ts, .int pl tp]
    (LvFin news i0 i1 i2 R) := by
  unfold ClB
  k_fill
  intro dp un gd cn cs a ccd cl outer A₀ base h₀ L m s Q E hB hF hX hN hT hk hdp hun hret
  refine wpAny_call ?_
  k_dflt (walk_at "my enterC")
  show wpAny _ _ _ _ _ _
  k_fold
  k_steps
  rename_i g0 L0 hh0 tk0 FG0 B0 X0 T0 hltL o1 o2 d1 d2 lA hA iA lB hB' iB DT hT' iT LV hL iL hW FW NW
  have hlv1 : @Ne Nat LV (L0 + 1) := Nat.ne_of_gt (ltM iL (mem_t4 mm0))
  have hlv2 : @Ne Nat LV (L0 + 2) := Nat.ne_of_gt (ltM iL mm3)
  have NW1 : News g0 L0 hW ((LV, W.listOf (List.toArray ([] ++ [Value.ref DT])) 0) :: (DT, tupO #[.ref lA, .ref lB]) :: (lB, W.listOf #[.int 2 (tk0 + 1 + 1 + 1), .int 1 (tk0 + 1 + 1 + 1 + 1), .int 0 (tk0 + 1 + 1 + 1 + 1 + 1)] 0) :: (lA, W.listOf #[.int 1 tk0, .int 1 (tk0 + 1), .int 1 (tk0 + 1 + 1)] 0) :: (L0 + 2, o1) :: (L0 + 1, o2) :: news) := NW
  refine fold_tail (led := (DT, tupO #[.ref lA, .ref lB]) :: (lB, W.listOf #[.int 2 (tk0 + 1 + 1 + 1), .int 1 (tk0 + 1 + 1 + 1 + 1), .int 0 (tk0 + 1 + 1 + 1 + 1 + 1)] 0) :: (lA, W.listOf #[.int 1 tk0, .int 1 (tk0 + 1), .int 1 (tk0 + 1 + 1)] 0) :: news) (fun q hq => NW1 q (sub_use hq (by f_list)) : News g0 L0 hW ((LV, W.listOf (List.toArray ([] ++ [.ref DT])) 0) :: (L0 + 1, o2) :: (L0 + 2, o1) :: _)) fun tail htail NW' => ?_
  have oA : ∀ q ∈ tail, q.1 ≠ LV := fun q hq => all_cons (P := fun q : Addr × Obj => q.1 ≠ LV) (Nat.ne_of_lt (ltM iL mm0)) (all_cons (Nat.ne_of_lt (ltM iL mm1)) (all_cons (Nat.ne_of_lt (ltM iL mm2)) fun q hq => Nat.ne_of_lt (iL _ (mem_t4 (mem_t hq))))) q (htail.2 q hq)
  have oB : ∀ q ∈ tail, q.1 ≠ L0 + 1 := fun q hq => all_cons (P := fun q : Addr × Obj => q.1 ≠ L0 + 1) (Nat.ne_of_gt (ltM iT mm3)) (all_cons (Nat.ne_of_gt (ltM iB mm2)) (all_cons (Nat.ne_of_gt (ltM iA mm1)) fun q hq => Nat.ne_of_lt (Nat.lt_succ_of_lt (hltL q hq)))) q (htail.2 q hq)
  have oC : ∀ q ∈ tail, q.1 ≠ L0 + 2 := fun q hq => all_cons (P := fun q : Addr × Obj => q.1 ≠ L0 + 2) (Nat.ne_of_gt (ltM iT mm2)) (all_cons (Nat.ne_of_gt (ltM iB mm1)) (all_cons (Nat.ne_of_gt (ltM iA mm0)) fun q hq => Nat.ne_of_lt (Nat.lt_succ_of_lt (Nat.lt_succ_of_lt (hltL q hq))))) q (htail.2 q hq)
  unfold AfterWh
  refine lv_while w mean mg mb _ _ _ _ _ _ _ L0 LV _ hlv1 hlv2 B0 X0 T0 (by ktr_room) (by ktr_units) news im i0 i1 i2 st ts pl tp R hI hst h0 h1 h2 hR hlo hhi _ _ hW _ _ _ FW NW' (.mk (fr := []) rfl d2 d1 (fun q hq => htail.1 _ (mem_t (mem_t (mem_t hq)))) oA oB oC rfl (fun j hj => absurd hj (Nat.not_lt_zero j)) rfl (htail.1 _ mm0) (htail.1 _ mm2) (htail.1 _ mm1) (by rfl) (by rfl) (by rfl) (by rfl)) (fun m' led' h' tk' F2 N2 J2 => ?_)
  clear NW NW1 NW' FW hltL oA oB oC htail
  revert F2 N2
  refine J2.casesOn fun {r fr kl kc kh oP oH vP vH tail2 T C H x0 x1 x2 y0 y1 y2 a0 a1 a2 b0 b1 b2 m} hn dP dH hnews hoa hob hoc hfr hlev hp zT zC zH m1 m2 m3 m4 F2 N2 => ?_
  have hrR : r = R := (Nat.zero_add r).symm.trans hn
  have F := fixF F2 m4
  clear F2
  k_steps
  rename_i kF kN _ _
  exact hret _ _ _ _ (.mk (refs := fr ++ [.ref T]) hnews (by rw [List.length_append, hfr, hrR]; rfl) (fun j hj => lev_step hfr hlev (fun _ h => h) (by rw [hp]; exact .mk zT zC zH) j (Nat.lt_succ_of_le (hrR ▸ hj)))) kF (fun q hq => kN q (sub_use hq (by f_list)))
end Mine
end
section
open PySem PySem.W PyProof.Rows PySem.Spec PySem.Calls
namespace Mine
open PyProof.Rows.LCg (NsObj ns_obj lst lst_snoc)
local macro_rules | `(tactic| k_all) => `(tactic| first | assumption | exact all_ne_of_lt (by assumption) (by lia))
theorem filterMap_of {α β : Type} (g : Nat → Option β) (f : Nat → β) : ∀ (l : List Nat), (∀ k ∈ l, g k = some (f k)) → l.filterMap g = l.map f
  | [], _ => rfl
  | a :: l, h => by
    rw [List.filterMap_cons, h a List.mem_cons_self, List.map_cons, filterMap_of (α := α) g f l fun k hk => h k (List.mem_cons_of_mem _ hk)]
theorem pick_rev (items : Array Value) (R : Nat) (f : Nat → Value) (hz : items.size = R + 1) (hf : ∀ j, j ≤ R → items[j]? = some (f j)) : slicePick items (some (-2)) none (some (-1)) = ((List.range R).map fun k => f (R - 1 - k)).toArray := by
  have e : sliceBounds (some (-2)) none (some (-1)) items.size = ((R : Int) - 1, -1, -1) := by
    simp only [sliceBounds, hz, Option.getD_some]
    refine Prod.ext ?_ rfl
    show max (-1 : Int) (min (if (-2 : Int) < 0 then -2 + ((R + 1 : Nat) : Int) else -2) (((R + 1 : Nat) : Int) - 1)) = _
    rw [if_pos (by decide)]
    lia
  unfold slicePick
  rw [e]
  congr 1
  unfold sliceRange
  have ec : (if ((R : Int) - 1) > -1 then ((R : Int) - 1 - -1 - -1 - 1) / - -1 else 0).toNat = R := by
    split
    · simp
    · lia
  dsimp only
  rw [if_neg (by decide), ec, List.filterMap_map]
  exact filterMap_of (α := Nat) _ _ _ fun k hk => by
    have hk := List.mem_range.mp hk
    show items[((R : Int) - 1 + -1 * (k : Int)).toNat]? = _
    rw [show ((R : Int) - 1 + -1 * (k : Int)).toNat = R - 1 - k by lia]
    exact hf _ (by lia)
theorem src_listP {prog : Program} {w : World} {A : Around} {s₁ : Shared} (hh : A.handled = none) (ax : Addr) (items : Array Value) (Ts : Nat → Addr) (va vb : Nat → Value) (x y : Str) (px py pos : Pos) (k : Nat) (hl : s₁.heap.IsList ax items)
    (hit : ∀ j, j < items.size → items[j]? = some (.ref (Ts j))) (ht : ∀ j, j < items.size → s₁.heap.IsTuple (Ts j) #[va j, vb j]) :
    Source prog w A (.Tuple [.Name x px, .Name y py] k pos) (okP x y) items.size (BP x y fun i a b => a = va i ∧ b = vb i) (ax :: (List.range items.size).map Ts) s₁.heap.objs.size s₁ (.ref ax) where
  run := fun K E h => by
    have hlt : ax < s₁.heap.objs.size := by obtain ⟨_, e, _⟩ := hl; exact Heap.lt_size e
    have hTl : ∀ j, j < items.size → Ts j < s₁.heap.objs.size := fun j hj => by obtain ⟨_, e, _⟩ := ht j hj; exact Heap.lt_size e
    refine wpAny_pyIter_list hl ?_
    refine h _ [s₁.heap.objs.size] (s₁.heap.objs.size :: ax :: (List.range items.size).map Ts) _ _ (fun env' ok => (Steps.pair hh (WalksU.listOfTuples hh s₁.heap.objs.size ax (Nat.ne_of_lt hlt) items Ts (fun j => #[va j, vb j]) hit fun j hj => Nat.ne_of_lt (hTl j hj)) (fun i vals e => by rw [e]; rfl) ok.1 ok.2.1 ok.2.2).mono ?_) ⟨⟨_, Heap.get?_push_size _ rfl, rfl, rfl⟩, hl.push _, fun j hj => ?_⟩ (fun b hb => ?_) (fun b hb => ⟨?_, ?_⟩) (fun b o e => Heap.get?_push_of_some _ e) (by rw [Heap.size_push]; exact Nat.le_succ _)
    · rintro i m m' ⟨p, q, e, rfl⟩
      cases e
      exact ⟨_, _, ⟨rfl, rfl⟩, rfl⟩
    · refine Classical.byContradiction fun gK => ?_
      obtain ⟨o, e, r⟩ := ht j hj
      refine gK ?_
      clear gK
      exact ⟨o, Heap.get?_push_of_some _ e, r⟩
    · rw [Heap.size_push]
      rcases List.mem_cons.mp hb with rfl | hb
      · exact ⟨Nat.lt_succ_self _, .inl List.mem_cons_self⟩
      · refine ⟨?_, .inr hb⟩
        rcases List.mem_cons.mp hb with rfl | hb
        · exact Nat.lt_succ_of_lt hlt
        · obtain ⟨j, hj, rfl⟩ := List.mem_map.mp hb
          exact Nat.lt_succ_of_lt (hTl j (List.mem_range.mp hj))
    all_goals (rw [List.mem_singleton.mp hb]; first | exact Nat.le_refl _ | (rw [Heap.size_push]; exact Nat.lt_succ_self _))
noncomputable abbrev S3 := Int × Int × Int
noncomputable def scan (P H : T3) : List Int → S3 → S3
  | [], s => s
  | c :: cs, s => if s.1 < pk P c then (s.1, c, s.2.2) else scan P H cs (s.1 - pk P c, s.2.1, s.2.2 + pk H c)
noncomputable def tdS (i0 i1 i2 : List Int) (R : Nat) (s0 : S3) : Nat → S3
  | 0 => s0
  | i + 1 => scan (lvAt i0 i1 i2 (R - 1 - i)).1 (lvAt i0 i1 i2 (R - 1 - i)).2 (imK i0 i1 i2 (tdS i0 i1 i2 R s0 i).2.1) (tdS i0 i1 i2 R s0 i)
theorem scan_kind (P H : T3) : ∀ (im : List Int) (s : S3), (∀ c ∈ im, is012 c) → is012 s.2.1 → is012 (scan P H im s).2.1
  | [], s, _, h => h
  | c :: cs, s, hc, h => by
    unfold scan
    split
    · exact hc c List.mem_cons_self
    · exact scan_kind P H cs _ (fun d hd => hc d (List.mem_cons_of_mem _ hd)) h
noncomputable def tdDef : Stmt := stmtAt 24
noncomputable def tdFor : PySem.Expr × PySem.Expr × List Stmt × Pos := forPart ((defBody tdDef).getD 1 (.Pass default))
noncomputable def tdFin : PySem.Expr × PySem.Expr × List Stmt × Pos := forPart (tdFor.2.2.1.getD 0 (.Pass default))
noncomputable abbrev tdN : Str := Str.ofString "_law_told"
noncomputable def tdM (m : Nm) (im : Addr) (pl : Int) (s : S3) : Prop :=
  (∃ t, m (Str.ofString "part") = some (.int s.1 t)) ∧ (∃ t, m (Str.ofString "kind") = some (.int s.2.1 t)) ∧ (∃ t, m (Str.ofString "ahead") = some (.int s.2.2 t)) ∧ m (Str.ofString "images") = some (.ref im) ∧ ∃ t, m (Str.ofString "place") = some (.int pl t)
noncomputable def tdMi (m : Nm) (im : Addr) (pl : Int) (C Hh : Addr) (s : S3) : Prop := tdM m im pl s ∧ m (Str.ofString "pairs") = some (.ref C) ∧ m (Str.ofString "heads") = some (.ref Hh)
theorem tdM.elim {m : Nm} {im : Addr} {pl : Int} {s : S3} {C : Prop} (h : tdM m im pl s)
    (k : ∀ t1 t2 t3 t4, m (Str.ofString "part") = some (.int s.1 t1) → m (Str.ofString "kind") = some (.int s.2.1 t2) → m (Str.ofString "ahead") = some (.int s.2.2 t3) → m (Str.ofString "images") = some (.ref im) → m (Str.ofString "place") = some (.int pl t4) → C) : C := by
  obtain ⟨⟨t1, m1⟩, ⟨t2, m2⟩, ⟨t3, m3⟩, m4, t4, m5⟩ := h
  exact k t1 t2 t3 t4 m1 m2 m3 m4 m5
theorem tdM.mk {m : Nm} {im : Addr} {pl : Int} {s : S3} {t1 t2 t3 t4 : Tok} (m1 : m (Str.ofString "part") = some (.int s.1 t1)) (m2 : m (Str.ofString "kind") = some (.int s.2.1 t2)) (m3 : m (Str.ofString "ahead") = some (.int s.2.2 t3)) (m4 : m (Str.ofString "images") = some (.ref im)) (m5 : m (Str.ofString "place") = some (.int pl t4)) : tdM m im pl s :=
  ⟨⟨t1, m1⟩, ⟨t2, m2⟩, ⟨t3, m3⟩, m4, t4, m5⟩
theorem tdMi.mk {m : Nm} {im : Addr} {pl : Int} {Cc Hh : Addr} {s : S3} {t1 t2 t3 t4 : Tok} (m1 : m (Str.ofString "part") = some (.int s.1 t1)) (m2 : m (Str.ofString "kind") = some (.int s.2.1 t2)) (m3 : m (Str.ofString "ahead") = some (.int s.2.2 t3)) (m4 : m (Str.ofString "images") = some (.ref im)) (m5 : m (Str.ofString "place") = some (.int pl t4)) (m6 : m (Str.ofString "pairs") = some (.ref Cc)) (m7 : m (Str.ofString "heads") = some (.ref Hh)) : tdMi m im pl Cc Hh s :=
  ⟨tdM.mk m1 m2 m3 m4 m5, m6, m7⟩
local macro_rules | `(tactic| walk_at "subscriptTail Name Name ref int") => `(tactic| (k_here; with_unfolding_all (apply item_litK; (walk_at "li9"); lia; lia; assumption; rotate_left; rfl; k_whole)))
set_option maxHeartbeats 0 in
theorem td_in (w : World) (mean : ExcName → Option Value) (mg mb : PySem.Str → Option Value) (dp un : Nat) (gd : Option (List Code)) (outer : List Env) (A₀ : Around) (base h₀ : Heap) (L : Addr) (s₁ : Shared)
    (hB : Below A₀ base outer h₀) (hX : (K w.params).In h₀) (hT : Top topProg lw mean mg mb h₀) (hdp : dp + 50 < recursionLimit) (hun : un + 250 < cLine)
    (m : Nm) (im : Addr) (pl : Int) (P H : T3) (s : S3) (c : Int) (tc : Tok) (C Hh : Addr) (a0 a1 a2 b0 b1 b2 : Tok) (kc kh : Nat) (rest : Led) (h : Heap) (tk : Nat) (Q : Flow → Shared → Prop) (E' : Value → Shared → Prop)
    (hc : is012 c) (hm : tdMi m im pl C Hh s)
    (F : Fr h₀ L h (setN m (Str.ofString "child") (.int c tc))) (N : News h₀ L h rest) (zC : (C, W.listOf #[.int P.1 a0, .int P.2.1 a1, .int P.2.2 a2] kc) ∈ rest) (zH : (Hh, W.listOf #[.int H.1 b0, .int H.2.1 b1, .int H.2.2 b2] kh) ∈ rest)
    (hb : s.1 < pk P c → ∀ m' h' tk', Fr h₀ L h' m' → News h₀ L h' rest → tdMi m' im pl C Hh (s.1, c, s.2.2) → Q .brk { s₁ with heap := h', toks := tk' })
    (hn : ¬ s.1 < pk P c → ∀ m' h' tk', Fr h₀ L h' m' → News h₀ L h' rest → tdMi m' im pl C Hh (s.1 - pk P c, s.2.1, s.2.2 + pk H c) → Q .next { s₁ with heap := h', toks := tk' }) :
    wpAny (model PySem.Challenge.rw_tp0040_01.row.prog w) (ktrTop dp un gd tdN (defScope tdDef) L 206 (.ref 205) [] outer) (execs tdFin.2.2.1 (envX tdN (defScope tdDef) L 206 (.ref 205) [])) Q E' { s₁ with heap := h, toks := tk } := by
  revert hX
  k_fill
  intro hX
  refine tdM.elim hm.1 fun tp tk2 ta t8 m1 m2 m3 m7 m8 => ?_
  have hd : ∀ {y : Str} {v : Value}, y ≠ Str.ofString "child" → m y = some v → setN m (Str.ofString "child") (.int c tc) y = some v := fun e e' => (if_neg e).trans e'
  have F := fixF7 F (hd (by decide) m1) (hd (by decide) m2) (hd (by decide) m3) (hd (by decide) hm.2.1) (hd (by decide) hm.2.2) (hd (by decide) m7) (hd (by decide) m8)
  have N1 : News h₀ L h ((C, W.listOf #[.int P.1 a0, .int P.2.1 a1, .int P.2.2 a2] kc) :: (Hh, W.listOf #[.int H.1 b0, .int H.2.1 b1, .int H.2.2 b2] kh) :: rest) := fun q hq => N q (sub_use hq (by f_list))
  clear N m1 m2 m3 m7 m8 hm hd
  have q0 := hc.lo
  have q1 := hc.hi
  have q2 := hc.int P a0 a1 a2
  have q3 := hc.int H b0 b1 b2
  show wpAny _ _ (execs (_ :: _) _) _ _ _
  k_steps
  · exact hb (by assumption) _ _ _ (by assumption) (fun q hq => (by assumption : News _ _ _ _) q (List.mem_cons_of_mem _ (List.mem_cons_of_mem _ hq))) (tdMi.mk (by rfl) (by rfl) (by rfl) (by rfl) (by rfl) (by rfl) (by rfl))
  · exact hn (by assumption) _ _ _ (by assumption) (fun q hq => (by assumption : News _ _ _ _) q (List.mem_cons_of_mem _ (List.mem_cons_of_mem _ hq))) (tdMi.mk (by rfl) (by rfl) (by rfl) (by rfl) (by rfl) (by rfl) (by rfl))
end Mine
end
section
open PySem PySem.W PyProof.Rows PySem.Spec PySem.Calls
namespace Mine
open PyProof.Rows.LCg (NsObj ns_obj lst lst_snoc)
local macro_rules | `(tactic| walk_at "exec For Name Subscript cons nil") => `(tactic| (k_here; k_dflt (refine For_W ?_)))
local macro_rules | `(tactic| walk_at "subscriptTail Name Name ref int") => `(tactic| (k_here; with_unfolding_all (apply item_litK; (walk_at "li9"); omega; omega; assumption; rotate_left; rfl; k_whole)))
theorem imK_012 {i0 i1 i2 : List Int} (h0 : ∀ c ∈ i0, is012 c) (h1 : ∀ c ∈ i1, is012 c) (h2 : ∀ c ∈ i2, is012 c) (k : Int) : ∀ c ∈ imK i0 i1 i2 k, is012 c := by
  unfold imK
  split
  · exact h0
  · split
    · exact h1
    · exact h2
/-- where the inner loop stands -/
noncomputable def TdI (P H : T3) (il : List Int) (s : S3) (im : Addr) (pl : Int) (C Hh : Addr) (i : Nat) (m : Nm) : Prop := ∃ s', scan P H (il.drop i) s' = scan P H il s ∧ tdMi m im pl C Hh s'
theorem TdI.elim {P H : T3} {il : List Int} {s : S3} {im : Addr} {pl : Int} {Cc Hh : Addr} {i : Nat} {m : Nm} {C : Prop} (h : TdI P H il s im pl Cc Hh i m) (k : ∀ s', scan P H (il.drop i) s' = scan P H il s → tdMi m im pl Cc Hh s' → C) : C := by
  obtain ⟨s', a, b⟩ := h
  exact k s' a b
theorem scan_lt {P H : T3} {il : List Int} {i : Nat} {s' S : S3} (hi : i < il.length) (h : scan P H (il.drop i) s' = S) (hl : s'.1 < pk P il[i]) : (s'.1, il[i], s'.2.2) = S := by
  rw [List.drop_eq_getElem_cons hi] at h
  exact (if_pos hl).symm.trans h
theorem scan_ge {P H : T3} {il : List Int} {i : Nat} {s' S : S3} (hi : i < il.length) (h : scan P H (il.drop i) s' = S) (hl : ¬ s'.1 < pk P il[i]) : scan P H (il.drop (i + 1)) (s'.1 - pk P il[i], s'.2.1, s'.2.2 + pk H il[i]) = S := by
  rw [List.drop_eq_getElem_cons hi] at h
  exact (if_neg hl).symm.trans h
theorem tdM.next {m1 m2 : Nm} {im C H : Addr} {pl : Int} {s : S3} {a b : Value} (h : tdM m1 im pl s) (hB : (a = .ref C ∧ b = .ref H) ∧ m2 = setN (setN m1 (Str.ofString "pairs") a) (Str.ofString "heads") b) : tdMi m2 im pl C H s :=
  h.elim fun tp tk2 ta t8 m1' m2' m3' m7' m8' => by
    rw [hB.2, hB.1.1, hB.1.2]
    exact tdMi.mk ((if_neg (by decide)).trans ((if_neg (by decide)).trans m1')) ((if_neg (by decide)).trans ((if_neg (by decide)).trans m2')) ((if_neg (by decide)).trans ((if_neg (by decide)).trans m3')) ((if_neg (by decide)).trans ((if_neg (by decide)).trans m7')) ((if_neg (by decide)).trans ((if_neg (by decide)).trans m8')) rfl rfl
set_option maxHeartbeats 0 in
theorem td_out (w : World) (mean : ExcName → Option Value) (mg mb : PySem.Str → Option Value) (dp un : Nat) (gd : Option (List Code)) (outer : List Env) (A₀ : Around) (base h₀ : Heap) (L : Addr) (s₁ : Shared)
    (hB : Below A₀ base outer h₀) (hX : (K w.params).In h₀) (hT : Top topProg lw mean mg mb h₀) (hdp : dp + 50 < recursionLimit) (hun : un + 250 < cLine)
    (m : Nm) (im : Addr) (pl : Int) (i0 i1 i2 : List Int) (P H : T3) (s : S3) (C Hh : Addr) (rest : Led) (h : Heap) (tk : Nat) (Q : Flow → Shared → Prop) (E' : Value → Shared → Prop)
    (hI : ImIn rest im i0 i1 i2) (h0 : (∀ c ∈ i0, is012 c) ∧ i0.length ≤ 100) (h1 : (∀ c ∈ i1, is012 c) ∧ i1.length ≤ 100) (h2 : (∀ c ∈ i2, is012 c) ∧ i2.length ≤ 100)
    (hc : is012 s.2.1) (hm : tdMi m im pl C Hh s)
    (F : Fr h₀ L h m) (N : News h₀ L h rest) (hC : ∃ a : Tok × Tok × Tok × Nat, (C, W.listOf #[.int P.1 a.1, .int P.2.1 a.2.1, .int P.2.2 a.2.2.1] a.2.2.2) ∈ rest) (hH : ∃ a : Tok × Tok × Tok × Nat, (Hh, W.listOf #[.int H.1 a.1, .int H.2.1 a.2.1, .int H.2.2 a.2.2.1] a.2.2.2) ∈ rest)
    (hn : ∀ m' h' tk', Fr h₀ L h' m' → News h₀ L h' rest → tdMi m' im pl C Hh (scan P H (imK i0 i1 i2 s.2.1) s) → Q .next { s₁ with heap := h', toks := tk' }) :
    wpAny (model PySem.Challenge.rw_tp0040_01.row.prog w) (ktrTop dp un gd tdN (defScope tdDef) L 206 (.ref 205) [] outer) (execs tdFor.2.2.1 (envX tdN (defScope tdDef) L 206 (.ref 205) [])) Q E' { s₁ with heap := h, toks := tk } := by
  refine hC.elim fun a zC => hH.elim fun b zH => ?_
  clear hC hH
  revert hX
  k_fill
  intro hX
  have F0 := F
  refine tdM.elim hm.1 fun tp tk2 ta t8 m1 m2 m3 m7 m8 => ?_
  have F := fixF7 F m1 m2 m3 hm.2.1 hm.2.2 m7 m8
  clear m1 m2 m3 m7 m8
  refine ImIn.at hI hc fun I0 I1 I2 n v kv zI zv e => ?_
  have N1 : News h₀ L h ((im, W.listOf #[.ref I0, .ref I1, .ref I2] n) :: rest) := fun q hq => N q (sub_use hq (by f_list))
  have q0 := hc.lo
  have q1 := hc.hi
  have q2 := hc.ref I0 I1 I2
  show wpAny _ _ (execs (_ :: _) _) _ _ _
  k_steps
  clear F N1 q0 q1 q2
  have hil : ∀ c ∈ imK i0 i1 i2 s.2.1, is012 c := imK_012 h0.1 h1.1 h2.1 s.2.1
  refine for_src0 rest (TdI P H (imK i0 i1 i2 s.2.1) s im pl C Hh) (fun m' => tdMi m' im pl C Hh (scan P H (imK i0 i1 i2 s.2.1) s)) (fun _ _ => False) (src_listN (by rfl) _ v.toArray _ _ ⟨_, (N _ zv).1, rfl, kv, rfl⟩) ⟨by rfl, by rfl⟩ rfl F0 N (dep1 zv) ⟨s, rfl, hm⟩ ?_ ?_ ?_ (fun _ _ _ _ h => h.elim)
  · intro g i m1 m2 h tk rest1 E1 hi hI hB9 F N hz
    refine TdI.elim hI fun s' hs' hm1 => ?_
    refine hB9.elim fun w0 hw0 => ?_
    refine e.item hi hw0.1 fun hl t e9 => ?_
    refine td_in w mean mg mb dp un gd outer A₀ base h₀ L _ hB (by assumption) hT hdp hun m1 im pl P H s' (imK i0 i1 i2 s.2.1)[i] t C Hh a.1 a.2.1 a.2.2.1 b.1 b.2.1 b.2.2.1 a.2.2.2 b.2.2.2 rest1 h tk _ _ (hil _ (List.getElem_mem hl)) hm1 (by rw [hw0.2, e9] at F; exact F) N (hz _ zC) (hz _ zH) (fun hlt m' h' tk' F' N' hm' => ?_) (fun hlt m' h' tk' F' N' hm' => ?_)
    · exact ForEnd0.intro F' N' (fun _ h => h) (scan_lt hl hs' hlt ▸ hm')
    · exact ForEnd0.intro F' N' (fun _ h => h) ⟨_, scan_ge hl hs' hlt, hm'⟩
  · intro h tk m' hI F N
    refine TdI.elim hI fun s' hs' hm1 => ?_
    have e9 : v.toArray.size = (imK i0 i1 i2 s.2.1).length := e.length
    rw [e9, List.drop_length] at hs'
    exact wpAny_execs_nil (hn _ _ _ F N (hs' ▸ hm1))
  · intro h tk m' hI F N
    exact wpAny_execs_nil (hn _ _ _ F N hI)
end Mine
end
local macro_rules | `(tactic| walk_at "pad") => `(tactic| skip)
section
open PySem PySem.W PyProof.Rows PySem.Spec PySem.Calls
namespace Mine
open PyProof.Rows.LCg (NsObj ns_obj lst lst_snoc)
local macro_rules | `(tactic| k_all) => `(tactic| first | assumption | exact all_ne_of_lt (by assumption) (by lia))
local macro_rules | `(tactic| walk_at "exec For Tuple Subscript cons nil") => `(tactic| (k_here; k_dflt (refine For_W ?_)))
local macro_rules | `(tactic| walk_at "subscriptTail Name Slice ref ref") => `(tactic| (k_here; k_dflt (apply kmk_slice3_lit; k_asm; k_asm; (walk_at "li9"); kmk_part; kmk_part; kmk_part; decide; assumption; rotate_left; (with_unfolding_all rfl); kmk_pure; assumption); intros; (try k_sweep)))
noncomputable def toldF (pl : Int) (s : S3) : Int × Int := if pl.fmod 2 = 0 then (s.2.2, if s.2.1 = 2 then 1 else 0) else (s.2.2 + (if s.2.1 = 2 then 0 else 1), if s.2.1 = 0 then 0 else 1)
theorem told_ret {h₀ h : Heap} {L T : Addr} {o : Obj} {rest news : Led} (N : News h₀ L h ((T, o) :: rest)) (hs : ∀ q ∈ news, q ∈ rest) : News h₀ L h ((T, o) :: news) := fun q hq => N q ((List.mem_cons.mp hq).elim (fun e => e ▸ List.mem_cons_self) fun hq => List.mem_cons_of_mem _ (hs q hq))
theorem tdS_kind {i0 i1 i2 : List Int} (h0 : ∀ c ∈ i0, is012 c) (h1 : ∀ c ∈ i1, is012 c) (h2 : ∀ c ∈ i2, is012 c) (R : Nat) (s0 : S3) (hs : is012 s0.2.1) : ∀ i, is012 (tdS i0 i1 i2 R s0 i).2.1
  | 0 => hs
  | i + 1 => scan_kind _ _ _ _ (imK_012 h0 h1 h2 _) (tdS_kind h0 h1 h2 R s0 hs i)
theorem toldF_even {pl : Int} {S : S3} {y : Int} (hp : pl.fmod 2 = 0) (h : (if S.2.1 = 2 then (1 : Int) else 0) = y) : toldF pl S = (S.2.2, y) := by
  unfold toldF
  rw [if_pos hp, h]
theorem toldF_odd {pl : Int} {S : S3} {x y : Int} (hp : ¬ pl.fmod 2 = 0) (h : (if S.2.1 = 2 then (0 : Int) else 1) = x) (h' : (if S.2.1 = 0 then (0 : Int) else 1) = y) : toldF pl S = (S.2.2 + x, y) := by
  unfold toldF
  rw [if_neg hp, h, h']
/-- what is told of a place -/
inductive ToldFin (news : Led) (p : Int × Int) : Value → Led → Prop
  | mk {T : Addr} {t1 t2 : Tok} (h : AllLt T news) : ToldFin news p (.ref T) ((T, tupO #[.int p.1 t1, .int p.2 t2]) :: news)
theorem told_leaf {h₀ : Heap} {L : Addr} {m : Nm} {news rest : Led} {p : Int × Int} {s : Shared} {Q : Value → Shared → Prop} {T : Addr} {x y : Int} {t1 t2 : Tok} {h : Heap} {tk : Nat} (hret : ∀ v news' h' tk', ToldFin news p v news' → Fr h₀ L h' m → News h₀ L h' news' → Q v { s with heap := h', toks := tk' })
    (e : p = (x, y)) (lT : ∀ q ∈ rest, q.1 < T) (F : Fr h₀ L h m) (N : News h₀ L h ((T, { cls := .type "tuple", data := .seq #[.int x t1, .int y t2] }) :: rest)) (hs : ∀ q ∈ news, q ∈ rest) : Q (.ref T) { s with heap := h, toks := tk } :=
  hret _ _ _ _ (.mk (t1 := t1) (t2 := t2) (allLt_of fun q hq => lT q (hs q hq))) F (by rw [e]; exact told_ret N hs)
/-- the levels, by functions -/
structure LvOf (news : Led) (refs : List Value) (R : Nat) (g : Nat → T3 × T3) (f : Nat → Addr × Addr × Addr) : Prop where
  at0 : ∀ r, r ≤ R → refs[r]? = some (.ref (f r).1)
  tup : ∀ r, r ≤ R → ((f r).1, tupO #[.ref (f r).2.1, .ref (f r).2.2]) ∈ news
  lsC : ∀ r, r ≤ R → ∃ a : Tok × Tok × Tok × Nat, ((f r).2.1, W.listOf #[.int (g r).1.1 a.1, .int (g r).1.2.1 a.2.1, .int (g r).1.2.2 a.2.2.1] a.2.2.2) ∈ news
  lsH : ∀ r, r ≤ R → ∃ a : Tok × Tok × Tok × Nat, ((f r).2.2, W.listOf #[.int (g r).2.1 a.1, .int (g r).2.2.1 a.2.1, .int (g r).2.2.2 a.2.2.1] a.2.2.2) ∈ news
theorem LvOf.mono {l1 l2 : Led} {refs : List Value} {R : Nat} {g : Nat → T3 × T3} {f : Nat → Addr × Addr × Addr} (h : LvOf l1 refs R g f) (hs : ∀ q ∈ l1, q ∈ l2) : LvOf l2 refs R g f :=
  ⟨h.at0, fun r hr => hs _ (h.tup r hr), fun r hr => (h.lsC r hr).elim fun a z => ⟨a, hs _ z⟩, fun r hr => (h.lsH r hr).elim fun a z => ⟨a, hs _ z⟩⟩
theorem lvOf_at {news : Led} {v : Value} {p : T3 × T3} (h : LevIn news v p) : ∃ q : Addr × Addr × Addr, v = .ref q.1 ∧ (q.1, tupO #[.ref q.2.1, .ref q.2.2]) ∈ news ∧ (∃ a : Tok × Tok × Tok × Nat, (q.2.1, W.listOf #[.int p.1.1 a.1, .int p.1.2.1 a.2.1, .int p.1.2.2 a.2.2.1] a.2.2.2) ∈ news) ∧ ∃ a : Tok × Tok × Tok × Nat, (q.2.2, W.listOf #[.int p.2.1 a.1, .int p.2.2.1 a.2.1, .int p.2.2.2 a.2.2.1] a.2.2.2) ∈ news :=
  h.casesOn fun {p T C H a0 a1 a2 b0 b1 b2 kc kh} z1 z2 z3 => ⟨(T, C, H), rfl, z1, ⟨(a0, a1, a2, kc), z2⟩, (b0, b1, b2, kh), z3⟩
theorem lvOf {news : Led} {refs : List Value} {R : Nat} {g : Nat → T3 × T3} {C : Prop} (h : ∀ r, r ≤ R → ∃ v, refs[r]? = some v ∧ LevIn news v (g r)) (k : ∀ f, LvOf news refs R g f → C) : C := by
  have hc : ∀ r : Nat, ∃ q : Addr × Addr × Addr, r ≤ R → refs[r]? = some (.ref q.1) ∧ (q.1, tupO #[.ref q.2.1, .ref q.2.2]) ∈ news ∧ (∃ a : Tok × Tok × Tok × Nat, (q.2.1, W.listOf #[.int (g r).1.1 a.1, .int (g r).1.2.1 a.2.1, .int (g r).1.2.2 a.2.2.1] a.2.2.2) ∈ news) ∧ ∃ a : Tok × Tok × Tok × Nat, (q.2.2, W.listOf #[.int (g r).2.1 a.1, .int (g r).2.2.1 a.2.1, .int (g r).2.2.2 a.2.2.1] a.2.2.2) ∈ news := fun r => by
    by_cases hr : r ≤ R
    · exact (h r hr).elim fun v hv => (lvOf_at hv.2).elim fun q hq => ⟨q, fun _ => ⟨hq.1 ▸ hv.1, hq.2⟩⟩
    · exact ⟨(0, 0, 0), fun h => absurd h hr⟩
  exact (Classical.axiomOfChoice hc).elim fun f hf => k f ⟨fun r hr => (hf r hr).1, fun r hr => (hf r hr).2.1, fun r hr => (hf r hr).2.2.1, fun r hr => (hf r hr).2.2.2⟩
theorem st012 {st : Nat} (h : st = 0 ∨ st = 1) {x y : Int} : is012 ((x, (st : Int), y) : S3).2.1 := by rcases h with rfl | rfl; exact .inl rfl; exact .inr (.inl rfl)
theorem rev_item {f : Nat → Addr × Addr × Addr} {R j : Nat} (h : j < (List.map (fun k => Value.ref (f (R - 1 - k)).1) (List.range R)).toArray.size) : (List.map (fun k => Value.ref (f (R - 1 - k)).1) (List.range R)).toArray[j]? = some (.ref (f (R - 1 - j)).1) := by
  have h : j < R := by simpa using h
  simp [h]
set_option maxHeartbeats 0 in
theorem c_told (w : World) (mean : ExcName → Option Value) (mg mb : PySem.Str → Option Value) (news : Led) (pl : Int) (tpl : Tok) (im : Addr) (i0 i1 i2 : List Int) (st : Nat) (ts : Tok) (LV : Addr) (refs : List Value) (kD R : Nat)
    (hI : ImIn news im i0 i1 i2) (hst : st = 0 ∨ st = 1)
    (h0 : (∀ c ∈ i0, is012 c) ∧ i0.length ≤ 100) (h1 : (∀ c ∈ i1, is012 c) ∧ i1.length ≤ 100) (h2 : (∀ c ∈ i2, is012 c) ∧ i2.length ≤ 100) (hR : R ≤ 100)
    (hLV : (LV, W.listOf (List.toArray refs) kD) ∈ news) (hlen : refs.length = R + 1) (hlev : ∀ r, r ≤ R → ∃ v, refs[r]? = some v ∧ LevIn news v (lvAt i0 i1 i2 r)) :
  ClB w mean mg mb 206 news [.int pl tpl, .ref im, .int st ts, .ref LV]
    (ToldFin news (toldF pl (tdS i0 i1 i2 R (pl.fdiv 2, (st : Int), 0) R))) := by
  unfold ClB
  k_fill
  intro dp un gd cn cs a ccd cl outer A₀ base h₀ L m s Q E hB hF hX hN hT hk hdp hun hret
  have hN1 : News h₀ L s.heap ((LV, W.listOf (List.toArray refs) kD) :: news) := fun q hq => hN q (sub_use hq (by f_list))
  refine lvOf hlev fun f hf => ?_
  clear hlev
  have hpick : (slicePick (List.toArray refs) (some (-2)) none (some (-1))).toList = (List.range R).map fun k => Value.ref (f (R - 1 - k)).1 :=
    congrArg Array.toList (pick_rev (List.toArray refs) R (fun j => .ref (f j).1) (by simpa using hlen) (fun j hj => by simpa using hf.at0 j hj))
  have hzz : (List.toArray refs).size ≤ sizeLine := by
    have : sizeLine = 16777216 := rfl
    simp [hlen]
    lia
  clear hN
  refine wpAny_call ?_
  k_dflt cell_enter
  k_steps
  rename_i DD hD FD ND lD
  have hzl : (List.map (fun k => Value.ref (f (R - 1 - k)).1) (List.range R)).toArray.size = R := by simp
  refine fold_led (led := (DD, W.listOf (List.map (fun k => Value.ref (f (R - 1 - k)).1) (List.range R)).toArray 0) :: news) (fun q hq => ND q (sub_use hq (by f_list))) fun fz hfz NW => ?_
  clear ND
  have gD := hfz _ mm0
  have gL : ∀ q ∈ news, q ∈ fz := fun q hq => hfz _ (mem_t hq)
  have hlt : ∀ {j : Nat}, j < (List.map (fun k => Value.ref (f (R - 1 - k)).1) (List.range R)).toArray.size → R - 1 - j ≤ R := fun _ => Nat.le_trans (Nat.sub_le _ _) (Nat.sub_le _ _)
  refine for_src0 fz (fun i m' => tdM m' im pl (tdS i0 i1 i2 R (pl.fdiv 2, (st : Int), 0) i)) (fun _ => False) (fun _ _ => False)
    (src_listP (by rfl) DD _ (fun j => (f (R - 1 - j)).1) (fun j => .ref (f (R - 1 - j)).2.1) (fun j => .ref (f (R - 1 - j)).2.2) _ _ _ _ _ _ ⟨_, (NW _ gD).1, rfl, 0, rfl⟩ (fun j hj => rev_item hj) (fun j hj => ⟨_, (NW _ (gL _ (hf.tup _ (hlt hj)))).1, rfl, 0, rfl⟩)) ⟨by rfl, by rfl, by rfl⟩ rfl FD NW (fun b hb => ?_) (tdM.mk (by rfl) (by rfl) (by rfl) (by rfl) (by rfl)) ?_ ?_ (fun _ _ _ h => h.elim) (fun _ _ _ _ h => h.elim)
  · rcases List.mem_cons.mp hb with e | hb
    · exact .inr ⟨_, e ▸ gD⟩
    · exact (List.mem_map.mp hb).elim fun j hj => .inr ⟨_, hj.2 ▸ gL _ (hf.tup _ (hlt (List.mem_range.mp hj.1)))⟩
  · intro g i m1 m2 h tk rest1 E1 hi hI1 hB9 F N hz
    have hr := hlt hi
    have hf1 := hf.mono fun q hq => hz _ (gL q hq)
    exact td_out w mean mg mb _ _ _ _ _ _ _ _ _ (by assumption) (by assumption) (by assumption) (by ktr_room) (by ktr_units) m2 im pl i0 i1 i2 (lvAt i0 i1 i2 (R - 1 - i)).1 (lvAt i0 i1 i2 (R - 1 - i)).2 (tdS i0 i1 i2 R (pl.fdiv 2, (st : Int), 0) i) (f (R - 1 - i)).2.1 (f (R - 1 - i)).2.2 rest1 h tk _ _ (hI.mono fun q hq => hz _ (gL q hq)) h0 h1 h2 (tdS_kind h0.1 h1.1 h2.1 R _ (st012 hst) i)
      (hB9.elim fun va hB9 => hB9.elim fun vb hB9 => hI1.next hB9) F N (hf1.lsC _ hr) (hf1.lsH _ hr) (fun m' h' tk' F' N' hm' => ForEnd0.intro F' N' (fun _ h => h) hm'.1)
  · intro h tk m1 hI1 F N
    rw [hzl] at hI1
    have hk3 : is012 (tdS i0 i1 i2 R (pl.fdiv 2, (st : Int), 0) R).2.1 := tdS_kind h0.1 h1.1 h2.1 R _ (st012 hst) R
    revert hret
    generalize tdS i0 i1 i2 R (pl.fdiv 2, (st : Int), 0) R = S at hI1 hk3 ⊢
    intro hret
    refine tdM.elim hI1 fun tp tk2 ta t8 m1' m2' m3' m7' m8' => ?_
    have F := fixF3 F m2' m3' m8'
    clear m1' m2' m3' m7' m8' hI1
    k_steps
    all_goals first
      | exact told_leaf hret (toldF_even (by assumption) (by first | exact if_pos (by assumption) | exact if_neg (by assumption))) (by assumption) (by assumption) (by assumption) gL
      | exact told_leaf hret (toldF_odd (by assumption) (by first | exact if_pos (by assumption) | exact if_neg (by assumption)) (by first | exact if_pos (by assumption) | exact if_neg (by assumption))) (by assumption) (by assumption) (by assumption) gL
theorem use_told (w : World) (mean : ExcName → Option Value) (mg mb : PySem.Str → Option Value) {news : Led} {pl : Int} {tpl : Tok} {im : Addr} {i0 i1 i2 : List Int} {st : Nat} {ts : Tok} {LV : Addr} {refs : List Value} {kD R : Nat}
    (hI : ImIn news im i0 i1 i2) (hst : st = 0 ∨ st = 1)
    (h0 : (∀ c ∈ i0, is012 c) ∧ i0.length ≤ 100) (h1 : (∀ c ∈ i1, is012 c) ∧ i1.length ≤ 100) (h2 : (∀ c ∈ i2, is012 c) ∧ i2.length ≤ 100) (hR : R ≤ 100)
    (hLV : (LV, W.listOf (List.toArray refs) kD) ∈ news) (hlen : refs.length = R + 1) (hlev : ∀ r, r ≤ R → ∃ v, refs[r]? = some v ∧ LevIn news v (lvAt i0 i1 i2 r))
    {dp un : Nat} {gd : Option (List Code)} {cn : Str} {cs : Scope} {a : Addr} {ccd : Value} {cl : List (Str × Addr)} {outer : List Env} {A₀ : Around} {base h₀ : Heap} {L : Addr} {m : Str → Option Value} {s : Shared} {Q E : Value → Shared → Prop}
    (hB : Below A₀ base outer h₀) (hF : Fr h₀ L s.heap m) (hX : (K w.params).In h₀) (hN : News h₀ L s.heap news) (hT : Top topProg lw mean mg mb h₀) (hk : cs.kind = .function) (hdp : dp + 60 < recursionLimit) (hun : un + 300 < cLine)
    (g : ∀ T t1 t2 h' tk', AllLt T news → Fr h₀ L h' m → News h₀ L h' ((T, tupO #[.int (toldF pl (tdS i0 i1 i2 R (pl.fdiv 2, (st : Int), 0) R)).1 t1, .int (toldF pl (tdS i0 i1 i2 R (pl.fdiv 2, (st : Int), 0) R)).2 t2]) :: news) → Q (.ref T) { s with heap := h', toks := tk' }) :
    wpAny (model PySem.Challenge.rw_tp0040_01.row.prog w) (ktrTop dp un gd cn cs L a ccd cl outer) (call (.ref 206) [.int pl tpl, .ref im, .int st ts, .ref LV]) Q E s :=
  c_told w mean mg mb news pl tpl im i0 i1 i2 st ts LV refs kD R hI hst h0 h1 h2 hR hLV hlen hlev dp un gd cn cs a ccd cl outer A₀ base h₀ L m s Q E hB hF hX hN hT hk hdp hun fun v news' h' tk' fin F N => (fin.casesOn (motive := fun v news' _ => Fr h₀ L h' m → News h₀ L h' news' → Q v { s with heap := h', toks := tk' }) fun ht F N => g _ _ _ _ _ ht F N) F N
end Mine
end
section
open PySem PySem.W PyProof.Rows PySem.Spec PySem.Calls
namespace Mine
open PyProof.Rows.LCg (NsObj ns_obj lst lst_snoc)
theorem block_L {prog : Program} {w : World} {A : Around} {E : Value → Shared → Prop} {h₀ : Heap} {L : Addr} {mL : Nm} {env : Env} {elt target iter : Expr} {ifs : List Expr} {scope : Scope} {cl : List (Str × Addr)} {pos : Pos} {s₂ : Shared} {it : Value} {own fp : List Addr} {n : Nat} {St : Nat → Heap → Prop} {B : Nat → Nm → Nm → Prop}
    {live₀ frozen : Led} {Inv : Nat → Nat → List Value → Led → Prop} {Lv : Addr → Prop} {RR : Value → Addr → Result → Shared → Prop} {τ : Nat}
    (hτ : τ ≤ s₂.toks) (SP : ∀ C, C ∉ fp → C ∉ own → Steps prog w A it target (compEnvC scope cl C env) own fp n St B) (hsz : n ≤ sizeLine)
    (hcell : ∀ y ∈ scope.names, y.2 ≠ .cell) (hkind : scope.kind = .function) (hst : St 0 s₂.heap)
    (hfp : ∀ b ∈ fp, b < s₂.heap.objs.size ∧ (b ∈ own ∨ (∃ o, h₀.get? b = some o) ∨ ∃ o, (b, o) ∈ frozen))
    (hown : ∀ b ∈ own, b < s₂.heap.objs.size ∧ h₀.get? b = none ∧ b ≠ L ∧ ¬ Lv b ∧ ∀ p ∈ frozen, p.1 ≠ b)
    (F : Fr h₀ L s₂.heap mL) (N : News h₀ L s₂.heap (live₀ ++ frozen)) (hlv : ∀ p ∈ live₀, Lv p.1) (hLv : ∀ a, Lv a → @LE.le Nat _ (s₂.heap.objs.size + 2) a) (hfz : ∀ p ∈ frozen, ¬ Lv p.1) (hinv : Inv s₂.toks 0 [] live₀) (hmono : ∀ a b i ys live, a ≤ b → Inv a i ys live → Inv b i ys live)
    (turn : ∀ i ys live C D oC m m' h tk rest (E' : Value → Shared → Prop), i < n → Inv tk i ys live → B i m m' → NsObj oC m' → Fr h₀ L h mL → News h₀ L h ((C, oC) :: (D, lst ys) :: (live ++ rest)) →
      (∀ p ∈ rest, ¬ Lv p.1 ∧ p.1 ≠ C ∧ p.1 ≠ D) → (∀ p ∈ frozen, p ∈ rest) → ¬ Lv C → ¬ Lv D → @Ne Nat C D → τ ≤ tk → @Eq Nat C (s₂.heap.objs.size + 1) → @Eq Nat D s₂.heap.objs.size →
      testsOf prog w A ifs (compEnvC scope cl C env) (fun ok s₃ => if ok = true
        then wpAny (model prog w) A (eval elt (compEnvC scope cl C env)) (fun y s₄ => TurnEnd h₀ L mL s₂ C oC D ys rest Lv (fun t => Inv t (i + 1) (ys ++ [y])) s₄) E' s₃
        else TurnEnd h₀ L mL s₂ C oC D ys rest Lv (fun t => Inv t (i + 1) ys) s₃) E' { s₂ with heap := h, toks := tk })
    (hlen : ∀ a i ys live, Inv a i ys live → ys.length ≤ i)
    (hRR : ∀ D C oC mC h tk ys live, Fr h₀ L h mL → News h₀ L h ((D, lst ys) :: (C, oC) :: (live ++ frozen)) → NsObj oC mC → @Eq Nat D s₂.heap.objs.size → @Eq Nat C (s₂.heap.objs.size + 1) → @Ne Nat C D → (∀ p ∈ live, Lv p.1) → Inv tk n ys live → τ ≤ tk → RR (.ref D) C (.ok .next) { s₂ with heap := h, toks := tk }) :
    wpAny (model prog w) A (newList []) (fun acc s₃ => wpAny (model prog w) A (newFunctionEnv scope env.globals cl [] env.qual none .none (some env)) (fun cenv s₄ =>
      codeAny (model prog w) A (.compStart (.ListComp elt [⟨target, iter, ifs, 0⟩] scope pos) 0 it acc { cenv with scope := relabel scope env }) (RR acc cenv.locals) s₄) E s₃) E s₂ := by
  refine wpAny_newObj_type (wpAny_newFunctionEnv hcell (by intro y hy; simp at hy) (fun h₁ hns₁ hsb₁ => ?_) hkind)
  dsimp only at hns₁ hsb₁ ⊢
  generalize hH2 : s₂.heap.push { cls := .type "list", dict := none, data := .seq ([] : List Value).toArray } = H2 at hns₁ hsb₁ ⊢
  have hC : H2.objs.size = s₂.heap.objs.size + 1 := by rw [← hH2, Heap.size_push]
  generalize hCn : H2.objs.size = C at hns₁ hsb₁ hC ⊢
  have hH2C : H2.objs.size = C := hCn
  obtain ⟨D, hDd⟩ : ∃ D, D = s₂.heap.objs.size := ⟨_, rfl⟩
  rw [← hDd] at hC
  have hDC : D ≠ C := by rw [hC]; exact Nat.ne_of_lt (Nat.lt_succ_self _)
  have below : ∀ b, b < s₂.heap.objs.size → b ≠ C ∧ b ≠ D := fun b hb => ⟨by rw [hC, hDd]; exact Nat.ne_of_lt (Nat.lt_succ_of_lt hb), by rw [hDd]; exact Nat.ne_of_lt hb⟩
  have old : ∀ b o, s₂.heap.get? b = some o → h₁.get? b = some o := fun b o e => hsb₁.extBut b o (below b (Heap.lt_size e)).1 (Heap.get?_push_of_some _ (hH2 ▸ Heap.get?_push_of_some _ e))
  have hacc : h₁.get? D = some (lst []) := hsb₁.extBut _ _ hDC (Heap.get?_push_of_some _ (by rw [← hH2, hDd]; exact Heap.get?_push_size _ rfl))
  have fresh₀ : ∀ a, s₂.heap.objs.size ≤ a → h₀.get? a = none := fun a ha => by
    cases e : h₀.get? a with
    | none => rfl
    | some o' => exact absurd (Heap.lt_size (F.keep a o' e)) (Nat.not_lt.mpr ha)
  have hD₀ : h₀.get? D = none := fresh₀ _ (by rw [hDd]; exact Nat.le_refl _)
  have hC₀ : h₀.get? C = none := fresh₀ _ (by rw [hC, hDd]; exact Nat.le_succ _)
  have hLlt : L < s₂.heap.objs.size := F.ns.lt
  have hDL : D ≠ L := Ne.symm (below L hLlt).2
  have hCL : C ≠ L := Ne.symm (below L hLlt).1
  have hCf : C ∉ fp := fun hm => (below C (hfp C hm).1).1 rfl
  have hDf : D ∉ fp := fun hm => (below D (hfp D hm).1).2 rfl
  have hCo : C ∉ own := fun hm => (below C (hown C hm).1).1 rfl
  have hDo : D ∉ own := fun hm => (below D (hown D hm).1).2 rfl
  have hLo : L ∉ own := fun hm => (hown L hm).2.2.1 rfl
  have hLC : ¬ Lv C := fun x => Nat.not_succ_le_self _ (by have := hLv C x; rw [hC, hDd] at this; exact this)
  have hLD : ¬ Lv D := fun x => Nat.not_succ_le_self _ (by have := hLv D x; rw [hDd] at this; exact Nat.le_of_succ_le this)
  have hfzlt : ∀ p ∈ frozen, p.1 < s₂.heap.objs.size := fun p hp => Heap.lt_size (N p (List.mem_append_right _ hp)).1
  have sp := SP C hCf hCo
  have main : ∀ s₃ : Shared, s₃ = { s₂ with heap := h₁, toks := s₂.toks + ([] : List (Str × Value)).length } →
      codeAny (model prog w) A (.compLoop (.ListComp elt [⟨target, iter, ifs, 0⟩] scope pos) 0 it (.ref D) (compEnvC scope cl C env)) (RR (.ref D) C) s₃ := by
    rintro s₃ rfl
    refine codeAny_compLoop_any
      (fun k s' => ∃ h' tk i ys m' live, s' = { s₂ with heap := h', toks := tk } ∧ i ≤ n ∧ k = n + 1 - i ∧ St i h' ∧ Fr h₀ L h' mL ∧ h'.Ns C m' ∧ News h₀ L h' ((D, lst ys) :: (live ++ frozen)) ∧ (∀ p ∈ live, Lv p.1) ∧ Inv tk i ys live ∧ τ ≤ tk) ?_ (n + 1)
      ⟨h₁, _, 0, [], _, live₀, rfl, Nat.zero_le _, rfl, sp.frame _ _ _ hst fun b _ o e => old b o e, F.keeps old, hns₁, fun p hp => ?_, hlv, hinv, hτ⟩
    · rintro k s' ⟨h', tk, i, ys, m', live, rfl, hi, rfl, hst', F', hn', N', hl', hI, hτk⟩
      have offl : ∀ p ∈ live, p.1 ∉ own ∧ p.1 ≠ C ∧ p.1 ≠ D := fun p hp => ⟨fun hm => (hown _ hm).2.2.2.1 (hl' p hp), fun q => hLC (q ▸ hl' p hp), fun q => hLD (q ▸ hl' p hp)⟩
      have offz : ∀ p ∈ frozen, p.1 ∉ own ∧ p.1 ≠ C ∧ p.1 ≠ D := fun p hp => ⟨fun hm => (hown _ hm).2.2.2.2 p hp rfl, (below _ (hfzlt p hp)).1, (below _ (hfzlt p hp)).2⟩
      have offa : ∀ p ∈ live ++ frozen, p.1 ∉ own ∧ p.1 ≠ C ∧ p.1 ≠ D := fun p hp => (List.mem_append.mp hp).elim (offl p) (offz p)
      by_cases hlt : i < n
      · refine sp.go (fun v sx hsx => hsx) hlt hst' hn' hCf hCo fun h₂ tk₂ m₂ hB hst₂ hn₂ hk₂ ht₂ => ?_
        · have hI := hmono _ tk₂ _ _ _ ht₂ hI
          have ht₂ : τ ≤ tk₂ := Nat.le_trans hτk ht₂
          refine Classical.byContradiction fun gK => ?_
          obtain ⟨oC, heC, hoC⟩ := ns_obj hn₂
          refine gK ?_
          clear gK
          have F₂ : Fr h₀ L h₂ mL := ⟨F'.ns.at' fun o e => hk₂ _ o hLo (Ne.symm hCL) e, fun b o e => hk₂ b o (fun hm => by rw [(hown b hm).2.1] at e; cases e) (fun (q : b = C) => by rw [q, hC₀] at e; cases e) (F'.keep b o e), F'.above⟩
          have N₂ : News h₀ L h₂ ((C, oC) :: (D, lst ys) :: (live ++ (ioOf h₂ own ++ frozen))) := fun p hp => by
            rcases List.mem_cons.mp hp with rfl | hp
            · exact ⟨heC, hCL, hC₀⟩
            rcases List.mem_cons.mp hp with rfl | hp
            · exact ⟨hk₂ _ _ hDo hDC (N' _ List.mem_cons_self).1, hDL, hD₀⟩
            have hm : p ∈ live ++ frozen ∨ p ∈ ioOf h₂ own := by
              simp only [List.mem_append] at hp ⊢; rcases hp with h | h | h
              · exact .inl (.inl h)
              · exact .inr h
              · exact .inl (.inr h)
            rcases hm with hm | hm
            · have z := N' p (List.mem_cons_of_mem _ hm)
              exact ⟨hk₂ _ _ (offa p hm).1 (offa p hm).2.1 z.1, z.2⟩
            · obtain ⟨ho, hg⟩ := ioOf_mem.mp hm
              exact ⟨hg, (hown _ ho).2.2.1, (hown _ ho).2.1⟩
          have hrest : ∀ p ∈ ioOf h₂ own ++ frozen, ¬ Lv p.1 ∧ p.1 ≠ C ∧ p.1 ≠ D := fun p hp => by
            rcases List.mem_append.mp hp with hm | hm
            · have ho := (ioOf_mem.mp hm).1
              exact ⟨(hown _ ho).2.2.2.1, fun q => hCo (q ▸ ho), fun q => hDo (q ▸ ho)⟩
            · exact ⟨hfz p hm, (offz p hm).2⟩
          have back : ∀ (s₄ : Shared) (inv : Nat → Led → Prop), TurnEnd h₀ L mL s₂ C oC D ys (ioOf h₂ own ++ frozen) Lv inv s₄ →
              ∃ h₃ tk₃ live', s₄ = { s₂ with heap := h₃, toks := tk₃ } ∧ St (i + 1) h₃ ∧ Fr h₀ L h₃ mL ∧ h₃.Ns C m₂ ∧ News h₀ L h₃ ((D, lst ys) :: (live' ++ frozen)) ∧ (∀ p ∈ live', Lv p.1) ∧ inv tk₃ live' := by
            rintro s₄ inv ⟨h₃, tk₃, live', rfl, F₃, N₃, hi₃, hl₃⟩
            refine ⟨h₃, tk₃, live', rfl, ?_, F₃, hoC.ns (N₃ _ List.mem_cons_self).1, fun p hp => ?_, hl₃, hi₃⟩
            · refine sp.frame _ _ _ hst₂ fun b hb o e => ?_
              rcases (hfp b hb).2 with ho | ⟨o', e'⟩ | ⟨o', hm⟩
              · exact (N₃ (b, o) (List.mem_cons_of_mem _ (List.mem_cons_of_mem _ (List.mem_append_right _ (List.mem_append_left _ (ioOf_mem.mpr ⟨ho, e⟩)))))).1
              · have := F₂.keep b o' e'
                rw [e] at this; cases this
                exact F₃.keep b o e'
              · have := (N₂ (b, o') (List.mem_cons_of_mem _ (List.mem_cons_of_mem _ (List.mem_append_right _ (List.mem_append_right _ hm))))).1
                rw [e] at this; cases this
                exact (N₃ (b, _) (List.mem_cons_of_mem _ (List.mem_cons_of_mem _ (List.mem_append_right _ (List.mem_append_right _ hm))))).1
            · refine N₃ p (List.mem_cons_of_mem _ ?_)
              rcases List.mem_cons.mp hp with rfl | hp
              · exact List.mem_cons_self
              · refine List.mem_cons_of_mem _ ?_
                rcases List.mem_append.mp hp with h | h
                · exact List.mem_append_left _ h
                · exact List.mem_append_right _ (List.mem_append_right _ h)
          refine wpAny_mono (wpAny_toks_of (n := τ) ht₂ (turn i ys live C D oC m' m₂ h₂ tk₂ (ioOf h₂ own ++ frozen) _ hlt hI hB hoC F₂ N₂ hrest (fun p hp => List.mem_append_right _ hp) hLC hLD (Ne.symm hDC) ht₂ (by rw [hC, hDd]) hDd)) (fun ok s₃ hx₃ => ?_) fun _ _ e => e.2
          obtain ⟨ht₃, h₃⟩ := hx₃
          cases ok with
          | true =>
            rw [if_pos rfl] at h₃ ⊢
            refine wpAny_mono (wpAny_toks_of (n := τ) ht₃ h₃) (fun y s₄ hx₄ => ?_) fun _ _ e => e.2
            refine Classical.byContradiction fun gK => ?_
            obtain ⟨ht₄, h₄⟩ := hx₄
            obtain ⟨h₅, tk₅, live', rfl, hst₅, F₅, hn₅, N₅, hl₅, hi₅⟩ := back s₄ _ h₄
            refine gK ?_
            clear gK
            have offl₅ : ∀ p ∈ live', p.1 ≠ D := fun p hp q => hLD (q ▸ hl₅ p hp)
            have hle := hlen _ i ys live hI
            refine append_at (hsz := by show ys.toArray.size ≤ sizeLine; rw [List.size_toArray]; exact Nat.le_trans hle (Nat.le_trans hi hsz)) (N₅ _ List.mem_cons_self).1 fun h₆ hs₆ hD₆ => ?_
            refine ⟨n + 1 - (i + 1), by lia, h₆, tk₅, i + 1, ys ++ [y], _, live', rfl, hlt, rfl, sp.frame _ _ _ hst₅ fun b hb o e => hs₆.extBut b o (fun q => hDf (q ▸ hb)) e, F₅.change hs₆ hDL hD₀, hn₅.sameBut hs₆ (Ne.symm hDC), fun p hp => ?_, hl₅, hi₅, ht₄⟩
            rcases List.mem_cons.mp hp with rfl | hp
            · exact ⟨hD₆.trans (congrArg some (lst_snoc ys y)), hDL, hD₀⟩
            · have z := N₅ p (List.mem_cons_of_mem _ hp)
              refine ⟨hs₆.extBut _ _ ?_ z.1, z.2⟩
              rcases List.mem_append.mp hp with h | h
              · exact offl₅ p h
              · exact (offz p h).2.2
          | false =>
            rw [if_neg Bool.false_ne_true] at h₃ ⊢
            refine Classical.byContradiction fun gK => ?_
            obtain ⟨h₅, tk₅, live', rfl, hst₅, F₅, hn₅, N₅, hl₅, hi₅⟩ := back s₃ _ h₃
            refine gK ?_
            clear gK
            exact ⟨n + 1 - (i + 1), by lia, h₅, tk₅, i + 1, ys, _, live', rfl, hlt, rfl, hst₅, F₅, hn₅, N₅, hl₅, hi₅, ht₃⟩
      · obtain rfl : i = n := Nat.le_antisymm hi (Nat.not_lt.mp hlt)
        refine sp.end hst' fun h₂ tk₂ hk₂ ht₂ => ?_
        refine Classical.byContradiction fun gK => ?_
        obtain ⟨oC, heC, hoC⟩ := ns_obj (hn'.at' fun o e => hk₂ _ o hCo e)
        refine gK ?_
        clear gK
        refine hRR D C oC m' h₂ tk₂ ys live ⟨F'.ns.at' fun o e => hk₂ _ o hLo e, fun b o e => hk₂ b o (fun hm => by rw [(hown b hm).2.1] at e; cases e) (F'.keep b o e), F'.above⟩ (fun p hp => ?_) hoC hDd (by rw [hC, hDd]) (Ne.symm hDC) hl' (hmono _ _ _ _ _ ht₂ hI) (Nat.le_trans hτk ht₂)
        rcases List.mem_cons.mp hp with rfl | hp
        · have z := N' _ List.mem_cons_self
          exact ⟨hk₂ _ _ hDo z.1, z.2⟩
        rcases List.mem_cons.mp hp with rfl | hp
        · exact ⟨heC, hCL, hC₀⟩
        · have z := N' p (List.mem_cons_of_mem _ hp)
          exact ⟨hk₂ _ _ (offa p hp).1 z.1, z.2⟩
    · rcases List.mem_cons.mp hp with rfl | hp
      · exact ⟨hacc, hDL, hD₀⟩
      · exact ⟨old _ _ (N p hp).1, (N p hp).2⟩
  rw [← hDd]
  exact codeAny_compStart_list (main _ rfl) (sp.self 0 _ _ _ (sp.frame _ _ _ hst fun b _ o e => old b o e) (main _ rfl))
section
variable {prog : Program} {w : World} {A : Around} {E : Value → Shared → Prop} {s : Shared} {env : Env}
variable {h₀ : Heap} {L : Addr} {mL : Nm}
noncomputable def TurnEndL (h₀ : Heap) (L : Addr) (mL : Nm) (s : Shared) (C : Addr) (oC : Obj) (D : Addr) (old : List Value) (live rest : Led) (inv : Led → Prop) (s' : Shared) : Prop :=
  ∃ h' tk' live', s' = { s with heap := h', toks := tk' } ∧ Fr h₀ L h' mL ∧ News h₀ L h' ((C, oC) :: (D, lst old) :: (live' ++ rest)) ∧ inv live' ∧ ∀ p ∈ live', p ∈ live ∨ (@LT.lt Nat _ C p.1 ∧ @LT.lt Nat _ D p.1)
theorem TurnEndL.intro {h₀ : Heap} {L : Addr} {mL : Nm} {s : Shared} {C : Addr} {oC : Obj} {D : Addr} {old : List Value} {live rest all : Led} {inv : Led → Prop} {h' : Heap} {tk' : Nat} (live' : Led)
    (F : Fr h₀ L h' mL) (N : News h₀ L h' all) (hs : ∀ p ∈ (C, oC) :: (D, lst old) :: (live' ++ rest), p ∈ all) (hi : inv live') (hl : ∀ p ∈ live', p ∈ live ∨ (@LT.lt Nat _ C p.1 ∧ @LT.lt Nat _ D p.1)) : TurnEndL h₀ L mL s C oC D old live rest inv { s with heap := h', toks := tk' } :=
  ⟨h', tk', live', rfl, F, fun p hp => N p (hs p hp), hi, hl⟩
theorem comp_srcL {elt target iter : Expr} {ifs : List Expr} {scope : Scope} {cl : List (Str × Addr)} {pos : Pos} {use : Option (Value → Sem Unit)} {Q : Value → Shared → Prop} {s₁ : Shared} {x : Value} {okE : Env → Prop} {n : Nat} {B : Nat → Nm → Nm → Prop} {dep : List Addr} {lo : Nat}
    (frozen : Led) (Inv : Nat → List Value → Led → Prop)
    (S : Source prog w A target okE n B dep lo s₁ x) (hok : ∀ C, okE (compEnvC scope cl C env)) (hsz : n ≤ sizeLine)
    (hcell : ∀ y ∈ scope.names, y.2 ≠ .cell) (hkind : scope.kind = .function)
    (F : Fr h₀ L s₁.heap mL) (N : News h₀ L s₁.heap frozen) (hL : L < lo) (hbelow : ∀ p ∈ frozen, p.1 < lo) (hlo : lo ≤ s₁.heap.objs.size) (hdep : ∀ b ∈ dep, (∃ o, h₀.get? b = some o) ∨ ∃ o, (b, o) ∈ frozen)
    (hinv : Inv 0 [] []) (hlen : ∀ i ys live, Inv i ys live → ys.length ≤ i)
    (turn : ∀ (g : Heap) i ys live C D oC m m' h tk rest (E' : Value → Shared → Prop), i < n → Inv i ys live → B i m m' → NsObj oC m' → Fr h₀ L h mL → News h₀ L h ((C, oC) :: (D, lst ys) :: (live ++ rest)) →
      (∀ p ∈ rest, p.1 ≠ C ∧ p.1 ≠ D) → (∀ p ∈ frozen, p ∈ rest) → @Ne Nat C D →
      testsOf prog w A ifs (compEnvC scope cl C env) (fun ok s₃ => if ok = true
        then wpAny (model prog w) A (eval elt (compEnvC scope cl C env)) (fun y s₄ => TurnEndL h₀ L mL { s₁ with heap := g } C oC D ys live rest (Inv (i + 1) (ys ++ [y])) s₄) E' s₃
        else TurnEndL h₀ L mL { s₁ with heap := g } C oC D ys live rest (Inv (i + 1) ys) s₃) E' { s₁ with heap := h, toks := tk })
    (fin : ∀ D C oC mC h tk ys live, Fr h₀ L h mL → News h₀ L h ((D, lst ys) :: (C, oC) :: (live ++ frozen)) → NsObj oC mC → (∀ p ∈ frozen, p.1 ≠ C ∧ p.1 < D) → @Ne Nat C D → (∀ p ∈ live, @LT.lt Nat _ C p.1 ∧ @LT.lt Nat _ D p.1) → Inv n ys live →
      compPost (model prog w) A E use Q (.ref D) C (.ok .next) { s₁ with heap := h, toks := tk }) :
    AfterIter prog w A env elt target iter ifs scope cl pos use E Q x s₁ := by
  unfold AfterIter
  refine S.run _ _ fun it own fp St h SP hst hfp hown hk hsl => ?_
  have hobj : h₀.objs.size ≤ lo := Nat.le_of_lt (Nat.lt_of_le_of_lt F.above hL)
  have fresh : ∀ b, lo ≤ b → h₀.get? b = none := fun b hb => Heap.get?_none_of_le (Nat.le_trans hobj hb)
  have hin : ∀ p ∈ frozen, @LT.lt Nat _ p.1 h.objs.size := fun p hp => Heap.lt_size (hk _ _ (N p hp).1)
  refine block_L (τ := 0) (s₂ := { s₁ with heap := h }) (Nat.zero_le _) (Inv := fun _ i ys live => Inv i ys live ∧ ∀ p ∈ live, @LE.le Nat _ (h.objs.size + 2) p.1) (Lv := fun a => @LE.le Nat _ (h.objs.size + 2) a) (live₀ := []) (frozen := frozen) (fun C _ _ => SP _ (hok C)) hsz hcell hkind hst (fun b hb => ⟨(hfp b hb).1, (hfp b hb).2.elim .inl fun hd => .inr (hdep b hd)⟩) (fun b hb => ⟨(hown b hb).1, fresh b (hown b hb).2, fun q => ?_, fun hl => ?_, fun p hp q => ?_⟩)
    (F.keeps hk) (fun p hp => ⟨hk _ _ (N p hp).1, (N p hp).2⟩) (fun p hp => nomatch hp) (fun a ha => ha) (fun p hp hl => ?_) ⟨hinv, fun p hp => nomatch hp⟩ (fun _ _ _ _ _ _ h => h)
    (fun i ys live C D oC m m' h' tk rest E' hi hI hB hoC F' N' hr hz h1 h2 h3 h4 eC eD => ?_) (fun _ i ys live hI => hlen i ys live hI.1)
    (fun D C oC mC h' tk ys live F' N' hoC hD hC hCD hl hI ht => fin D C oC mC h' tk ys live F' N' hoC ?_ hCD (fun p hp => ?_) hI.1)
  · rw [q] at hb; exact absurd (Nat.lt_of_lt_of_le hL (hown _ hb).2) (Nat.lt_irrefl _)
  · exact absurd (hown b hb).1 (Nat.not_lt.mpr (Nat.le_trans (Nat.le_add_right _ 2) hl))
  · rw [← q] at hb; exact absurd (Nat.lt_of_lt_of_le (hbelow p hp) (hown _ hb).2) (Nat.lt_irrefl _)
  · exact absurd (hin p hp) (Nat.not_lt.mpr (Nat.le_trans (Nat.le_add_right _ 2) hl))
  · have up : ∀ (inv : Led → Prop) s₄, TurnEndL h₀ L mL { s₁ with heap := h } C oC D ys live rest inv s₄ → TurnEnd h₀ L mL { s₁ with heap := h } C oC D ys rest (fun a => @LE.le Nat _ (h.objs.size + 2) a) (fun _ live => inv live ∧ ∀ p ∈ live, @LE.le Nat _ (h.objs.size + 2) p.1) s₄ := by
      rintro inv s₄ ⟨h₃, tk₃, live', rfl, F₃, N₃, hi₃, hl₃⟩
      have hall : ∀ p ∈ live', @LE.le Nat _ (h.objs.size + 2) p.1 := fun p hp => (hl₃ p hp).elim (hI.2 p) fun z => by
        have := z.1
        rw [eC] at this
        exact this
      exact ⟨h₃, tk₃, live', rfl, F₃, N₃, ⟨hi₃, hall⟩, hall⟩
    refine wpAny_mono (turn h i ys live C D oC m m' h' tk rest E' hi hI.1 hB hoC F' N' (fun p hp => (hr p hp).2) hz h3) (fun ok s₃ h₃ => ?_) fun _ _ e => e
    cases ok with
    | true =>
      rw [if_pos rfl] at h₃ ⊢
      exact wpAny_mono h₃ (fun y s₄ h₄ => up _ s₄ h₄) fun _ _ e => e
    | false =>
      rw [if_neg Bool.false_ne_true] at h₃ ⊢
      exact up _ s₃ h₃
  · intro p hp
    have := hin p hp
    exact ⟨fun e => by rw [e, hC] at this; exact absurd this (Nat.not_lt.mpr (Nat.le_succ _)), by rw [hD]; exact this⟩
  · have := hl p hp
    exact ⟨by rw [hC]; exact this, by rw [hD]; exact Nat.lt_of_succ_lt this⟩
end
end Mine
end
section
open PySem PySem.W PyProof.Rows PySem.Spec PySem.Calls
namespace Mine
open PyProof.Rows.LCg (NsObj ns_obj lst lst_snoc)
noncomputable def lawDef : Stmt := stmtAt 25
noncomputable def lwB : List Stmt := defBody lawDef
noncomputable def lwS : Scope := defScope lawDef
noncomputable abbrev lawN : Str := Str.ofString "law"
noncomputable abbrev lawCl (L : Addr) : List (Str × Addr) := [(Str.ofString "told", L + 7), (Str.ofString "levels", L + 6), (Str.ofString "start", L + 5), (Str.ofString "images", L + 4), (Str.ofString "words", L + 3), (Str.ofString "names", L + 2), (Str.ofString "drawn", L + 1)]
noncomputable def ToldIn (led : Led) (tv : List Value) (n : Nat) (td : Nat → Int × Int) : Prop :=
  tv.length = n ∧ ∀ j, j < n → ∃ q : Addr × Tok × Tok, tv[j]? = some (.ref q.1) ∧ (q.1, tupO #[.int (td j).1 q.2.1, .int (td j).2 q.2.2]) ∈ led
theorem ToldIn.mono {l1 l2 : Led} {tv : List Value} {n : Nat} {td : Nat → Int × Int} (h : ToldIn l1 tv n td) (hs : ∀ q ∈ l1, q ∈ l2) : ToldIn l2 tv n td :=
  ⟨h.1, fun j hj => (h.2 j hj).elim fun q z => ⟨q, z.1, hs _ z.2⟩⟩
theorem ToldIn.fn {led : Led} {tv : List Value} {n : Nat} {td : Nat → Int × Int} {C : Prop} (h : ToldIn led tv n td) (k : ∀ f : Nat → Addr × Tok × Tok, (∀ j, j < n → tv[j]? = some (.ref (f j).1) ∧ ((f j).1, tupO #[.int (td j).1 (f j).2.1, .int (td j).2 (f j).2.2]) ∈ led) → C) : C :=
  (Classical.axiomOfChoice (r := fun (j : Nat) (q : Addr × Tok × Tok) => j < n → tv[j]? = some (.ref q.1) ∧ (q.1, tupO #[.int (td j).1 q.2.1, .int (td j).2 q.2.2]) ∈ led) fun j =>
    (Nat.lt_or_ge j n).elim (fun hj => (h.2 j hj).elim fun q z => ⟨q, fun _ => z⟩) fun hj => ⟨(0, 0, 0), fun h => absurd h (Nat.not_lt.mpr hj)⟩).elim k
theorem ToldIn.snoc {led : Led} {tv : List Value} {n : Nat} {td : Nat → Int × Int} {T : Addr} {a b : Tok} (h : ToldIn led tv n td) : ToldIn ((T, tupO #[.int (td n).1 a, .int (td n).2 b]) :: led) (tv ++ [.ref T]) (n + 1) td :=
  ⟨by rw [List.length_append, h.1]; rfl, fun j hj => (Nat.lt_or_ge j n).elim (fun hj => (h.2 j hj).elim fun q z => ⟨q, by rw [List.getElem?_append_left (by rw [h.1]; exact hj)]; exact z.1, .tail _ z.2⟩) fun hj' => by
    have e : j = n := Nat.le_antisymm (Nat.le_of_lt_succ hj) hj'
    exact ⟨(T, a, b), by rw [List.getElem?_append_right (by rw [h.1]; exact hj'), h.1, e, Nat.sub_self]; rfl, e ▸ .head _⟩⟩
local macro_rules | `(tactic| walk_at "call builtin:len") => `(tactic| (k_here; k_dflt (apply call_len_list; (walk_at "li9"); (simp; omega); k_whole)))
local macro_rules | `(tactic| walk_at "subscriptTail Name Slice ref ref") => `(tactic| (k_here; k_dflt (apply kmk_slice_lit; k_asm; k_asm; (first | (walk_at "li9") | exact (by assumption : ∀ h m', Fr _ _ h m' → Heap.IsList h _ _) _ _ (by assumption)); kmk_part; kmk_part; assumption; rotate_left; (with_unfolding_all rfl); kmk_pure; assumption); intros; (try k_sweep)))
local macro_rules | `(tactic| walk_at "subscriptTail Name Name ref int") => `(tactic| (k_here; with_unfolding_all (apply item_litK; (walk_at "li9"); omega; omega; assumption; rotate_left; rfl; k_whole)))
theorem SV_wv (n1 : Str) (t1 : Tok) (n2 : Str) (t2 : Tok) (l : List Nat) : SV (l.map (wv n1 t1 n2 t2)) (l.map (wn n1 n2)) := by
  refine ⟨l.map fun q => if q = 0 then (n1, t1) else (n2, t2), ?_, ?_⟩
  · simp only [strValues, List.map_map]
    refine List.map_congr_left fun q _ => ?_
    simp only [wv, Function.comp]
    split <;> rfl
  · simp only [List.map_map]
    refine List.map_congr_left fun q _ => ?_
    simp only [wn, Function.comp]
    split <;> rfl
theorem count_wn {n1 n2 : Str} (h : n1 ≠ n2) : ∀ l : List Nat, (l.map (wn n1 n2)).count n1 = l.count 0
  | [] => rfl
  | a :: l => by
    rw [List.map_cons, List.count_cons, List.count_cons, count_wn h l]
    by_cases ha : a = 0
    · simp [wn, ha]
    · have hb : ¬ n2 = n1 := fun e => h e.symm
      simp [wn, ha, hb]
theorem wv_ok {n1 n2 : Str} {t1 t2 : Tok} (ht : 1 ≤ t1 ∧ t1 < t2) (hne : n1 ≠ n2) (l : List Nat) : ∀ x u, Value.str x u ∈ l.map (wv n1 t1 n2 t2) → @LE.le Nat _ 1 u ∧ ((u = t1 ∧ x = n1) ∨ (u ≠ t1 ∧ x ≠ n1)) := fun x u hm => by
  refine Classical.byContradiction fun gK => ?_
  obtain ⟨q, _, e⟩ := List.mem_map.mp hm
  refine gK ?_
  clear gK
  unfold wv at e
  split at e
  · cases e
    exact ⟨ht.1, .inl ⟨rfl, rfl⟩⟩
  · cases e
    exact ⟨Nat.le_trans ht.1 (Nat.le_of_lt ht.2), .inr ⟨Nat.ne_of_gt ht.2, fun e => hne e.symm⟩⟩
theorem pick_upto (vs : List Value) (s : Nat) : (slicePick (List.toArray vs) none (some (s : Int)) none).toList = vs.take s := by
  rw [slicePick_upto']
theorem IV2 {ys : List Value} {a b : Int} {C : Prop} (h : IV ys [a, b]) (k : ∀ t u, ys = [.int a t, .int b u] → C) : C :=
  (h.get (i := 0) rfl).elim fun t e0 => (h.get (i := 1) rfl).elim fun u e1 => k t u (list2_of h.length e0 e1)
noncomputable def nth2 {α : Type} (a b : α) (i : Nat) : α := if i = 0 then a else b
theorem nth2_1 {α : Type} {P : α → Prop} {a b : α} (h0 : P a) (h1 : P b) (i : Nat) : P (nth2 a b i) := by
  unfold nth2
  split
  · exact h0
  · exact h1
theorem nth2_at {a b : Int} {ua ub : Tok} {i : Nat} {m m' : Nm} {x : Str} (hi : i < 2) (h : BN x (fun i v => (#[.int a ua, .int b ub] : Array Value)[i]? = some v) i m m') : m' x = some (.int (nth2 a b i) (nth2 ua ub i)) :=
  h.elim fun v e => (congrFun e.2 x).trans ((if_pos rfl).trans (e.1.symm.trans (lt2 (P := fun i => (#[.int a ua, .int b ub] : Array Value)[i]? = some (.int (nth2 a b i) (nth2 ua ub i))) rfl rfl hi)))
theorem nth2_cast (a b i : Nat) : nth2 (a : Int) (b : Int) i = ((nth2 a b i : Nat) : Int) := by
  unfold nth2
  split
  · rfl
  · rfl
theorem IV.step2 {a b : Nat} {f : Nat → Int} {i : Nat} {ys : List Value} (hi : i < 2) (h : IV ys (([a, b].take i).map f)) (t : Tok) : IV (ys ++ [.int (f (nth2 a b i)) t]) (([a, b].take (i + 1)).map f) :=
  lt2 (P := fun i => IV ys (([a, b].take i).map f) → IV (ys ++ [.int (f (nth2 a b i)) t]) (([a, b].take (i + 1)).map f)) (fun h => IV.snoc h (f a) t) (fun h => IV.snoc h (f b) t) hi h
theorem hide2 {h₀ h : Heap} {L SP : Addr} {k : Nat} {a b : Int} {t u : Tok} {led : Led} {C : Prop} (N : News h₀ L h ((SP, W.listOf #[.int a t, .int b u] k) :: led)) (g : ∀ t u, News h₀ L h ((SP, W.listOf #[.int a t, .int b u] k) :: led) → C) : C := g t u N
theorem spot_a {c : Int} {n : Nat} {C : Prop} (hn : 0 < n) (k : ∀ sa : Nat, c.fmod (n : Int) = (sa : Int) → sa < n → C) : C :=
  k (c.fmod n).toNat (by rw [Int.toNat_of_nonneg (Int.fmod_nonneg_of_pos _ (by omega))]) (by have := Int.fmod_lt_of_pos c (by omega : (0 : Int) < n); have := Int.fmod_nonneg_of_pos c (by omega : (0 : Int) < n); omega)
theorem spot_b {n : Nat} {C : Prop} (hn : 0 < n) (k : ∀ sb : Nat, (n : Int) - 1 = (sb : Int) → sb < n → C) : C := k (n - 1) (by omega) (by omega)
set_option maxHeartbeats 0 in
theorem law_A (w : World) (mean : ExcName → Option Value) (mg mb : PySem.Str → Option Value) (dp un : Nat) (gd : Option (List Code)) (outer : List Env) (A₀ : Around) (base h₀ : Heap) (L fa : Addr) (cd : Value) (s₁ : Shared)
    (hB : Below A₀ base outer h₀) (hX : (K w.params).In h₀) (hT : Top topProg lw mean mg mb h₀) (hdp : dp + 100 < recursionLimit) (hun : un + 400 < cLine)
    (CL nl WL TL : Addr) (c0 c1 c2 c3 : Int) (u0 u1 u2 u3 : Tok) (kc : Nat) (n1 n2 : Str) (t1 t2 : Tok) (kn : Nat) (ws : List Nat) (kW : Nat) (tv : List Value) (kT : Nat) (td : Nat → Int × Int) (oN oW oT : Obj)
    (m : Nm) (led : Led) (h : Heap) (tk : Nat) (gs : Array GenState) (Q : Flow → Shared → Prop) (E' : Value → Shared → Prop)
    (F : Fr h₀ L h m) (N : News h₀ L h led)
    (m1 : m (Str.ofString "cells") = some (.ref CL)) (z1 : (CL, W.listOf #[.int c0 u0, .int c1 u1, .int c2 u2, .int c3 u3] kc) ∈ led)
    (z2 : (L + 2, oN) ∈ led) (dN : oN.data = .cell (some (.ref nl))) (z3 : (nl, W.listOf #[.str n1 t1, .str n2 t2] kn) ∈ led)
    (z4 : (L + 3, oW) ∈ led) (dW : oW.data = .cell (some (.ref WL))) (z5 : (WL, W.listOf (List.toArray (ws.map (wv n1 t1 n2 t2))) kW) ∈ led)
    (z6 : (L + 7, oT) ∈ led) (dT : oT.data = .cell (some (.ref TL))) (z7 : (TL, W.listOf (List.toArray tv) kT) ∈ led) (hTd : ToldIn led tv ws.length td)
    (ht : 1 ≤ t1 ∧ t1 < t2) (hne : n1 ≠ n2) (hc1 : 0 ≤ c1) (hz : 0 < ws.length ∧ ws.length ≤ 1000)
    (hct : ∀ j, j < ws.length → (td j).1 = ((ws.take j).count 0 : Nat))
    (hret : ∀ h' tk' m', Fr h₀ L h' m' → News h₀ L h' led → Q (.ret (.bool true)) { s₁ with heap := h', toks := tk', gens := gs }) :
    wpAny (model PySem.Challenge.rw_tp0040_01.row.prog w) (ktrTop dp un gd lawN lwS L fa cd (lawCl L) outer) (execs (lwB.drop 17) (envX lawN lwS L fa cd (lawCl L))) Q E' { s₁ with heap := h, toks := tk, gens := gs } := by
  revert hX
  k_fill
  intro hX
  have F := fixF F m1
  have hwz : (List.toArray (ws.map (wv n1 t1 n2 t2))).size = ws.length := by simp
  have hzz : (List.toArray (ws.map (wv n1 t1 n2 t2))).size ≤ sizeLine := by
    have : sizeLine = 16777216 := rfl
    omega
  have N1 : News h₀ L h ((CL, W.listOf #[.int c0 u0, .int c1 u1, .int c2 u2, .int c3 u3] kc) :: (L + 3, oW) :: (WL, W.listOf (List.toArray (ws.map (wv n1 t1 n2 t2))) kW) :: led) := fun q hq => N q (sub_use hq (by f_list))
  refine spot_a (c := c1) hz.1 fun sa hsa hsal => spot_b hz.1 fun sb hsb hsbl => ?_
  show wpAny _ _ (execs (_ :: _) _) _ _ _
  k_steps
  · rename_i tkS SP hsS lS hS FS NS
    have e1 : ([c0, c1, c2, c3].getD (Int.toNat 1) 0).fmod (((List.toArray (ws.map (wv n1 t1 n2 t2))).size : Nat) : Int) = (sa : Int) := by rw [hwz]; exact hsa
    have e2 : (((List.toArray (ws.map (wv n1 t1 n2 t2))).size : Nat) : Int) - 1 = (sb : Int) := by rw [hwz]; exact hsb
    rw [e1, e2] at NS
    refine hide2 (led := led) (k := 0) (fun q hq => NS q (sub_use hq (by f_list))) fun ua ub NS => ?_
    refine fold_led NS fun fz hfz NF => ?_
    have gS := hfz _ mm0
    have gL : ∀ q ∈ led, q ∈ fz := fun q hq => hfz _ (mem_t hq)
    clear NS hfz e1 e2
    refine comp_src0n fz (fun i ys => IV ys (([sa, sb].take i).map fun s => (((ws.take s).count 0 : Nat) : Int))) (src_listN (by rfl) _ _ _ _ ⟨_, (NF _ gS).1, rfl, 0, rfl⟩) (fun C => ⟨lookup_relabel_local (by rfl), by rfl⟩) (show 2 ≤ sizeLine by decide) (by decide) rfl FS NF (dep1 gS) IV.nil ?_ ?_
    · intro g i ys C D oC m1 m2 h tk rest' E' hi hI hB9 hoC F9 N9 hr9 hz9 hCD
      refine testsOf_nil (hideQ fun Q' hQ => ?_)
      have hx := nth2_at hi hB9
      rw [nth2_cast] at hx
      have hpick := pick_upto (ws.map (wv n1 t1 n2 t2)) (nth2 sa sb i)
      have y2 := hz9 _ (gL _ z2)
      have y3 := hz9 _ (gL _ z3)
      have y4 := hz9 _ (gL _ z4)
      have y5 := hz9 _ (gL _ z5)
      have N8 : News h₀ L h ((C, oC) :: (D, lst ys) :: (L + 2, oN) :: (nl, W.listOf #[.str n1 t1, .str n2 t2] kn) :: (L + 3, oW) :: (WL, W.listOf (List.toArray (ws.map (wv n1 t1 n2 t2))) kW) :: rest') := fun q hq => N9 q (sub_use hq (by f_list))
      clear hB9 N9 hz9 hr9 NF hret FS y2 y3 y4 y5
      k_steps
      rename_i SL hSL FSL NSL lSL
      rw [← List.map_take] at NSL
      refine use_countOf w mean mg mb (k := 0) (SV_wv n1 t1 n2 t2 (ws.take (nth2 sa sb i))) ht.1 (wv_ok ht hne _) hB FSL (by assumption) NSL hT rfl (by omega) (by omega) fun v h' tk' F' N' => ?_
      rw [count_wn hne]
      refine hQ _ _ ?_
      exact TurnEnd0.intro F' N' (fun q hq => sub_use hq (by f_list)) (hI.step2 (f := fun s => (((ws.take s).count 0 : Nat) : Int)) hi _)
    · intro D9 h9 tk9 ys9 F9 N9 hlt9 hI9
      refine IV2 (hI9 : IV ys9 [(((ws.take sa).count 0 : Nat) : Int), (((ws.take sb).count 0 : Nat) : Int)]) fun q0 q1 hy => ?_
      rw [hy] at N9
      clear NF FS hlt9 hI9 hy
      k_steps
      refine comp_src0n _ (fun i ys => IV ys (([sa, sb].take i).map fun s => (td s).1)) (src_listN (by rfl) _ #[.int (sa : Int) ua, .int (sb : Int) ub] _ _ ⟨_, (N9 _ (mem_t gS)).1, rfl, 0, rfl⟩) (fun C => ⟨lookup_relabel_local (by rfl), by rfl⟩) (show 2 ≤ sizeLine by decide) (by decide) rfl F9 N9 (dep1 (mem_t gS)) IV.nil ?_ ?_
      · intro g i ys C D oC m1 m2 h tk rest' E' hi hI hB9 hoC F9 N9 hr9 hz9 hCD
        refine testsOf_nil (hideQ fun Q' hQ => ?_)
        have hx := nth2_at hi hB9
        rw [nth2_cast] at hx
        have hsp := nth2_1 (P := fun s => s < ws.length) hsal hsbl i
        refine (hTd.2 (nth2 sa sb i) hsp).elim fun q hq => ?_
        have hx4 : tv[((nth2 sa sb i : Nat) : Int).toNat]? = some (.ref q.1) := hq.1
        have y5 := hz9 _ (mem_t (gL _ hq.2))
        unfold tupO at y5
        have y6 := hz9 _ (mem_t (gL _ z6))
        have y7 := hz9 _ (mem_t (gL _ z7))
        have N8 : News h₀ L h ((C, oC) :: (D, lst ys) :: (L + 7, oT) :: (TL, W.listOf (List.toArray tv) kT) :: (q.1, { cls := .type "tuple", data := .seq #[.int (td (nth2 sa sb i)).1 q.2.1, .int (td (nth2 sa sb i)).2 q.2.2] }) :: rest') := fun q hq => N9 q (sub_use hq (by f_list))
        clear hB9 N9 hz9 hr9 hret y5 y6 y7 hq
        k_steps
        refine hQ _ _ ?_
        refine TurnEnd0.intro (by assumption) (by assumption) (fun q hq => ?_) (hI.step2 (f := fun s => (td s).1) hi _)
        exact sub_use hq (by f_list)
      · intro D8 h8 tk8 ys8 F8 N8 hlt8 hI8
        refine IV2 (hI8 : IV ys8 [(td sa).1, (td sb).1]) fun q0 q1 hy => ?_
        rw [hy] at N8
        k_steps
        rw [decide_eq_true (by rw [hct sa hsal, hct sb hsbl])]
        exact hret _ _ _ (by assumption) fun q hq => N8 q (mem_t (mem_t (gL q hq)))
end Mine
end
section
open PySem PySem.W PyProof.Rows PySem.Spec PySem.Calls
namespace Mine
open PyProof.Rows.LCg (NsObj ns_obj lst lst_snoc)
theorem ks_canLayAll0 : ∀ ns : List Str, (∀ s ∈ ns, PyData.strOk s = true) → PyData.canLayAll0 (ns.map PyData.str) = true
  | [], _ => rfl
  | a :: r, h => by simp [PyData.canLayAll0, PyData.canLay0, ks_canLayAll0 r fun s hs => h s (List.mem_cons_of_mem _ hs), h a List.mem_cons_self]
theorem ks_depthAll : ∀ ns : List Str, PyData.depthAll (ns.map PyData.str) = 0
  | [] => rfl
  | _ :: r => by simp [PyData.depthAll, PyData.depth, ks_depthAll r]
theorem ks_shaped (ns : List Str) (h : ∀ s ∈ ns, PyData.strOk s = true) : SeqAt.shaped (.list (ns.map PyData.str)) = true := by
  simp [SeqAt.shaped, PyData.canLay0, PyData.depth, ks_canLayAll0 ns h, ks_depthAll]
theorem ks_sameAll : ∀ ns : List Str, PySem.Spec.sameAll (ns.map PyData.str) (ns.map PyData.str) = true
  | [] => by simp [PySem.Spec.sameAll]
  | a :: r => by
    simp only [List.map_cons, PySem.Spec.sameAll, PySem.Spec.same, ks_sameAll r]
    simp
theorem ks_same (ns : List Str) : PySem.Spec.same (.list (ns.map PyData.str)) (.list (ns.map PyData.str)) = true := by
  simp only [PySem.Spec.same]; exact ks_sameAll ns
theorem ks_carried {vs : List Value} {ns : List Str} (h : SV vs ns) : CarriedAll vs (ns.map PyData.str) := by
  obtain ⟨l, rfl, rfl⟩ := h
  induction l with
  | nil => exact .nil
  | cons p l ih => exact .cons (.str p.1 p.2) ih
theorem ne_strs {prog : Program} {w : World} {A : Around} {E : Value → Shared → Prop} {s : Shared} {h₀ : Heap} {L a b : Addr} {news : Led} {xs ys : List Value} {ss : List Str} {k k2 : Nat} {Q : Value → Shared → Prop} (N : News h₀ L s.heap news) (ha : (a, W.listOf xs.toArray k) ∈ news) (hb : (b, W.listOf ys.toArray k2) ∈ news) (hi : SV xs ss) (hj : SV ys ss) (hs : ∀ s ∈ ss, PyData.strOk s = true) (hu : A.units + 64 < cLine) (h : Q (.bool false) s) :
    wpAny (model prog w) A (compareOp .NotEq (.ref a) (.ref b)) Q E s :=
  ne_dataH_same (reads_newData ⟨_, (N _ ha).1, rfl, k, rfl⟩ (ks_carried hi)) (reads_newData ⟨_, (N _ hb).1, rfl, k2, rfl⟩ (ks_carried hj)) (ks_shaped _ hs) (ks_shaped _ hs) hu (SeqAt.noMix_of_shape (.list .str) rfl _ _ (list_map_has fun _ => rfl) (list_map_has fun _ => rfl)) (by rw [ks_same]; exact h)
local macro_rules | `(tactic| walk_at "subscriptTail Name Name ref int") => `(tactic| (k_here; with_unfolding_all (apply item_litK; (walk_at "li9"); omega; omega; assumption; rotate_left; rfl; k_whole)))
local macro_rules | `(tactic| walk_at "compareOp NotEq ref ref") => `(tactic| (k_here; k_dflt (apply ne_strs; k_asm; k_mem; k_mem; (first | assumption | exact SV2 ..); (first | assumption | exact SV2 ..); assumption; ktr_units; k_whole)))
theorem pair_at {m m' : Nm} {x y : Str} {a b : Nat → Value} {i : Nat} (h : BP x y (fun i p q => p = a i ∧ q = b i) i m m') : m' y = some (b i) :=
  h.elim fun _ h => h.elim fun _ h => (congrFun h.2 y).trans ((if_pos rfl).trans (congrArg some h.1.2))
theorem pair_at1 {m m' : Nm} {x y : Str} {a b : Nat → Value} {i : Nat} (hn : x ≠ y) (h : BP x y (fun i p q => p = a i ∧ q = b i) i m m') : m' x = some (a i) :=
  h.elim fun _ h => h.elim fun _ h => (congrFun h.2 x).trans ((if_neg hn).trans ((if_pos rfl).trans (congrArg some h.1.1)))
theorem kind_lo {k : Nat} : 0 ≤ (if k = 0 then (0 : Int) else 1) := by split <;> decide
theorem kind_hi {k : Nat} : (if k = 0 then (0 : Int) else 1) < 2 ^ 63 := by split <;> decide
theorem kind_at {k : Nat} {n1 n2 : Str} {t1 t2 : Tok} : [Value.str n1 t1, .str n2 t2][(if k = 0 then (0 : Int) else 1).toNat]? = some (wv n1 t1 n2 t2 k) := by
  unfold wv
  split <;> rfl
theorem take_snoc {α : Type} {f : Nat → α} {l : List Nat} {i : Nat} (hi : i < l.length) {ys : List α} (h : ys = (l.take i).map f) : ys ++ [f l[i]] = (l.take (i + 1)).map f := by
  rw [List.take_succ_eq_append_getElem hi, List.map_append, h]
  rfl
set_option maxHeartbeats 0 in
theorem law_B (w : World) (mean : ExcName → Option Value) (mg mb : PySem.Str → Option Value) (dp un : Nat) (gd : Option (List Code)) (outer : List Env) (A₀ : Around) (base h₀ : Heap) (L fa : Addr) (cd : Value) (s₁ : Shared)
    (hB : Below A₀ base outer h₀) (hX : (K w.params).In h₀) (hT : Top topProg lw mean mg mb h₀) (hdp : dp + 100 < recursionLimit) (hun : un + 400 < cLine)
    (CL nl WL TL : Addr) (c0 c1 c2 c3 : Int) (u0 u1 u2 u3 : Tok) (kc : Nat) (n1 n2 : Str) (t1 t2 : Tok) (kn : Nat) (ws : List Nat) (kW : Nat) (tv : List Value) (kT : Nat) (td : Nat → Int × Int) (oN oW oT : Obj)
    (m : Nm) (led : Led) (h : Heap) (tk : Nat) (gs : Array GenState) (Q : Flow → Shared → Prop) (E' : Value → Shared → Prop)
    (F : Fr h₀ L h m) (N : News h₀ L h led)
    (m1 : m (Str.ofString "cells") = some (.ref CL)) (z1 : (CL, W.listOf #[.int c0 u0, .int c1 u1, .int c2 u2, .int c3 u3] kc) ∈ led)
    (z2 : (L + 2, oN) ∈ led) (dN : oN.data = .cell (some (.ref nl))) (z3 : (nl, W.listOf #[.str n1 t1, .str n2 t2] kn) ∈ led)
    (z4 : (L + 3, oW) ∈ led) (dW : oW.data = .cell (some (.ref WL))) (z5 : (WL, W.listOf (List.toArray (ws.map (wv n1 t1 n2 t2))) kW) ∈ led)
    (z6 : (L + 7, oT) ∈ led) (dT : oT.data = .cell (some (.ref TL))) (z7 : (TL, W.listOf (List.toArray tv) kT) ∈ led) (hTd : ToldIn led tv ws.length td)
    (ht : 1 ≤ t1 ∧ t1 < t2) (hne : n1 ≠ n2) (hso : ∀ s ∈ ws.map (wn n1 n2), PyData.strOk s = true) (hc1 : 0 ≤ c1) (hz : 0 < ws.length ∧ ws.length ≤ 1000)
    (hct : ∀ j, j < ws.length → (td j).1 = ((ws.take j).count 0 : Nat)) (hkd : ∀ j (hj : j < ws.length), (td j).2 = if ws[j] = 0 then 0 else 1)
    (hret : ∀ h' tk' m', Fr h₀ L h' m' → News h₀ L h' led → Q (.ret (.bool true)) { s₁ with heap := h', toks := tk', gens := gs }) :
    wpAny (model PySem.Challenge.rw_tp0040_01.row.prog w) (ktrTop dp un gd lawN lwS L fa cd (lawCl L) outer) (execs (lwB.drop 16) (envX lawN lwS L fa cd (lawCl L))) Q E' { s₁ with heap := h, toks := tk, gens := gs } := by
  revert hX
  k_fill
  intro hX
  have F0 := F
  have F := fixF F m1
  refine hTd.fn fun f hf => ?_
  have N1 : News h₀ L h ((CL, W.listOf #[.int c0 u0, .int c1 u1, .int c2 u2, .int c3 u3] kc) :: (L + 7, oT) :: (TL, W.listOf (List.toArray tv) kT) :: led) := fun q hq => N q (sub_use hq (by f_list))
  have htz : (List.toArray tv).size = ws.length := hTd.1
  have hSV := SV_wv n1 t1 n2 t2 ws
  obtain ⟨R, hR⟩ : ∃ R, lwB.drop 17 = R := ⟨_, rfl⟩
  rw [show lwB.drop 16 = lwB.getD 16 (.Pass default) :: lwB.drop 17 from rfl, hR]
  show wpAny _ _ (execs (Stmt.If _ _ _ _ :: R) _) _ _ _
  k_steps
  clear N1
  refine comp_src0n led (fun i ys => ys = (ws.take i).map (wv n1 t1 n2 t2)) (src_listP (by rfl) TL (List.toArray tv) (fun j => (f j).1) (fun j => .int (td j).1 (f j).2.1) (fun j => .int (td j).2 (f j).2.2) _ _ _ _ _ _ ⟨_, (N _ z7).1, rfl, kT, rfl⟩ (fun j hj => by rw [htz] at hj; simpa using (hf j hj).1) (fun j hj => ⟨_, (N _ (hf j (htz ▸ hj)).2).1, rfl, 0, rfl⟩)) (fun C => ⟨lookup_relabel_local (by rfl), lookup_relabel_local (by rfl), by rfl⟩) (by have : sizeLine = 16777216 := rfl; omega) (by decide) rfl F N (fun b hb => ?_) rfl ?_ ?_
  · refine (List.mem_cons.mp hb).elim (fun e => .inr ⟨_, e ▸ z7⟩) fun hb => (List.mem_map.mp hb).elim fun j hj => .inr ⟨_, hj.2 ▸ (hf j (htz ▸ List.mem_range.mp hj.1)).2⟩
  · intro g i ys C D oC m1 m2 h tk rest' E' hi hI hB9 hoC F9 N9 hr9 hz9 hCD
    rw [htz] at hi
    have hx := pair_at hB9
    rw [hkd i hi] at hx
    have y2 := hz9 _ z2
    have y3 := hz9 _ z3
    have N8 : News h₀ L h ((C, oC) :: (D, lst ys) :: (L + 2, oN) :: (nl, W.listOf #[.str n1 t1, .str n2 t2] kn) :: rest') := fun q hq => N9 q (sub_use hq (by f_list))
    have q0 := kind_lo (k := ws[i])
    have q1 := kind_hi (k := ws[i])
    have q2 := kind_at (k := ws[i]) (n1 := n1) (n2 := n2) (t1 := t1) (t2 := t2)
    clear hB9 N9 hz9 hr9 N hret F y2 y3
    refine testsOf_nil (hideQ fun Q' hQ => ?_)
    k_steps
    refine hQ _ _ ?_
    exact TurnEnd0.intro (by assumption) (by assumption) (fun q hq => by exact sub_use hq (by f_list)) (by exact take_snoc hi hI)
  · intro D h9 tk9 ys F9 N9 hlt9 hI
    rw [htz, List.take_length] at hI
    rw [hI] at N9
    unfold lst at N9
    have N8 : News h₀ L h9 ((D, W.listOf (List.map (wv n1 t1 n2 t2) ws).toArray (List.map (wv n1 t1 n2 t2) ws).length) :: (L + 3, oW) :: (WL, W.listOf (List.toArray (ws.map (wv n1 t1 n2 t2))) kW) :: led) := fun q hq => N9 q (sub_use hq (by f_list))
    clear N hI F
    k_steps
    rw [← hR]
    exact law_A w mean mg mb dp un gd outer A₀ base h₀ L fa cd _ hB (by assumption) hT hdp hun CL nl WL TL c0 c1 c2 c3 u0 u1 u2 u3 kc n1 n2 t1 t2 kn ws kW tv kT td oN oW oT _ led h9 _ gs Q E' F9 (fun q hq => N9 q (mem_t hq)) (by rfl) z1 z2 dN z3 z4 dW z5 z6 dT z7 hTd ht hne hc1 hz hct hret
end Mine
end
section
open PySem PySem.W PyProof.Rows PySem.Spec PySem.Calls
namespace Mine
open PyProof.Rows.LCg (NsObj ns_obj lst lst_snoc)
section
variable {prog : Program} {w : World} {A : Around} {E : Value → Shared → Prop} {s : Shared} {env : Env}
variable {h₀ : Heap} {L : Addr} {mL : Nm}
theorem comp_srcLn {elt target iter : Expr} {ifs : List Expr} {scope : Scope} {cl : List (Str × Addr)} {pos : Pos} {Q : Value → Shared → Prop} {s₁ : Shared} {x : Value} {okE : Env → Prop} {n : Nat} {B : Nat → Nm → Nm → Prop} {dep : List Addr} {lo : Nat}
    (frozen : Led) (Inv : Nat → List Value → Led → Prop)
    (S : Source prog w A target okE n B dep lo s₁ x) (hok : ∀ C, okE (compEnvC scope cl C env)) (hsz : n ≤ sizeLine)
    (hcell : ∀ y ∈ scope.names, y.2 ≠ .cell) (hkind : scope.kind = .function)
    (F : Fr h₀ L s₁.heap mL) (N : News h₀ L s₁.heap frozen) (hL : L < lo) (hbelow : ∀ p ∈ frozen, p.1 < lo) (hlo : lo ≤ s₁.heap.objs.size) (hdep : ∀ b ∈ dep, (∃ o, h₀.get? b = some o) ∨ ∃ o, (b, o) ∈ frozen)
    (hinv : Inv 0 [] []) (hlen : ∀ i ys live, Inv i ys live → ys.length ≤ i)
    (turn : ∀ (g : Heap) i ys live C D oC m m' h tk rest (E' : Value → Shared → Prop), i < n → Inv i ys live → B i m m' → NsObj oC m' → Fr h₀ L h mL → News h₀ L h ((C, oC) :: (D, lst ys) :: (live ++ rest)) →
      (∀ p ∈ rest, p.1 ≠ C ∧ p.1 ≠ D) → (∀ p ∈ frozen, p ∈ rest) → @Ne Nat C D →
      testsOf prog w A ifs (compEnvC scope cl C env) (fun ok s₃ => if ok = true
        then wpAny (model prog w) A (eval elt (compEnvC scope cl C env)) (fun y s₄ => TurnEndL h₀ L mL { s₁ with heap := g } C oC D ys live rest (Inv (i + 1) (ys ++ [y])) s₄) E' s₃
        else TurnEndL h₀ L mL { s₁ with heap := g } C oC D ys live rest (Inv (i + 1) ys) s₃) E' { s₁ with heap := h, toks := tk })
    (fin : ∀ D h tk ys live, Fr h₀ L h mL → News h₀ L h ((D, lst ys) :: (live ++ frozen)) → (∀ p ∈ frozen, p.1 < D) → (∀ p ∈ live, @LT.lt Nat _ D p.1) → Inv n ys live → Q (.ref D) { s₁ with heap := h, toks := tk }) :
    AfterIter prog w A env elt target iter ifs scope cl pos none E Q x s₁ := by
  refine comp_srcL frozen Inv S hok hsz hcell hkind F N hL hbelow hlo hdep hinv hlen turn fun D C oC mC h tk ys live F' N' hoC off hCD hl hI => ?_
  refine ⟨mC, hoC.ns (N' _ (List.mem_cons_of_mem _ List.mem_cons_self)).1, fun h' hs => ?_⟩
  have zC := (N' _ (List.mem_cons_of_mem _ List.mem_cons_self)).2
  refine fin D h' tk ys live (F'.change hs zC.1 zC.2) (fun p hp => ?_) (fun p hp => (off p hp).2) (fun p hp => (hl p hp).2) hI
  rcases List.mem_cons.mp hp with rfl | hp
  · exact ⟨hs.extBut _ _ (Ne.symm hCD) (N' _ List.mem_cons_self).1, (N' _ List.mem_cons_self).2⟩
  · have z := N' p (List.mem_cons_of_mem _ (List.mem_cons_of_mem _ hp))
    refine ⟨hs.extBut _ _ ?_ z.1, z.2⟩
    rcases List.mem_append.mp hp with hp | hp
    · exact Nat.ne_of_gt (hl p hp).1
    · exact (off p hp).1
end
end Mine
end
section
open PySem PySem.W PyProof.Rows PySem.Spec PySem.Calls
namespace Mine
open PyProof.Rows.LCg (NsObj ns_obj lst lst_snoc)
local macro_rules | `(tactic| walk_at "call builtin:len") => `(tactic| (k_here; k_dflt (apply call_len_list; (walk_at "li9"); (simp; omega); k_whole)))
noncomputable def tdAt (i0 i1 i2 : List Int) (R st : Nat) (j : Nat) : Int × Int := toldF (j : Int) (tdS i0 i1 i2 R ((j : Int).fdiv 2, (st : Int), 0) R)
set_option maxHeartbeats 0 in
theorem law_C (w : World) (mean : ExcName → Option Value) (mg mb : PySem.Str → Option Value) (dp un : Nat) (gd : Option (List Code)) (outer : List Env) (A₀ : Around) (base h₀ : Heap) (L fa : Addr) (cd : Value) (s₁ : Shared)
    (hB : Below A₀ base outer h₀) (hX : (K w.params).In h₀) (hT : Top topProg lw mean mg mb h₀) (hdp : dp + 100 < recursionLimit) (hun : un + 400 < cLine)
    (CL nl WL LV im : Addr) (c0 c1 c2 c3 : Int) (u0 u1 u2 u3 : Tok) (kc : Nat) (n1 n2 : Str) (t1 t2 : Tok) (kn : Nat) (ws : List Nat) (kW : Nat) (refs : List Value) (kD R st : Nat) (ts : Tok) (i0 i1 i2 : List Int) (oN oW oI oS oV oT : Obj) (vT : Option Value)
    (m : Nm) (rest : Led) (h : Heap) (tk : Nat) (gs : Array GenState) (Q : Flow → Shared → Prop) (E' : Value → Shared → Prop)
    (F : Fr h₀ L h m) (N : News h₀ L h ((L + 7, oT) :: rest)) (hoff : ∀ q ∈ rest, q.1 ≠ L + 7) (dT : oT.data = .cell vT)
    (m1 : m (Str.ofString "cells") = some (.ref CL)) (z1 : (CL, W.listOf #[.int c0 u0, .int c1 u1, .int c2 u2, .int c3 u3] kc) ∈ rest)
    (z2 : (L + 2, oN) ∈ rest) (dN : oN.data = .cell (some (.ref nl))) (z3 : (nl, W.listOf #[.str n1 t1, .str n2 t2] kn) ∈ rest)
    (z4 : (L + 3, oW) ∈ rest) (dW : oW.data = .cell (some (.ref WL))) (z5 : (WL, W.listOf (List.toArray (ws.map (wv n1 t1 n2 t2))) kW) ∈ rest)
    (z6 : (L + 4, oI) ∈ rest) (dI : oI.data = .cell (some (.ref im))) (hI : ImIn rest im i0 i1 i2)
    (z7 : (L + 5, oS) ∈ rest) (dS : oS.data = .cell (some (.int st ts))) (hst : st = 0 ∨ st = 1)
    (z8 : (L + 6, oV) ∈ rest) (dV : oV.data = .cell (some (.ref LV))) (z9 : (LV, W.listOf (List.toArray refs) kD) ∈ rest) (hlen : refs.length = R + 1) (hlev : ∀ r, r ≤ R → ∃ v, refs[r]? = some v ∧ LevIn rest v (lvAt i0 i1 i2 r))
    (h0 : (∀ c ∈ i0, is012 c) ∧ i0.length ≤ 100) (h1 : (∀ c ∈ i1, is012 c) ∧ i1.length ≤ 100) (h2 : (∀ c ∈ i2, is012 c) ∧ i2.length ≤ 100) (hR0 : R ≤ 100)
    (ht : 1 ≤ t1 ∧ t1 < t2) (hne : n1 ≠ n2) (hso : ∀ s ∈ ws.map (wn n1 n2), PyData.strOk s = true) (hc1 : 0 ≤ c1) (hz : 0 < ws.length ∧ ws.length ≤ 1000)
    (hct : ∀ j, j < ws.length → (tdAt i0 i1 i2 R st j).1 = ((ws.take j).count 0 : Nat)) (hkd : ∀ j (hj : j < ws.length), (tdAt i0 i1 i2 R st j).2 = if ws[j] = 0 then 0 else 1)
    (hret : ∀ h' tk' m', Fr h₀ L h' m' → News h₀ L h' rest → Q (.ret (.bool true)) { s₁ with heap := h', toks := tk', gens := gs }) :
    wpAny (model PySem.Challenge.rw_tp0040_01.row.prog w) (ktrTop dp un gd lawN lwS L fa cd (lawCl L) outer) (execs (lwB.drop 15) (envX lawN lwS L fa cd (lawCl L))) Q E' { s₁ with heap := h, toks := tk, gens := gs } := by
  revert hX
  k_fill
  intro hX
  have F := fixF F m1
  have N1 : News h₀ L h ((L + 7, oT) :: (L + 3, oW) :: (WL, W.listOf (List.toArray (ws.map (wv n1 t1 n2 t2))) kW) :: rest) := fun q hq => N q (sub_use hq (by f_list))
  obtain ⟨R', hR'⟩ : ∃ R, lwB.drop 16 = R := ⟨_, rfl⟩
  rw [show lwB.drop 15 = lwB.getD 15 (.Pass default) :: lwB.drop 16 from rfl, hR']
  show wpAny _ _ (execs (Stmt.Assign [_] _ _ :: R') _) _ _ _
  have hwz : (List.toArray (ws.map (wv n1 t1 n2 t2))).size = ws.length := by simp
  k_steps
  rename_i hR tkR tr ur vr aR aF aN aK
  have aN : News h₀ L hR ((L + 7, oT) :: rest) := fun q hq => aN q (sub_use hq (by f_list))
  clear N
  refine comp_srcLn ((L + 7, oT) :: rest) (fun i ys live => ToldIn live ys i (tdAt i0 i1 i2 R st))
    (src_rangeN (n := ws.length) (by rfl) _ _ aR (small_one (by decide) (by decide) (by omega) (by omega)) (by rw [hwz]; exact rangeSize_low _)) (fun C => ⟨lookup_relabel_local (by rfl), by rfl⟩) (by have : sizeLine = 16777216 := rfl; omega) (by decide) rfl aF aN (Fr.ns aF).lt (fun p hp => Heap.lt_size (aN p hp).1) (Nat.le_refl _) (fun q hq => nomatch hq) ⟨rfl, fun j hj => absurd hj (Nat.not_lt_zero _)⟩ (fun i ys live hi => Nat.le_of_eq hi.1) ?_ ?_
  · intro g i ys live C D oC m1 m2 h tk rest' E' hi hI9 hB9 hoC F9 N9 hr9 hz9 hCD
    refine testsOf_nil (hideQ fun Q' hQ => ?_)
    refine range_at hB9 fun u hx => ?_
    have zr : ∀ q ∈ rest, q ∈ live ++ rest' := fun q hq => mem_r (hz9 _ (mem_t hq))
    have y6 := zr _ z6
    have y7 := zr _ z7
    have y8 := zr _ z8
    have N8 : News h₀ L h ((C, oC) :: (D, lst ys) :: (L + 4, oI) :: (L + 5, oS) :: (L + 6, oV) :: (live ++ rest')) := fun q hq => N9 q (sub_use hq (by f_list))
    clear hB9 N9 hz9 hr9 hret aF aN y6 y7 y8
    have zs : ∀ q ∈ rest, q ∈ (C, oC) :: (D, lst ys) :: (L + 4, oI) :: (L + 5, oS) :: (L + 6, oV) :: (live ++ rest') := fun q hq => mem_t4 (mem_t (zr q hq))
    k_steps
    refine use_told w mean mg mb (hI.mono zs) hst h0 h1 h2 hR0 (zs _ z9) hlen (fun r hr => (hlev r hr).elim fun v hv => ⟨v, hv.1, hv.2.mono zs⟩) hB (by assumption) (by assumption) N8 hT rfl (by omega) (by omega) fun T ta tb h' tk' hlt F' N' => ?_
    refine hQ _ _ ?_
    exact TurnEndL.intro _ F' N' (sub_cons mm1 (sub_cons mm2 (sub_app (sub_cons mm0 fun q hq => mem_t4 (mem_t (mem_t (mem_l hq)))) fun q hq => mem_t4 (mem_t (mem_t (mem_r hq)))))) (hI9.snoc (a := ta) (b := tb)) (all_cons (.inr ⟨hlt.1, hlt.2.1⟩) fun p hp => .inl hp)
  · intro D h9 tk9 ys live F9 N9 hlt9 hll9 hI9
    have hD7 : @LT.lt Nat _ (L + 7) D := ltM hlt9 mm0
    have N9 : News h₀ L h9 ((L + 7, oT) :: (D, W.listOf (List.toArray ys) ys.length) :: (live ++ rest)) := fun q hq => N9 q (by unfold lst; exact sub_use hq (by f_list))
    refine fold_tail1 N9 fun tail htail N9 => ?_
    have hofft : ∀ q ∈ tail, q.1 ≠ L + 7 := fun q hq => all_cons (P := fun q : Addr × Obj => q.1 ≠ L + 7) (Nat.ne_of_gt hD7) (all_app (fun q e => Nat.ne_of_gt (Nat.lt_trans hD7 (hll9 q e))) hoff) q (htail.2 q hq)
    have hrt : ∀ q ∈ rest, q ∈ tail := fun q hq => htail.1 _ (mem_t (mem_r hq))
    clear aN aF hlt9
    k_steps
    rename_i h8 oT8 F8 N8 d8
    rw [← hR']
    exact law_B w mean mg mb dp un gd outer A₀ base h₀ L fa cd _ hB (by assumption) hT hdp hun CL nl WL D c0 c1 c2 c3 u0 u1 u2 u3 kc n1 n2 t1 t2 kn ws kW ys ys.length (tdAt i0 i1 i2 R st) oN oW oT8 _ _ h8 _ gs Q E' F8 N8 (by rfl) (mem_t (hrt _ z1)) (mem_t (hrt _ z2)) dN (mem_t (hrt _ z3)) (mem_t (hrt _ z4)) dW (mem_t (hrt _ z5)) mm0 d8 (mem_t (htail.1 _ mm0)) (hI9.mono fun q hq => mem_t (htail.1 _ (mem_t (mem_l hq)))) ht hne hso hc1 hz hct hkd fun h' tk' m' F' N' => hret h' tk' m' F' fun q hq => N' q (mem_t (hrt q hq))
end Mine
end
section
open PySem PySem.W PyProof.Rows PySem.Spec PySem.Calls
namespace Mine
open PyProof.Rows.LCg (NsObj ns_obj lst lst_snoc)
theorem letOwned_tupit {prog : Program} {w : World} {A : Around} {E : Value → Shared → Prop} {s : Shared} {elts : List Expr} {x1} {pos : Pos} {I l T : Addr} {i : Nat} {Q : Unit → Shared → Prop} (hit : s.heap.IsTupleIter I l i) (hQ : Q () s) :
    wpAny (model prog w) A (letOwnedTupleGo (.Tuple elts x1 pos) (.ref I) (.ref T)) Q E s := by
  refine Classical.byContradiction fun gK => ?_
  obtain ⟨o, ho, hc, hd⟩ := hit
  refine gK ?_
  clear gK
  unfold letOwnedTupleGo
  refine wpAny_bind (wpAny_load ho ?_)
  rw [hc, hd]
  show wpAny _ A (if (["enumerate", "zip", "dict_itemiterator", "dict_reverseitemiterator", "odict_iterator", "itertools.zip_longest", "itertools.pairwise"].contains "tuple_iterator" && _) = true then _ else _) Q E s
  rw [if_neg (by
    intro h
    rw [show (["enumerate", "zip", "dict_itemiterator", "dict_reverseitemiterator", "odict_iterator", "itertools.zip_longest", "itertools.pairwise"].contains "tuple_iterator") = false from by decide, Bool.false_and] at h
    cases h)]
  exact wpAny_pure hQ
theorem tupOfTuples {prog : Program} {w : World} {A : Around} (hh : A.handled = none) (I ax : Addr) (hne : ax ≠ I) (items : Array Value) (Ts : Nat → Addr) (vals : Nat → Array Value)
    (hit : ∀ j, j < items.size → items[j]? = some (.ref (Ts j))) (hTI : ∀ j, j < items.size → Ts j ≠ I) :
    WalksU prog w A I (I :: ax :: (List.range items.size).map Ts) [I] items.size (fun j v => v = vals j)
      (fun j h => h.IsTupleIter I ax j ∧ h.IsTuple ax items ∧ ∀ k, k < items.size → h.IsTuple (Ts k) (vals k))
      (fun j T h => (j < items.size ∧ T = Ts j) ∧ h.IsTupleIter I ax (j + 1) ∧ h.IsTuple ax items ∧ ∀ k, k < items.size → h.IsTuple (Ts k) (vals k)) where
  sub := fun b hb => by simp at hb; simp [hb]
  frame := fun _ _ _ st hk => ⟨st.1.at fun o e => hk I (by simp) o e, st.2.1.at fun o e => hk ax (by simp) o e,
    fun k hk' => (st.2.2 k hk').at fun o e => hk (Ts k) (List.mem_cons_of_mem _ (List.mem_cons_of_mem _ (List.mem_map.mpr ⟨k, List.mem_range.mpr hk', rfl⟩))) o e⟩
  item := fun i s Q E hi st hQ => by
    refine wpAny_pyNext_tuple_item st.1 st.2.1 (x := .ref (Ts i)) (hit i hi) fun h' hit' hs' => ?_
    have tup : ∀ k, k < items.size → h'.IsTuple (Ts k) (vals k) := fun k hk' => (st.2.2 k hk').extBut hs'.extBut (hTI k hk')
    exact hQ (Ts i) (vals i) h' s.toks rfl (tup i hi) ⟨⟨hi, rfl⟩, hit', st.2.1.extBut hs'.extBut hne, tup⟩ fun b o hb e => hs'.extBut b o (fun h => hb (by simp [h])) e
  go := fun _ _ _ _ _ s Q _ hm hQ => letOwned_tupit hm.2.1 (hQ s.heap hm.2 fun _ _ _ e => e)
  apart := fun j T _ hm hmem => by
    rcases List.mem_cons.mp hmem with e | e
    · exact hTI j hm.1.1 (hm.1.2 ▸ e)
    · cases e
  done := fun s Q E st hQ => wpAny_pyNext_tuple_end hh st.1 st.2.1 (by simp) fun h' he' => hQ h' s.toks fun b o hb e => he' b o (fun h => hb (by simp [h])) e
  self := fun _ _ _ _ st hQ => wpAny_pyIter_tupleiter st.1 hQ
theorem src_tupleP {prog : Program} {w : World} {A : Around} {s₁ : Shared} (hh : A.handled = none) (ax : Addr) (items : Array Value) (Ts : Nat → Addr) (va vb : Nat → Value) (x y : Str) (px py pos : Pos) (k : Nat) (hl : s₁.heap.IsTuple ax items)
    (hit : ∀ j, j < items.size → items[j]? = some (.ref (Ts j))) (ht : ∀ j, j < items.size → s₁.heap.IsTuple (Ts j) #[va j, vb j]) :
    Source prog w A (.Tuple [.Name x px, .Name y py] k pos) (okP x y) items.size (BP x y fun i a b => a = va i ∧ b = vb i) (ax :: (List.range items.size).map Ts) s₁.heap.objs.size s₁ (.ref ax) where
  run := fun K E h => by
    have hlt : ax < s₁.heap.objs.size := by obtain ⟨_, e, _⟩ := hl; exact Heap.lt_size e
    have hTl : ∀ j, j < items.size → Ts j < s₁.heap.objs.size := fun j hj => by obtain ⟨_, e, _⟩ := ht j hj; exact Heap.lt_size e
    refine wpAny_pyIter_tuple hl ?_
    refine h _ [s₁.heap.objs.size] (s₁.heap.objs.size :: ax :: (List.range items.size).map Ts) _ _ (fun env' ok => (Steps.pair hh (tupOfTuples hh s₁.heap.objs.size ax (Nat.ne_of_lt hlt) items Ts (fun j => #[va j, vb j]) hit fun j hj => Nat.ne_of_lt (hTl j hj)) (fun i vals e => by rw [e]; rfl) ok.1 ok.2.1 ok.2.2).mono ?_) ⟨⟨_, Heap.get?_push_size _ rfl, rfl, rfl⟩, hl.push _, fun j hj => ?_⟩ (fun b hb => ?_) (fun b hb => ⟨?_, ?_⟩) (fun b o e => Heap.get?_push_of_some _ e) (by rw [Heap.size_push]; exact Nat.le_succ _)
    · rintro i m m' ⟨p, q, e, rfl⟩
      cases e
      exact ⟨_, _, ⟨rfl, rfl⟩, rfl⟩
    · refine Classical.byContradiction fun gK => ?_
      obtain ⟨o, e, r⟩ := ht j hj
      refine gK ?_
      clear gK
      exact ⟨o, Heap.get?_push_of_some _ e, r⟩
    · rw [Heap.size_push]
      rcases List.mem_cons.mp hb with rfl | hb
      · exact ⟨Nat.lt_succ_self _, .inl List.mem_cons_self⟩
      · refine ⟨?_, .inr hb⟩
        rcases List.mem_cons.mp hb with rfl | hb
        · exact Nat.lt_succ_of_lt hlt
        · obtain ⟨j, hj, rfl⟩ := List.mem_map.mp hb
          exact Nat.lt_succ_of_lt (hTl j (List.mem_range.mp hj))
    all_goals (rw [List.mem_singleton.mp hb]; first | exact Nat.le_refl _ | (rw [Heap.size_push]; exact Nat.lt_succ_self _))
theorem add2 {prog : Program} {w : World} {A : Around} {E : Value → Shared → Prop} {s : Shared} {h₀ : Heap} {L a b : Addr} {m : Nm} {news : Led} {xs ys : List Value} {ka kb : Nat} {Q : Value → Shared → Prop} (F : Fr h₀ L s.heap m) (N : News h₀ L s.heap news) (ha : (a, W.listOf xs.toArray ka) ∈ news) (hb : (b, W.listOf ys.toArray kb) ∈ news) (hz : xs.length + ys.length ≤ 100000)
    (h : ∀ D h', Fr h₀ L h' m → News h₀ L h' ((D, W.listOf (xs ++ ys).toArray 0) :: news) → (∀ p ∈ news, p.1 < D) → Q (.ref D) { s with heap := h' }) :
    wpAny (model prog w) A (binaryOp .Add (.ref a) (.ref b)) Q E s := by
  refine add_lists F N (News.isList N ha) (News.isList N hb) (fun h' F' N' => ?_) (by have : sizeLine = 16777216 := rfl; omega)
  exact h _ h' F' N' fun p hp => Heap.lt_size (N p hp).1
theorem IV.rep (x : Int) (t : Tok) : ∀ n : Nat, IV (List.replicate n (.int x t)) (List.replicate n x)
  | 0 => IV.nil
  | n + 1 => ⟨List.replicate (n + 1) (x, t), by simp, by simp⟩
theorem IV.app {a b : List Value} {x y : List Int} (h : IV a x) (h' : IV b y) : IV (a ++ b) (x ++ y) := by
  obtain ⟨l, rfl, rfl⟩ := h
  obtain ⟨l', rfl, rfl⟩ := h'
  exact ⟨l ++ l', by simp, by simp⟩
noncomputable def imF (a b : Nat) : List Int := List.replicate (a / 2) 0 ++ List.replicate (a % 2) 1 ++ List.replicate (b / 2) 2
theorem imF_012 (a b : Nat) : ∀ c ∈ imF a b, is012 c := fun c hc => by
  unfold imF at hc
  simp only [List.mem_append, List.mem_replicate] at hc
  unfold is012
  rcases hc with (⟨_, h⟩ | ⟨_, h⟩) | ⟨_, h⟩ <;> simp [h]
theorem imF_len {a b : Nat} (ha : a ≤ 5) (hb : b ≤ 5) : (imF a b).length ≤ 100 := by
  unfold imF
  simp only [List.length_append, List.length_replicate]
  omega
end Mine
end
section
open PySem PySem.W PyProof.Rows PySem.Spec PySem.Calls
namespace Mine
open PyProof.Rows.LCg (NsObj ns_obj lst lst_snoc)
local macro_rules | `(tactic| k_all) => `(tactic| first | assumption | exact all_ne_of_lt (by assumption) (by lia))
local macro_rules | `(tactic| walk_at "call builtin:len") => `(tactic| (k_here; k_dflt (apply call_len_list; (walk_at "li9"); (simp; lia); k_whole)))
local macro_rules | `(tactic| walk_at "binaryOp Mult ref int") => `(tactic| (k_here; apply mul1; k_asm; k_asm; k_mem; assumption; assumption; intros; (try k_sweep)))
local macro_rules | `(tactic| walk_at "binaryOp Add ref ref") => `(tactic| (k_here; apply add2; k_asm; k_asm; k_mem; k_mem; (simp; lia); intros; (try k_sweep)))
noncomputable def lwIm : PySem.Expr := match lwB.getD 12 (.Pass default) with | .Assign _ e _ => e | _ => .Constant .none 0 default
set_option maxHeartbeats 0 in
theorem im_elt (w : World) (mean : ExcName → Option Value) (mg mb : PySem.Str → Option Value) (dp un : Nat) (gd : Option (List Code)) (outer : List Env) (A₀ : Around) (base h₀ : Heap) (L fa : Addr) (cd : Value) (s₁ : Shared)
    (hB : Below A₀ base outer h₀) (hX : (K w.params).In h₀) (hT : Top topProg lw mean mg mb h₀) (hdp : dp + 100 < recursionLimit) (hun : un + 400 < cLine)
    (a b : Nat) (ta tb : Tok) (ha : a ≤ 5) (hb : b ≤ 5) (C D : Addr) (oC oD : Obj) (m m' : Nm) (rest : Led) (h : Heap) (tk : Nat) (gs : Array GenState) (Q E' : Value → Shared → Prop)
    (hoC : NsObj oC m') (hx1 : m' (Str.ofString "one") = some (.int (a : Int) ta)) (hx2 : m' (Str.ofString "other") = some (.int (b : Int) tb)) (F : Fr h₀ L h m) (N : News h₀ L h ((C, oC) :: (D, oD) :: rest))
    (hret : ∀ T v h' tk', Fr h₀ L h' m → News h₀ L h' ((T, W.listOf (List.toArray v) 0) :: (C, oC) :: (D, oD) :: rest) → IV v (imF a b) → @LT.lt Nat _ C T → @LT.lt Nat _ D T → Q (.ref T) { s₁ with heap := h', toks := tk', gens := gs }) :
    wpAny (model PySem.Challenge.rw_tp0040_01.row.prog w) (ktrTop dp un gd lawN lwS L fa cd (lawCl L) outer) (eval (compElt lwIm) (compEnvC (compScope lwIm) [] C (envX lawN lwS L fa cd (lawCl L)))) Q E' { s₁ with heap := h, toks := tk, gens := gs } := by
  revert hX
  k_fill
  intro hX
  have e1 : (a : Int).fdiv 2 = ((a / 2 : Nat) : Int) := by rw [Int.fdiv_eq_ediv_of_nonneg _ (by decide)]; lia
  have e2 : (a : Int).fmod 2 = ((a % 2 : Nat) : Int) := by rw [Int.fmod_eq_emod_of_nonneg _ (by decide)]; lia
  have e3 : (b : Int).fdiv 2 = ((b / 2 : Nat) : Int) := by rw [Int.fdiv_eq_ediv_of_nonneg _ (by decide)]; lia
  have g1 : -(2 ^ 63 : Int) ≤ (a : Int).fdiv 2 := by lia
  have g2 : (a : Int).fdiv 2 ≤ 100000 := by lia
  have g3 : -(2 ^ 63 : Int) ≤ (a : Int).fmod 2 := by lia
  have g4 : (a : Int).fmod 2 ≤ 100000 := by lia
  have g5 : -(2 ^ 63 : Int) ≤ (b : Int).fdiv 2 := by lia
  have g6 : (b : Int).fdiv 2 ≤ 100000 := by lia
  show wpAny _ _ (eval (.BinOp _ _ _ _) _) _ _ _
  k_steps
  rename_i T hT9 F9 N9 l9
  refine hret T (List.replicate ((a : Int).fdiv 2).toNat (Value.int 0 tk) ++ List.replicate ((a : Int).fmod 2).toNat (Value.int 1 (tk + 1 + 1 + 1)) ++ List.replicate ((b : Int).fdiv 2).toNat (Value.int 2 (tk + 1 + 1 + 1 + 1 + 1 + 1))) hT9 _ F9 (fun q hq => N9 q ?_) ?_ (ltM l9 (mem_t4 mm3)) (ltM l9 (mem_t4 (mem_t4 mm0)))
  · simp only [List.mem_cons] at hq ⊢
    rcases hq with e | e
    · exact .inl e
    · simp [e]
  · unfold imF
    rw [e1, e2, e3, Int.toNat_natCast, Int.toNat_natCast, Int.toNat_natCast]
    exact ((IV.rep _ _ _).app (IV.rep _ _ _)).app (IV.rep _ _ _)
end Mine
end
section
open PySem PySem.W PyProof.Rows PySem.Spec PySem.Calls
namespace Mine
open PyProof.Rows.LCg (NsObj ns_obj lst lst_snoc)
local macro_rules | `(tactic| walk_at "call builtin:len") => `(tactic| (k_here; k_dflt (apply call_len_list; (walk_at "li9"); (simp; omega); k_whole)))
noncomputable def offL (a : Addr) (led : Led) : Led := led.filter fun q => decide (@Ne Nat q.1 a)
theorem offL_mem {a : Addr} {led : Led} {q : Addr × Obj} : q ∈ offL a led ↔ q ∈ led ∧ q.1 ≠ a := by
  unfold offL
  rw [List.mem_filter, decide_eq_true_iff]
theorem offL_obj {led : Led} {a b : Addr} {h₀ h : Heap} {L : Addr} {o o' : Obj} {x : Option Value} (N : News h₀ L h led) (ha : (a, o) ∈ led) (ho : o.data = .cell x) (hm : (b, o') ∈ led) (hne : ∀ y, o'.data ≠ .cell y) : (b, o') ∈ offL a led := by
  refine offL_mem.mpr ⟨hm, ?_⟩
  rintro (e : b = a)
  subst e
  have h1 := (N _ hm).1
  have h2 := (N _ ha).1
  dsimp only at h1 h2
  rw [h1] at h2
  cases h2
  exact hne _ ho
theorem LevIn.off {led : Led} {v : Value} {p : T3 × T3} {a : Addr} {h₀ h : Heap} {L : Addr} {o : Obj} {x : Option Value} (N : News h₀ L h led) (ha : (a, o) ∈ led) (ho : o.data = .cell x) (hl : LevIn led v p) : LevIn (offL a led) v p := by
  revert N ha ho
  exact hl.casesOn fun z1 z2 z3 N ha ho => .mk (offL_obj N ha ho z1 (fun y e => by cases e)) (offL_obj N ha ho z2 (fun y e => by cases e)) (offL_obj N ha ho z3 (fun y e => by cases e))
/-- the ledger without one address -/
theorem off_led {led : Led} {a : Addr} {h₀ h : Heap} {L : Addr} {o : Obj} {x : Option Value} {C : Prop} (N : News h₀ L h led) (ha : (a, o) ∈ led) (ho : o.data = .cell x)
    (k : ∀ tail : Led, (∀ q ∈ led, q.1 ≠ a → q ∈ tail) → (∀ b o', (b, o') ∈ led → (∀ y, o'.data ≠ .cell y) → (b, o') ∈ tail) → (∀ v p, LevIn led v p → LevIn tail v p) → (∀ q ∈ tail, q.1 ≠ a) → News h₀ L h ((a, o) :: tail) → C) : C :=
  k (offL a led) (fun _ hq hn => offL_mem.mpr ⟨hq, hn⟩) (fun _ _ hm hne => offL_obj N ha ho hm hne) (fun _ _ hl => hl.off N ha ho) (fun _ hq => (offL_mem.mp hq).2) fun q hq => (List.mem_cons.mp hq).elim (fun e => N q (e ▸ ha)) fun hq => N q (offL_mem.mp hq).1
set_option maxHeartbeats 0 in
theorem law_D3 (w : World) (mean : ExcName → Option Value) (mg mb : PySem.Str → Option Value) (dp un : Nat) (gd : Option (List Code)) (outer : List Env) (A₀ : Around) (base h₀ : Heap) (L fa : Addr) (cd : Value) (s₁ : Shared)
    (hB : Below A₀ base outer h₀) (hX : (K w.params).In h₀) (hT : Top topProg lw mean mg mb h₀) (hdp : dp + 100 < recursionLimit) (hun : un + 400 < cLine)
    (CL nl WL im LV : Addr) (c0 c1 c2 c3 : Int) (u0 u1 u2 u3 : Tok) (kc : Nat) (n1 n2 : Str) (t1 t2 : Tok) (kn : Nat) (ws : List Nat) (kW : Nat) (refs : List Value) (kD R st : Nat) (ts : Tok) (i0 i1 i2 : List Int) (oN oW oI oS oV oT : Obj) (vV vT : Option Value)
    (m : Nm) (led rest : Led) (h : Heap) (tk : Nat) (gs : Array GenState) (Q : Flow → Shared → Prop) (E' : Value → Shared → Prop)
    (F : Fr h₀ L h m) (N : News h₀ L h ((LV, W.listOf (List.toArray refs) kD) :: led)) (hsub : ∀ q ∈ rest, q ∈ led) (ho6 : ∀ q ∈ rest, q.1 ≠ L + 6) (ho7 : ∀ q ∈ rest, q.1 ≠ L + 7)
    (zV : (L + 6, oV) ∈ led) (dV : oV.data = .cell vV) (zT : (L + 7, oT) ∈ led) (dT : oT.data = .cell vT)
    (m1 : m (Str.ofString "cells") = some (.ref CL)) (z1 : (CL, W.listOf #[.int c0 u0, .int c1 u1, .int c2 u2, .int c3 u3] kc) ∈ rest)
    (z2 : (L + 2, oN) ∈ rest) (dN : oN.data = .cell (some (.ref nl))) (z3 : (nl, W.listOf #[.str n1 t1, .str n2 t2] kn) ∈ rest)
    (z4 : (L + 3, oW) ∈ rest) (dW : oW.data = .cell (some (.ref WL))) (z5 : (WL, W.listOf (List.toArray (ws.map (wv n1 t1 n2 t2))) kW) ∈ rest)
    (z6 : (L + 4, oI) ∈ rest) (dI : oI.data = .cell (some (.ref im))) (hI : ImIn rest im i0 i1 i2)
    (z7 : (L + 5, oS) ∈ led) (dS : oS.data = .cell (some (.int st ts))) (hst : st = 0 ∨ st = 1)
    (hlen : refs.length = R + 1) (hlev : ∀ r, r ≤ R → ∃ v, refs[r]? = some v ∧ LevIn led v (lvAt i0 i1 i2 r))
    (h0 : (∀ c ∈ i0, is012 c) ∧ i0.length ≤ 100) (h1 : (∀ c ∈ i1, is012 c) ∧ i1.length ≤ 100) (h2 : (∀ c ∈ i2, is012 c) ∧ i2.length ≤ 100) (hR0 : R ≤ 100)
    (ht : 1 ≤ t1 ∧ t1 < t2) (hne : n1 ≠ n2) (hso : ∀ s ∈ ws.map (wn n1 n2), PyData.strOk s = true) (hc1 : 0 ≤ c1) (hz : 0 < ws.length ∧ ws.length ≤ 1000)
    (hct : ∀ j, j < ws.length → (tdAt i0 i1 i2 R st j).1 = ((ws.take j).count 0 : Nat)) (hkd : ∀ j (hj : j < ws.length), (tdAt i0 i1 i2 R st j).2 = if ws[j] = 0 then 0 else 1)
    (hret : ∀ h' tk' m', Fr h₀ L h' m' → News h₀ L h' rest → Q (.ret (.bool true)) { s₁ with heap := h', toks := tk', gens := gs }) :
    wpAny (model PySem.Challenge.rw_tp0040_01.row.prog w) (ktrTop dp un gd lawN lwS L fa cd (lawCl L) outer) (storeName (envX lawN lwS L fa cd (lawCl L)) (Str.ofString "levels") (.ref LV)) (fun _ s' =>
      wpAny (model PySem.Challenge.rw_tp0040_01.row.prog w) (ktrTop dp un gd lawN lwS L fa cd (lawCl L) outer) (execs (lwB.drop 15) (envX lawN lwS L fa cd (lawCl L))) Q E' s') E' { s₁ with heap := h, toks := tk, gens := gs } := by
  revert hX
  k_fill
  intro hX
  have F := fixF F m1
  refine off_led N (mem_t zV) dV fun tail zt zo zlev hoft N1 => ?_
  clear N
  obtain ⟨R', hR'⟩ : ∃ R, lwB.drop 15 = R := ⟨_, rfl⟩
  rw [hR']
  k_steps
  rename_i h8 oV8 F8 N8 d8
  rw [← hR']
  clear hR'
  have zW : ∀ q ∈ led, q.1 ≠ L + 6 → q ∈ (L + 6, oV8) :: tail := fun q hq hn => mem_t (zt _ (mem_t hq) hn)
  refine off_led N8 (zW _ zT (by show @Ne Nat _ _; omega)) dT fun t7 yt yo ylev y7 N7 => ?_
  have hrt : ∀ {q : Addr × Obj}, q ∈ rest → q ∈ t7 := fun {q} hq => yt _ (zW _ (hsub _ hq) (ho6 _ hq)) (ho7 _ hq)
  exact law_C w mean mg mb dp un gd outer A₀ base h₀ L fa cd _ hB (by assumption) hT hdp hun CL nl WL LV im c0 c1 c2 c3 u0 u1 u2 u3 kc n1 n2 t1 t2 kn ws kW refs kD R st ts i0 i1 i2 oN oW oI oS oV8 oT vT _ _ h8 _ gs Q E' F8 N7 y7 dT (by rfl) (hrt z1) (hrt z2) dN (hrt z3) (hrt z4) dW (hrt z5) (hrt z6) dI (hI.mono fun q hq => hrt hq)
    (yt _ (zW _ z7 (by show @Ne Nat _ _; omega)) (by show @Ne Nat _ _; omega)) dS hst (yt _ mm0 (by show @Ne Nat _ _; omega)) d8 (yo _ _ (mem_t (zo _ _ mm0 (fun y e => by cases e))) (fun y e => by cases e)) hlen
    (fun r hr => (hlev r hr).elim fun v hv => ⟨v, hv.1, ylev _ _ ((zlev _ _ (hv.2.mono fun q hq => mem_t hq)).mono fun q hq => mem_t hq)⟩) h0 h1 h2 hR0 ht hne hso hc1 hz hct hkd fun h' tk' m' F' N' => hret h' tk' m' F' fun q hq => N' q (hrt hq)
set_option maxHeartbeats 0 in
theorem law_D2 (w : World) (mean : ExcName → Option Value) (mg mb : PySem.Str → Option Value) (dp un : Nat) (gd : Option (List Code)) (outer : List Env) (A₀ : Around) (base h₀ : Heap) (L fa : Addr) (cd : Value) (s₁ : Shared)
    (hB : Below A₀ base outer h₀) (hX : (K w.params).In h₀) (hT : Top topProg lw mean mg mb h₀) (hdp : dp + 100 < recursionLimit) (hun : un + 400 < cLine)
    (CL nl WL im : Addr) (c0 c1 c2 c3 : Int) (u0 u1 u2 u3 : Tok) (kc : Nat) (n1 n2 : Str) (t1 t2 : Tok) (kn : Nat) (ws : List Nat) (kW : Nat) (R low st : Nat) (tl : Tok) (i0 i1 i2 : List Int) (oN oW oI oS oV oT : Obj) (vS vV vT : Option Value)
    (m : Nm) (rest : Led) (h : Heap) (tk : Nat) (gs : Array GenState) (Q : Flow → Shared → Prop) (E' : Value → Shared → Prop)
    (F : Fr h₀ L h m) (N : News h₀ L h ((L + 5, oS) :: (L + 6, oV) :: (L + 7, oT) :: rest)) (ho5 : ∀ q ∈ rest, q.1 ≠ L + 5) (ho6 : ∀ q ∈ rest, q.1 ≠ L + 6) (ho7 : ∀ q ∈ rest, q.1 ≠ L + 7)
    (dS : oS.data = .cell vS) (dV : oV.data = .cell vV) (dT : oT.data = .cell vT)
    (m1 : m (Str.ofString "cells") = some (.ref CL)) (m2 : m (Str.ofString "low") = some (.int (low : Int) tl)) (z1 : (CL, W.listOf #[.int c0 u0, .int c1 u1, .int c2 u2, .int c3 u3] kc) ∈ rest)
    (z2 : (L + 2, oN) ∈ rest) (dN : oN.data = .cell (some (.ref nl))) (z3 : (nl, W.listOf #[.str n1 t1, .str n2 t2] kn) ∈ rest)
    (z4 : (L + 3, oW) ∈ rest) (dW : oW.data = .cell (some (.ref WL))) (z5 : (WL, W.listOf (List.toArray (ws.map (wv n1 t1 n2 t2))) kW) ∈ rest)
    (z6 : (L + 4, oI) ∈ rest) (dI : oI.data = .cell (some (.ref im))) (hI : ImIn rest im i0 i1 i2)
    (h0 : (∀ c ∈ i0, is012 c) ∧ i0.length ≤ 100) (h1 : (∀ c ∈ i1, is012 c) ∧ i1.length ≤ 100) (h2 : (∀ c ∈ i2, is012 c) ∧ i2.length ≤ 100)
    (hst : st = if low = 1 then 1 else 0) (hR0 : R ≤ 100)
    (hlo : ∀ r, r < R → pk (lvAt i0 i1 i2 r).1 st < ((ws.length / 2 : Nat) : Int)) (hhi : ((ws.length / 2 : Nat) : Int) ≤ pk (lvAt i0 i1 i2 R).1 st)
    (ht : 1 ≤ t1 ∧ t1 < t2) (hne : n1 ≠ n2) (hso : ∀ s ∈ ws.map (wn n1 n2), PyData.strOk s = true) (hc1 : 0 ≤ c1) (hz : 0 < ws.length ∧ ws.length ≤ 1000)
    (hct : ∀ j, j < ws.length → (tdAt i0 i1 i2 R st j).1 = ((ws.take j).count 0 : Nat)) (hkd : ∀ j (hj : j < ws.length), (tdAt i0 i1 i2 R st j).2 = if ws[j] = 0 then 0 else 1)
    (hret : ∀ h' tk' m', Fr h₀ L h' m' → News h₀ L h' rest → Q (.ret (.bool true)) { s₁ with heap := h', toks := tk', gens := gs }) :
    wpAny (model PySem.Challenge.rw_tp0040_01.row.prog w) (ktrTop dp un gd lawN lwS L fa cd (lawCl L) outer) (execs (lwB.drop 13) (envX lawN lwS L fa cd (lawCl L))) Q E' { s₁ with heap := h, toks := tk, gens := gs } := by
  revert hX
  k_fill
  intro hX
  have F := fixF2 F m1 m2
  have N1 : News h₀ L h ((L + 5, oS) :: (L + 6, oV) :: (L + 7, oT) :: (L + 4, oI) :: (L + 3, oW) :: (WL, W.listOf (List.toArray (ws.map (wv n1 t1 n2 t2))) kW) :: rest) := fun q hq => N q (sub_use hq (by f_list))
  have dW5 : @Ne Nat WL (L + 5) := ho5 _ z5
  have dW6 : @Ne Nat WL (L + 6) := ho6 _ z5
  obtain ⟨R', hR'⟩ : ∃ R, lwB.drop 15 = R := ⟨_, rfl⟩
  rw [show lwB.drop 13 = lwB.getD 13 (.Pass default) :: lwB.getD 14 (.Pass default) :: lwB.drop 15 from rfl, hR']
  show wpAny _ _ (execs (Stmt.Assign [_] _ _ :: Stmt.Assign [_] _ _ :: R') _) _ _ _
  have hpl : (((List.toArray (ws.map (wv n1 t1 n2 t2))).size : Nat) : Int).fdiv 2 = ((ws.length / 2 : Nat) : Int) := by
    rw [Int.fdiv_eq_ediv_of_nonneg _ (by decide)]
    simp
  k_steps
  all_goals (
    rename_i hl1 h8 oS8 F8 N8 d8
    have F8' : Fr h₀ L h8 (setN (setN m (Str.ofString "cells") (Value.ref CL)) (Str.ofString "low") (Value.int (↑low) tl)) := F8
    first
    | (have hs : st = 1 := by rw [hst, if_pos (by omega)])
    | (have hs : st = 0 := by rw [hst, if_neg (by omega)])
    subst hs
    rw [← hR']
    refine c_levels w mean mg mb _ im i0 i1 i2 _ _ _ _ R (hI.mono fun q hq => mem_t4 (mem_t (mem_t hq))) (by first | exact .inl rfl | exact .inr rfl) h0 h1 h2 hR0 (fun r hr => by rw [hpl]; exact hlo r hr) (by rw [hpl]; exact hhi) dp un gd _ _ _ _ _ _ _ _ _ _ _ _ _ _ hB F8 (by assumption) N8 hT rfl (by omega) (by omega) (fun v news' h' tk' fin F' N' => ?_)
    revert F' N'
    refine fin.casesOn fun {D kD refs led} hsub hlen hlev F' N' => ?_
    exact law_D3 w mean mg mb dp un gd outer A₀ base h₀ L fa cd _ hB (by assumption) hT hdp hun CL nl WL im D c0 c1 c2 c3 u0 u1 u2 u3 kc n1 n2 t1 t2 kn ws kW refs kD R _ _ i0 i1 i2 oN oW oI oS8 oV oT vV vT _ led rest h' tk' gs Q E' F' N' (fun q hq => hsub q (mem_t4 (mem_t (mem_t hq)))) ho6 ho7 (hsub _ mm1) dV (hsub _ mm2) dT (by rfl) z1 z2 dN z3 z4 dW z5 z6 dI hI (hsub _ mm0) d8 (by first | exact .inl rfl | exact .inr rfl) hlen hlev h0 h1 h2 hR0 ht hne hso hc1 hz hct hkd hret)
end Mine
end
section
open PySem PySem.W PyProof.Rows PySem.Spec PySem.Calls
namespace Mine
open PyProof.Rows.LCg (NsObj ns_obj lst lst_snoc)
local macro_rules | `(tactic| walk_at "call builtin:len") => `(tactic| (k_here; k_dflt (apply call_len_list; (walk_at "li9"); (simp; omega); k_whole)))
local macro_rules | `(tactic| walk_at "exec Assign cons ListComp") => `(tactic| (k_here; refine wpAny_Assign_Name ?_))
noncomputable def kpF (low high : Nat) (i : Nat) : Nat × Nat := if i = 0 then (low, low) else if i = 1 then (low, high) else (high, high)
theorem kpF_5 {low high : Nat} (hl : low ≤ 5) (hh : high ≤ 5) (i : Nat) : (kpF low high i).1 ≤ 5 ∧ (kpF low high i).2 ≤ 5 := by
  unfold kpF
  split
  · exact ⟨hl, hl⟩
  · split
    · exact ⟨hl, hh⟩
    · exact ⟨hh, hh⟩
/-- the images made so far -/
noncomputable def ImsIn (low high : Nat) (i : Nat) (ys : List Value) (live : Led) : Prop :=
  ys.length = i ∧ ∀ j, j < i → ∃ q : Addr × List Value, ys[j]? = some (.ref q.1) ∧ (q.1, W.listOf (List.toArray q.2) 0) ∈ live ∧ IV q.2 (imF (kpF low high j).1 (kpF low high j).2)
theorem ImsIn.snoc {low high i : Nat} {ys v : List Value} {live : Led} {T : Addr} (h : ImsIn low high i ys live) (hv : IV v (imF (kpF low high i).1 (kpF low high i).2)) : ImsIn low high (i + 1) (ys ++ [.ref T]) ((T, W.listOf (List.toArray v) 0) :: live) :=
  ⟨by rw [List.length_append, h.1]; rfl, fun j hj => (Nat.lt_or_ge j i).elim (fun hj => (h.2 j hj).elim fun q z => ⟨q, by rw [List.getElem?_append_left (by rw [h.1]; exact hj)]; exact z.1, .tail _ z.2.1, z.2.2⟩) fun hj' => by
    have e : j = i := Nat.le_antisymm (Nat.le_of_lt_succ hj) hj'
    exact ⟨(T, v), by rw [List.getElem?_append_right (by rw [h.1]; exact hj'), h.1, e, Nat.sub_self]; rfl, .head _, e ▸ hv⟩⟩
theorem ImsIn.three {low high : Nat} {ys : List Value} {live : Led} {C : Prop} (h : ImsIn low high 3 ys live) (k : ∀ I0 I1 I2 v0 v1 v2, ys = [.ref I0, .ref I1, .ref I2] → (I0, W.listOf (List.toArray v0) 0) ∈ live → (I1, W.listOf (List.toArray v1) 0) ∈ live → (I2, W.listOf (List.toArray v2) 0) ∈ live → IV v0 (imF low low) → IV v1 (imF low high) → IV v2 (imF high high) → C) : C :=
  (h.2 0 (by decide)).elim fun q0 e0 => (h.2 1 (by decide)).elim fun q1 e1 => (h.2 2 (by decide)).elim fun q2 e2 => k q0.1 q1.1 q2.1 q0.2 q1.2 q2.2 (list3_of h.1 e0.1 e1.1 e2.1) e0.2.1 e1.2.1 e2.2.1 e0.2.2 e1.2.2 e2.2.2
theorem three_at {P : Nat → Prop} (h0 : P 0) (h1 : P 1) (h2 : P 2) : ∀ j, j < 3 → P j := fun _ h => lt3 h0 h1 h2 h
set_option maxHeartbeats 0 in
theorem law_D1 (w : World) (mean : ExcName → Option Value) (mg mb : PySem.Str → Option Value) (dp un : Nat) (gd : Option (List Code)) (outer : List Env) (A₀ : Around) (base h₀ : Heap) (L fa : Addr) (cd : Value) (s₁ : Shared)
    (hB : Below A₀ base outer h₀) (hX : (K w.params).In h₀) (hT : Top topProg lw mean mg mb h₀) (hdp : dp + 100 < recursionLimit) (hun : un + 400 < cLine)
    (CL nl WL : Addr) (c0 c1 c2 c3 : Int) (u0 u1 u2 u3 : Tok) (kc : Nat) (n1 n2 : Str) (t1 t2 : Tok) (kn : Nat) (ws : List Nat) (kW : Nat) (R low high st : Nat) (tl th : Tok) (oN oW oI oS oV oT : Obj) (vI vS vV vT : Option Value)
    (m : Nm) (rest : Led) (h : Heap) (tk : Nat) (gs : Array GenState) (Q : Flow → Shared → Prop) (E' : Value → Shared → Prop)
    (F : Fr h₀ L h m) (N : News h₀ L h ((L + 4, oI) :: (L + 5, oS) :: (L + 6, oV) :: (L + 7, oT) :: rest)) (ho4 : ∀ q ∈ rest, q.1 ≠ L + 4) (ho5 : ∀ q ∈ rest, q.1 ≠ L + 5) (ho6 : ∀ q ∈ rest, q.1 ≠ L + 6) (ho7 : ∀ q ∈ rest, q.1 ≠ L + 7)
    (dI : oI.data = .cell vI) (dS : oS.data = .cell vS) (dV : oV.data = .cell vV) (dT : oT.data = .cell vT)
    (m1 : m (Str.ofString "cells") = some (.ref CL)) (m2 : m (Str.ofString "low") = some (.int (low : Int) tl)) (m3 : m (Str.ofString "high") = some (.int (high : Int) th)) (z1 : (CL, W.listOf #[.int c0 u0, .int c1 u1, .int c2 u2, .int c3 u3] kc) ∈ rest)
    (z2 : (L + 2, oN) ∈ rest) (dN : oN.data = .cell (some (.ref nl))) (z3 : (nl, W.listOf #[.str n1 t1, .str n2 t2] kn) ∈ rest)
    (z4 : (L + 3, oW) ∈ rest) (dW : oW.data = .cell (some (.ref WL))) (z5 : (WL, W.listOf (List.toArray (ws.map (wv n1 t1 n2 t2))) kW) ∈ rest)
    (hlow : low ≤ 5) (hhigh : high ≤ 5) (hst : st = if low = 1 then 1 else 0) (hR0 : R ≤ 100)
    (hlo : ∀ r, r < R → pk (lvAt (imF low low) (imF low high) (imF high high) r).1 st < ((ws.length / 2 : Nat) : Int)) (hhi : ((ws.length / 2 : Nat) : Int) ≤ pk (lvAt (imF low low) (imF low high) (imF high high) R).1 st)
    (ht : 1 ≤ t1 ∧ t1 < t2) (hne : n1 ≠ n2) (hso : ∀ s ∈ ws.map (wn n1 n2), PyData.strOk s = true) (hc1 : 0 ≤ c1) (hz : 0 < ws.length ∧ ws.length ≤ 1000)
    (hct : ∀ j, j < ws.length → (tdAt (imF low low) (imF low high) (imF high high) R st j).1 = ((ws.take j).count 0 : Nat)) (hkd : ∀ j (hj : j < ws.length), (tdAt (imF low low) (imF low high) (imF high high) R st j).2 = if ws[j] = 0 then 0 else 1)
    (hret : ∀ h' tk' m', Fr h₀ L h' m' → News h₀ L h' rest → Q (.ret (.bool true)) { s₁ with heap := h', toks := tk', gens := gs }) :
    wpAny (model PySem.Challenge.rw_tp0040_01.row.prog w) (ktrTop dp un gd lawN lwS L fa cd (lawCl L) outer) (execs (lwB.drop 11) (envX lawN lwS L fa cd (lawCl L))) Q E' { s₁ with heap := h, toks := tk, gens := gs } := by
  revert hX
  k_fill
  intro hX
  have F := fixF3 F m1 m2 m3
  obtain ⟨R', hR'⟩ : ∃ R, lwB.drop 12 = R := ⟨_, rfl⟩
  rw [show lwB.drop 11 = lwB.getD 11 (.Pass default) :: lwB.drop 12 from rfl, hR']
  show wpAny _ _ (execs (Stmt.Assign [_] _ _ :: R') _) _ _ _
  k_steps
  rw [← hR']
  clear hR' R'
  obtain ⟨R', hR'⟩ : ∃ R, lwB.drop 13 = R := ⟨_, rfl⟩
  rw [show lwB.drop 12 = lwB.getD 12 (.Pass default) :: lwB.drop 13 from rfl, hR']
  refine wpAny_execs_cons ?_
  show wpAny _ _ (exec (Stmt.Assign [_] _ _) _) _ _ _
  refine wpAny_Assign_Name ?_
  refine ListComp_W (by with_unfolding_all rfl) (by rfl) (by decide) ?_
  k_steps
  rename_i T0 hh0 hl0 T1 hh1 hl1 T2 hh2 hl2 KT hh3 hl3 h8 F8 N8
  have F8' : Fr h₀ L h8 (setN (setN (setN (setN m (Str.ofString "cells") (.ref CL)) (Str.ofString "low") (.int (low : Int) tl)) (Str.ofString "high") (.int (high : Int) th)) (Str.ofString "kinds") (Value.ref KT)) := F8
  clear F8
  refine fold_led N8 fun fz hfz N8 => ?_
  have gK := hfz _ mm0
  have g2 := hfz _ mm1
  have g1 := hfz _ mm2
  have g0 := hfz _ mm3
  have f4 := hfz _ (mem_t4 mm0)
  have f5 := hfz _ (mem_t4 mm1)
  have f6 := hfz _ (mem_t4 mm2)
  have f7 := hfz _ (mem_t4 mm3)
  have fr : ∀ q ∈ rest, q ∈ fz := fun q hq => hfz _ (mem_t4 (mem_t4 hq))
  have ht3 : ∀ j, j < 3 → (nth3 T0 T1 T2 j, tupO #[.int ((kpF low high j).1 : Int) (nth3 tl tl th j), .int ((kpF low high j).2 : Int) (nth3 tl th th j)]) ∈ fz := three_at g0 g1 g2
  clear hfz
  refine comp_srcLn fz (ImsIn low high)
    (src_tupleP (by rfl) KT #[.ref T0, .ref T1, .ref T2] (nth3 T0 T1 T2) (fun j => .int ((kpF low high j).1 : Int) (nth3 tl tl th j)) (fun j => .int ((kpF low high j).2 : Int) (nth3 tl th th j)) _ _ _ _ _ _ ⟨_, (N8 _ gK).1, rfl, 0, rfl⟩ (three_at rfl rfl rfl) (fun j hj => ⟨_, (N8 _ (ht3 j hj)).1, rfl, 0, rfl⟩)) (fun C => ⟨lookup_relabel_local (by rfl), lookup_relabel_local (by rfl), by rfl⟩) (show 3 ≤ sizeLine by decide) (by decide) rfl F8' N8 (Fr.ns F8').lt (fun p hp => Heap.lt_size (N8 p hp).1) (Nat.le_refl _)
    (fun b hb => (List.mem_cons.mp hb).elim (fun e => .inr ⟨_, e ▸ gK⟩) fun hb => (List.mem_map.mp hb).elim fun j hj => .inr ⟨_, hj.2 ▸ ht3 j (List.mem_range.mp hj.1)⟩) ⟨rfl, fun j hj => absurd hj (Nat.not_lt_zero _)⟩ (fun i ys live hi => Nat.le_of_eq hi.1) ?_ ?_
  · intro g i ys live C D oC m1 m2 h tk rest' E' hi hI9 hB9 hoC F9 N9 hr9 hz9 hCD
    have hx1 := pair_at1 (by decide) hB9
    have hx2 := pair_at hB9
    refine testsOf_nil ?_
    exact im_elt w mean mg mb dp un gd outer A₀ base h₀ L fa cd _ hB (by assumption) hT hdp hun (kpF low high i).1 (kpF low high i).2 _ _ (kpF_5 hlow hhigh i).1 (kpF_5 hlow hhigh i).2 C D oC (lst ys) _ m2 (live ++ rest') h tk gs _ _ hoC hx1 hx2 F9 N9 fun T v h' tk' F' N' hv hC hD =>
      TurnEndL.intro ((T, W.listOf (List.toArray v) 0) :: live) F' N' (sub_cons mm1 (sub_cons mm2 (sub_cons mm0 fun q hq => mem_t (mem_t (mem_t hq))))) (hI9.snoc hv) (all_cons (.inr ⟨hC, hD⟩) fun p hp => .inl hp)
  · intro D h9 tk9 ys live F9 N9 hlt9 hll9 hI9
    refine hI9.three fun I0 I1 I2 v0 v1 v2 hys y0 y1 y2 w0 w1 w2 => ?_
    rw [hys] at N9
    have N9 : News h₀ L h9 ((L + 4, oI) :: (L + 5, oS) :: (L + 6, oV) :: (L + 7, oT) :: (D, W.listOf #[.ref I0, .ref I1, .ref I2] 3) :: (I0, W.listOf (List.toArray v0) 0) :: (I1, W.listOf (List.toArray v1) 0) :: (I2, W.listOf (List.toArray v2) 0) :: rest) := fun q hq => N9 q (sub_use hq (sub_cons (mem_t (mem_r f4)) (sub_cons (mem_t (mem_r f5)) (sub_cons (mem_t (mem_r f6)) (sub_cons (mem_t (mem_r f7)) (sub_cons mm0 (sub_cons (mem_t (mem_l y0)) (sub_cons (mem_t (mem_l y1)) (sub_cons (mem_t (mem_l y2)) fun q hq => mem_t (mem_r (fr q hq)))))))))))
    have hD4 : @LT.lt Nat _ (L + 4) D := ltM hlt9 f4
    have hD5 : @LT.lt Nat _ (L + 5) D := ltM hlt9 f5
    have hD6 : @LT.lt Nat _ (L + 6) D := ltM hlt9 f6
    have hD7 : @LT.lt Nat _ (L + 7) D := ltM hlt9 f7
    have hI0 : @LT.lt Nat _ D I0 := hll9 _ y0
    have hI1 : @LT.lt Nat _ D I1 := hll9 _ y1
    have hI2 : @LT.lt Nat _ D I2 := hll9 _ y2
    refine fold_tail4 N9 fun tail htl N9 => ?_
    have toff : ∀ a : Addr, @LT.lt Nat _ a D → (∀ q ∈ rest, q.1 ≠ a) → ∀ q ∈ tail, q.1 ≠ a := fun a ha ho q hq =>
      all_cons (P := fun q : Addr × Obj => q.1 ≠ a) (Nat.ne_of_gt ha) (all_cons (Nat.ne_of_gt (Nat.lt_trans ha hI0)) (all_cons (Nat.ne_of_gt (Nat.lt_trans ha hI1)) (all_cons (Nat.ne_of_gt (Nat.lt_trans ha hI2)) ho))) q (htl.2 q hq)
    have ht4 := toff (L + 4) hD4 ho4
    have ht5 := toff (L + 5) hD5 ho5
    have ht6 := toff (L + 6) hD6 ho6
    have ht7 := toff (L + 7) hD7 ho7
    clear hlt9 F8' N8 toff ho4 ho5 ho6 ho7 fr f4 f5 f6 f7 g0 g1 g2 gK hD4 hD5 hD6 hD7 hI0 hI1 hI2 ht3 hll9 hI9 hys
    k_steps
    rename_i h7 oI7 F7 N7 d7
    rw [← hR']
    have hrt : ∀ {q : Addr × Obj}, q ∈ rest → q ∈ (L + 4, oI7) :: tail := fun {q} hq => mem_t (htl.1 _ (mem_t4 hq))
    exact law_D2 w mean mg mb dp un gd outer A₀ base h₀ L fa cd _ hB (by assumption) hT hdp hun CL nl WL D c0 c1 c2 c3 u0 u1 u2 u3 kc n1 n2 t1 t2 kn ws kW R low st tl (imF low low) (imF low high) (imF high high) oN oW oI7 oS oV oT vS vV vT _ ((L + 4, oI7) :: tail) h7 _ gs Q E' F7
      (fun q hq => N7 q (by exact sub_use hq (by f_list))) (all_cons (by show @Ne Nat _ _; omega) ht5) (all_cons (by show @Ne Nat _ _; omega) ht6) (all_cons (by show @Ne Nat _ _; omega) ht7)
      dS dV dT (by rfl) (by rfl) (hrt z1) (hrt z2) dN (hrt z3) (hrt z4) dW (hrt z5) mm0 d7
      (.mk (mem_t (htl.1 _ mm0)) (mem_t (htl.1 _ mm1)) (mem_t (htl.1 _ mm2)) (mem_t (htl.1 _ mm3)) w0 w1 w2)
      ⟨imF_012 _ _, imF_len hlow hlow⟩ ⟨imF_012 _ _, imF_len hlow hhigh⟩ ⟨imF_012 _ _, imF_len hhigh hhigh⟩ hst hR0 hlo hhi ht hne hso hc1 hz hct hkd fun h' tk' m' F' N' => hret h' tk' m' F' fun q hq => N' q (hrt hq)
end Mine
end
section
open PySem PySem.W PyProof.Rows PySem.Spec PySem.Calls
namespace Mine
open PyProof.Rows.LCg (NsObj ns_obj lst lst_snoc)
local macro_rules | `(tactic| walk_at "compareOp NotEq ref ref") => `(tactic| (k_here; k_dflt (apply ne_strs; k_asm; k_mem; k_mem; (first | assumption | exact SV2 ..); (first | assumption | exact SV2 ..); assumption; ktr_units; k_whole)))
/-- the ledger without the four cells -/
theorem off4 {big : Led} {a b c d : Addr} {h₀ h : Heap} {L : Addr} {oa ob oc od : Obj} {xa xb xc xd : Option Value} {C : Prop} (N : News h₀ L h big) (ha : (a, oa) ∈ big) (hb : (b, ob) ∈ big) (hc : (c, oc) ∈ big) (hd : (d, od) ∈ big) (da : oa.data = .cell xa) (db : ob.data = .cell xb) (dc : oc.data = .cell xc) (dd : od.data = .cell xd)
    (k : ∀ t : Led, (∀ p o, (p, o) ∈ big → (∀ y, o.data ≠ .cell y) → (p, o) ∈ t) → (∀ q, q ∈ big → q.1 ≠ a → q.1 ≠ b → q.1 ≠ c → q.1 ≠ d → q ∈ t) → (∀ q ∈ t, q.1 ≠ a) → (∀ q ∈ t, q.1 ≠ b) → (∀ q ∈ t, q.1 ≠ c) → (∀ q ∈ t, q.1 ≠ d) → News h₀ L h ((a, oa) :: (b, ob) :: (c, oc) :: (d, od) :: t) → C) : C :=
  have low : ∀ q ∈ offL a (offL b (offL c (offL d big))), q ∈ big ∧ q.1 ≠ a ∧ q.1 ≠ b ∧ q.1 ≠ c ∧ q.1 ≠ d := fun q hq =>
    have h1 := offL_mem.mp hq
    have h2 := offL_mem.mp h1.1
    have h3 := offL_mem.mp h2.1
    have h4 := offL_mem.mp h3.1
    ⟨h4.1, h1.2, h2.2, h3.2, h4.2⟩
  k (offL a (offL b (offL c (offL d big))))
    (fun _ _ h ho => offL_mem.mpr ⟨offL_mem.mpr ⟨offL_mem.mpr ⟨offL_obj N hd dd h ho, (offL_mem.mp (offL_obj N hc dc h ho)).2⟩, (offL_mem.mp (offL_obj N hb db h ho)).2⟩, (offL_mem.mp (offL_obj N ha da h ho)).2⟩)
    (fun _ h na nb nc nd => offL_mem.mpr ⟨offL_mem.mpr ⟨offL_mem.mpr ⟨offL_mem.mpr ⟨h, nd⟩, nc⟩, nb⟩, na⟩)
    (fun q hq => (low q hq).2.1) (fun q hq => (low q hq).2.2.1) (fun q hq => (low q hq).2.2.2.1) (fun q hq => (low q hq).2.2.2.2)
    fun q hq => N q (sub_use hq (sub_cons ha (sub_cons hb (sub_cons hc (sub_cons hd fun q hq => (low q hq).1)))))
set_option maxHeartbeats 0 in
theorem law_E (w : World) (mean : ExcName → Option Value) (mg mb : PySem.Str → Option Value) (dp un : Nat) (gd : Option (List Code)) (outer : List Env) (A₀ : Around) (base h₀ : Heap) (L fa : Addr) (cd : Value) (s₁ : Shared)
    (hB : Below A₀ base outer h₀) (hX : (K w.params).In h₀) (hT : Top topProg lw mean mg mb h₀) (hdp : dp + 100 < recursionLimit) (hun : un + 400 < cLine)
    (CL nl WL : Addr) (c0 c1 c2 c3 : Int) (u0 u1 u2 u3 : Tok) (kc : Nat) (n1 n2 : Str) (t1 t2 : Tok) (kn : Nat) (ws : List Nat) (kW : Nat) (R low high st : Nat) (tl th : Tok) (oN oW oI oS oV oT : Obj) (vI vS vV vT : Option Value)
    (x : Str) (tx : Tok) (P : LexP) (gi : List Value) (kg : Nat) (tn : Tok) (kp : Nat) (news0 : Led)
    (m : Nm) (news : Led) (h : Heap) (tk : Nat) (gs : Array GenState) (Q : Flow → Shared → Prop) (E' : Value → Shared → Prop)
    (F : Fr h₀ L h m) (N : News h₀ L h (lexL w.params P gi kg (nlc x gi.length) tn [] kp ++ (nl, W.listOf #[.str n1 t1, .str n2 t2] kn) :: news))
    (hP : LexOk x tx news0 P) (hx : 1 < x.cps.size ∧ x.cps.size ≤ 1000) (hn1 : ∀ p ∈ (nl, W.listOf #[.str n1 t1, .str n2 t2] kn) :: news, p.1 ≠ P.pb) (hn2 : ∀ p ∈ (nl, W.listOf #[.str n1 t1, .str n2 t2] kn) :: news, p.1 ≠ P.gone) (hn3 : ∀ p ∈ (nl, W.listOf #[.str n1 t1, .str n2 t2] kn) :: news, p.1 ≠ P.dx)
    (dI : oI.data = .cell vI) (dS : oS.data = .cell vS) (dV : oV.data = .cell vV) (dT : oT.data = .cell vT) (zI : (L + 4, oI) ∈ news) (zS : (L + 5, oS) ∈ news) (zV : (L + 6, oV) ∈ news) (zT : (L + 7, oT) ∈ news)
    (m0 : m (Str.ofString "lexer") = some (.ref P.lx)) (m1 : m (Str.ofString "cells") = some (.ref CL)) (m2 : m (Str.ofString "low") = some (.int (low : Int) tl)) (m3 : m (Str.ofString "high") = some (.int (high : Int) th)) (z1 : (CL, W.listOf #[.int c0 u0, .int c1 u1, .int c2 u2, .int c3 u3] kc) ∈ news)
    (z2 : (L + 2, oN) ∈ news) (dN : oN.data = .cell (some (.ref nl)))
    (z4 : (L + 3, oW) ∈ news) (dW : oW.data = .cell (some (.ref WL))) (z5 : (WL, W.listOf (List.toArray (ws.map (wv n1 t1 n2 t2))) kW) ∈ news)
    (hl1 : 1 ≤ n1.length ∧ n1.length ≤ 5) (hl2 : 1 ≤ n2.length ∧ n2.length ≤ 5)
    (hok6 : ∀ r, r < 6 → 2 ≤ (lk n1.length n2.length r).2.1.length) (hsz6 : ∀ r, r ≤ 6 → (lk n1.length n2.length r).2.1.length ≤ 70 ∧ (lk n1.length n2.length r).1.length ≤ 70 ∧ (lk n1.length n2.length r).2.2.1 ≤ 70 ∧ (lk n1.length n2.length r).2.2.2 ≤ 70) (hend : (lk n1.length n2.length 6).2.2.2 = 12 + (lk n1.length n2.length 6).2.1.length)
    (hws : (lk n1.length n2.length 6).1 ++ (lk n1.length n2.length 6).2.1 = ws) (hout : Out x [] x.cps.size gi.length) (hn2' : nlc x x.cps.size = 2)
    (hlow : low ≤ 5) (hhigh : high ≤ 5) (hst : st = if low = 1 then 1 else 0) (hR0 : R ≤ 100)
    (hlo : ∀ r, r < R → pk (lvAt (imF low low) (imF low high) (imF high high) r).1 st < ((ws.length / 2 : Nat) : Int)) (hhi : ((ws.length / 2 : Nat) : Int) ≤ pk (lvAt (imF low low) (imF low high) (imF high high) R).1 st)
    (ht : 1 ≤ t1 ∧ t1 < t2) (hne : n1 ≠ n2) (hso : ∀ s ∈ ws.map (wn n1 n2), PyData.strOk s = true) (hc1 : 0 ≤ c1) (hz : 0 < ws.length ∧ ws.length ≤ 1000)
    (hct : ∀ j, j < ws.length → (tdAt (imF low low) (imF low high) (imF high high) R st j).1 = ((ws.take j).count 0 : Nat)) (hkd : ∀ j (hj : j < ws.length), (tdAt (imF low low) (imF low high) (imF high high) R st j).2 = if ws[j] = 0 then 0 else 1)
    (tab : Array Value) (z57 : (157, tabObj tab) ∈ news)
    (hret : ∀ h' tk' m', Fr h₀ L h' m' → GrownAt 157 h' → Q (.ret (.bool true)) { s₁ with heap := h', toks := tk', gens := gs }) :
    wpAny (model PySem.Challenge.rw_tp0040_01.row.prog w) (ktrTop dp un gd lawN lwS L fa cd (lawCl L) outer) (execs (lwB.drop 10) (envX lawN lwS L fa cd (lawCl L))) Q E' { s₁ with heap := h, toks := tk, gens := gs } := by
  revert hX
  k_fill
  intro hX
  have F := fixF4 F m0 m1 m2 m3
  have l0 := hP.l0
  have l1 := hP.l1
  have l2 := hP.l2
  have l3 := hP.l3
  have l4 := hP.l4
  have l5 := hP.l5
  have l6 := hP.l6
  have l7 := hP.l7
  have l8 := hP.l8
  have l9 := hP.l9
  have la := hP.la
  have N1 : News h₀ L h ((L + 2, oN) :: (L + 3, oW) :: (WL, W.listOf (List.toArray (ws.map (wv n1 t1 n2 t2))) kW) :: (lexL w.params P gi kg (nlc x gi.length) tn [] kp ++ (nl, W.listOf #[.str n1 t1, .str n2 t2] kn) :: news)) := fun q hq => N q (sub_use hq (sub_cons (mem_r (mem_t z2)) (sub_cons (mem_r (mem_t z4)) (sub_cons (mem_r (mem_t z5)) fun _ h => h))))
  have N0 := N
  have N1 := N1
  dsimp only [lexL, List.cons_append, List.nil_append] at N1
  clear N
  obtain ⟨R', hR'⟩ : ∃ R, lwB.drop 11 = R := ⟨_, rfl⟩
  rw [show lwB.drop 10 = lwB.getD 10 (.Pass default) :: lwB.drop 11 from rfl, hR']
  show wpAny _ _ (execs (Stmt.If _ _ _ _ :: R') _) _ _ _
  k_steps
  refine c_lined w mean mg mb news news0 x tx P gi kg _ tn kp nl n1 n2 t1 t2 kn _ hP (fun p hp => hn1 p (mem_t hp)) (hn1 _ mm0) hl1 hl2 hok6 hsz6 hend dp un gd _ _ _ _ _ _ _ _ _ _ _ _ _ _ hB (by assumption) (by assumption) N0 hT rfl (by omega) (by omega) (fun v news' h' tk' fin F' N' => ?_)
  revert F' N'
  refine fin.casesOn fun {D kD kp'} F' N' => ?_
  clear N0 fin
  rw [hws] at N'
  have N2 : News h₀ L h' ((L + 2, oN) :: (L + 3, oW) :: (D, W.listOf (List.toArray (ws.map (wv n1 t1 n2 t2))) kD) :: (WL, W.listOf (List.toArray (ws.map (wv n1 t1 n2 t2))) kW) :: (lexL w.params P gi kg (nlc x gi.length) tn [] kp' ++ (nl, W.listOf #[.str n1 t1, .str n2 t2] kn) :: news)) := fun q hq => N' q (sub_use hq (sub_cons (mem_t (mem_r (mem_t z2))) (sub_cons (mem_t (mem_r (mem_t z4))) (sub_cons mm0 (sub_cons (mem_t (mem_r (mem_t z5))) fun q hq => mem_t hq)))))
  have N0 := N'
  have N2 := N2
  dsimp only [lexL, List.cons_append, List.nil_append] at N2
  clear N'
  have hSV := SV_wv n1 t1 n2 t2 ws
  k_steps
  have N3 : News h₀ L h' (lexL w.params P gi kg (nlc x gi.length) tn [] kp' ++ (nl, W.listOf #[.str n1 t1, .str n2 t2] kn) :: news) := fun q hq => N0 q (mem_t hq)
  clear N0
  show wpAny _ _ (call (.ref 49) [.ref P.lx]) _ _ _
  refine use_get w mean mg mb (full := []) hx hP hn1 hn2 hn3 (Nat.zero_le _) hout hB (by assumption) (by assumption) N3 hT rfl (by omega) (by omega) fun gi2 kg2 tn2 tv2 h2 tk2 _ F2 N4 => ?_
  rw [hn2'] at N4
  clear N3
  have N0 := N4
  have N4 := N4
  dsimp only [lexL, List.cons_append, List.nil_append] at N4
  k_steps
  rename_i TA hTA lTA TB h9 F9 N9 lTB
  dsimp only
  rw [← hR']
  refine fold_led N9 fun big zb N9 => ?_
  have zn : ∀ q ∈ news, q ∈ big := fun q hq => zb q (by f_tup)
  have znl : (nl, W.listOf #[.str n1 t1, .str n2 t2] kn) ∈ big := zb _ (by f_tup)
  clear zb
  have q4 := zn _ zI
  have q5 := zn _ zS
  have q6 := zn _ zV
  have q7 := zn _ zT
  refine off4 N9 q4 q5 q6 q7 dI dS dV dT fun t4 r4 r4' o4 o5 o6 o7 N9 => ?_
  exact law_D1 w mean mg mb dp un gd outer A₀ base h₀ L fa cd _ hB (by assumption) hT hdp hun CL nl WL c0 c1 c2 c3 u0 u1 u2 u3 kc n1 n2 t1 t2 kn ws kW R low high st tl th oN oW oI oS oV oT vI vS vV vT _ t4 h9 _ gs Q E' F9 N9 o4 o5 o6 o7 dI dS dV dT (by rfl) (by rfl) (by rfl)
    (r4 _ _ (zn _ z1) fun y e => by cases e) (r4' _ (zn _ z2) (by omega) (by omega) (by omega) (by omega)) dN (r4 _ _ znl fun y e => by cases e) (r4' _ (zn _ z4) (by omega) (by omega) (by omega) (by omega)) dW (r4 _ _ (zn _ z5) fun y e => by cases e)
    hlow hhigh hst hR0 hlo hhi ht hne hso hc1 hz hct hkd fun h' tk' m' F' N' => hret h' tk' m' F' ⟨tab, (N' _ (r4 _ _ (zn _ z57) fun y e => by cases e)).1⟩
end Mine
end
section
open PySem PySem.W PyProof.Rows PySem.Spec PySem.Calls
namespace Mine
open PyProof.Rows.LCg (NsObj ns_obj lst lst_snoc)
theorem lex_lo {p : Params} {P : LexP} {gi : List Value} {kg : Nat} {line : Int} {tl : Tok} {pbs : List Value} {kp : Nat} {x : Str} {tx : Tok} {news0 : Led} (hP : LexOk x tx news0 P) : ∀ q ∈ lexL p P gi kg line tl pbs kp, @LE.le Nat _ P.c1 q.1 := by
  have l1 := hP.l1
  have l2 := hP.l2
  have l3 := hP.l3
  have l4 := hP.l4
  have l5 := hP.l5
  have l6 := hP.l6
  have l7 := hP.l7
  have l8 := hP.l8
  have l9 := hP.l9
  have la := hP.la
  intro q hq
  simp only [lexL, List.mem_cons, List.not_mem_nil, or_false] at hq
  rcases hq with rfl | rfl | rfl | rfl | rfl | rfl | rfl | rfl | rfl | rfl | rfl <;> dsimp only <;> omega
theorem lex_far {P : LexP} {x : Str} {tx : Tok} {news0 : Led} {n : Addr} (hP : LexOk x tx news0 P) (h : @LT.lt Nat _ n P.c1) : @LT.lt Nat _ n P.pb ∧ @LT.lt Nat _ n P.gone ∧ @LT.lt Nat _ n P.dx :=
  have g := Nat.lt_trans h (Nat.lt_trans hP.l1 (Nat.lt_trans hP.l2 (Nat.lt_trans hP.l3 (Nat.lt_trans hP.l4 hP.l5))))
  have d := Nat.lt_trans g (Nat.lt_trans hP.l6 (Nat.lt_trans hP.l7 hP.l8))
  ⟨Nat.lt_trans d (Nat.lt_trans hP.l9 hP.la), g, d⟩
theorem lex_near {P : LexP} {x : Str} {tx : Tok} {news0 : Led} (hP : LexOk x tx news0 P) : @LE.le Nat _ P.gone P.pb ∧ @LE.le Nat _ P.dx P.pb :=
  have d := Nat.lt_trans hP.l9 hP.la
  ⟨Nat.le_of_lt (Nat.lt_trans hP.l6 (Nat.lt_trans hP.l7 (Nat.lt_trans hP.l8 d))), Nat.le_of_lt d⟩
set_option maxHeartbeats 0 in
theorem law_F2 (w : World) (mean : ExcName → Option Value) (mg mb : PySem.Str → Option Value) (dp un : Nat) (gd : Option (List Code)) (outer : List Env) (A₀ : Around) (base h₀ : Heap) (L fa : Addr) (cd : Value) (s₁ : Shared)
    (hB : Below A₀ base outer h₀) (hX : (K w.params).In h₀) (hT : Top topProg lw mean mg mb h₀) (hdp : dp + 100 < recursionLimit) (hun : un + 400 < cLine)
    (CL nl : Addr) (c0 c1 c2 c3 : Int) (u0 u1 u2 u3 : Tok) (kc : Nat) (n1 n2 : Str) (t1 t2 : Tok) (kn : Nat) (ws : List Nat) (R low high st : Nat) (tl th : Tok) (oN oW oI oS oV oT : Obj) (vW vI vS vV vT : Option Value)
    (x : Str) (tx : Tok) (P : LexP) (gi : List Value) (kg : Nat) (tn : Tok) (kp : Nat) (news0 : Led)
    (m : Nm) (news : Led) (h : Heap) (tk : Nat) (gs : Array GenState) (Q : Flow → Shared → Prop) (E' : Value → Shared → Prop)
    (F : Fr h₀ L h m) (N : News h₀ L h (lexL w.params P gi kg (nlc x gi.length) tn [] kp ++ (nl, W.listOf #[.str n1 t1, .str n2 t2] kn) :: (L + 3, oW) :: news)) (ho3 : ∀ q ∈ news, q.1 ≠ L + 3) (hnl3 : nl ≠ L + 3) (hL7 : @LT.lt Nat _ (L + 7) P.c1)
    (hP : LexOk x tx news0 P) (hx : 1 < x.cps.size ∧ x.cps.size ≤ 1000) (hn1 : ∀ p ∈ (nl, W.listOf #[.str n1 t1, .str n2 t2] kn) :: news, p.1 ≠ P.pb) (hn2 : ∀ p ∈ (nl, W.listOf #[.str n1 t1, .str n2 t2] kn) :: news, p.1 ≠ P.gone) (hn3 : ∀ p ∈ (nl, W.listOf #[.str n1 t1, .str n2 t2] kn) :: news, p.1 ≠ P.dx)
    (dI : oI.data = .cell vI) (dS : oS.data = .cell vS) (dV : oV.data = .cell vV) (dT : oT.data = .cell vT) (zI : (L + 4, oI) ∈ news) (zS : (L + 5, oS) ∈ news) (zV : (L + 6, oV) ∈ news) (zT : (L + 7, oT) ∈ news)
    (m0 : m (Str.ofString "lexer") = some (.ref P.lx)) (m1 : m (Str.ofString "cells") = some (.ref CL)) (m2 : m (Str.ofString "low") = some (.int (low : Int) tl)) (m3 : m (Str.ofString "high") = some (.int (high : Int) th)) (z1 : (CL, W.listOf #[.int c0 u0, .int c1 u1, .int c2 u2, .int c3 u3] kc) ∈ news)
    (z2 : (L + 2, oN) ∈ news) (dN : oN.data = .cell (some (.ref nl)))
    (dW : oW.data = .cell vW)
    (hl1 : 1 ≤ n1.length ∧ n1.length ≤ 5) (hl2 : 1 ≤ n2.length ∧ n2.length ≤ 5)
    (hok6 : ∀ r, r < 6 → 2 ≤ (lk n1.length n2.length r).2.1.length) (hsz6 : ∀ r, r ≤ 6 → (lk n1.length n2.length r).2.1.length ≤ 70 ∧ (lk n1.length n2.length r).1.length ≤ 70 ∧ (lk n1.length n2.length r).2.2.1 ≤ 70 ∧ (lk n1.length n2.length r).2.2.2 ≤ 70) (hend : (lk n1.length n2.length 6).2.2.2 = 12 + (lk n1.length n2.length 6).2.1.length)
    (hws : (lk n1.length n2.length 6).1 ++ (lk n1.length n2.length 6).2.1 = ws) (hwk : (wk n1.length n2.length 12).1 = ws) (hokw : ∀ i, i < 12 → i < (wk n1.length n2.length i).1.length) (hszw : ∀ i, i ≤ 12 → (wk n1.length n2.length i).1.length ≤ 100 ∧ (wk n1.length n2.length i).2 ≤ 100) (hout : Out x [] x.cps.size gi.length) (hn2' : nlc x x.cps.size = 2)
    (hlow : low ≤ 5) (hhigh : high ≤ 5) (hst : st = if low = 1 then 1 else 0) (hR0 : R ≤ 100)
    (hlo : ∀ r, r < R → pk (lvAt (imF low low) (imF low high) (imF high high) r).1 st < ((ws.length / 2 : Nat) : Int)) (hhi : ((ws.length / 2 : Nat) : Int) ≤ pk (lvAt (imF low low) (imF low high) (imF high high) R).1 st)
    (ht : 1 ≤ t1 ∧ t1 < t2) (hne : n1 ≠ n2) (hso : ∀ s ∈ ws.map (wn n1 n2), PyData.strOk s = true) (hc1 : 0 ≤ c1) (hz : 0 < ws.length ∧ ws.length ≤ 1000)
    (hct : ∀ j, j < ws.length → (tdAt (imF low low) (imF low high) (imF high high) R st j).1 = ((ws.take j).count 0 : Nat)) (hkd : ∀ j (hj : j < ws.length), (tdAt (imF low low) (imF low high) (imF high high) R st j).2 = if ws[j] = 0 then 0 else 1)
    (tab : Array Value) (z57 : (157, tabObj tab) ∈ news)
    (hret : ∀ h' tk' m' gs', (AllBare gs → AllBare gs') → Fr h₀ L h' m' → GrownAt 157 h' → Q (.ret (.bool true)) { s₁ with heap := h', toks := tk', gens := gs' }) :
    wpAny (model PySem.Challenge.rw_tp0040_01.row.prog w) (ktrTop dp un gd lawN lwS L fa cd (lawCl L) outer) (execs (lwB.drop 9) (envX lawN lwS L fa cd (lawCl L))) Q E' { s₁ with heap := h, toks := tk, gens := gs } := by
  revert hX
  k_fill
  intro hX
  have F := fixF4 F m0 m1 m2 m3
  have l0 := hP.l0
  have l1 := hP.l1
  have l2 := hP.l2
  have l3 := hP.l3
  have l4 := hP.l4
  have l5 := hP.l5
  have l6 := hP.l6
  have l7 := hP.l7
  have l8 := hP.l8
  have l9 := hP.l9
  have la := hP.la
  refine fold_led (led := lexL w.params P gi kg (nlc x gi.length) tn [] kp ++ (L + 3, oW) :: news) (fun q hq => N q (sub_use hq (sub_app (fun q hq => mem_l hq) (sub_cons (mem_r mm1) fun q hq => mem_r (mem_t (mem_t hq)))))) fun inner hin Ni => ?_
  have N0 : News h₀ L h ((nl, W.listOf #[.str n1 t1, .str n2 t2] kn) :: inner) := fun q hq => (List.mem_cons.mp hq).elim (fun e => N q (e ▸ mem_r mm0)) fun hq => Ni q hq
  have i2 : (L + 2, oN) ∈ inner := hin _ (mem_r (mem_t z2))
  have N1' : News h₀ L h ((L + 2, oN) :: (nl, W.listOf #[.str n1 t1, .str n2 t2] kn) :: inner) := fun q hq => N0 q (sub_use hq (sub_cons (mem_t i2) fun _ h => h))
  have i3 : (L + 3, oW) ∈ inner := hin _ (mem_r mm0)
  have ipb : (P.pb, W.listOf [].toArray kp) ∈ inner := hin _ (mem_l mm0)
  have il : ∀ q ∈ lexL w.params P gi kg (nlc x gi.length) tn [] kp, q ∈ inner := fun q hq => hin _ (mem_l hq)
  have inw : ∀ q ∈ news, q ∈ inner := fun q hq => hin _ (mem_r (mem_t hq))
  clear N Ni hin
  obtain ⟨R', hR'⟩ : ∃ R, lwB.drop 10 = R := ⟨_, rfl⟩
  rw [show lwB.drop 9 = lwB.getD 9 (.Pass default) :: lwB.drop 10 from rfl, hR']
  show wpAny _ _ (execs (Stmt.Assign _ _ _ :: R') _) _ _ _
  k_steps
  refine c_walked w mean mg mb inner nl n1 n2 t1 t2 kn _ hl1 hl2 hokw hszw dp un gd _ _ _ _ _ _ _ _ _ _ _ _ _ _ hB (by assumption) (by assumption) N0 hT rfl (by omega) (by omega) (fun v news' h' tk' gens' hbr fin F' N' => ?_)
  revert F' N'
  refine fin.casesOn fun {WL kW} hlt F' N' => ?_
  clear fin
  rw [hwk] at N'
  have hW3 : @LT.lt Nat _ (L + 3) WL := ltM hlt (mem_t i3)
  have hWpb : @LT.lt Nat _ P.pb WL := ltM hlt (mem_t ipb)
  refine fold_tail1 (led := (WL, W.listOf (List.toArray (ws.map (wv n1 t1 n2 t2))) kW) :: (lexL w.params P gi kg (nlc x gi.length) tn [] kp ++ (nl, W.listOf #[.str n1 t1, .str n2 t2] kn) :: news)) (a := (L + 3, oW)) (fun q hq => N' q (sub_use hq (sub_cons (mem_t (mem_t i3)) (sub_cons mm0 (sub_app (fun q hq => mem_t (mem_t (il q hq))) (sub_cons mm1 fun q hq => mem_t (mem_t (inw q hq)))))))) fun tail htl N' => ?_
  have hoft : ∀ q ∈ tail, q.1 ≠ L + 3 := fun q hq => all_cons (P := fun q : Addr × Obj => q.1 ≠ L + 3) (Nat.ne_of_gt hW3) (all_app (fun q e => Nat.ne_of_gt (Nat.lt_of_lt_of_le (Nat.lt_trans (show @LT.lt Nat _ (L + 3) (L + 7) by omega) hL7) (lex_lo hP q e))) (all_cons hnl3 ho3)) q (htl.2 q hq)
  clear N0 il inw ipb i3 i2
  k_steps
  rename_i h8 oW8 F8 N8 d8
  rw [← hR']
  have hn' : ∀ a : Addr, @LT.lt Nat _ (L + 7) a → @LE.le Nat _ a P.pb → (∀ p ∈ (nl, W.listOf #[.str n1 t1, .str n2 t2] kn) :: news, p.1 ≠ a) → ∀ p ∈ (nl, W.listOf #[.str n1 t1, .str n2 t2] kn) :: (L + 3, oW8) :: (WL, W.listOf (List.toArray (ws.map (wv n1 t1 n2 t2))) kW) :: news, p.1 ≠ a := fun a ha hb ho =>
    all_cons (ho _ mm0) (all_cons (Nat.ne_of_lt (Nat.lt_trans (show @LT.lt Nat _ (L + 3) (L + 7) by omega) ha)) (all_cons (Nat.ne_of_gt (Nat.lt_of_le_of_lt hb hWpb)) fun p hp => ho p (mem_t hp)))
  exact law_E w mean mg mb dp un gd outer A₀ base h₀ L fa cd s₁ hB (by assumption) hT hdp hun CL nl WL c0 c1 c2 c3 u0 u1 u2 u3 kc n1 n2 t1 t2 kn ws kW R low high st tl th oN oW8 oI oS oV oT vI vS vV vT x tx P gi kg tn kp news0 _ ((L + 3, oW8) :: (WL, W.listOf (List.toArray (ws.map (wv n1 t1 n2 t2))) kW) :: news) h8 _ gens' Q E' F8
    (fun q hq => N8 q (sub_use hq (sub_app (fun q hq => mem_t (htl.1 _ (mem_t (mem_l hq)))) (sub_cons (mem_t (htl.1 _ (mem_t (mem_r mm0)))) (sub_cons mm0 (sub_cons (mem_t (htl.1 _ mm0)) fun q hq => mem_t (htl.1 _ (mem_t (mem_r (mem_t hq))))))))))
    hP hx (hn' P.pb (lex_far hP hL7).1 (Nat.le_refl _) hn1) (hn' P.gone (lex_far hP hL7).2.1 (lex_near hP).1 hn2) (hn' P.dx (lex_far hP hL7).2.2 (lex_near hP).2 hn3) dI dS dV dT (mem_t (mem_t zI)) (mem_t (mem_t zS)) (mem_t (mem_t zV)) (mem_t (mem_t zT)) (by rfl) (by rfl) (by rfl) (by rfl) (mem_t (mem_t z1)) (mem_t (mem_t z2)) dN mm0 d8 mm1
    hl1 hl2 hok6 hsz6 hend hws hout hn2' hlow hhigh hst hR0 hlo hhi ht hne hso hc1 hz hct hkd tab (mem_t (mem_t z57)) fun h' tk' m' F' g' => hret h' tk' m' gens' hbr F' g'
end Mine
end
section
open PySem PySem.W PyProof.Rows PySem.Spec PySem.Calls
namespace Mine
open PyProof.Rows.LCg (NsObj ns_obj lst lst_snoc)
theorem SV2 (a b : Str) (t u : Tok) : SV [.str a t, .str b u] [a, b] := ⟨[(a, t), (b, u)], rfl, rfl⟩
local macro_rules | `(tactic| walk_at "compareOp NotEq ref ref") => `(tactic| (k_here; k_dflt (apply ne_strs; k_asm; k_mem; k_mem; (first | assumption | exact SV2 ..); (first | assumption | exact SV2 ..); assumption; ktr_units; k_whole)))
theorem use_prep (w : World) (mean : ExcName → Option Value) (mg mb : PySem.Str → Option Value) {news : Led} {x n : Str} {tx : Tok} (hx : x.cps.size ≤ 100) (hl : ∀ c ∈ x.cps.toList, (low3 c).length ≤ 10) (e : Txt.join (Str.ofString "") (prep x.cps.toList) = n)
    {dp un : Nat} {gd : Option (List Code)} {cn : Str} {cs : Scope} {a : Addr} {ccd : Value} {cl : List (Str × Addr)} {outer : List Env} {A₀ : Around} {base h₀ : Heap} {L : Addr} {m : Str → Option Value} {s : Shared} {Q E : Value → Shared → Prop}
    (hB : Below A₀ base outer h₀) (hF : Fr h₀ L s.heap m) (hX : (K w.params).In h₀) (hN : News h₀ L s.heap (news)) (hT : Top topProg lw mean mg mb h₀) (hk : cs.kind = .function) (hdp : dp + 40 < recursionLimit) (hun : un + 200 < cLine)
    (g : ∀ t h' tk', Fr h₀ L h' m → News h₀ L h' news → Q (.str n t) { s with heap := h', toks := tk' }) :
    wpAny (model PySem.Challenge.rw_tp0040_01.row.prog w) (ktrTop dp un gd cn cs L a ccd cl outer) (call (.ref 179) [.str x tx]) Q E s :=
  c_prepared w mean mg mb news x tx hx hl dp un gd cn cs a ccd cl outer A₀ base h₀ L m s Q E hB hF hX hN hT hk hdp hun fun v news' h' tk' fin F N => fin.2.elim fun t h => by
    rw [h, e]
    exact g t h' tk' F (fin.1 ▸ N)
set_option maxHeartbeats 0 in
theorem law_F1 (w : World) (mean : ExcName → Option Value) (mg mb : PySem.Str → Option Value) (dp un : Nat) (gd : Option (List Code)) (outer : List Env) (A₀ : Around) (base h₀ : Heap) (L fa : Addr) (cd : Value) (s₁ : Shared)
    (hB : Below A₀ base outer h₀) (hX : (K w.params).In h₀) (hT : Top topProg lw mean mg mb h₀) (hdp : dp + 100 < recursionLimit) (hun : un + 400 < cLine)
    (CL nl : Addr) (c0 c1 c2 c3 : Int) (u0 u1 u2 u3 : Tok) (kc : Nat) (n1 n2 : Str) (t1 t2 : Tok) (kn : Nat) (ws : List Nat) (R low high st : Nat) (tl th : Tok) (oN oW oI oS oV oT : Obj) (vW vI vS vV vT : Option Value)
    (x : Str) (tx : Tok) (P : LexP) (gi : List Value) (kg : Nat) (tn : Tok) (kp : Nat) (news0 : Led)
    (m : Nm) (news : Led) (h : Heap) (tk : Nat) (gs : Array GenState) (Q : Flow → Shared → Prop) (E' : Value → Shared → Prop)
    (F : Fr h₀ L h m) (N : News h₀ L h (lexL w.params P gi kg (nlc x gi.length) tn [] kp ++ (nl, W.listOf #[.str n1 t1, .str n2 t2] kn) :: (L + 3, oW) :: news)) (ho3 : ∀ q ∈ news, q.1 ≠ L + 3) (hnl3 : nl ≠ L + 3) (hL7 : @LT.lt Nat _ (L + 7) P.c1)
    (hP : LexOk x tx news0 P) (hx : 1 < x.cps.size ∧ x.cps.size ≤ 1000) (hn1 : ∀ p ∈ (nl, W.listOf #[.str n1 t1, .str n2 t2] kn) :: news, p.1 ≠ P.pb) (hn2 : ∀ p ∈ (nl, W.listOf #[.str n1 t1, .str n2 t2] kn) :: news, p.1 ≠ P.gone) (hn3 : ∀ p ∈ (nl, W.listOf #[.str n1 t1, .str n2 t2] kn) :: news, p.1 ≠ P.dx)
    (dI : oI.data = .cell vI) (dS : oS.data = .cell vS) (dV : oV.data = .cell vV) (dT : oT.data = .cell vT) (zI : (L + 4, oI) ∈ news) (zS : (L + 5, oS) ∈ news) (zV : (L + 6, oV) ∈ news) (zT : (L + 7, oT) ∈ news)
    (m0 : m (Str.ofString "lexer") = some (.ref P.lx)) (m1 : m (Str.ofString "cells") = some (.ref CL)) (m2 : m (Str.ofString "low") = some (.int (low : Int) tl)) (m3 : m (Str.ofString "high") = some (.int (high : Int) th)) (z1 : (CL, W.listOf #[.int c0 u0, .int c1 u1, .int c2 u2, .int c3 u3] kc) ∈ news)
    (z2 : (L + 2, oN) ∈ news) (dN : oN.data = .cell (some (.ref nl)))
    (dW : oW.data = .cell vW)
    (hl1 : 1 ≤ n1.length ∧ n1.length ≤ 5) (hl2 : 1 ≤ n2.length ∧ n2.length ≤ 5)
    (hok6 : ∀ r, r < 6 → 2 ≤ (lk n1.length n2.length r).2.1.length) (hsz6 : ∀ r, r ≤ 6 → (lk n1.length n2.length r).2.1.length ≤ 70 ∧ (lk n1.length n2.length r).1.length ≤ 70 ∧ (lk n1.length n2.length r).2.2.1 ≤ 70 ∧ (lk n1.length n2.length r).2.2.2 ≤ 70) (hend : (lk n1.length n2.length 6).2.2.2 = 12 + (lk n1.length n2.length 6).2.1.length)
    (hws : (lk n1.length n2.length 6).1 ++ (lk n1.length n2.length 6).2.1 = ws) (hwk : (wk n1.length n2.length 12).1 = ws) (hokw : ∀ i, i < 12 → i < (wk n1.length n2.length i).1.length) (hszw : ∀ i, i ≤ 12 → (wk n1.length n2.length i).1.length ≤ 100 ∧ (wk n1.length n2.length i).2 ≤ 100) (lA lB : List Nat) (qA qB : Nat) (houtA : Out x lA qA gi.length) (houtB : Out x lB qB qA) (hout : Out x [] x.cps.size qB) (hpA : Txt.join (Str.ofString "") (prep lA) = n1) (hpB : Txt.join (Str.ofString "") (prep lB) = n2) (hlA : lA.length ≤ 100 ∧ ∀ c ∈ lA, (low3 c).length ≤ 10) (hlB : lB.length ≤ 100 ∧ ∀ c ∈ lB, (low3 c).length ≤ 10) (hso2 : ∀ s ∈ [n1, n2], PyData.strOk s = true) (hn2' : nlc x x.cps.size = 2)
    (hlow : low ≤ 5) (hhigh : high ≤ 5) (hst : st = if low = 1 then 1 else 0) (hR0 : R ≤ 100)
    (hlo : ∀ r, r < R → pk (lvAt (imF low low) (imF low high) (imF high high) r).1 st < ((ws.length / 2 : Nat) : Int)) (hhi : ((ws.length / 2 : Nat) : Int) ≤ pk (lvAt (imF low low) (imF low high) (imF high high) R).1 st)
    (ht : 1 ≤ t1 ∧ t1 < t2) (hne : n1 ≠ n2) (hso : ∀ s ∈ ws.map (wn n1 n2), PyData.strOk s = true) (hc1 : 0 ≤ c1) (hz : 0 < ws.length ∧ ws.length ≤ 1000)
    (hct : ∀ j, j < ws.length → (tdAt (imF low low) (imF low high) (imF high high) R st j).1 = ((ws.take j).count 0 : Nat)) (hkd : ∀ j (hj : j < ws.length), (tdAt (imF low low) (imF low high) (imF high high) R st j).2 = if ws[j] = 0 then 0 else 1)
    (tab : Array Value) (z57 : (157, tabObj tab) ∈ news)
    (hret : ∀ h' tk' m' gs', (AllBare gs → AllBare gs') → Fr h₀ L h' m' → GrownAt 157 h' → Q (.ret (.bool true)) { s₁ with heap := h', toks := tk', gens := gs' }) :
    wpAny (model PySem.Challenge.rw_tp0040_01.row.prog w) (ktrTop dp un gd lawN lwS L fa cd (lawCl L) outer) (execs (lwB.drop 8) (envX lawN lwS L fa cd (lawCl L))) Q E' { s₁ with heap := h, toks := tk, gens := gs } := by
  revert hX
  k_fill
  intro hX
  have F := fixF4 F m0 m1 m2 m3
  have l0 := hP.l0
  have l1 := hP.l1
  have l2 := hP.l2
  have l3 := hP.l3
  have l4 := hP.l4
  have l5 := hP.l5
  have l6 := hP.l6
  have l7 := hP.l7
  have l8 := hP.l8
  have l9 := hP.l9
  have la := hP.la
  have hnn : ∀ a : Addr, @LT.lt Nat _ (L + 7) a → (∀ p ∈ (nl, W.listOf #[.str n1 t1, .str n2 t2] kn) :: news, p.1 ≠ a) → ∀ p ∈ (nl, W.listOf #[.str n1 t1, .str n2 t2] kn) :: (L + 3, oW) :: news, p.1 ≠ a := fun a ha ho =>
    all_cons (ho _ mm0) (all_cons (Nat.ne_of_lt (Nat.lt_trans (show @LT.lt Nat _ (L + 3) (L + 7) by omega) ha)) fun p hp => ho p (mem_t hp))
  have hm1 := hnn P.pb (lex_far hP hL7).1 hn1
  have hm2 := hnn P.gone (lex_far hP hL7).2.1 hn2
  have hm3 := hnn P.dx (lex_far hP hL7).2.2 hn3
  have N0 := N
  have N1 := N
  have N1 := N1
  dsimp only [lexL, List.cons_append, List.nil_append] at N1
  clear N hnn
  obtain ⟨R', hR'⟩ : ∃ R, lwB.drop 9 = R := ⟨_, rfl⟩
  rw [show lwB.drop 8 = lwB.getD 8 (.Pass default) :: lwB.drop 9 from rfl, hR']
  show wpAny _ _ (execs (Stmt.If _ _ _ _ :: R') _) _ _ _
  k_steps
  show wpAny _ _ (call (.ref 49) [.ref P.lx]) _ _ _
  refine use_get w mean mg mb hx hP hm1 hm2 hm3 (Nat.le_trans hlA.1 (by decide)) houtA hB (by assumption) (by assumption) N0 hT rfl (by omega) (by omega) fun gi2 kg2 tn2 tA h2 tk2 hg2 F2 N2 => ?_
  have N0 := N2
  have N2 := N2
  dsimp only [lexL, List.cons_append, List.nil_append] at N2
  k_steps
  refine use_prep w mean mg mb (x := ⟨lA.toArray⟩) hlA.1 hlA.2 hpA hB (by assumption) (by assumption) N0 hT rfl (by omega) (by omega) fun tA' h3 tk3 F3 N3 => ?_
  clear N0
  have N0 := N3
  have N3 := N3
  dsimp only [lexL, List.cons_append, List.nil_append] at N3
  k_steps
  show wpAny _ _ (call (.ref 49) [.ref P.lx]) _ _ _
  refine use_get w mean mg mb hx hP hm1 hm2 hm3 (Nat.le_trans hlB.1 (by decide)) (by rw [hg2]; exact houtB) hB (by assumption) (by assumption) (by rw [hg2]; exact N0) hT rfl (by omega) (by omega) fun gi3 kg3 tn3 tB h4 tk4 hg3 F4 N4 => ?_
  clear N0
  have N0 := N4
  have N4 := N4
  dsimp only [lexL, List.cons_append, List.nil_append] at N4
  k_steps
  refine use_prep w mean mg mb (x := ⟨lB.toArray⟩) hlB.1 hlB.2 hpB hB (by assumption) (by assumption) N0 hT rfl (by omega) (by omega) fun tB' h5 tk5 F5 N5 => ?_
  clear N0
  have N5' : News h₀ L h5 ((L + 2, oN) :: (lexL w.params P gi3 kg3 (nlc x qB) tn3 [] kp ++ (nl, W.listOf #[.str n1 t1, .str n2 t2] kn) :: (L + 3, oW) :: news)) := fun q hq => N5 q (sub_use hq (sub_cons (mem_r (mem_t (mem_t z2))) fun _ h => h))
  have N5' := N5'
  dsimp only [lexL, List.cons_append, List.nil_append] at N5'
  k_steps
  rename_i NL h9 F9 N9 lNL
  dsimp only
  rw [← hR']
  have N9 : News h₀ L h9 (lexL w.params P gi3 kg3 (nlc x gi3.length) tn3 [] kp ++ (nl, W.listOf #[.str n1 t1, .str n2 t2] kn) :: (L + 3, oW) :: news) := fun q hq => N9 q (mem_t (mem_t (by rw [hg3] at hq; exact hq)))
  exact law_F2 w mean mg mb dp un gd outer A₀ base h₀ L fa cd s₁ hB (by assumption) hT hdp hun CL nl c0 c1 c2 c3 u0 u1 u2 u3 kc n1 n2 t1 t2 kn ws R low high st tl th oN oW oI oS oV oT vW vI vS vV vT x tx P gi3 kg3 tn3 kp news0 _ news h9 _ gs Q E' F9 N9 ho3 hnl3 hL7
    hP hx hn1 hn2 hn3 dI dS dV dT zI zS zV zT (by rfl) (by rfl) (by rfl) (by rfl) z1 z2 dN dW
    hl1 hl2 hok6 hsz6 hend hws hwk hokw hszw (by rw [hg3]; exact hout) hn2' hlow hhigh hst hR0 hlo hhi ht hne hso hc1 hz hct hkd tab z57 hret
end Mine
end
section
open PySem PySem.W PyProof.Rows PySem.Spec PySem.Calls
namespace Mine
open PyProof.Rows.LCg (NsObj ns_obj lst lst_snoc)
/-- all that the law asks of the two names' lengths -/
structure PureN (n1 n2 : Str) (ws : List Nat) (R low high st : Nat) : Prop where
  hl1 : 1 ≤ n1.length ∧ n1.length ≤ 5
  hl2 : 1 ≤ n2.length ∧ n2.length ≤ 5
  hok6 : ∀ r, r < 6 → 2 ≤ (lk n1.length n2.length r).2.1.length
  hsz6 : ∀ r, r ≤ 6 → (lk n1.length n2.length r).2.1.length ≤ 70 ∧ (lk n1.length n2.length r).1.length ≤ 70 ∧ (lk n1.length n2.length r).2.2.1 ≤ 70 ∧ (lk n1.length n2.length r).2.2.2 ≤ 70
  hend : (lk n1.length n2.length 6).2.2.2 = 12 + (lk n1.length n2.length 6).2.1.length
  hws : (lk n1.length n2.length 6).1 ++ (lk n1.length n2.length 6).2.1 = ws
  hwk : (wk n1.length n2.length 12).1 = ws
  hokw : ∀ i, i < 12 → i < (wk n1.length n2.length i).1.length
  hszw : ∀ i, i ≤ 12 → (wk n1.length n2.length i).1.length ≤ 100 ∧ (wk n1.length n2.length i).2 ≤ 100
  hlow : low ≤ 5
  hhigh : high ≤ 5
  hst : st = if low = 1 then 1 else 0
  hR0 : R ≤ 100
  hlo : ∀ r, r < R → pk (lvAt (imF low low) (imF low high) (imF high high) r).1 st < ((ws.length / 2 : Nat) : Int)
  hhi : ((ws.length / 2 : Nat) : Int) ≤ pk (lvAt (imF low low) (imF low high) (imF high high) R).1 st
  hz : 0 < ws.length ∧ ws.length ≤ 1000
  hct : ∀ j, j < ws.length → (tdAt (imF low low) (imF low high) (imF high high) R st j).1 = ((ws.take j).count 0 : Nat)
  hkd : ∀ j (hj : j < ws.length), (tdAt (imF low low) (imF low high) (imF high high) R st j).2 = if ws[j] = 0 then 0 else 1
  hne : n1 ≠ n2
  hso2 : ∀ s ∈ [n1, n2], PyData.strOk s = true
  hcA : ∀ c ∈ n1.cps.toList, c < 128
  hcB : ∀ c ∈ n2.cps.toList, c < 128
/-- all that the law asks of the text that the lexer reads -/
noncomputable def PureX (x n1 n2 : Str) : Prop := (1 < x.cps.size ∧ x.cps.size ≤ 1000) ∧ nlc x x.cps.size = 2 ∧ ∃ lA lB qA qB, Out x lA qA 0 ∧ Out x lB qB qA ∧ Out x [] x.cps.size qB ∧ Txt.join (Str.ofString "") (prep lA) = n1 ∧ Txt.join (Str.ofString "") (prep lB) = n2 ∧
  (lA.length ≤ 100 ∧ ∀ c ∈ lA, (low3 c).length ≤ 10) ∧ (lB.length ≤ 100 ∧ ∀ c ∈ lB, (low3 c).length ≤ 10)
noncomputable def txtOf (n1 n2 : Str) (c2 c3 : Int) : Str := written n1 (c2 + c3) (c3.fmod 2) ++ Str.ofString "\n" ++ written n2 (c2 + c3 + 5) (1 - c3.fmod 2) ++ Str.ofString " "
theorem wn_ok {n1 n2 : Str} (h : ∀ s ∈ [n1, n2], PyData.strOk s = true) (ws : List Nat) : ∀ s ∈ ws.map (wn n1 n2), PyData.strOk s = true := fun s hs => by
  obtain ⟨q, _, rfl⟩ := List.mem_map.mp hs
  unfold wn
  split
  · exact h _ (by simp)
  · exact h _ (by simp)
theorem str_len_add (a b : Str) : (a ++ b).length = a.length + b.length := by
  show (a.cps ++ b.cps).size = _
  rw [Array.size_append]
  rfl
theorem written_len (x : Str) (seed q : Int) (h : x.cps.size ≤ 5) : (written x seed q).length ≤ 22 := by
  have hs : (signsT x seed).cps.size ≤ 10 := by
    have := signs_size x.cps.toList seed x.cps.size
    unfold signsT
    lia
  unfold written
  split
  · have := join_size _ (escA_len (signsT x seed).cps.toList)
    have e : (escA (signsT x seed).cps.toList).length = (signsT x seed).cps.size := by simp [escA]
    show (Txt.join (Str.ofString "") (escA (signsT x seed).cps.toList)).cps.size ≤ 22
    lia
  · have := join_size _ (escQ_len (signsT x seed).cps.toList)
    have e : (escQ (signsT x seed).cps.toList).length = (signsT x seed).cps.size := by simp [escQ]
    have e1 : (Str.ofString "\"").length = 1 := by decide +kernel
    have e2 : (Txt.join (Str.ofString "") (escQ (signsT x seed).cps.toList)).length = (Txt.join (Str.ofString "") (escQ (signsT x seed).cps.toList)).cps.size := rfl
    rw [str_len_add, str_len_add]
    lia
local macro_rules | `(tactic| k_all) => `(tactic| first | assumption | exact all_ne_of_lt (by assumption) (by lia))
theorem PureX.elim {x n1 n2 : Str} {C : Prop} (h : PureX x n1 n2) (k : ∀ lA lB qA qB, (1 < x.cps.size ∧ x.cps.size ≤ 1000) → nlc x x.cps.size = 2 → Out x lA qA 0 → Out x lB qB qA → Out x [] x.cps.size qB → Txt.join (Str.ofString "") (prep lA) = n1 → Txt.join (Str.ofString "") (prep lB) = n2 → (lA.length ≤ 100 ∧ ∀ c ∈ lA, (low3 c).length ≤ 10) → (lB.length ≤ 100 ∧ ∀ c ∈ lB, (low3 c).length ≤ 10) → C) : C :=
  h.2.2.elim fun lA z => z.elim fun lB z => z.elim fun qA z => z.elim fun qB z => k lA lB qA qB h.1 h.2.1 z.1 z.2.1 z.2.2.1 z.2.2.2.1 z.2.2.2.2.1 z.2.2.2.2.2.1 z.2.2.2.2.2.2
theorem use_written (w : World) (mean : ExcName → Option Value) (mg mb : PySem.Str → Option Value) {news : Led} {x : Str} {seed quoted : Int} {t1 t2 t3 : Tok} (hx : x.cps.size ≤ 5) (hc : ∀ c ∈ x.cps.toList, c < 128) (hs : 0 ≤ seed)
    {dp un : Nat} {gd : Option (List Code)} {cn : Str} {cs : Scope} {a : Addr} {ccd : Value} {cl : List (Str × Addr)} {outer : List Env} {A₀ : Around} {base h₀ : Heap} {L : Addr} {m : Str → Option Value} {s : Shared} {Q E : Value → Shared → Prop}
    (hB : Below A₀ base outer h₀) (hF : Fr h₀ L s.heap m) (hX : (K w.params).In h₀) (hN : News h₀ L s.heap (news)) (hT : Top topProg lw mean mg mb h₀) (hk : cs.kind = .function) (hdp : dp + 40 < recursionLimit) (hun : un + 200 < cLine)
    (g : ∀ t h' tk', Fr h₀ L h' m → News h₀ L h' news → Q (.str (written x seed quoted) t) { s with heap := h', toks := tk' }) :
    wpAny (model PySem.Challenge.rw_tp0040_01.row.prog w) (ktrTop dp un gd cn cs L a ccd cl outer) (call (.ref 174) [.str x t1, .int seed t2, .int quoted t3]) Q E s :=
  c_written w mean mg mb news x seed quoted t1 t2 t3 hx hc hs dp un gd cn cs a ccd cl outer A₀ base h₀ L m s Q E hB hF hX hN hT hk hdp hun fun v news' h' tk' fin F N => fin.2.elim fun t e => by
    rw [e]
    exact g t h' tk' F (fin.1 ▸ N)
theorem use_lexer (w : World) (mean : ExcName → Option Value) (mg mb : PySem.Str → Option Value) {news : Led} {x : Str} {tx : Tok} (h157 : ∀ p ∈ news, p.1 ≠ 157)
    {dp un : Nat} {gd : Option (List Code)} {cn : Str} {cs : Scope} {a : Addr} {ccd : Value} {cl : List (Str × Addr)} {outer : List Env} {A₀ : Around} {base h₀ : Heap} {L : Addr} {m : Str → Option Value} {s : Shared} {Q E : Value → Shared → Prop}
    (hB : Below A₀ base outer h₀) (hF : Fr h₀ L s.heap m) (hX : (K w.params).In h₀) (hN : News h₀ L s.heap ((157, tabObj #[]) :: news)) (hT : Top topProg lw mean mg mb h₀) (hk : cs.kind = .function) (hdp : dp + 40 < recursionLimit) (hun : un + 200 < cLine)
    (g : ∀ P tab tl nd1 h' tk', LexOk x tx news P → Fr h₀ L h' m → News h₀ L h' (lexL w.params P [] 0 1 tl [] nd1 ++ (157, tabObj tab) :: news) → Q (.ref P.lx) { s with heap := h', toks := tk' }) :
    wpAny (model PySem.Challenge.rw_tp0040_01.row.prog w) (ktrTop dp un gd cn cs L a ccd cl outer) (call (.ref 162) [.str x tx]) Q E s :=
  c_lexer w mean mg mb news x tx h157 dp un gd cn cs a ccd cl outer A₀ base h₀ L m s Q E hB hF hX hN hT hk hdp hun fun v news' h' tk' fin F N => fin.elim fun P z => z.elim fun tab z => z.elim fun tl z => z.elim fun nd1 z => by
    rw [z.1]
    exact g P tab tl nd1 h' tk' z.2.2 F (z.2.1 ▸ N)
theorem lex_c1 {P : LexP} {x : Str} {tx : Tok} {news0 : Led} (hP : LexOk x tx news0 P) : @LE.le Nat _ P.c1 P.pb ∧ @LE.le Nat _ P.c1 P.gone ∧ @LE.le Nat _ P.c1 P.dx :=
  have g := Nat.lt_trans hP.l1 (Nat.lt_trans hP.l2 (Nat.lt_trans hP.l3 (Nat.lt_trans hP.l4 hP.l5)))
  have d := Nat.lt_trans g (Nat.lt_trans hP.l6 (Nat.lt_trans hP.l7 hP.l8))
  ⟨Nat.le_of_lt (Nat.lt_trans d (Nat.lt_trans hP.l9 hP.la)), Nat.le_of_lt g, Nat.le_of_lt d⟩
theorem nlc0 (x : Str) : nlc x 0 = 1 := by simp [nlc]
set_option maxHeartbeats 0 in
theorem law_G3 (w : World) (mean : ExcName → Option Value) (mg mb : PySem.Str → Option Value) (dp un : Nat) (gd : Option (List Code)) (outer : List Env) (A₀ : Around) (base h₀ : Heap) (L fa : Addr) (cd : Value) (s₁ : Shared)
    (hB : Below A₀ base outer h₀) (hX : (K w.params).In h₀) (hT : Top topProg lw mean mg mb h₀) (hdp : dp + 100 < recursionLimit) (hun : un + 400 < cLine)
    (CL nl : Addr) (c0 c1 c2 c3 : Int) (u0 u1 u2 u3 : Tok) (kc : Nat) (n1 n2 : Str) (t1 t2 : Tok) (kn : Nat) (ws : List Nat) (R low high st : Nat) (tl th : Tok) (oN oW oI oS oV oT : Obj) (vW vI vS vV vT : Option Value)
    (m : Nm) (news : Led) (h : Heap) (tk : Nat) (gs : Array GenState) (Q : Flow → Shared → Prop) (E' : Value → Shared → Prop)
    (F : Fr h₀ L h m) (N : News h₀ L h ((157, tabObj #[]) :: (L + 2, oN) :: (nl, W.listOf #[.str n1 t1, .str n2 t2] kn) :: (L + 3, oW) :: news)) (ho3 : ∀ q ∈ news, q.1 ≠ L + 3) (h157 : ∀ q ∈ news, q.1 ≠ 157) (hnl3 : nl ≠ L + 3) (hnlL : @LT.lt Nat _ L nl) (hL : @LT.lt Nat _ 157 L)
    (dI : oI.data = .cell vI) (dS : oS.data = .cell vS) (dV : oV.data = .cell vV) (dT : oT.data = .cell vT) (zI : (L + 4, oI) ∈ news) (zS : (L + 5, oS) ∈ news) (zV : (L + 6, oV) ∈ news) (zT : (L + 7, oT) ∈ news)
    (m1 : m (Str.ofString "cells") = some (.ref CL)) (m2 : m (Str.ofString "low") = some (.int (low : Int) tl)) (m3 : m (Str.ofString "high") = some (.int (high : Int) th)) (z1 : (CL, W.listOf #[.int c0 u0, .int c1 u1, .int c2 u2, .int c3 u3] kc) ∈ news)
    (dN : oN.data = .cell (some (.ref nl))) (dW : oW.data = .cell vW)
    (hPN : PureN n1 n2 ws R low high st) (hPX : PureX (txtOf n1 n2 c2 c3) n1 n2)
    (ht : 1 ≤ t1 ∧ t1 < t2) (hc1 : 0 ≤ c1) (hc2 : 0 ≤ c2) (hc3 : 0 ≤ c3)
    (hret : ∀ h' tk' m' gs', (AllBare gs → AllBare gs') → Fr h₀ L h' m' → GrownAt 157 h' → Q (.ret (.bool true)) { s₁ with heap := h', toks := tk', gens := gs' }) :
    wpAny (model PySem.Challenge.rw_tp0040_01.row.prog w) (ktrTop dp un gd lawN lwS L fa cd (lawCl L) outer) (execs (lwB.drop 5) (envX lawN lwS L fa cd (lawCl L))) Q E' { s₁ with heap := h, toks := tk, gens := gs } := by
  revert hX
  k_fill
  intro hX
  have F := fixF3 F m1 m2 m3
  have N1 : News h₀ L h ((L + 2, oN) :: (nl, W.listOf #[.str n1 t1, .str n2 t2] kn) :: (CL, W.listOf #[.int c0 u0, .int c1 u1, .int c2 u2, .int c3 u3] kc) :: (157, tabObj #[]) :: (L + 3, oW) :: news) := fun q hq => N q (sub_use hq (by f_list))
  have N0 := N
  have N1' := N1
  clear N N1
  have hs0 : 0 ≤ c2 + c3 := Int.add_nonneg hc2 hc3
  have hs5 : 0 ≤ c2 + c3 + 5 := Int.add_nonneg hs0 (by decide)
  have hsz1 : n1.cps.size ≤ 5 := hPN.hl1.2
  have hsz2 : n2.cps.size ≤ 5 := hPN.hl2.2
  have hw1 : (written n1 (c2 + c3) (c3.fmod 2)).length ≤ 22 := written_len _ _ _ hsz1
  have hw2 : (written n2 (c2 + c3 + 5) (1 - c3.fmod 2)).length ≤ 22 := written_len _ _ _ hsz2
  obtain ⟨R', hR'⟩ : ∃ R, lwB.drop 6 = R := ⟨_, rfl⟩
  rw [show lwB.drop 5 = lwB.getD 5 (.Pass default) :: lwB.drop 6 from rfl, hR']
  show wpAny _ _ (execs (Stmt.Assign _ _ _ :: R') _) _ _ _
  k_steps
  rename_i ta8 tb8 tc8 PT hA lPT hB8 hC h8 F8 N8
  have F8 : Fr h₀ L h8 (setN (setN (setN (setN (setN m (Str.ofString "cells") (.ref CL)) (Str.ofString "low") (.int (low : Int) tl)) (Str.ofString "high") (.int (high : Int) th)) (Str.ofString "seed") (.int (c2 + c3) (tk + 1 + 1 + 1 + 1 + 1))) (Str.ofString "quoted") (.int (c3.fmod 2) (tk + 1 + 1))) := F8
  generalize hts : tk + 1 + 1 + 1 + 1 + 1 = ts at F8
  generalize htq : tk + 1 + 1 = tq at F8
  have N8 : News h₀ L h8 ((L + 2, oN) :: (nl, W.listOf #[.str n1 t1, .str n2 t2] kn) :: (CL, W.listOf #[.int c0 u0, .int c1 u1, .int c2 u2, .int c3 u3] kc) :: (157, tabObj #[]) :: (L + 3, oW) :: news) := fun q hq => N8 q (mem_t hq)
  show wpAny _ _ (execs R' _) Q E' { s₁ with heap := h8, toks := _, gens := gs }
  clear lPT
  rw [← hR']
  clear hR' R'
  obtain ⟨R', hR'⟩ : ∃ R, lwB.drop 7 = R := ⟨_, rfl⟩
  rw [show lwB.drop 6 = lwB.getD 6 (.Pass default) :: lwB.drop 7 from rfl, hR']
  show wpAny _ _ (execs (Stmt.Assign _ _ _ :: R') _) _ _ _
  k_steps
  refine use_written w mean mg mb hsz1 hPN.hcA hs0 hB F8 (by assumption) N8 hT rfl (by lia) (by lia) fun tw1 h2 tk2 F2 N2 => ?_
  generalize hwA : written n1 (c2 + c3) (c3.fmod 2) = wA at hw1
  k_steps
  refine use_written w mean mg mb hsz2 hPN.hcB hs5 hB F2 (by assumption) N2 hT rfl (by lia) (by lia) fun tw2 h3 tk3 F3 N3 => ?_
  generalize hwB : written n2 (c2 + c3 + 5) (1 - c3.fmod 2) = wB at hw2
  have hnlz : (Str.ofString "\n").length = 1 := by decide +kernel
  have hwC : (wA ++ Str.ofString "\n").length ≤ 23 := by rw [str_len_add, hnlz]; lia
  generalize hwAn : wA ++ Str.ofString "\n" = wC at hwC
  have hwD : (wC ++ wB).length ≤ 45 := by rw [str_len_add]; lia
  k_steps
  rename_i tx kx hkx h4 F4 N4
  have F4 : Fr h₀ L h4 (setN (setN (setN (setN (setN (setN m (Str.ofString "cells") (.ref CL)) (Str.ofString "low") (.int (low : Int) tl)) (Str.ofString "high") (.int (high : Int) th)) (Str.ofString "seed") (.int (c2 + c3) ts)) (Str.ofString "quoted") (.int (c3.fmod 2) tq)) (Str.ofString "text") (.str (wC ++ wB ++ Str.ofString " ") tx)) := F4
  obtain ⟨x, hxt⟩ : ∃ x : Str, x = wC ++ wB ++ Str.ofString " " := ⟨_, rfl⟩
  rw [← hxt] at F4
  have hPX : PureX x n1 n2 := by
    rw [hxt, ← hwAn, ← hwA, ← hwB]
    exact hPX
  refine hPX.elim fun lA lB qA qB hx hnl2 o1 o2 o3 p1 p2 q1 q2 => ?_
  show wpAny _ _ (execs R' _) Q E' { s₁ with heap := h4, toks := _, gens := gs }
  have N5 : News h₀ L h4 ((157, tabObj #[]) :: (L + 2, oN) :: (nl, W.listOf #[.str n1 t1, .str n2 t2] kn) :: (L + 3, oW) :: news) := fun q hq => N4 q (sub_use hq (by f_list))
  have F5 := F4
  have N6 := N5
  clear F4 N4 N5
  rw [← hR']
  clear hR' R'
  obtain ⟨R', hR'⟩ : ∃ R, lwB.drop 8 = R := ⟨_, rfl⟩
  rw [show lwB.drop 7 = lwB.getD 7 (.Pass default) :: lwB.drop 8 from rfl, hR']
  show wpAny _ _ (execs (Stmt.Assign _ _ _ :: R') _) _ _ _
  k_steps
  refine use_lexer w mean mg mb (news := (L + 2, oN) :: (nl, W.listOf #[.str n1 t1, .str n2 t2] kn) :: (L + 3, oW) :: news) (all_cons (by show @Ne Nat _ _; lia) (all_cons (by show @Ne Nat _ _; lia) (all_cons (by show @Ne Nat _ _; lia) h157))) hB (by assumption) (by assumption) N6 hT rfl (by lia) (by lia) fun P tab tn nd1 h5 tk5 hP F6 N7 => ?_
  · have hnew := hP.new
    have h3c : @LT.lt Nat _ (L + 3) P.c1 := ltM hnew mm2
    have h1c : @LT.lt Nat _ 157 P.c1 := Nat.lt_trans hL (Nat.lt_of_le_of_lt (Nat.le_add_right L 3) h3c)
    have hcN : ∀ q ∈ (nl, W.listOf #[.str n1 t1, .str n2 t2] kn) :: (157, tabObj tab) :: (L + 2, oN) :: news, q.1 < P.c1 := all_cons (ltM hnew mm1) (all_cons h1c (all_cons (ltM hnew mm0) fun q hq => hnew q (mem_t (mem_t (mem_t hq)))))
    have hLc : @LT.lt Nat _ (L + 7) P.c1 := ltM hnew (mem_t (mem_t (mem_t zT)))
    have ha : ∀ a : Addr, @LE.le Nat _ P.c1 a → ∀ q ∈ (nl, W.listOf #[.str n1 t1, .str n2 t2] kn) :: (157, tabObj tab) :: (L + 2, oN) :: news, q.1 ≠ a := fun a ha q hq => Nat.ne_of_lt (Nat.lt_of_lt_of_le (hcN q hq) ha)
    refine fold_led N7 fun all hall N7 => ?_
    k_steps
    rename_i h8 F8 N8
    rw [← hR']
    refine law_F1 w mean mg mb dp un gd outer A₀ base h₀ L fa cd s₁ hB (by assumption) hT hdp hun CL nl c0 c1 c2 c3 u0 u1 u2 u3 kc n1 n2 t1 t2 kn ws R low high st tl th oN oW oI oS oV oT vW vI vS vV vT x _ P [] 0 tn nd1 _ _ ((157, tabObj tab) :: (L + 2, oN) :: news) h8 _ gs Q E' F8
      (fun q hq => N8 q (hall q (by rw [show (([] : List Value).length) = 0 from rfl, nlc0] at hq; exact sub_use hq (sub_app (fun q hq => mem_l hq) (sub_cons (mem_r mm2) (sub_cons (mem_r mm3) (sub_cons (mem_r mm0) (sub_cons (mem_r mm1) fun q hq => mem_r (mem_t4 hq)))))))))
      (all_cons (by show @Ne Nat _ _; lia) (all_cons (by show @Ne Nat _ _; lia) ho3)) hnl3 hLc hP hx (ha P.pb (lex_c1 hP).1) (ha P.gone (lex_c1 hP).2.1) (ha P.dx (lex_c1 hP).2.2) dI dS dV dT (mem_t (mem_t zI)) (mem_t (mem_t zS)) (mem_t (mem_t zV)) (mem_t (mem_t zT)) (by rfl) (by rfl) (by rfl) (by rfl) (mem_t (mem_t z1)) mm1 dN dW
      hPN.hl1 hPN.hl2 hPN.hok6 hPN.hsz6 hPN.hend hPN.hws hPN.hwk hPN.hokw hPN.hszw lA lB qA qB o1 o2 o3 p1 p2 q1 q2 hPN.hso2 hnl2 hPN.hlow hPN.hhigh hPN.hst hPN.hR0 hPN.hlo hPN.hhi ht hPN.hne (wn_ok hPN.hso2 ws) hc1 hPN.hz hPN.hct hPN.hkd tab mm0 hret
end Mine
end
section
open PySem PySem.W PyProof.Rows PySem.Spec PySem.Calls
namespace Mine
open PyProof.Rows.LCg (NsObj ns_obj lst lst_snoc)
/-- all that is left to prove of the pure law, for one pair of lengths -/
noncomputable def PureAll (low high : Nat) (c1 c2 c3 : Int) : Prop := (∃ ws R st, PureN (nm1 low c1) (nm2 high c2) ws R low high st) ∧ PureX (txtOf (nm1 low c1) (nm2 high c2) c2 c3) (nm1 low c1) (nm2 high c2)
set_option maxHeartbeats 0 in
theorem law_G2c (w : World) (mean : ExcName → Option Value) (mg mb : PySem.Str → Option Value) (dp un : Nat) (gd : Option (List Code)) (outer : List Env) (A₀ : Around) (base h₀ : Heap) (L fa : Addr) (cd : Value) (s₁ : Shared)
    (hB : Below A₀ base outer h₀) (hX : (K w.params).In h₀) (hT : Top topProg lw mean mg mb h₀) (hdp : dp + 100 < recursionLimit) (hun : un + 400 < cLine)
    (CL : Addr) (c0 c1 c2 c3 : Int) (u0 u1 u2 u3 : Tok) (kc : Nat) (low high : Nat) (tl th : Tok) (oN oW oI oS oV oT : Obj) (vN vW vI vS vV vT : Option Value)
    (m : Nm) (news : Led) (h : Heap) (tk : Nat) (gs : Array GenState) (Q : Flow → Shared → Prop) (E' : Value → Shared → Prop)
    (F : Fr h₀ L h m) (N : News h₀ L h ((L + 2, oN) :: (157, tabObj #[]) :: (L + 3, oW) :: news)) (ho2 : ∀ q ∈ news, q.1 ≠ L + 2) (ho3 : ∀ q ∈ news, q.1 ≠ L + 3) (h157 : ∀ q ∈ news, q.1 ≠ 157) (hL : @LT.lt Nat _ 157 L)
    (dN : oN.data = .cell vN) (dI : oI.data = .cell vI) (dS : oS.data = .cell vS) (dV : oV.data = .cell vV) (dT : oT.data = .cell vT) (zI : (L + 4, oI) ∈ news) (zS : (L + 5, oS) ∈ news) (zV : (L + 6, oV) ∈ news) (zT : (L + 7, oT) ∈ news)
    (m1 : m (Str.ofString "cells") = some (.ref CL)) (m2 : m (Str.ofString "low") = some (.int (low : Int) tl)) (m3 : m (Str.ofString "high") = some (.int (high : Int) th)) (z1 : (CL, W.listOf #[.int c0 u0, .int c1 u1, .int c2 u2, .int c3 u3] kc) ∈ news)
    (dW : oW.data = .cell vW) (hl : 1 ≤ low ∧ low ≤ 5) (hh : 1 ≤ high ∧ high ≤ 5)
    (hPA : PureAll low high c1 c2 c3) (hc1 : 0 ≤ c1) (hc2 : 0 ≤ c2) (hc3 : 0 ≤ c3)
    (hret : ∀ h' tk' m' gs', (AllBare gs → AllBare gs') → Fr h₀ L h' m' → GrownAt 157 h' → Q (.ret (.bool true)) { s₁ with heap := h', toks := tk', gens := gs' }) :
    wpAny (model PySem.Challenge.rw_tp0040_01.row.prog w) (ktrTop dp un gd lawN lwS L fa cd (lawCl L) outer) (execs (lwB.drop 4) (envX lawN lwS L fa cd (lawCl L))) Q E' { s₁ with heap := h, toks := tk, gens := gs } := by
  revert hX
  k_fill
  intro hX
  have F := fixF3 F m1 m2 m3
  have N1 : News h₀ L h ((CL, W.listOf #[.int c0 u0, .int c1 u1, .int c2 u2, .int c3 u3] kc) :: (L + 2, oN) :: (157, tabObj #[]) :: (L + 3, oW) :: news) := fun q hq => N q (by
    exact sub_use hq (by f_list))
  have N0 := N
  have N1' := N1
  clear N N1
  obtain ⟨R', hR'⟩ : ∃ R, lwB.drop 5 = R := ⟨_, rfl⟩
  rw [show lwB.drop 4 = lwB.getD 4 (.Pass default) :: lwB.drop 5 from rfl, hR']
  show wpAny _ _ (execs (Stmt.Assign _ _ _ :: R') _) _ _ _
  k_steps
  rename_i tA tB
  show wpAny _ _ (call (.ref 184) [.int (low : Int) tl, .int (high : Int) th, .int c1 tA, .int c2 tB]) _ _ _
  refine c_names w mean mg mb _ low high c1 c2 tl th tA tB hl hh hc1 hc2 dp un gd _ _ _ _ _ _ _ _ _ _ _ _ _ _ hB (by assumption) (by assumption) N0 hT rfl (by omega) (by omega) (fun v news' h2 tk2 fin F2 N2 => ?_)
  refine Classical.byContradiction fun gK => ?_
  obtain ⟨D, t1, t2, ht1, ht2, rfl, rfl, hlt⟩ := fin
  refine gK ?_
  clear gK
  have hD2 : @LT.lt Nat _ (L + 2) D := hlt.1
  have hD3 : @LT.lt Nat _ (L + 3) D := hlt.2.2.1
  refine Classical.byContradiction fun gK => ?_
  obtain ⟨⟨ws, R, st, hPN⟩, hPX⟩ := hPA
  refine gK ?_
  clear gK
  generalize hn1 : nm1 low c1 = n1 at hPN hPX N2
  generalize hn2 : nm2 high c2 = n2 at hPN hPX N2
  have N3 : News h₀ L h2 ((L + 2, oN) :: (D, W.listOf #[.str n1 t1, .str n2 t2] 0) :: (157, tabObj #[]) :: (L + 3, oW) :: news) := fun q hq => N2 q (by
    exact sub_use hq (by f_list))
  clear N0 N2
  k_steps
  rename_i h8 oN8 F8 N8 d8
  rw [← hR']
  exact law_G3 w mean mg mb dp un gd outer A₀ base h₀ L fa cd s₁ hB (by assumption) hT hdp hun CL D c0 c1 c2 c3 u0 u1 u2 u3 kc n1 n2 t1 t2 0 ws R low high st tl th oN8 oW oI oS oV oT vW vI vS vV vT _ news h8 _ gs Q E' F8
    (fun q hq => N8 q (by
      exact sub_use hq (by f_list)))
    ho3 h157 (Nat.ne_of_gt hD3) (by omega) hL dI dS dV dT zI zS zV zT (by rfl) (by rfl) (by rfl) z1 d8 dW hPN hPX ⟨ht1, ht2⟩ hc1 hc2 hc3 hret
end Mine
end
section
open PySem PySem.W PyProof.Rows PySem.Spec PySem.Calls
namespace Mine
open PyProof.Rows.LCg (NsObj ns_obj lst lst_snoc)
noncomputable def lens : List (Nat × Nat) := [(1, 3), (3, 1), (2, 2), (2, 4), (4, 2), (3, 3), (1, 5), (5, 1), (3, 5), (5, 3), (4, 4), (5, 5)]
set_option maxHeartbeats 0 in
theorem law_G2b (w : World) (mean : ExcName → Option Value) (mg mb : PySem.Str → Option Value) (dp un : Nat) (gd : Option (List Code)) (outer : List Env) (A₀ : Around) (base h₀ : Heap) (L fa : Addr) (cd : Value) (s₁ : Shared)
    (hB : Below A₀ base outer h₀) (hX : (K w.params).In h₀) (hT : Top topProg lw mean mg mb h₀) (hdp : dp + 100 < recursionLimit) (hun : un + 400 < cLine)
    (CL : Addr) (c0 c1 c2 c3 : Int) (u0 u1 u2 u3 : Tok) (kc : Nat) (oN oW oI oS oV oT : Obj) (vN vW vI vS vV vT : Option Value)
    (m : Nm) (news : Led) (h : Heap) (tk : Nat) (gs : Array GenState) (Q : Flow → Shared → Prop) (E' : Value → Shared → Prop)
    (F : Fr h₀ L h m) (LN T : Addr) (items : Array Value) (k a b : Nat) (ta tb : Tok) (N : News h₀ L h ((L + 2, oN) :: (157, tabObj #[]) :: (L + 3, oW) :: news)) (ho2 : ∀ q ∈ news, q.1 ≠ L + 2) (ho3 : ∀ q ∈ news, q.1 ≠ L + 3) (h157 : ∀ q ∈ news, q.1 ≠ 157) (hL : @LT.lt Nat _ 157 L)
    (dN : oN.data = .cell vN) (dI : oI.data = .cell vI) (dS : oS.data = .cell vS) (dV : oV.data = .cell vV) (dT : oT.data = .cell vT) (zI : (L + 4, oI) ∈ news) (zS : (L + 5, oS) ∈ news) (zV : (L + 6, oV) ∈ news) (zT : (L + 7, oT) ∈ news)
    (m1 : m (Str.ofString "cells") = some (.ref CL)) (z1 : (CL, W.listOf #[.int c0 u0, .int c1 u1, .int c2 u2, .int c3 u3] kc) ∈ news)
    (dW : oW.data = .cell vW) 
    (m4 : m (Str.ofString "lengths") = some (.ref LN)) (zLT : (LN, tupO items) ∈ news) (hk : c0.fmod 12 = (k : Int)) (hkk : k < 12) (hsz : items.size = 12) (hit : items[k]? = some (.ref T)) (zTT : (T, tupO #[.int (a : Int) ta, .int (b : Int) tb]) ∈ news) (hl : 1 ≤ a ∧ a ≤ 5) (hh : 1 ≤ b ∧ b ≤ 5) (hPA : PureAll a b c1 c2 c3) (hc1 : 0 ≤ c1) (hc2 : 0 ≤ c2) (hc3 : 0 ≤ c3)
    (hret : ∀ h' tk' m' gs', (AllBare gs → AllBare gs') → Fr h₀ L h' m' → GrownAt 157 h' → Q (.ret (.bool true)) { s₁ with heap := h', toks := tk', gens := gs' }) :
    wpAny (model PySem.Challenge.rw_tp0040_01.row.prog w) (ktrTop dp un gd lawN lwS L fa cd (lawCl L) outer) (execs (lwB.drop 3) (envX lawN lwS L fa cd (lawCl L))) Q E' { s₁ with heap := h, toks := tk, gens := gs } := by
  revert hX
  k_fill
  intro hX
  have F := fixF2 F m1 m4
  have N1 : News h₀ L h ((CL, W.listOf #[.int c0 u0, .int c1 u1, .int c2 u2, .int c3 u3] kc) :: (LN, { cls := Value.type "tuple", data := Data.seq items }) :: (T, { cls := Value.type "tuple", data := Data.seq #[.int (a : Int) ta, .int (b : Int) tb] }) :: (L + 2, oN) :: (157, tabObj #[]) :: (L + 3, oW) :: news) := fun q hq => N q (by
    unfold tupO at zLT zTT
    exact sub_use hq (by f_list))
  have hIT : ∀ {s : Shared}, s.heap.get? LN = some { cls := Value.type "tuple", data := Data.seq items } → IsTup s.heap LN items := fun e => ⟨_, e, rfl, 0, rfl⟩
  have N1' := N1
  clear N N1
  obtain ⟨R', hR'⟩ : ∃ R, lwB.drop 4 = R := ⟨_, rfl⟩
  rw [show lwB.drop 3 = lwB.getD 3 (.Pass default) :: lwB.drop 4 from rfl, hR']
  show wpAny _ _ (execs (Stmt.Assign _ _ _ :: R') _) _ _ _
  k_steps
  show wpAny _ _ (subscriptTail _ _ (.ref LN) (.int (c0.fmod 12) _)) _ _ _
  rw [hk]
  refine item_tuple (hIT ?_) (by omega) (by omega) (seqIndex_of (by omega) (by rw [hsz]; omega)) hit ?_
  · exact (by assumption : News h₀ L h _) _ (List.mem_cons_of_mem _ List.mem_cons_self) |>.1
  k_steps
  rename_i tq hA hB8 h8 F8 N8
  dsimp only
  rw [← hR']
  exact law_G2c w mean mg mb dp un gd outer A₀ base h₀ L fa cd s₁ hB (by assumption) hT hdp hun CL c0 c1 c2 c3 u0 u1 u2 u3 kc a b ta tb oN oW oI oS oV oT vN vW vI vS vV vT _ news h8 _ gs Q E' F8
    (fun q hq => N8 q (by
      exact sub_use hq (by f_list)))
    ho2 ho3 h157 hL dN dI dS dV dT zI zS zV zT (by rfl) (by rfl) (by rfl) z1 dW hl hh hPA hc1 hc2 hc3 hret
theorem offL_ne {led : Led} {a b : Addr} {h₀ h : Heap} {L : Addr} {o o' : Obj} (N : News h₀ L h led) (ha : (a, o) ∈ led) (hm : (b, o') ∈ led) (hne : o' ≠ o) : (b, o') ∈ offL a led := by
  refine offL_mem.mpr ⟨hm, ?_⟩
  rintro (e : b = a)
  subst e
  have h1 := (N _ hm).1
  have h2 := (N _ ha).1
  dsimp only at h1 h2
  rw [h1] at h2
  exact hne (Option.some.inj h2)
theorem off3 {big : Led} {a b c : Addr} {h₀ h : Heap} {L : Addr} {oa ob : Obj} {tab : Array Value} {xa xb : Option Value} {C : Prop} (N : News h₀ L h big) (ha : (a, oa) ∈ big) (hb : (b, ob) ∈ big) (hc : (c, tabObj tab) ∈ big) (da : oa.data = .cell xa) (db : ob.data = .cell xb)
    (k : ∀ t : Led, (∀ p o xs n, (p, o) ∈ big → o.data = .seq xs n → (p, o) ∈ t) → (∀ q, q ∈ big → q.1 ≠ a → q.1 ≠ b → q.1 ≠ c → q ∈ t) → (∀ q ∈ t, q.1 ≠ a) → (∀ q ∈ t, q.1 ≠ b) → (∀ q ∈ t, q.1 ≠ c) → News h₀ L h ((a, oa) :: (c, tabObj tab) :: (b, ob) :: t) → C) : C :=
  have low : ∀ q ∈ offL a (offL b (offL c big)), q ∈ big ∧ q.1 ≠ a ∧ q.1 ≠ b ∧ q.1 ≠ c := fun q hq =>
    have h1 := offL_mem.mp hq
    have h2 := offL_mem.mp h1.1
    have h3 := offL_mem.mp h2.1
    ⟨h3.1, h1.2, h2.2, h3.2⟩
  k (offL a (offL b (offL c big)))
    (fun _ o xs n h ho => offL_mem.mpr ⟨offL_mem.mpr ⟨offL_ne N hc h (fun e => by rw [e] at ho; cases ho), (offL_mem.mp (offL_ne N hb h (fun e => by rw [e, db] at ho; cases ho))).2⟩, (offL_mem.mp (offL_ne N ha h (fun e => by rw [e, da] at ho; cases ho))).2⟩)
    (fun _ h na nb nc => offL_mem.mpr ⟨offL_mem.mpr ⟨offL_mem.mpr ⟨h, nc⟩, nb⟩, na⟩)
    (fun q hq => (low q hq).2.1) (fun q hq => (low q hq).2.2.1) (fun q hq => (low q hq).2.2.2)
    fun q hq => N q (sub_use hq (sub_cons ha (sub_cons hc (sub_cons hb fun q hq => (low q hq).1))))
theorem lt8 {P : Nat → Prop} (h0 : P 0) (h1 : P 1) (h2 : P 2) (h3 : P 3) (h4 : P 4) (h5 : P 5) (h6 : P 6) (h7 : P 7) {k : Nat} (h : k < 8) : P k :=
  (Nat.lt_or_ge k 4).elim (fun h => lt4 h0 h1 h2 h3 h) fun h' => Nat.sub_add_cancel h' ▸ lt4 (P := fun j => P (j + 4)) h4 h5 h6 h7 (i := k - 4) (by omega)
theorem lt12 {P : Nat → Prop} (h0 : P 0) (h1 : P 1) (h2 : P 2) (h3 : P 3) (h4 : P 4) (h5 : P 5) (h6 : P 6) (h7 : P 7) (h8 : P 8) (h9 : P 9) (ha : P 10) (hb : P 11) {k : Nat} (h : k < 12) : P k :=
  (Nat.lt_or_ge k 8).elim (fun h => lt8 h0 h1 h2 h3 h4 h5 h6 h7 h) fun h' => Nat.sub_add_cancel h' ▸ lt4 (P := fun j => P (j + 8)) h8 h9 ha hb (i := k - 8) (by omega)
/-- the pair of lengths at a place -/
noncomputable def LensAt (led : Led) (items : Array Value) (k : Nat) : Prop := ∃ q : Addr × (Nat × Nat) × Tok × Tok, items[k]? = some (.ref q.1) ∧ (q.1, tupO #[.int (q.2.1.1 : Int) q.2.2.1, .int (q.2.1.2 : Int) q.2.2.2]) ∈ led ∧ q.2.1 ∈ lens
theorem LensAt.mk {led : Led} {items : Array Value} {k : Nat} {T : Addr} {x y : Int} {ta tb : Tok} (a b : Nat) (h : items[k]? = some (.ref T)) (z : (T, { cls := Value.type "tuple", data := Data.seq #[.int x ta, .int y tb] }) ∈ led) (hx : x = (a : Int)) (hy : y = (b : Int)) (m : (a, b) ∈ lens) : LensAt led items k :=
  ⟨(T, (a, b), ta, tb), h, by rw [← hx, ← hy]; exact z, m⟩
theorem lens5 : ∀ p ∈ lens, (1 ≤ p.1 ∧ p.1 ≤ 5) ∧ 1 ≤ p.2 ∧ p.2 ≤ 5 := by decide
theorem mod12 {c : Int} {C : Prop} (g : ∀ k : Nat, c.fmod 12 = (k : Int) → k < 12 → C) : C :=
  g (c.fmod 12).toNat (by rw [Int.toNat_of_nonneg (Int.fmod_nonneg_of_pos _ (by decide))]) (by
    have := Int.fmod_lt_of_pos c (by decide : (0 : Int) < 12)
    have := Int.fmod_nonneg_of_pos c (by decide : (0 : Int) < 12)
    omega)
set_option maxHeartbeats 0 in
theorem law_G2 (w : World) (mean : ExcName → Option Value) (mg mb : PySem.Str → Option Value) (dp un : Nat) (gd : Option (List Code)) (outer : List Env) (A₀ : Around) (base h₀ : Heap) (L fa : Addr) (cd : Value) (s₁ : Shared)
    (hB : Below A₀ base outer h₀) (hX : (K w.params).In h₀) (hT : Top topProg lw mean mg mb h₀) (hdp : dp + 100 < recursionLimit) (hun : un + 400 < cLine)
    (CL : Addr) (c0 c1 c2 c3 : Int) (u0 u1 u2 u3 : Tok) (kc : Nat) (oN oW oI oS oV oT : Obj) (vN vW vI vS vV vT : Option Value)
    (m : Nm) (news : Led) (h : Heap) (tk : Nat) (gs : Array GenState) (Q : Flow → Shared → Prop) (E' : Value → Shared → Prop)
    (F : Fr h₀ L h m) (N : News h₀ L h ((L + 2, oN) :: (157, tabObj #[]) :: (L + 3, oW) :: news)) (ho2 : ∀ q ∈ news, q.1 ≠ L + 2) (ho3 : ∀ q ∈ news, q.1 ≠ L + 3) (h157 : ∀ q ∈ news, q.1 ≠ 157) (hL : @LT.lt Nat _ 157 L)
    (dN : oN.data = .cell vN) (dI : oI.data = .cell vI) (dS : oS.data = .cell vS) (dV : oV.data = .cell vV) (dT : oT.data = .cell vT) (zI : (L + 4, oI) ∈ news) (zS : (L + 5, oS) ∈ news) (zV : (L + 6, oV) ∈ news) (zT : (L + 7, oT) ∈ news)
    (m1 : m (Str.ofString "cells") = some (.ref CL)) (z1 : (CL, W.listOf #[.int c0 u0, .int c1 u1, .int c2 u2, .int c3 u3] kc) ∈ news)
    (dW : oW.data = .cell vW) 
    (hPA : ∀ p ∈ lens, PureAll p.1 p.2 c1 c2 c3) (hc0 : 0 ≤ c0) (hc1 : 0 ≤ c1) (hc2 : 0 ≤ c2) (hc3 : 0 ≤ c3)
    (hret : ∀ h' tk' m' gs', (AllBare gs → AllBare gs') → Fr h₀ L h' m' → GrownAt 157 h' → Q (.ret (.bool true)) { s₁ with heap := h', toks := tk', gens := gs' }) :
    wpAny (model PySem.Challenge.rw_tp0040_01.row.prog w) (ktrTop dp un gd lawN lwS L fa cd (lawCl L) outer) (execs (lwB.drop 2) (envX lawN lwS L fa cd (lawCl L))) Q E' { s₁ with heap := h, toks := tk, gens := gs } := by
  revert hX
  k_fill
  intro hX
  have F := fixF F m1
  have N1 : News h₀ L h ((CL, W.listOf #[.int c0 u0, .int c1 u1, .int c2 u2, .int c3 u3] kc) :: (L + 2, oN) :: (157, tabObj #[]) :: (L + 3, oW) :: news) := fun q hq => N q (by
    exact sub_use hq (by f_list))
  have N1' := N1
  clear N N1
  obtain ⟨R', hR'⟩ : ∃ R, lwB.drop 3 = R := ⟨_, rfl⟩
  rw [show lwB.drop 2 = lwB.getD 2 (.Pass default) :: lwB.drop 3 from rfl, hR']
  show wpAny _ _ (execs (Stmt.Assign _ _ _ :: R') _) _ _ _
  k_steps
  rename_i LN hLN lLN h9 F9 N9
  refine fold_led N9 fun big zb N9 => ?_
  have key : ∃ items : Array Value, (LN, tupO items) ∈ big ∧ items.size = 12 ∧ ∀ k, k < 12 → LensAt big items k :=
    ⟨_, zb _ mm0, rfl, fun k hk => lt12 (.mk 1 3 rfl (zb _ (by f_tup)) (by rfl) (by rfl) (by decide)) (.mk 3 1 rfl (zb _ (by f_tup)) (by rfl) (by rfl) (by decide)) (.mk 2 2 rfl (zb _ (by f_tup)) (by rfl) (by rfl) (by decide)) (.mk 2 4 rfl (zb _ (by f_tup)) (by rfl) (by rfl) (by decide)) (.mk 4 2 rfl (zb _ (by f_tup)) (by rfl) (by rfl) (by decide)) (.mk 3 3 rfl (zb _ (by f_tup)) (by rfl) (by rfl) (by decide))
      (.mk 1 5 rfl (zb _ (by f_tup)) (by rfl) (by rfl) (by decide)) (.mk 5 1 rfl (zb _ (by f_tup)) (by rfl) (by rfl) (by decide)) (.mk 3 5 rfl (zb _ (by f_tup)) (by rfl) (by rfl) (by decide)) (.mk 5 3 rfl (zb _ (by f_tup)) (by rfl) (by rfl) (by decide)) (.mk 4 4 rfl (zb _ (by f_tup)) (by rfl) (by rfl) (by decide)) (.mk 5 5 rfl (zb _ (by f_tup)) (by rfl) (by rfl) (by decide)) hk⟩
  have q2 : (L + 2, oN) ∈ big := zb _ (by f_tup)
  have q157 : (157, tabObj #[]) ∈ big := zb _ (by f_tup)
  have q3 : (L + 3, oW) ∈ big := zb _ (by f_tup)
  have zn : ∀ q ∈ news, q ∈ big := fun q hq => zb _ (by f_tup)
  clear zb
  refine key.elim fun items hit => mod12 (c := c0) fun k hk hkk => (hit.2.2 k hkk).elim fun p hp => ?_
  have hab := lens5 _ hp.2.2
  refine off3 N9 q2 q3 q157 dN dW fun t r1 r2' o2 o3 o157 N9 => ?_
  have r2 : ∀ {q : Addr × Obj}, q ∈ news → q ∈ t := fun {q} hq => r2' q (zn q hq) (ho2 q hq) (ho3 q hq) (h157 q hq)
  rw [← hR']
  exact law_G2b w mean mg mb dp un gd outer A₀ base h₀ L fa cd s₁ hB (by assumption) hT hdp hun CL c0 c1 c2 c3 u0 u1 u2 u3 kc oN oW oI oS oV oT vN vW vI vS vV vT _ t h9 _ gs Q E' F9 LN p.1 items k p.2.1.1 p.2.1.2 p.2.2.1 p.2.2.2 N9 o2 o3 o157 hL dN dI dS dV dT (r2 zI) (r2 zS) (r2 zV) (r2 zT) (by rfl) (r2 z1) dW (by rfl) (r1 _ _ _ _ hit.1 rfl) hk hkk hit.2.1 hp.1 (r1 _ _ _ _ hp.2.1 rfl) hab.1 hab.2 (hPA p.2.1 hp.2.2) hc1 hc2 hc3 hret
end Mine
end
section
open PySem PySem.W PyProof.Rows PySem.Spec PySem.Calls
namespace Mine
open PyProof.Rows.LCg (NsObj ns_obj lst lst_snoc)
open PySem.AutoSeq1 (wpAny_loadPart')
section
variable {prog : Program} {w : World} {A : Around} {E : Value → Shared → Prop} {s : Shared}
/-- the draw from a tuple's iterator, as enumerate asks for it -/
theorem nextOf_tup_item {it t : Addr} {i : Nat} {items : Array Value} {x : Value} {Q : Value → Shared → Prop} (hit : s.heap.IsTupleIter it t i) (ht : s.heap.IsTuple t items) (hx : items[i]? = some x)
    (hQ : ∀ h', h'.IsTupleIter it t (i + 1) → Heap.SameBut it s.heap h' → Q x { s with heap := h' }) : wpAny (model prog w) A (Builtin.SmallTypes.nextOf (.ref it)) Q E s := by
  refine Classical.byContradiction fun gK => ?_
  obtain ⟨o, ho, hc, hd⟩ := id hit
  obtain ⟨ol, hol, _, nl, hdl⟩ := ht
  refine gK ?_
  clear gK
  unfold Builtin.SmallTypes.nextOf
  refine wpAny_bind (wpAny_callSpecial?_slot (name := Str.ofString "__next__") hit.typeIs F.slot_tuple_iterator_next
    (wpAny_call_entry F.slot_tuple_iterator_next hit.typeIs F.entry_tuple_iterator_next ?_ (F.args_tuple_iterator_next_1 _)))
  show wpAny _ _ (field (.ref it) 0 >>= _) _ _ s
  refine wpAny_bind (wpAny_field ho hd (x := .ref t) rfl ?_)
  show wpAny _ _ (if (Value.ref t == Value.none) = true then _ else _) _ _ s
  rw [if_neg (show ¬ ((Value.ref t == Value.none) = true) from Bool.false_ne_true)]
  show wpAny _ _ (field (.ref it) 1 >>= _) _ _ s
  refine wpAny_bind (wpAny_field ho hd (x := .int i 0) rfl ?_)
  show wpAny _ _ (seqItems? (.ref t) >>= _) _ _ s
  refine wpAny_bind (wpAny_seqItems hol hdl ?_)
  simp only [Int.toNat_natCast, hx]
  refine wpAny_bind (wpAny_setField ho hd (by simp) (wpAny_pure ⟨x, rfl, wpAny_pure (hQ _ ?_ (Heap.SameBut.update ..))⟩))
  exact ⟨_, Heap.get?_update_self _ ho (Obj.isFreed_of_fields (Obj.data_mapFields hd _)), (Obj.cls_mapFields ..).trans hc, by
    rw [Obj.data_mapFields hd]; simp [rawInt]⟩
theorem nextOf_tup_end {it t : Addr} {i : Nat} {items : Array Value} {Q : Value → Shared → Prop} (hh : A.handled = none) (hit : s.heap.IsTupleIter it t i) (ht : s.heap.IsTuple t items) (hx : items[i]? = none)
    (hE : ∀ h' e, Heap.ExtBut it s.heap h' → (∃ o, h'.get? e = some o ∧ o.cls = .type "StopIteration") → E (.ref e) { s with heap := h' }) : wpAny (model prog w) A (Builtin.SmallTypes.nextOf (.ref it)) Q E s := by
  refine Classical.byContradiction fun gK => ?_
  obtain ⟨o, ho, hc, hd⟩ := id hit
  obtain ⟨ol, hol, _, nl, hdl⟩ := ht
  refine gK ?_
  clear gK
  unfold Builtin.SmallTypes.nextOf
  refine wpAny_bind (wpAny_callSpecial?_slot (name := Str.ofString "__next__") hit.typeIs F.slot_tuple_iterator_next
    (wpAny_call_entry F.slot_tuple_iterator_next hit.typeIs F.entry_tuple_iterator_next ?_ (F.args_tuple_iterator_next_1 _)))
  show wpAny _ _ (field (.ref it) 0 >>= _) _ _ s
  refine wpAny_bind (wpAny_field ho hd (x := .ref t) rfl ?_)
  show wpAny _ _ (if (Value.ref t == Value.none) = true then _ else _) _ _ s
  rw [if_neg (show ¬ ((Value.ref t == Value.none) = true) from Bool.false_ne_true)]
  show wpAny _ _ (field (.ref it) 1 >>= _) _ _ s
  refine wpAny_bind (wpAny_field ho hd (x := .int i 0) rfl ?_)
  show wpAny _ _ (seqItems? (.ref t) >>= _) _ _ s
  refine wpAny_bind (wpAny_seqItems hol hdl ?_)
  simp only [Int.toNat_natCast, hx]
  refine wpAny_bind (wpAny_rule (wpAny_bind (wpAny_setField ho hd (by simp) ?_)))
  show wpAny _ _ (newExc (.type "StopIteration") [] >>= _) _ _ _
  refine wpAny_bind ?_
  simp only [newExc, newTuple]
  refine wpAny_bind (wpAny_newObj_type ?_ (by size_fits))
  refine wpAny_bind (m := firstArgMember _ _) (wpAny_of_eq (a := Value.none) (by first | rfl | (simp only [firstArgMember]; rfl)) ?_)
  refine wpAny_newObj_type ?_ (by size_fits)
  simp only [raiseNew]
  refine wpAny_bind (wpAny_handled ?_)
  first | rw [show A.in1.handled = none from hh] | rw [hh]
  refine wpAny_bind (wpAny_pure (wpAny_throw ?_))
  exact hE _ _ (((Heap.SameBut.update ..).extBut.push _).push _) ⟨_, Heap.get?_push_size _ rfl, rfl⟩
end
theorem draws_tup {prog : Program} {w : World} {A : Around} (hh : A.handled = none) (it l : Addr) (hne : l ≠ it) (items : Array Value) :
    Draws prog w A it [it, l] items.size (fun i v => items[i]? = some v) (fun i h => h.IsTupleIter it l i ∧ h.IsTuple l items) where
  live := fun _ _ st => let ⟨o, ho, _⟩ := st.1; ⟨o, ho⟩
  frame := fun _ _ _ st hk => ⟨st.1.at fun o e => hk it (by simp) o e, st.2.at fun o e => hk l (by simp) o e⟩
  item := fun i s Q E hi st hQ => by
    refine nextOf_tup_item st.1 st.2 (x := items[i]) (by simp [hi]) fun h' hit' hs' => ?_
    exact hQ _ h' s.toks (by simp [hi]) ⟨hit', st.2.extBut hs'.extBut hne⟩ hs'
  done := fun s Q E st hE => nextOf_tup_end hh st.1 st.2 (by simp) hE
set_option maxHeartbeats 1000000 in
theorem meets_enum_tup (l : Addr) (items : Array Value) (n : Nat) (dct : Option Addr) (sl : Array (Option Value)) :
    Meets (Builtin.«enumerate.__new__» ⟨[.type "enumerate", .ref l], []⟩) (fun _ R s => s.heap.get? l = some { cls := .type "tuple", dict := dct, data := .seq items n, slots := sl } ∧
      R (.ok (.ret (.ref (s.heap.push { cls := .type "tuple_iterator", data := .fields #[.ref l, .int 0 0] }).objs.size)))
        { s with heap := (s.heap.push { cls := .type "tuple_iterator", data := .fields #[.ref l, .int 0 0] }).push { cls := .type "enumerate", data := .fields #[.none, .bool false, .ref s.heap.objs.size, rawInt 0, .none, .none] } }) :=
  .of_wp fun prog w A R s h => by
    refine Classical.byContradiction fun gK => ?_
    obtain ⟨hp, g, d, tk, os⟩ := s; obtain ⟨hl, h⟩ := h
    refine gK ?_
    clear gK
    have hsub := sub_enumerate
    have hL : Heap.IsTuple (Shared.heap ⟨hp, g, d, tk, os⟩) l items := ⟨_, hl, rfl, n, rfl⟩
    wp_walk using wpAny_loadPart' hl
    refine wpAny_stack_any fun st => wpAny_pure ?_
    split
    · rename_i c _ _ _ _ _
      cases (c == Value.type "enumerate")
      · wp_walk using wpAny_loadPart' hl, wpAny_pyIter_tuple hL
        exact ⟨_, rfl, h⟩
      · wp_walk using wpAny_loadPart' hl, wpAny_pyIter_tuple hL
        exact ⟨_, rfl, h⟩
    · wp_walk using wpAny_loadPart' hl, wpAny_pyIter_tuple hL
      exact ⟨_, rfl, h⟩
end Mine
end
section
open PySem PySem.W PyProof.Rows PySem.Spec PySem.Calls
namespace Mine
open PyProof.Rows.LCg (NsObj ns_obj lst lst_snoc)
section
variable {prog : Program} {w : World} {A : Around} {s₁ : Shared}
theorem call_enum_tup {E : Value → Shared → Prop} {s : Shared} {l : Addr} {items : Array Value} {Q : Value → Shared → Prop} (hL : s.heap.IsTuple l items)
    (h : ∀ h', IsEnum h' (s.heap.objs.size + 1) s.heap.objs.size 0 .none → h'.IsTupleIter s.heap.objs.size l 0 → h'.objs.size = s.heap.objs.size + 2 →
      (∀ b o, s.heap.get? b = some o → h'.get? b = some o) → Q (.ref (s.heap.objs.size + 1)) { s with heap := h' }) :
    wpAny (model prog w) A (call (.type "enumerate") [.ref l]) Q E s := by
  refine Classical.byContradiction fun gK => ?_
  obtain ⟨⟨c, dct, dt, sl⟩, hl, hc, n, hd⟩ := hL
  refine gK ?_
  clear gK
  replace hc : c = .type "tuple" := hc
  replace hd : dt = .seq items n := hd
  subst hc hd
  refine callType_new F.called_enumerate (by decide) (F.typeCall_enumerate_1 _) (F.newCall_enumerate_1 _) (fun obj => F.args_object_init_2 obj _) F.entry_enumerate_new
    (meets_enum_tup l items n dct sl) ⟨hl, ?_⟩
  have hz : (s.heap.push { cls := .type "tuple_iterator", data := .fields #[.ref l, .int 0 0] }).objs.size = s.heap.objs.size + 1 := Heap.size_push ..
  show _ ∧ _
  rw [hz]
  have he : IsEnum ((s.heap.push { cls := .type "tuple_iterator", data := .fields #[.ref l, .int 0 0] }).push
      { cls := .type "enumerate", data := .fields #[.none, .bool false, .ref s.heap.objs.size, rawInt 0, .none, .none] }) (s.heap.objs.size + 1) s.heap.objs.size 0 .none := by
    have := Heap.get?_push_size (s.heap.push { cls := .type "tuple_iterator", data := .fields #[.ref l, .int 0 0] })
      (o := { cls := .type "enumerate", data := .fields #[.none, .bool false, .ref s.heap.objs.size, rawInt 0, .none, .none] }) rfl
    rw [hz] at this; exact this
  refine ⟨⟨_, he, rfl⟩, h _ he ⟨_, Heap.get?_push_of_some _ (Heap.get?_push_size _ rfl), rfl, rfl⟩ (by rw [Heap.size_push, hz]) fun b o x => Heap.get?_push_of_some _ (Heap.get?_push_of_some _ x)⟩
structure EnumT (h : Heap) (e it l : Addr) (lo : Nat) : Prop where
  he : IsEnum h e it 0 .none
  hi : h.IsTupleIter it l 0
  b1 : lo ≤ it
  b2 : lo ≤ e
  ne : @Ne Nat e it
theorem enum_tup_L {E : Value → Shared → Prop} {s : Shared} {h₀ : Heap} {L : Addr} {m : Nm} {news : Led} {l : Addr} {items : Array Value} {Q : Value → Shared → Prop} (F : Fr h₀ L s.heap m) (N : News h₀ L s.heap news) (hm : (l, { cls := .type "tuple", data := .seq items }) ∈ news)
    (h : ∀ e it h' lo, Fr h₀ L h' m → News h₀ L h' news → EnumT h' e it l lo → @LT.lt Nat _ L lo → (∀ p ∈ news, @LT.lt Nat _ p.1 lo) → @LE.le Nat _ lo h'.objs.size → Q (.ref e) { s with heap := h' }) :
    wpAny (model prog w) A (call (.type "enumerate") [.ref l]) Q E s :=
  call_enum_tup ⟨_, (N _ hm).1, rfl, 0, rfl⟩ fun h' he hi hz hk => h _ _ h' s.heap.objs.size (F.keeps hk) (fun p hp => ⟨hk _ _ (N p hp).1, (N p hp).2⟩) ⟨he, hi, Nat.le_refl _, Nat.le_succ _, Nat.succ_ne_self _⟩ F.ns.lt (fun p hp => Heap.lt_size (N p hp).1) (by rw [hz]; exact Nat.le_add_right _ 2)
theorem src_enumTup (hh : A.handled = none) {e it l : Addr} {lo : Nat} {items : Array Value} (a b : Str) (pa pb pos : Pos) (k : Nat) (R : EnumT s₁.heap e it l lo) (hl : s₁.heap.IsTuple l items) (hlo : l < lo) :
    Source prog w A (.Tuple [.Name a pa, .Name b pb] k pos) (okP a b) items.size (BP a b fun i p q => ∃ u, items[i]? = some q ∧ p = .int i u) [l] lo s₁ (.ref e) where
  run := fun Kf E h => by
    refine Classical.byContradiction fun gK => ?_
    obtain ⟨he, hi, h1, h2, hne⟩ := R
    refine gK ?_
    clear gK
    refine wpAny_pyIter_enum he ?_
    have helt : e < s₁.heap.objs.size := Heap.lt_size he
    have hilt : it < s₁.heap.objs.size := by obtain ⟨o, x, _⟩ := hi; exact Heap.lt_size x
    have hllt : l < s₁.heap.objs.size := by obtain ⟨o, x, _⟩ := hl; exact Heap.lt_size x
    have hli : l ≠ it := Nat.ne_of_lt (Nat.lt_of_lt_of_le hlo h1)
    have hle : l ≠ e := Nat.ne_of_lt (Nat.lt_of_lt_of_le hlo h2)
    refine h (.ref e) [e, it] [e, it, l] _ s₁.heap (fun env' ok => (Steps.pair hh (WalksT.enumerateD (draws_tup (A := A.in1) hh it l hli items) e hne (by simp [hne, Ne.symm hle]) (by simp)).toU (fun i vals ⟨_, _, _, q⟩ => by rw [q]; rfl) ok.1 ok.2.1 ok.2.2).mono ?_) ⟨⟨_, he⟩, hi, hl⟩ (fun c hc => ?_) (fun c hc => ?_) (fun _ _ e => e) (Nat.le_refl _)
    · rintro i m m' ⟨p, q, ⟨u, y, hc, hv⟩, rfl⟩
      cases hv
      exact ⟨_, _, ⟨u, hc, rfl⟩, rfl⟩
    · simp only [List.mem_cons, List.not_mem_nil, or_false] at hc
      rcases hc with rfl | rfl | rfl
      · exact ⟨helt, .inl (by simp)⟩
      · exact ⟨hilt, .inl (by simp)⟩
      · exact ⟨hllt, .inr (by simp)⟩
    · rcases List.mem_cons.mp hc with rfl | hc
      · exact ⟨helt, h2⟩
      · rw [List.mem_singleton.mp hc]; exact ⟨hilt, h1⟩
end
/-- what a slice takes lies in the list -/
theorem pick_mem (items : Array Value) (a b c : Option Int) : ∀ v ∈ (slicePick items a b c).toList, v ∈ items.toList := by
  intro v hv
  unfold slicePick at hv
  simp only [List.mem_filterMap] at hv
  refine Classical.byContradiction fun gK => ?_
  obtain ⟨j, _, hj⟩ := hv
  refine gK ?_
  clear gK
  exact Array.mem_toList_iff.mpr (Array.mem_of_getElem? hj)
theorem IV_mem : ∀ (l : List Value), (∀ v ∈ l, ∃ z t, v = Value.int z t ∧ 0 ≤ z) → ∃ zs, IV l zs ∧ ∀ z ∈ zs, 0 ≤ z
  | [], _ => ⟨[], IV.nil, fun z hz => nomatch hz⟩
  | v :: l, h => by
    refine Classical.byContradiction fun gK => ?_
    obtain ⟨z, t, rfl, hz⟩ := h v List.mem_cons_self
    obtain ⟨zs, ⟨ps, rfl, rfl⟩, h2⟩ := IV_mem l fun v hv => h v (List.mem_cons_of_mem _ hv)
    refine gK ?_
    clear gK
    refine ⟨_, ⟨(z, t) :: ps, rfl, rfl⟩, fun y hy => ?_⟩
    rcases List.mem_cons.mp hy with rfl | hy
    · exact hz
    · exact h2 y hy
theorem sum_nonneg : ∀ (l : List Int), (∀ z ∈ l, 0 ≤ z) → 0 ≤ l.sum
  | [], _ => Int.le_refl _
  | a :: l, h => by
    rw [List.sum_cons]
    have := h a List.mem_cons_self
    have := sum_nonneg l fun z hz => h z (List.mem_cons_of_mem _ hz)
    lia
theorem IV.mem {l : List Value} {zs : List Int} (h : IV l zs) {v : Value} (hv : v ∈ l) : ∃ z t, v = .int z t ∧ z ∈ zs := by
  obtain ⟨ps, rfl, rfl⟩ := h
  obtain ⟨p, hp, rfl⟩ := List.mem_map.mp hv
  exact ⟨p.1, p.2, rfl, List.mem_map_of_mem hp⟩
end Mine
end
section
open PySem PySem.W PyProof.Rows PySem.Spec PySem.Calls
namespace Mine
open PyProof.Rows.LCg (NsObj ns_obj lst lst_snoc)
section
variable {prog : Program} {w : World} {A : Around} {E : Value → Shared → Prop} {env : Env} {h₀ : Heap} {L : Addr} {mL : Nm}
theorem comp_srcGa {elt target iter : Expr} {ifs : List Expr} {scope : Scope} {cl : List (Str × Addr)} {pos : Pos} {y : Str} {py : Pos} {Q : Value → Shared → Prop} {s₁ : Shared} {x : Value} {okE : Env → Prop} {n : Nat} {B : Nat → Nm → Nm → Prop} {dep : List Addr} {lo : Nat}
    (frozen : Led) (Inv : Nat → List Value → Prop) (hy : okN y env) (hLe : env.locals = L)
    (S : Source prog w A target okE n B dep lo s₁ x) (hL : L < lo) (hbelow : ∀ p ∈ frozen, p.1 < lo) (hlo : lo ≤ s₁.heap.objs.size) (hok : ∀ C, okE (compEnvC scope cl C env)) (hsz : n ≤ sizeLine)
    (hcell : ∀ y ∈ scope.names, y.2 ≠ .cell) (hkind : scope.kind = .function)
    (F : Fr h₀ L s₁.heap mL) (N : News h₀ L s₁.heap frozen) (hdep : ∀ b ∈ dep, (∃ o, h₀.get? b = some o) ∨ ∃ o, (b, o) ∈ frozen)
    (hinv : Inv 0 [])
    (turn : ∀ (g : Heap) i ys C D oC m m' h tk rest (E' : Value → Shared → Prop), i < n → Inv i ys → B i m m' → NsObj oC m' → Fr h₀ L h mL → News h₀ L h ((C, oC) :: (D, lst ys) :: rest) →
      (∀ p ∈ rest, p.1 ≠ C ∧ p.1 ≠ D) → (∀ p ∈ frozen, p ∈ rest) → @Ne Nat C D →
      testsOf prog w A ifs (compEnvC scope cl C env) (fun ok s₃ => if ok = true
        then wpAny (model prog w) A (eval elt (compEnvC scope cl C env)) (fun y s₄ => TurnEnd0 h₀ L mL { s₁ with heap := g } C oC D ys rest (fun _ => Inv (i + 1) (ys ++ [y])) s₄) E' s₃
        else TurnEnd0 h₀ L mL { s₁ with heap := g } C oC D ys rest (fun _ => Inv (i + 1) ys) s₃) E' { s₁ with heap := h, toks := tk })
    (fin : ∀ D h tk ys, Fr h₀ L h (setN mL y (.ref D)) → News h₀ L h ((D, lst ys) :: frozen) → (∀ p ∈ frozen, p.1 < D) → Inv n ys → Q .none { s₁ with heap := h, toks := tk }) :
    AfterIter prog w A env elt target iter ifs scope cl pos (some (assign (.Name y py) env)) E Q x s₁ :=
  comp_srcG frozen Inv S hL hbelow hlo hok hsz hcell hkind F N hdep hinv turn (fun D C oC mC h tk ys F' N' hoC hlt hCD hI => by
    subst hLe
    show wpAny _ A (assign (.Name y py) env (.ref D)) (fun _ s'' => ∃ m, s''.heap.Ns C m ∧ ∀ h', Heap.SameBut C s''.heap h' → Q .none { s'' with heap := h' }) E _
    have zC := N' (C, oC) (List.mem_cons_of_mem _ List.mem_cons_self)
    have zD := N' (D, lst ys) List.mem_cons_self
    refine wpAny_assign_Name (wpAny_storeName_local hy.1 F'.ns (fun h2 ns2 hs2 => ?_) hy.2)
    refine ⟨mC, ns_of_obj hoC (hs2.extBut _ _ zC.2.1 zC.1), fun h3 hs3 => ?_⟩
    refine fin D h3 _ ys ⟨ns2.at' fun o e => hs3.extBut _ _ zC.2.1.symm e, fun b o e => ?_, F'.above⟩ (fun p hp => ?_) (fun p hp => (hlt p hp).2) hI
    · refine hs3.extBut _ _ (fun q => ?_) (hs2.extBut _ _ (fun q => ?_) (F'.keep b o e))
      · rw [q, zC.2.2] at e; cases e
      · rw [q, Heap.get?_none_of_le F'.above] at e; cases e
    · rcases List.mem_cons.mp hp with rfl | hp
      · exact ⟨hs3.extBut _ _ hCD.symm (hs2.extBut _ _ zD.2.1 zD.1), zD.2⟩
      · have z := N' p (List.mem_cons_of_mem _ (List.mem_cons_of_mem _ hp))
        exact ⟨hs3.extBut _ _ (hlt p hp).1 (hs2.extBut _ _ z.2.1 z.1), z.2⟩)
end
local macro_rules | `(tactic| walk_at "exec Assign cons ListComp") => `(tactic| (k_here; k_dflt (refine AssignComp_W (by with_unfolding_all rfl) (by with_unfolding_all rfl) (by rfl) (by decide) ?_)))
local macro_rules | `(tactic| walk_at "call type:enumerate") => `(tactic| (k_here; k_dflt (apply enum_tup_L; k_asm; k_asm; k_mem); intros))
local macro_rules | `(tactic| walk_at "subscriptTail Name Slice ref ref") => `(tactic| (k_here; k_dflt (apply kmk_slice3_lit; k_asm; k_asm; (walk_at "li9"); kmk_part; kmk_part; kmk_part; decide; assumption; rotate_left; (with_unfolding_all rfl); kmk_pure; assumption); intros; (try k_sweep)))
local macro_rules | `(tactic| walk_at "call builtin:sum") => `(tactic| (k_here; k_dflt (apply sum_L; (with_unfolding_all rfl); k_asm; k_asm; k_mem; assumption; k_whole); intros))
theorem IV4 {ys : List Value} {xs : List Int} {C : Prop} (h : IV ys xs) (hl : xs.length = 4) (k : ∀ a b c d ta tb tc td, xs = [a, b, c, d] → ys = [.int a ta, .int b tb, .int c tc, .int d td] → C) : C :=
  have e : ∀ {i : Nat} (hi : i < 4), xs[i]? = some (xs[i]'(hl.symm ▸ hi)) := fun hi => List.getElem?_eq_getElem _
  (h.get (e (i := 0) (by decide))).elim fun ta e0 => (h.get (e (i := 1) (by decide))).elim fun tb e1 => (h.get (e (i := 2) (by decide))).elim fun tc e2 => (h.get (e (i := 3) (by decide))).elim fun td e3 =>
    k _ _ _ _ ta tb tc td (list4_of hl (e (by decide)) (e (by decide)) (e (by decide)) (e (by decide))) (list4_of (h.length.trans hl) e0 e1 e2 e3)
/-- ints that are not negative -/
noncomputable def PosI (i : Nat) (ys : List Value) : Prop := ∃ xs, IV ys xs ∧ (∀ z ∈ xs, 0 ≤ z) ∧ xs.length = i
theorem PosI.nil : PosI 0 [] := ⟨[], IV.nil, (fun _ h => nomatch h), rfl⟩
theorem PosI.snoc {i : Nat} {ys : List Value} {z : Int} (h : PosI i ys) (hz : 0 ≤ z) (t : Tok) : PosI (i + 1) (ys ++ [.int z t]) :=
  h.elim fun xs h => ⟨xs ++ [z], h.1.snoc _ _, fun y hy => (List.mem_append.mp hy).elim (h.2.1 y) fun hy => (List.mem_singleton.mp hy) ▸ hz, by rw [List.length_append, h.2.2]; rfl⟩
theorem four_at {x0 x1 x2 x3 : Value} {P : Value → Prop} {i : Nat} {v : Value} (hi : i < 4) (h : (#[x0, x1, x2, x3] : Array Value)[i]? = some v) (h0 : P x0) (h1 : P x1) (h2 : P x2) (h3 : P x3) : P v :=
  lt4 (P := fun i => (#[x0, x1, x2, x3] : Array Value)[i]? = some v → P v) (fun e => Option.some.inj e ▸ h0) (fun e => Option.some.inj e ▸ h1) (fun e => Option.some.inj e ▸ h2) (fun e => Option.some.inj e ▸ h3) hi h
noncomputable def PosV (v : Value) : Prop := ∃ (z : Int) (t : Tok), 0 ≤ z ∧ v = .int z t
theorem PosV.mk {z : Int} {t : Tok} (h : 0 ≤ z) : PosV (.int z t) := ⟨z, t, h, rfl⟩
set_option maxHeartbeats 0 in
theorem law_G1b (w : World) (mean : ExcName → Option Value) (mg mb : PySem.Str → Option Value) (dp un : Nat) (gd : Option (List Code)) (outer : List Env) (A₀ : Around) (base h₀ : Heap) (L fa : Addr) (cd : Value) (s₁ : Shared)
    (hB : Below A₀ base outer h₀) (hX : (K w.params).In h₀) (hT : Top topProg lw mean mg mb h₀) (hdp : dp + 100 < recursionLimit) (hun : un + 400 < cLine)
    (DL : Addr) (dv : List Value) (kd : Nat) (zs : List Int) (oD : Obj) (oN oW oI oS oV oT : Obj) (vN vW vI vS vV vT : Option Value)
    (m : Nm) (news : Led) (h : Heap) (tk : Nat) (gs : Array GenState) (Q : Flow → Shared → Prop) (E' : Value → Shared → Prop)
    (F : Fr h₀ L h m) (N : News h₀ L h ((L + 2, oN) :: (157, tabObj #[]) :: (L + 3, oW) :: news)) (ho2 : ∀ q ∈ news, q.1 ≠ L + 2) (ho3 : ∀ q ∈ news, q.1 ≠ L + 3) (h157 : ∀ q ∈ news, q.1 ≠ 157) (hL : @LT.lt Nat _ 157 L)
    (dN : oN.data = .cell vN) (dI : oI.data = .cell vI) (dS : oS.data = .cell vS) (dV : oV.data = .cell vV) (dT : oT.data = .cell vT) (zI : (L + 4, oI) ∈ news) (zS : (L + 5, oS) ∈ news) (zV : (L + 6, oV) ∈ news) (zT : (L + 7, oT) ∈ news)
    (zD : (L + 1, oD) ∈ news) (dD : oD.data = .cell (some (.ref DL))) (zL : (DL, W.listOf (List.toArray dv) kd) ∈ news) (hdv : IV dv zs) (hzs : ∀ z ∈ zs, 0 ≤ z) (hdl : dv.length ≤ 100)
    (dW : oW.data = .cell vW) 
    (hPA : ∀ c1 c2 c3 : Int, 0 ≤ c1 → 0 ≤ c2 → 0 ≤ c3 → ∀ p ∈ lens, PureAll p.1 p.2 c1 c2 c3)
    (hret : ∀ h' tk' m' gs', (AllBare gs → AllBare gs') → Fr h₀ L h' m' → GrownAt 157 h' → Q (.ret (.bool true)) { s₁ with heap := h', toks := tk', gens := gs' }) :
    wpAny (model PySem.Challenge.rw_tp0040_01.row.prog w) (ktrTop dp un gd lawN lwS L fa cd (lawCl L) outer) (execs (lwB.drop 1) (envX lawN lwS L fa cd (lawCl L))) Q E' { s₁ with heap := h, toks := tk, gens := gs } := by
  revert hX
  k_fill
  intro hX
  have N1 : News h₀ L h ((L + 1, oD) :: (DL, W.listOf (List.toArray dv) kd) :: (L + 2, oN) :: (157, tabObj #[]) :: (L + 3, oW) :: news) := fun q hq => N q (by
    exact sub_use hq (by f_list))
  have N1' := N1
  clear N N1
  obtain ⟨R', hR'⟩ : ∃ R, lwB.drop 2 = R := ⟨_, rfl⟩
  rw [show lwB.drop 1 = lwB.getD 1 (.Pass default) :: lwB.drop 2 from rfl, hR']
  show wpAny _ _ (execs (Stmt.Assign _ _ _ :: R') _) _ _ _
  k_steps
  rename_i TT hT9 F8 N8 lT e9 it9 h9 lo9 F9 N9 he9 hL9 hb9 hs9
  have hTL := (N9 _ List.mem_cons_self).1
  refine comp_srcGa _ PosI ⟨by rfl, by rfl⟩ rfl (src_enumTup (by rfl) _ _ _ _ _ _ he9 ⟨_, hTL, rfl, 0, rfl⟩ (hb9 _ List.mem_cons_self)) hL9 hb9 hs9 (fun C => ⟨lookup_relabel_local (by rfl), lookup_relabel_local (by rfl), by rfl⟩) (show 4 ≤ sizeLine by decide) (by decide) rfl F9 N9 (dep1 List.mem_cons_self) PosI.nil ?_ ?_
  · intro g i ys C D oC m1 m2 h tk rest' E' hi hI9 hB9 hoC F9 N9 hr9 hz9 hCD
    refine testsOf_nil (hideQ fun Q' hQ => ?_)
    refine hB9.elim fun va h1 => h1.elim fun vb h1 => h1.1.elim fun u hq => ?_
    refine (four_at (P := PosV) hi hq.1 (.mk (by decide)) (.mk (by decide)) (.mk (by decide)) (.mk (by decide))).elim fun z hz => hz.elim fun t hz => ?_
    have hm := h1.2
    rw [hq.2, hz.2] at hm
    have hi4 : i < 4 := hi
    have hx1 : m2 (Str.ofString "place") = some (.int (i : Int) u) := by rw [hm]; exact (if_neg (by decide)).trans (if_pos rfl)
    have hx2 : m2 (Str.ofString "first") = some (.int z t) := by rw [hm]; exact if_pos rfl
    have hz0 := hz.1
    have hzz : (List.toArray dv).size ≤ sizeLine := by
      have : sizeLine = 16777216 := rfl
      simp
      omega
    obtain ⟨pv, hpv⟩ : ∃ pv, (slicePick (List.toArray dv) (some (i : Int)) none (some 4)).toList = pv := ⟨_, rfl⟩
    refine (IV_mem pv fun v hv => by
      rw [← hpv] at hv
      obtain ⟨z, t, e, hz⟩ := hdv.mem (pick_mem _ _ _ _ v hv)
      exact ⟨z, t, e, hzs z hz⟩).elim fun ps hps0 => ?_
    have hps := hps0.1
    have hp0 := hps0.2
    have hsum := sum_nonneg ps hp0
    have y1 := hz9 _ (by f_tup : (L + 1, oD) ∈ _)
    have y2 := hz9 _ (by f_tup : (DL, W.listOf (List.toArray dv) kd) ∈ _)
    have N7 : News h₀ L h ((C, oC) :: (D, lst ys) :: (L + 1, oD) :: (DL, W.listOf (List.toArray dv) kd) :: rest') := fun q hq => N9 q (sub_use hq (by f_list))
    have hzs0 := Int.add_nonneg hz0 hsum
    clear hm hq N9 hz9 hr9 hret N8 hb9 y1 y2 h1 hz hps0 hB9
    k_steps
    refine hQ _ _ ?_
    refine TurnEnd0.intro (by assumption) (by assumption) (fun q hq => ?_) (hI9.snoc ?_ _)
    · exact sub_use hq (by f_list)
    · first | assumption | omega
  · intro D h5 tk5 ys F5 N5 hlt5 hI5
    refine hI5.elim fun xs h5' => ?_
    refine IV4 h5'.1 h5'.2.2 fun a b c d ta tb tc td ex ey => ?_
    have hx0 := h5'.2.1
    rw [ex] at hx0
    rw [ey] at N5
    have hD2 : @LT.lt Nat _ (L + 2) D := ltM hlt5 (by f_tup : (L + 2, oN) ∈ _)
    have hD3 : @LT.lt Nat _ (L + 3) D := ltM hlt5 (by f_tup : (L + 3, oW) ∈ _)
    have h57D : @LT.lt Nat _ 157 D := ltM hlt5 (by f_tup : (157, tabObj #[]) ∈ _)
    have p0 := hx0 a mm0
    have p1 := hx0 b mm1
    have p2 := hx0 c mm2
    have p3 := hx0 d mm3
    rw [← hR']
    refine @law_G2 w mean mg mb dp un gd outer A₀ base h₀ L fa cd s₁ hB (by assumption) hT hdp hun D a b c d ta tb tc td 4 oN oW oI oS oV oT vN vW vI vS vV vT _ ((D, W.listOf #[.int a ta, .int b tb, .int c tc, .int d td] 4) :: news) h5 _ gs Q E' F5 (fun q hq => N5 q (sub_use hq (sub_cons (by f_tup) (sub_cons (by f_tup) (sub_cons (by f_tup) (sub_cons mm0 (by f_list))))))) (all_cons (Nat.ne_of_gt hD2) ho2) (all_cons (Nat.ne_of_gt hD3) ho3) (all_cons (Nat.ne_of_gt h57D) h157) hL dN dI dS dV dT (mem_t zI) (mem_t zS) (mem_t zV) (mem_t zT) (by rfl) mm0 dW
      (hPA b c d p1 p2 p3) p0 p1 p2 p3 hret
end Mine
end
section
open PySem PySem.W PyProof.Rows PySem.Spec PySem.Calls
namespace Mine
open PyProof.Rows.LCg (NsObj ns_obj lst lst_snoc)
local macro_rules | `(tactic| k_all) => `(tactic| first | assumption | exact all_ne_of_lt (by assumption) (by lia))
local macro_rules | `(tactic| walk_at "subscriptTail Name Slice ref ref") => `(tactic| (k_here; k_dflt (apply kmk_slice_lit; k_asm; k_asm; (first | (walk_at "li9") | exact (by assumption : ∀ h m', Fr _ _ h m' → Heap.IsList h _ _) _ _ (by assumption)); kmk_part; kmk_part; assumption; rotate_left; (with_unfolding_all rfl); kmk_pure; assumption); intros; (try k_sweep)))
theorem ints_mem {vs : List Value} {ns : List Int} (h : IntsAre vs ns) : ∀ v ∈ vs, ∃ z t, v = .int z t := by
  induction h with
  | nil => intro v hv; cases hv
  | cons n t h ih =>
    intro v hv
    rcases List.mem_cons.mp hv with rfl | hv
    · exact ⟨_, _, rfl⟩
    · exact ih v hv
/-- ints that are not negative, no more than the turns -/
noncomputable def PosL (i : Nat) (ys : List Value) : Prop := ∃ xs, IV ys xs ∧ (∀ z ∈ xs, 0 ≤ z) ∧ ys.length ≤ i
theorem PosL.nil : PosL 0 [] := ⟨[], IV.nil, (fun _ h => nomatch h), Nat.le_refl _⟩
theorem PosL.snoc {i : Nat} {ys : List Value} {z : Int} (h : PosL i ys) (hz : 0 ≤ z) (t : Tok) : PosL (i + 1) (ys ++ [.int z t]) :=
  h.elim fun xs h => ⟨xs ++ [z], h.1.snoc _ _, fun y hy => (List.mem_append.mp hy).elim (h.2.1 y) fun hy => (List.mem_singleton.mp hy) ▸ hz, by rw [List.length_append]; exact Nat.succ_le_succ h.2.2⟩
theorem take_at {sv : List Value} {n i : Nat} {v : Value} (h : (sv.take n).toArray[i]? = some v) : v ∈ sv := List.mem_of_mem_take (List.mem_of_getElem? (show (sv.take n)[i]? = some v by simpa using h))
set_option maxHeartbeats 0 in
theorem law_G1a (w : World) (mean : ExcName → Option Value) (mg mb : PySem.Str → Option Value) (dp un : Nat) (gd : Option (List Code)) (outer : List Env) (A₀ : Around) (base h₀ : Heap) (L fa : Addr) (cd : Value) (s₁ : Shared)
    (hB : Below A₀ base outer h₀) (hX : (K w.params).In h₀) (hT : Top topProg lw mean mg mb h₀) (hdp : dp + 100 < recursionLimit) (hun : un + 400 < cLine)
    (SA : Addr) (sv : List Value) (ns : List Int) (oD : Obj) (vD : Option Value) (oN oW oI oS oV oT : Obj) (vN vW vI vS vV vT : Option Value)
    (m : Nm) (news : Led) (h : Heap) (tk : Nat) (gs : Array GenState) (Q : Flow → Shared → Prop) (E' : Value → Shared → Prop)
    (F : Fr h₀ L h m) (N : News h₀ L h ((L + 1, oD) :: (L + 2, oN) :: (157, tabObj #[]) :: (L + 3, oW) :: news)) (ho1 : ∀ q ∈ news, q.1 ≠ L + 1) (ho2 : ∀ q ∈ news, q.1 ≠ L + 2) (ho3 : ∀ q ∈ news, q.1 ≠ L + 3) (h157 : ∀ q ∈ news, q.1 ≠ 157) (hL : @LT.lt Nat _ 157 L)
    (dN : oN.data = .cell vN) (dI : oI.data = .cell vI) (dS : oS.data = .cell vS) (dV : oV.data = .cell vV) (dT : oT.data = .cell vT) (zI : (L + 4, oI) ∈ news) (zS : (L + 5, oS) ∈ news) (zV : (L + 6, oV) ∈ news) (zT : (L + 7, oT) ∈ news)
    (dD : oD.data = .cell vD) (m1 : m (Str.ofString "script") = some (.ref SA)) (hS : h₀.IsList SA sv.toArray) (hsv : IntsAre sv ns) (hsl : sv.length ≤ 100)
    (dW : oW.data = .cell vW) 
    (hPA : ∀ c1 c2 c3 : Int, 0 ≤ c1 → 0 ≤ c2 → 0 ≤ c3 → ∀ p ∈ lens, PureAll p.1 p.2 c1 c2 c3)
    (hret : ∀ h' tk' m' gs', (AllBare gs → AllBare gs') → Fr h₀ L h' m' → GrownAt 157 h' → Q (.ret (.bool true)) { s₁ with heap := h', toks := tk', gens := gs' }) :
    wpAny (model PySem.Challenge.rw_tp0040_01.row.prog w) (ktrTop dp un gd lawN lwS L fa cd (lawCl L) outer) (execs (lwB) (envX lawN lwS L fa cd (lawCl L))) Q E' { s₁ with heap := h, toks := tk, gens := gs } := by
  revert hX
  k_fill
  intro hX
  have F := fixF F m1
  have hSl : ∀ h m', Fr h₀ L h m' → Heap.IsList h SA sv.toArray := fun h m' F' => by
    refine Classical.byContradiction fun gK => ?_
    obtain ⟨o, e, r⟩ := hS
    refine gK ?_
    clear gK
    exact ⟨o, F'.keep _ _ e, r⟩
  have hpick : (slicePick (List.toArray sv) none (some 12) none).toList = sv.take 12 := pick_upto sv 12
  have hzz : (List.toArray sv).size ≤ sizeLine := by
    have : sizeLine = 16777216 := rfl
    simp
    lia
  obtain ⟨R', hR'⟩ : ∃ R, lwB.drop 1 = R := ⟨_, rfl⟩
  rw [show lwB = lwB.getD 0 (.Pass default) :: lwB.drop 1 from rfl, hR']
  show wpAny _ _ (execs (Stmt.Assign _ _ _ :: R') _) _ _ _
  k_steps
  rename_i SL hSL FSL NSL lSL
  have hL2 : @LT.lt Nat _ (L + 2) SL := (ltM lSL mm1)
  refine comp_src0n _ PosL (src_listN (by rfl) _ (sv.take 12).toArray _ _ ⟨_, (NSL _ List.mem_cons_self).1, rfl, 0, rfl⟩) (fun C => ⟨lookup_relabel_local (by rfl), by rfl⟩) (by have : sizeLine = 16777216 := rfl; simp; lia) (by decide) rfl FSL NSL (dep1 List.mem_cons_self) PosL.nil ?_ ?_
  · intro g i ys C D oC m1 m2 h tk rest' E' hi hI9 hB9 hoC F9 N9 hr9 hz9 hCD
    refine testsOf_nil (hideQ fun Q' hQ => ?_)
    refine hB9.elim fun v0 hv0 => (ints_mem hsv v0 (take_at hv0.1)).elim fun z hz => hz.elim fun t hz => ?_
    have hx1 : m2 (Str.ofString "cell") = some (.int z t) := by rw [hv0.2, hz]; exact if_pos rfl
    have hfm : 0 ≤ z.fmod (10 ^ Int.toNat 6) := Int.fmod_nonneg_of_pos _ (by decide)
    clear hv0 hz hB9 hz9 hr9 hret NSL
    k_steps
    refine hQ _ _ ?_
    refine TurnEnd0.intro (by assumption) (by assumption) (fun q hq => ?_) (hI9.snoc hfm _)
    exact sub_use hq (by f_list)
  · intro D h5 tk5 ys F5 N5 hlt5 hI5
    refine hI5.elim fun xs h5' => ?_
    have hxs := h5'.1
    have hx0 := h5'.2.1
    have hxl : ys.length ≤ 12 := Nat.le_trans h5'.2.2 (by simp; lia)
    have hD1 : @LT.lt Nat _ (L + 1) D := ltM hlt5 (by f_tup : (L + 1, oD) ∈ _)
    have hD2 : @LT.lt Nat _ (L + 2) D := ltM hlt5 (by f_tup : (L + 2, oN) ∈ _)
    have hD3 : @LT.lt Nat _ (L + 3) D := ltM hlt5 (by f_tup : (L + 3, oW) ∈ _)
    have h57D : @LT.lt Nat _ 157 D := ltM hlt5 (by f_tup : (157, tabObj #[]) ∈ _)
    have N6 : News h₀ L h5 ((L + 1, oD) :: (D, W.listOf (List.toArray ys) ys.length) :: (L + 2, oN) :: (157, tabObj #[]) :: (L + 3, oW) :: news) := fun q hq => N5 q (sub_use hq (by unfold lst; f_list))
    clear N5 NSL hlt5
    k_steps
    rename_i h8 oD8 F8 N8 d8
    rw [← hR']
    refine @law_G1b w mean mg mb dp un gd outer A₀ base h₀ L fa cd s₁ hB (by assumption) hT hdp hun D ys ys.length xs oD8 oN oW oI oS oV oT vN vW vI vS vV vT _ ((L + 1, oD8) :: (D, W.listOf (List.toArray ys) ys.length) :: news) h8 _ gs Q E' F8 (fun q hq => N8 q (by exact sub_use hq (by f_list))) (all_cons (by show @Ne Nat _ _; lia) (all_cons (Nat.ne_of_gt hD2) ho2)) (all_cons (by show @Ne Nat _ _; lia) (all_cons (Nat.ne_of_gt hD3) ho3)) (all_cons (by show @Ne Nat _ _; lia) (all_cons (Nat.ne_of_gt h57D) h157)) hL dN dI dS dV dT (mem_t (mem_t zI)) (mem_t (mem_t zS)) (mem_t (mem_t zV)) (mem_t (mem_t zT)) mm0 d8 mm1 hxs hx0 (Nat.le_trans hxl (by decide)) dW hPA hret
end Mine
end
section
open PySem PySem.W PyProof.Rows PySem.Spec PySem.Calls
namespace Mine
noncomputable def abc : List Nat := [97, 34, 92, 32, 35, 98, 99, 100, 101, 102, 103, 104, 105, 106, 107, 108, 109, 110, 111, 112, 113, 114, 115, 116, 117, 118]
noncomputable def sgK (c k : Nat) : Nat := if 97 ≤ c ∧ c ≤ 122 then (kinds.getD k 0 + c - 97).toNat else c
theorem prep_un : ∀ p : Fin 28, prep (unseen (p.1 : Int)).cps.toList = [] := by decide +kernel
theorem low_un : ∀ p : Fin 28, ∀ c ∈ (unseen (p.1 : Int)).cps.toList, (low3 c).length ≤ 10 ∧ c ≠ 10 := by decide +kernel
noncomputable def subOf : List (Int × List Nat) → List (Int × Str) → Bool
  | [], _ => true
  | _ :: _, [] => false
  | a :: r, b :: l => if a.1 = b.1 then (a.2 == b.2.cps.toList) && subOf r l else subOf (a :: r) l
noncomputable def need : List (Int × List Nat) := (kinds.drop 2).flatMap fun k => (List.range 22).map fun (j : Nat) => (k + (j : Int), [97 + j])
theorem sub_need : subOf need b3 = true := by decide +kernel
theorem sub_mem : ∀ (xs : List (Int × List Nat)) (l : List (Int × Str)), subOf xs l = true → ∀ p ∈ xs, ∃ s, (p.1, s) ∈ l ∧ s.cps.toList = p.2
  | [], _, _, p, hp => nomatch hp
  | a :: r, [], h, _, _ => by simp [subOf] at h
  | a :: r, b :: l, h, p, hp => by
    rw [subOf] at h
    split at h
    · rename_i e
      rw [Bool.and_eq_true, beq_iff_eq] at h
      rcases List.mem_cons.mp hp with rfl | hp
      · exact ⟨b.2, by rw [e]; exact List.mem_cons_self, h.1.symm⟩
      · refine Classical.byContradiction fun gK => ?_
        obtain ⟨s, h1, h2⟩ := sub_mem r l h.2 p hp
        refine gK ?_
        clear gK
        exact ⟨s, List.mem_cons_of_mem _ h1, h2⟩
    · refine Classical.byContradiction fun gK => ?_
      obtain ⟨s, h1, h2⟩ := sub_mem (a :: r) l h p hp
      refine gK ?_
      clear gK
      exact ⟨s, List.mem_cons_of_mem _ h1, h2⟩
theorem find_nodup : ∀ (l : List (Int × Str)) (k : Int) (s : Str), (l.map (·.1)).Nodup → (k, s) ∈ l → (l.find? fun p => p.1 == k) = some (k, s)
  | [], _, _, _, h => nomatch h
  | a :: r, k, s, hn, h => by
    rw [List.map_cons, List.nodup_cons] at hn
    rw [List.find?_cons]
    rcases List.mem_cons.mp h with rfl | h
    · simp
    · have : ¬ a.1 = k := fun e => hn.1 (e ▸ List.mem_map.mpr ⟨(k, s), h, rfl⟩)
      have e : (a.1 == k) = false := by simpa using this
      rw [e]
      exact find_nodup r k s hn.2 h
theorem b3at_mem {k : Int} {s : Str} (h : (k, s) ∈ b3) : b3at k = some s := by
  unfold b3at
  rw [find_nodup b3 k s (asc_nodup b3 asc3) h]
  rfl
theorem b3_head : ∃ a r, b3 = a :: r ∧ a.1 = 181 := by
  have h : b3.head?.map (·.1) = some 181 := by decide +kernel
  cases e : b3 with
  | nil => rw [e] at h; cases h
  | cons a r => rw [e] at h; exact ⟨a, r, rfl, Option.some.inj h⟩
theorem b3_ge : ∀ p ∈ b3, 181 ≤ p.1 := b3_head.elim fun a h => h.elim fun r h p hp => by
  rw [h.1] at hp
  cases hp with
  | head => exact Int.le_of_eq h.2.symm
  | tail _ hp => exact Int.le_of_lt (h.2 ▸ asc_lt a r (h.1 ▸ asc3) p hp)
theorem b3at_low {k : Int} (h : k < 181) : b3at k = none := by
  have hn : (b3.find? fun p => p.1 == k) = none := List.find?_eq_none.mpr fun p hp e => by
    have e : p.1 = k := eq_of_beq e
    exact absurd (Int.lt_of_lt_of_le h (e ▸ b3_ge p hp)) (Int.lt_irrefl _)
  unfold b3at
  rw [hn]
  rfl
theorem str_of {s : Str} {l : List Nat} (h : s.cps.toList = l) : s = ⟨l.toArray⟩ := by
  obtain ⟨a⟩ := s
  subst h
  rfl
theorem sg_need : ∀ j : Fin 22, ∀ k : Fin 12, 2 ≤ k.1 → (((sgK (97 + j.1) k.1 : Nat) : Int), [97 + j.1]) ∈ need := by decide +kernel
theorem low_need {k : Nat} (h1 : 2 ≤ k) (h2 : k < 12) {j : Nat} (hj : j < 22) : low3 (sgK (97 + j) k) = ⟨#[97 + j]⟩ :=
  (sub_mem need b3 sub_need _ (sg_need ⟨j, hj⟩ ⟨k, h2⟩ h1)).elim fun s h => by
    unfold low3
    rw [b3at_mem h.1, Option.getD_some, str_of h.2]
theorem abc_at : ∀ c ∈ abc, 97 ≤ c → ∃ j : Fin 22, c = 97 + j.1 := by decide +kernel
theorem low_dec : ∀ c ∈ abc, ∀ k : Fin 12, (k.1 < 2 ∨ c < 97) → ((sgK c k.1 : Nat) : Int) < 181 ∧ Txt.lower ⟨#[sgK c k.1]⟩ = ⟨#[c]⟩ := by decide +kernel
theorem low_sg {k : Nat} (hk : k < 12) {c : Nat} (hc : c ∈ abc) : low3 (sgK c k) = ⟨#[c]⟩ := by
  by_cases h : k < 2 ∨ c < 97
  · unfold low3
    rw [b3at_low (low_dec c hc ⟨k, hk⟩ h).1, Option.getD_none]
    exact (low_dec c hc ⟨k, hk⟩ h).2
  · exact (abc_at c hc (Nat.le_of_not_lt fun x => h (.inr x))).elim fun j e => e ▸ low_need (Nat.le_of_not_lt fun x => h (.inl x)) hk j.2
theorem b1_sg {k : Nat} (hk : k < 12) {c : Nat} (hc : c ∈ abc) : isB1 ((sgK c k : Nat) : Int) = false := by
  have : (List.range 12).all (fun k => abc.all fun c => !isB1 ((sgK c k : Nat) : Int)) = true := by decide +kernel
  simpa using List.all_eq_true.mp (List.all_eq_true.mp this k (List.mem_range.mpr hk)) c hc
theorem sg_dec : ∀ c ∈ abc, ∀ k : Fin 12, sgK c k.1 ≠ 10 := by decide +kernel
theorem sg_ne {k : Nat} (hk : k < 12) {c : Nat} (hc : c ∈ abc) : sgK c k ≠ 10 := sg_dec c hc ⟨k, hk⟩
end Mine
end
section
open PySem PySem.W PyProof.Rows PySem.Spec PySem.Calls
namespace Mine
noncomputable def lensR : List (Nat × Nat × Nat) := [(1, 3, 4), (3, 1, 3), (2, 2, 4), (2, 4, 3), (4, 2, 3), (3, 3, 3), (1, 5, 3), (5, 1, 3), (3, 5, 3), (5, 3, 3), (4, 4, 3), (5, 5, 3)]
noncomputable def wsOf (low high : Nat) : List Nat := (wk low high 12).1
theorem pr1 : ∀ p ∈ lensR, (∀ r, r < 6 → 2 ≤ (lk p.1 p.2.1 r).2.1.length) ∧ (∀ r, r < 7 → (lk p.1 p.2.1 r).2.1.length ≤ 70 ∧ (lk p.1 p.2.1 r).1.length ≤ 70 ∧ (lk p.1 p.2.1 r).2.2.1 ≤ 70 ∧ (lk p.1 p.2.1 r).2.2.2 ≤ 70) := by decide +kernel
theorem pr2 : ∀ p ∈ lensR, (lk p.1 p.2.1 6).2.2.2 = 12 + (lk p.1 p.2.1 6).2.1.length ∧ (lk p.1 p.2.1 6).1 ++ (lk p.1 p.2.1 6).2.1 = wsOf p.1 p.2.1 := by decide +kernel
theorem pr3 : ∀ p ∈ lensR, (∀ i, i < 12 → i < (wk p.1 p.2.1 i).1.length) ∧ (∀ i, i < 13 → (wk p.1 p.2.1 i).1.length ≤ 100 ∧ (wk p.1 p.2.1 i).2 ≤ 100) := by decide +kernel
noncomputable def stOf (low : Nat) : Nat := if low = 1 then 1 else 0
noncomputable def tdOf (low high R : Nat) (j : Nat) : Int × Int := tdAt (imF low low) (imF low high) (imF high high) R (stOf low) j
theorem pr4 : ∀ p ∈ lensR, (∀ r, r < p.2.2 → pk (lvAt (imF p.1 p.1) (imF p.1 p.2.1) (imF p.2.1 p.2.1) r).1 (stOf p.1) < (((wsOf p.1 p.2.1).length / 2 : Nat) : Int)) ∧ (((wsOf p.1 p.2.1).length / 2 : Nat) : Int) ≤ pk (lvAt (imF p.1 p.1) (imF p.1 p.2.1) (imF p.2.1 p.2.1) p.2.2).1 (stOf p.1) := by decide +kernel
theorem pr5 : ∀ p ∈ lensR, ∀ j, j < (wsOf p.1 p.2.1).length → (tdOf p.1 p.2.1 p.2.2 j).1 = (((wsOf p.1 p.2.1).take j).count 0 : Nat) ∧ (tdOf p.1 p.2.1 p.2.2 j).2 = if (wsOf p.1 p.2.1).getD j 0 = 0 then 0 else 1 := by decide +kernel
theorem pr6 : ∀ p ∈ lensR, 0 < (wsOf p.1 p.2.1).length ∧ (wsOf p.1 p.2.1).length ≤ 1000 ∧ p.2.2 ≤ 100 ∧ (1 ≤ p.1 ∧ p.1 ≤ 5) ∧ 1 ≤ p.2.1 ∧ p.2.1 ≤ 5 := by decide +kernel
theorem lens_eq : lens = lensR.map fun p => (p.1, p.2.1) := by decide
theorem lens_R {p : Nat × Nat} (h : p ∈ lens) : ∃ R, (p.1, p.2, R) ∈ lensR := by
  rw [lens_eq] at h
  obtain ⟨q, hq, rfl⟩ := List.mem_map.mp h
  exact ⟨q.2.2, hq⟩
end Mine
end
section
open PySem PySem.W PyProof.Rows PySem.Spec PySem.Calls
namespace Mine
theorem cps_add (a b : Str) : (a ++ b).cps.toList = a.cps.toList ++ b.cps.toList := by
  show (a.cps ++ b.cps).toList = _
  simp
theorem str_ext {a b : Str} (h : a.cps.toList = b.cps.toList) : a = b := by
  obtain ⟨x⟩ := a
  obtain ⟨y⟩ := b
  exact congrArg Str.mk (Array.toList_inj.mp h)
theorem empty_cps : (Str.ofString "").cps.toList = [] := by decide +kernel
theorem sjoin_cps : ∀ l : List Str, (Str.join (Str.ofString "") l).cps.toList = l.flatMap fun s => s.cps.toList
  | [] => rfl
  | [x] => by simp [Str.join]
  | x :: y :: r => by
    show (x ++ Str.ofString "" ++ Str.join (Str.ofString "") (y :: r)).cps.toList = _
    rw [cps_add, cps_add, empty_cps, sjoin_cps (y :: r)]
    simp
theorem join_cps (l : List Str) : (Txt.join (Str.ofString "") l).cps.toList = l.flatMap fun s => s.cps.toList := by
  rw [txt_join]
  exact sjoin_cps l
noncomputable def lsA : List Nat := [97, 34, 92, 32, 35, 98, 99, 100, 101, 102, 103, 104, 105]
noncomputable def lsB : List Nat := [106, 107, 108, 109, 110, 111, 112, 113, 114, 115, 116, 117, 118]
theorem item_1 : ∀ k : Fin 13, Txt.item lets1 (k.1 : Int) = ⟨#[lsA.getD k.1 0]⟩ := by decide +kernel
theorem item_2 : ∀ k : Fin 13, Txt.item lets2 (k.1 : Int) = ⟨#[lsB.getD k.1 0]⟩ := by decide +kernel
theorem getD_mem13 {l : List Nat} (hl : l.length = 13) {k : Nat} (hk : k < 13) : l.getD k 0 ∈ l := by
  rw [List.getD_eq_getElem?_getD, List.getElem?_eq_getElem (by omega)]
  exact List.getElem_mem _
theorem name_codes (ls : Str) (l : List Nat) (hl : l.length = 13) (hi : ∀ k : Fin 13, Txt.item ls (k.1 : Int) = ⟨#[l.getD k.1 0]⟩) (n : Nat) (x : Int) :
    ∃ codes : List Nat, (Txt.join (Str.ofString "") (nameL ls n x)).cps.toList = codes ∧ codes.length = n ∧ ∀ c ∈ codes, c ∈ l := by
  have hit : ∀ p : Nat, ∃ k : Nat, k < 13 ∧ Txt.item ls ((x.fdiv (13 ^ p)).fmod 13) = ⟨#[l.getD k 0]⟩ := fun p => by
    have h1 := Int.fmod_nonneg_of_pos (x.fdiv (13 ^ p)) (by decide : (0 : Int) < 13)
    have h2 := Int.fmod_lt_of_pos (x.fdiv (13 ^ p)) (by decide : (0 : Int) < 13)
    refine ⟨((x.fdiv (13 ^ p)).fmod 13).toNat, by omega, ?_⟩
    have := hi ⟨((x.fdiv (13 ^ p)).fmod 13).toNat, by omega⟩
    rw [← this, Int.toNat_of_nonneg h1]
  obtain ⟨f, hf⟩ := Classical.axiomOfChoice hit
  refine ⟨(List.range n).map fun p => l.getD (f p) 0, ?_, by simp, fun c hc => ?_⟩
  · rw [join_cps]
    unfold nameL
    rw [List.flatMap_map]
    have : ∀ m : List Nat, (m.flatMap fun p => (Txt.item ls ((x.fdiv (13 ^ p)).fmod 13)).cps.toList) = m.map fun p => l.getD (f p) 0 := by
      intro m
      induction m with
      | nil => rfl
      | cons a m ih => rw [List.flatMap_cons, ih, (hf a).2]; rfl
    exact this _
  · obtain ⟨p, _, rfl⟩ := List.mem_map.mp hc
    exact getD_mem13 hl (hf p).1
theorem nm1_codes (n : Nat) (x : Int) : ∃ codes : List Nat, (nm1 n x).cps.toList = codes ∧ codes.length = n ∧ ∀ c ∈ codes, c ∈ lsA := name_codes lets1 lsA rfl item_1 n x
theorem nm2_codes (n : Nat) (x : Int) : ∃ codes : List Nat, (nm2 n x).cps.toList = codes ∧ codes.length = n ∧ ∀ c ∈ codes, c ∈ lsB := name_codes lets2 lsB rfl item_2 n x
theorem L1_abc : ∀ c ∈ lsA, c ∈ abc ∧ c < 128 ∧ c ∉ lsB := by decide
theorem L2_abc : ∀ c ∈ lsB, c ∈ abc ∧ c < 128 := by decide
theorem strOk_small {s : Str} (h : ∀ c ∈ s.cps.toList, c < 128) : PyData.strOk s = true := by
  unfold PyData.strOk
  rw [Array.all_eq_true]
  intro i hi
  have := h s.cps[i] (by simp)
  simp
  omega
theorem len_cps (s : Str) : s.length = s.cps.toList.length := by
  show s.cps.size = _
  simp
/-- the names' part of the pure law -/
theorem pureN {low high : Nat} (hp : (low, high) ∈ lens) (c1 c2 : Int) : ∃ ws R st, PureN (nm1 low c1) (nm2 high c2) ws R low high st := by
  refine Classical.byContradiction fun gK => ?_
  obtain ⟨R, hR⟩ := lens_R hp
  obtain ⟨k1, e1, l1, m1⟩ := nm1_codes low c1
  obtain ⟨k2, e2, l2, m2⟩ := nm2_codes high c2
  refine gK ?_
  clear gK
  have h1 : (nm1 low c1).length = low := by rw [len_cps, e1, l1]
  have h2 : (nm2 high c2).length = high := by rw [len_cps, e2, l2]
  refine Classical.byContradiction fun gK => ?_
  obtain ⟨a1, a2⟩ := pr1 _ hR
  obtain ⟨b1, b2⟩ := pr2 _ hR
  obtain ⟨d1, d2⟩ := pr3 _ hR
  obtain ⟨f1, f2⟩ := pr4 _ hR
  refine gK ?_
  clear gK
  have g := pr5 _ hR
  refine Classical.byContradiction fun gK => ?_
  obtain ⟨i1, i2, i3, i4, i5⟩ := pr6 _ hR
  refine gK ?_
  clear gK
  dsimp only at a1 a2 b1 b2 d1 d2 f1 f2 g i1 i2 i3 i4 i5
  have hcA : ∀ c ∈ (nm1 low c1).cps.toList, c < 128 := fun c hc => (L1_abc c (m1 c (e1 ▸ hc))).2.1
  have hcB : ∀ c ∈ (nm2 high c2).cps.toList, c < 128 := fun c hc => (L2_abc c (m2 c (e2 ▸ hc))).2
  refine ⟨wsOf low high, R, stOf low, ?_⟩
  refine { hl1 := by rw [h1]; exact i4, hl2 := by rw [h2]; exact i5, hok6 := by rw [h1, h2]; exact a1, hsz6 := by rw [h1, h2]; exact fun r hr => a2 r (by omega), hend := by rw [h1, h2]; exact b1, hws := by rw [h1, h2]; exact b2, hwk := by rw [h1, h2]; rfl, hokw := by rw [h1, h2]; exact d1, hszw := by rw [h1, h2]; exact fun i hi => d2 i (by omega), hlow := i4.2, hhigh := i5.2, hst := rfl, hR0 := i3, hlo := f1, hhi := f2, hz := ⟨i1, i2⟩, hct := fun j hj => (g j hj).1, hkd := fun j hj => ?_, hne := ?_, hso2 := ?_, hcA := hcA, hcB := hcB }
  · have := (g j hj).2
    rw [List.getD_eq_getElem?_getD, List.getElem?_eq_getElem hj] at this
    exact this
  · intro e
    have e3 : k1 = k2 := by rw [← e1, ← e2, e]
    cases k1 with
    | nil => simp at l1; omega
    | cons a k => exact (L1_abc a (m1 a List.mem_cons_self)).2.2 (m2 a (e3 ▸ List.mem_cons_self))
  · intro s hs
    simp only [List.mem_cons, List.not_mem_nil, or_false] at hs
    rcases hs with rfl | rfl
    · exact strOk_small hcA
    · exact strOk_small hcB
end Mine
end
section
open PySem PySem.W PyProof.Rows PySem.Spec PySem.Calls
namespace Mine
theorem prep_add (a b : List Nat) : prep (a ++ b) = prep a ++ prep b := by
  unfold prep
  rw [List.filter_append, List.map_append]
theorem sgn_sgK (c : Nat) (t : Int) : sgn c t = sgK c (t.fmod 12).toNat := rfl
theorem spell_good {c : Nat} (hc : c ∈ abc) (t : Int) : prep (spell c t).cps.toList = [⟨#[c]⟩] ∧ ∀ d ∈ (spell c t).cps.toList, (low3 d).length ≤ 10 ∧ d ≠ 10 := by
  have hk : (t.fmod 12).toNat < 12 := by
    have h1 := Int.fmod_nonneg_of_pos t (by decide : (0 : Int) < 12)
    have h2 := Int.fmod_lt_of_pos t (by decide : (0 : Int) < 12)
    omega
  refine Classical.byContradiction fun gK => ?_
  obtain ⟨p, hp, hpe⟩ : ∃ p : Nat, p < 28 ∧ (t.fdiv 12).fmod 28 = (p : Int) := by
    have h1 := Int.fmod_nonneg_of_pos (t.fdiv 12) (by decide : (0 : Int) < 28)
    have h2 := Int.fmod_lt_of_pos (t.fdiv 12) (by decide : (0 : Int) < 28)
    exact ⟨((t.fdiv 12).fmod 28).toNat, by omega, by omega⟩
  refine gK ?_
  clear gK
  have e : (spell c t).cps.toList = (unseen (p : Int)).cps.toList ++ [sgK c (t.fmod 12).toNat] := by
    unfold spell
    rw [cps_add, hpe, sgn_sgK]
  rw [e]
  have hb := b1_sg hk hc
  have hl := low_sg hk hc
  constructor
  · rw [prep_add, prep_un ⟨p, hp⟩]
    unfold prep
    simp [hb, hl]
  · intro d hd
    rcases List.mem_append.mp hd with hd | hd
    · exact low_un ⟨p, hp⟩ d hd
    · rw [List.mem_singleton.mp hd, hl]
      exact ⟨by show (1 : Nat) ≤ 10; decide, sg_ne hk hc⟩
theorem signs_good (x : Str) (hx : ∀ c ∈ x.cps.toList, c ∈ abc) (seed : Int) :
    prep (signsT x seed).cps.toList = x.cps.toList.map (fun c => (⟨#[c]⟩ : Str)) ∧ (∀ d ∈ (signsT x seed).cps.toList, (low3 d).length ≤ 10 ∧ d ≠ 10) ∧ (x.cps.toList ≠ [] → (signsT x seed).cps.toList ≠ []) := by
  have key : ∀ n, n ≤ x.cps.toList.length → prep ((signsL x.cps.toList seed n).flatMap fun s => s.cps.toList) = (x.cps.toList.take n).map (fun c => (⟨#[c]⟩ : Str)) ∧ ∀ d ∈ (signsL x.cps.toList seed n).flatMap fun s => s.cps.toList, (low3 d).length ≤ 10 ∧ d ≠ 10 := by
    intro n
    induction n with
    | zero =>
      intro _
      refine ⟨by simp [signsL, prep], fun d hd => ?_⟩
      simp [signsL] at hd
    | succ n ih =>
      intro hn
      obtain ⟨i1, i2⟩ := ih (by omega)
      have hg : x.cps.toList.getD n 0 = x.cps.toList[n] := by
        rw [List.getD_eq_getElem?_getD, List.getElem?_eq_getElem (by omega)]
        rfl
      have hs := spell_good (hx _ (List.getElem_mem (by omega : n < x.cps.toList.length))) (seed * ((n : Int) + 1) + (n : Int))
      rw [signsL_succ, List.flatMap_append, hg]
      constructor
      · rw [prep_add, i1, List.take_succ_eq_append_getElem (by omega), List.map_append]
        simp only [List.flatMap_cons, List.flatMap_nil, List.append_nil]
        rw [hs.1]
        rfl
      · intro d hd
        rcases List.mem_append.mp hd with hd | hd
        · exact i2 d hd
        · simp only [List.flatMap_cons, List.flatMap_nil, List.append_nil] at hd
          exact hs.2 d hd
  have hsz : x.cps.size = x.cps.toList.length := by simp
  obtain ⟨k1, k2⟩ := key x.cps.size (by omega)
  have e : (signsT x seed).cps.toList = (signsL x.cps.toList seed x.cps.size).flatMap fun s => s.cps.toList := join_cps _
  rw [e]
  refine ⟨by rw [k1, hsz, List.take_length], k2, fun hne h0 => ?_⟩
  rw [h0] at k1
  rw [hsz, List.take_length] at k1
  exact hne (List.map_eq_nil_iff.mp k1.symm)
theorem join_prep (x : Str) (hx : ∀ c ∈ x.cps.toList, c ∈ abc) (seed : Int) : Txt.join (Str.ofString "") (prep (signsT x seed).cps.toList) = x := by
  rw [(signs_good x hx seed).1]
  refine str_ext ?_
  rw [join_cps, List.flatMap_map]
  have : ∀ l : List Nat, (l.flatMap fun c => (⟨#[c]⟩ : Str).cps.toList) = l := by
    intro l
    induction l with
    | nil => rfl
    | cons a l ih => rw [List.flatMap_cons, ih]; rfl
  exact this _
theorem signs_len (x : Str) (h : x.cps.size ≤ 5) (seed : Int) : (signsT x seed).cps.toList.length ≤ 10 := by
  have := signs_size x.cps.toList seed x.cps.size
  have e : (signsT x seed).cps.toList.length = (signsT x seed).cps.size := by simp
  rw [e]
  unfold signsT
  omega
end Mine
end
section
open PySem PySem.W PyProof.Rows PySem.Spec PySem.Calls
namespace Mine
noncomputable def eA (l : List Nat) : List Nat := l.flatMap fun c => [92, c]
noncomputable def eQ (l : List Nat) : List Nat := l.flatMap fun c => if c = 34 ∨ c = 92 then [92, c] else [c]
theorem eA_cps (l : List Nat) : (Txt.join (Str.ofString "") (escA l)).cps.toList = eA l := by
  rw [join_cps]
  unfold escA eA
  rw [List.flatMap_map]
theorem eQ_cps (l : List Nat) : (Txt.join (Str.ofString "") (escQ l)).cps.toList = eQ l := by
  rw [join_cps]
  unfold escQ eQ
  rw [List.flatMap_map]
  congr 1
  funext c
  split <;> rfl
theorem at_pre {x : Str} {pre : List Nat} {a : Nat} {r : List Nat} (h : x.cps.toList = pre ++ a :: r) : x.cps[pre.length]? = some a := by
  have : x.cps.toList[pre.length]? = some a := by rw [h, List.getElem?_append_right (Nat.le_refl _), Nat.sub_self]; rfl
  simpa using this
theorem at_pre1 {x : Str} {pre : List Nat} {a b : Nat} {r : List Nat} (h : x.cps.toList = pre ++ a :: b :: r) : x.cps[pre.length + 1]? = some b := by
  have h' : x.cps.toList = (pre ++ [a]) ++ b :: r := by rw [h]; simp
  have := at_pre h'
  simpa using this
theorem q_read (x : Str) : ∀ (l pre post : List Nat), x.cps.toList = pre ++ (eQ l ++ 34 :: post) → QTok x pre.length l (pre.length + (eQ l).length + 1)
  | [], pre, post, h => .stop (at_pre h)
  | c :: l, pre, post, h => by
    have e : eQ (c :: l) = (if c = 34 ∨ c = 92 then [92, c] else [c]) ++ eQ l := rfl
    by_cases hc : c = 34 ∨ c = 92
    · rw [e, if_pos hc] at h ⊢
      have h' : x.cps.toList = pre ++ 92 :: c :: (eQ l ++ 34 :: post) := by rw [h]; simp
      have h2 : x.cps.toList = (pre ++ [92, c]) ++ (eQ l ++ 34 :: post) := by rw [h]; simp
      have ih := q_read x l (pre ++ [92, c]) post h2
      have : pre.length + ([92, c] ++ eQ l).length + 1 = (pre ++ [92, c]).length + (eQ l).length + 1 := by simp; lia
      rw [this]
      refine .esc (at_pre h') (at_pre1 h') ?_
      simpa using ih
    · rw [e, if_neg hc] at h ⊢
      have h' : x.cps.toList = pre ++ c :: (eQ l ++ 34 :: post) := by rw [h]; simp
      have h2 : x.cps.toList = (pre ++ [c]) ++ (eQ l ++ 34 :: post) := by rw [h]; simp
      have ih := q_read x l (pre ++ [c]) post h2
      have : pre.length + ([c] ++ eQ l).length + 1 = (pre ++ [c]).length + (eQ l).length + 1 := by simp; lia
      rw [this]
      refine .char (at_pre h') (fun q => hc (.inl q)) (fun q => hc (.inr q)) ?_
      simpa using ih
theorem u_read (x : Str) (s : Nat) (hs : isWs s) : ∀ (l pre post : List Nat), x.cps.toList = pre ++ (eA l ++ s :: post) → UTok x pre.length l (pre.length + (eA l).length + 1)
  | [], pre, post, h => .stop (at_pre h) hs
  | c :: l, pre, post, h => by
    have e : eA (c :: l) = [92, c] ++ eA l := rfl
    rw [e] at h ⊢
    have h' : x.cps.toList = pre ++ 92 :: c :: (eA l ++ s :: post) := by rw [h]; simp
    have h2 : x.cps.toList = (pre ++ [92, c]) ++ (eA l ++ s :: post) := by rw [h]; simp
    have ih := u_read x s hs l (pre ++ [92, c]) post h2
    have : pre.length + ([92, c] ++ eA l).length + 1 = (pre ++ [92, c]).length + (eA l).length + 1 := by simp; lia
    rw [this]
    refine .esc (at_pre h') (at_pre1 h') ?_
    simpa using ih
theorem o_quote (x : Str) (l pre post : List Nat) (h : x.cps.toList = pre ++ 34 :: (eQ l ++ 34 :: post)) : OTok x pre.length l (pre.length + (eQ l).length + 2) := by
  have h2 : x.cps.toList = (pre ++ [34]) ++ (eQ l ++ 34 :: post) := by rw [h]; simp
  have ih := q_read x l (pre ++ [34]) post h2
  have : pre.length + (eQ l).length + 2 = (pre ++ [34]).length + (eQ l).length + 1 := by simp; lia
  rw [this]
  refine .quote (at_pre h) ?_
  simpa using ih
theorem o_plain (x : Str) (s : Nat) (hs : isWs s) (l pre post : List Nat) (hl : l ≠ []) (h : x.cps.toList = pre ++ (eA l ++ s :: post)) : OTok x pre.length l (pre.length + (eA l).length + 1) := by
  cases l with
  | nil => exact absurd rfl hl
  | cons c l =>
    have e : eA (c :: l) = [92, c] ++ eA l := rfl
    rw [e] at h ⊢
    have h' : x.cps.toList = pre ++ 92 :: c :: (eA l ++ s :: post) := by rw [h]; simp
    have h2 : x.cps.toList = (pre ++ [92, c]) ++ (eA l ++ s :: post) := by rw [h]; simp
    have ih := u_read x s hs l (pre ++ [92, c]) post h2
    have : pre.length + ([92, c] ++ eA l).length + 1 = (pre ++ [92, c]).length + (eA l).length + 1 := by simp; lia
    rw [this]
    refine .esc (at_pre h') (at_pre1 h') ?_
    simpa using ih
theorem eA_no10 : ∀ l : List Nat, (∀ c ∈ l, c ≠ 10) → (eA l).count 10 = 0
  | [], _ => rfl
  | c :: l, h => by
    have e : eA (c :: l) = 92 :: c :: eA l := rfl
    have := h c List.mem_cons_self
    rw [e, List.count_cons, List.count_cons, eA_no10 l fun d hd => h d (List.mem_cons_of_mem _ hd)]
    simp [this]
theorem eQ_no10 : ∀ l : List Nat, (∀ c ∈ l, c ≠ 10) → (eQ l).count 10 = 0
  | [], _ => rfl
  | c :: l, h => by
    have e : eQ (c :: l) = (if c = 34 ∨ c = 92 then [92, c] else [c]) ++ eQ l := rfl
    have := h c List.mem_cons_self
    rw [e, List.count_append, eQ_no10 l fun d hd => h d (List.mem_cons_of_mem _ hd)]
    split <;> simp [this]
theorem eA_len : ∀ l : List Nat, (eA l).length = 2 * l.length
  | [] => rfl
  | c :: l => by
    have e : eA (c :: l) = 92 :: c :: eA l := rfl
    rw [e, List.length_cons, List.length_cons, eA_len l, List.length_cons]
    lia
theorem eQ_len : ∀ l : List Nat, (eQ l).length ≤ 2 * l.length
  | [] => Nat.le_refl _
  | c :: l => by
    have e : eQ (c :: l) = (if c = 34 ∨ c = 92 then [92, c] else [c]) ++ eQ l := rfl
    have := eQ_len l
    rw [e, List.length_append, List.length_cons]
    split <;> simp <;> lia
end Mine
end
section
open PySem PySem.W PyProof.Rows PySem.Spec PySem.Calls
namespace Mine
theorem written_0 (x : Str) (seed : Int) : (written x seed 0).cps.toList = eA (signsT x seed).cps.toList := by
  unfold written
  rw [if_pos rfl, eA_cps]
theorem written_1 (x : Str) (seed : Int) : (written x seed 1).cps.toList = 34 :: (eQ (signsT x seed).cps.toList ++ [34]) := by
  unfold written
  rw [if_neg (by decide), cps_add, cps_add, eQ_cps]
  have e : (Str.ofString "\"").cps.toList = [34] := by decide +kernel
  rw [e]
  simp
theorem txt_cps (n1 n2 : Str) (c2 c3 : Int) : (txtOf n1 n2 c2 c3).cps.toList = (written n1 (c2 + c3) (c3.fmod 2)).cps.toList ++ 10 :: ((written n2 (c2 + c3 + 5) (1 - c3.fmod 2)).cps.toList ++ [32]) := by
  unfold txtOf
  rw [cps_add, cps_add, cps_add]
  have e1 : (Str.ofString "\n").cps.toList = [10] := by decide +kernel
  have e2 : (Str.ofString " ").cps.toList = [32] := by decide +kernel
  rw [e1, e2]
  simp
theorem nlc_all {x : Str} (h : x.cps.toList.count 10 = 1) : nlc x x.cps.size = 2 := by
  unfold nlc
  have e : x.cps.size = x.cps.toList.length := by simp
  rw [e, List.take_length, h]
  rfl
theorem ws10 : isWs 10 := .inl rfl
theorem ws32 : isWs 32 := .inr (.inr (.inr rfl))
theorem lex_all (x : Str) (l1 l2 : List Nat) (h1 : l1 ≠ []) (h2 : l2 ≠ []) (n1 : ∀ c ∈ l1, c ≠ 10) (n2 : ∀ c ∈ l2, c ≠ 10) (z1 : l1.length ≤ 10) (z2 : l2.length ≤ 10)
    (hx : x.cps.toList = (34 :: (eQ l1 ++ [34])) ++ 10 :: (eA l2 ++ [32]) ∨ x.cps.toList = eA l1 ++ 10 :: ((34 :: (eQ l2 ++ [34])) ++ [32])) :
    (1 < x.cps.size ∧ x.cps.size ≤ 1000) ∧ nlc x x.cps.size = 2 ∧ ∃ qA qB, Out x l1 qA 0 ∧ Out x l2 qB qA ∧ Out x [] x.cps.size qB := by
  have es : x.cps.size = x.cps.toList.length := by simp
  have a1 := eA_len l1
  have a2 := eA_len l2
  have b1 := eQ_len l1
  have b2 := eQ_len l2
  have g1 := eA_no10 l1 n1
  have g2 := eA_no10 l2 n2
  have g3 := eQ_no10 l1 n1
  have g4 := eQ_no10 l2 n2
  rcases hx with hx | hx
  · have hsz : x.cps.size = (eQ l1).length + (eA l2).length + 4 := by
      rw [es, hx]
      simp
      lia
    refine ⟨⟨by lia, by lia⟩, nlc_all ?_, (eQ l1).length + 2, x.cps.size, .inl ?_, .inl ?_, .inr ⟨rfl, rfl, .nil⟩⟩
    · rw [hx]
      simp [List.count_cons, List.count_append, g2, g3]
    · have := o_quote x l1 [] (10 :: (eA l2 ++ [32])) (by rw [hx]; simp)
      simpa using this
    · have hp : x.cps.toList = (34 :: (eQ l1 ++ [34])) ++ 10 :: (eA l2 ++ [32]) := hx
      have hl : (34 :: (eQ l1 ++ [34])).length = (eQ l1).length + 2 := by simp
      have e10 := at_pre hp
      rw [hl] at e10
      refine .ws e10 ws10 ?_
      have ho := o_plain x 32 ws32 l2 ((34 :: (eQ l1 ++ [34])) ++ [10]) [] h2 (by rw [hx]; simp)
      have hl2 : ((34 :: (eQ l1 ++ [34])) ++ [10]).length = (eQ l1).length + 2 + 1 := by simp
      rw [hl2] at ho
      rw [hsz, show (eQ l1).length + (eA l2).length + 4 = (eQ l1).length + 2 + 1 + (eA l2).length + 1 by lia]
      exact ho
  · have hsz : x.cps.size = (eA l1).length + (eQ l2).length + 4 := by
      rw [es, hx]
      simp
      lia
    refine ⟨⟨by lia, by lia⟩, nlc_all ?_, (eA l1).length + 1, (eA l1).length + 1 + (eQ l2).length + 2, .inl ?_, .inl ?_, .inr ⟨rfl, rfl, ?_⟩⟩
    · rw [hx]
      simp [List.count_cons, List.count_append, g1, g4]
    · have := o_plain x 10 ws10 l1 [] ((34 :: (eQ l2 ++ [34])) ++ [32]) h1 (by rw [hx]; simp)
      simpa using this
    · have ho := o_quote x l2 (eA l1 ++ [10]) [32] (by rw [hx]; simp)
      have hl : (eA l1 ++ [10]).length = (eA l1).length + 1 := by simp
      rw [hl] at ho
      exact ho
    · have hp : x.cps.toList = (eA l1 ++ 10 :: (34 :: (eQ l2 ++ [34]))) ++ 32 :: [] := by rw [hx]; simp
      have hl : (eA l1 ++ 10 :: (34 :: (eQ l2 ++ [34]))).length = (eA l1).length + 1 + (eQ l2).length + 2 := by simp; lia
      have e32 := at_pre hp
      rw [hl] at e32
      refine .ws e32 ws32 ?_
      rw [show (eA l1).length + 1 + (eQ l2).length + 2 + 1 = x.cps.size by lia]
      exact .nil
theorem pureX_of (n1 n2 : Str) (c2 c3 : Int) (hA : ∀ c ∈ n1.cps.toList, c ∈ abc) (hB : ∀ c ∈ n2.cps.toList, c ∈ abc) (zA : 1 ≤ n1.length ∧ n1.length ≤ 5) (zB : 1 ≤ n2.length ∧ n2.length ≤ 5) : PureX (txtOf n1 n2 c2 c3) n1 n2 := by
  refine Classical.byContradiction fun gK => ?_
  obtain ⟨p1, q1, r1⟩ := signs_good n1 hA (c2 + c3)
  obtain ⟨p2, q2, r2⟩ := signs_good n2 hB (c2 + c3 + 5)
  refine gK ?_
  clear gK
  have w1 : n1.cps.toList ≠ [] := fun e => by
    have := len_cps n1
    rw [e] at this
    simp at this
    lia
  have w2 : n2.cps.toList ≠ [] := fun e => by
    have := len_cps n2
    rw [e] at this
    simp at this
    lia
  have z1 := signs_len n1 zA.2 (c2 + c3)
  have z2 := signs_len n2 zB.2 (c2 + c3 + 5)
  have hq : c3.fmod 2 = 0 ∨ c3.fmod 2 = 1 := by
    have h1 := Int.fmod_nonneg_of_pos c3 (by decide : (0 : Int) < 2)
    have h2 := Int.fmod_lt_of_pos c3 (by decide : (0 : Int) < 2)
    lia
  have hx : (txtOf n1 n2 c2 c3).cps.toList = (34 :: (eQ (signsT n1 (c2 + c3)).cps.toList ++ [34])) ++ 10 :: (eA (signsT n2 (c2 + c3 + 5)).cps.toList ++ [32]) ∨ (txtOf n1 n2 c2 c3).cps.toList = eA (signsT n1 (c2 + c3)).cps.toList ++ 10 :: ((34 :: (eQ (signsT n2 (c2 + c3 + 5)).cps.toList ++ [34])) ++ [32]) := by
    rw [txt_cps]
    rcases hq with e | e
    · right
      rw [e, written_0, show (1 : Int) - 0 = 1 from rfl, written_1]
    · left
      rw [e, written_1, show (1 : Int) - 1 = 0 from rfl, written_0]
  refine Classical.byContradiction fun gK => ?_
  obtain ⟨s1, s2, qA, qB, o1, o2, o3⟩ := lex_all (txtOf n1 n2 c2 c3) _ _ (r1 w1) (r2 w2) (fun c hc => (q1 c hc).2) (fun c hc => (q2 c hc).2) z1 z2 hx
  refine gK ?_
  clear gK
  exact ⟨s1, s2, _, _, qA, qB, o1, o2, o3, join_prep n1 hA _, join_prep n2 hB _, ⟨by lia, fun c hc => (q1 c hc).1⟩, ⟨by lia, fun c hc => (q2 c hc).1⟩⟩
theorem pure_all (c1 c2 c3 : Int) (p : Nat × Nat) (hp : p ∈ lens) : PureAll p.1 p.2 c1 c2 c3 := by
  refine Classical.byContradiction fun gK => ?_
  obtain ⟨R, hR⟩ := lens_R hp
  obtain ⟨i1, i2, i3, i4, i5⟩ := pr6 _ hR
  obtain ⟨k1, e1, l1, m1⟩ := nm1_codes p.1 c1
  obtain ⟨k2, e2, l2, m2⟩ := nm2_codes p.2 c2
  refine gK ?_
  clear gK
  refine ⟨pureN (low := p.1) (high := p.2) hp c1 c2, pureX_of _ _ _ _ (fun c hc => (L1_abc c (m1 c (e1 ▸ hc))).1) (fun c hc => (L2_abc c (m2 c (e2 ▸ hc))).1) ?_ ?_⟩
  · rw [len_cps, e1, l1]
    exact i4
  · rw [len_cps, e2, l2]
    exact i5
end Mine
end
section
open PySem PySem.W PyProof.Rows PySem.Spec PySem.Calls
namespace Mine
noncomputable def Good (s₁ : Shared) (tabs : List (Addr × Addr)) (r : Result) (s' : Shared) : Prop :=
  r = .ok (.ret (.bool true)) ∧ (∀ b o, (ghostOf s₁.heap tabs).get? b = some o → s'.heap.get? b = some o) ∧ s'.os = s₁.os ∧ AllBare s'.gens
theorem postG {M : Model} {A : Around} {cd : Code} {s s₁ : Shared} {cw : ClaimW} {cl : Str → Option Addr} {mean : ExcName → Option Value} {args : List WData} {tabs : List (Addr × Addr)} (hT : TabsAt tabs s₁.heap) (hr : ∀ a x, cw.raises a x = false) (hp : cw.post args (.bool true) args = true)
    (h : codeAny M A cd (fun r s' => Good s₁ tabs r s' ∧ GrownAll tabs s'.heap) s) : codeAny M A cd (GoodWG cw cl mean args s₁) s :=
  codeAny_mono h fun r s' ⟨⟨hc, hk, hos, hg⟩, hgr⟩ => by
    subst hc
    have key : ∀ b o, s₁.heap.get? b = some o → s'.heap.get? b = some o ∨ (isCodeTable s₁.heap b ∧ o = tabObj #[] ∧ ∃ ps, s'.heap.get? b = some (tabObj ps)) := fun b o e => by
      by_cases hb : b ∈ tabs.map (·.2)
      · obtain ⟨q, hq, rfl⟩ := List.mem_map.mp hb
        have e2 := (hT q hq).2
        rw [e] at e2
        exact .inr ⟨((hT q hq).1.tab (hT q hq).2).isCodeTable, Option.some.inj e2, hgr.get q hq⟩
      · exact .inl (hk b o (ghost_ne e hb))
    refine ⟨.inl ⟨.bool true, .bool true, [], rfl, hr args, .bool true, hp, fun _ => ⟨List.nodup_nil, fun a ha => nomatch ha⟩⟩, ⟨fun b o e => ?_, fun b o e => ?_⟩, hos, hg⟩
    · rcases key b o e with h | ⟨h1, rfl, ps, hP⟩
      · exact .inl h
      · exact .inr (.inl ⟨h1, rfl, #[], ps, rfl, by rw [Array.empty_append]; exact hP⟩)
    · rcases key b o e with h | ⟨_, _, ps, hP⟩
      · exact ⟨_, h⟩
      · exact ⟨_, hP⟩
theorem wellS : OpenLaw.wellSaid PySem.Challenge.rw_tp0040_01 = true := by decide +kernel
end Mine
set_option maxHeartbeats 0 in
theorem PySem.Challenge.cw_tp0040_01_holds : PySem.Challenge.rw_tp0040_01.Holds := by
  w_on
  refine holds_law Mine.wellS fun said => ?_
  refine holds_open (q := Mine.view) (loose := Mine.loose) (Xt := Mine.Xt) (XP := XL Mine.view []) (Yf := Hook.obs Mine.HK) (Ya := Hook.val Mine.HK) (YP := Hook.says Mine.HK) (N := 400000) Mine.left (Hook.of Mine.HK) (Hook.keeps Mine.HK) (fun s e => xl_of s (Bool.and_eq_true_iff.mp e).1) XL.keeps (by rfl) (by rfl) (by rfl) (fun s e => recFacts_of (Bool.and_eq_true_iff.mp e).2) (by rfl) (by first | assumption | decide +kernel) (by decide +kernel) ⟨rfl, rfl, rfl, rfl, rfl, by decide +kernel⟩ ?hw ?hc
  case hw => w_witness2
  case hc =>
    unfold Mine.HK
    k_fill
    intro w s₀ s₁ mg mb G Y fa o pm cd doc dV kV ho hd hcd hD hmg hg args vals as hpre hlay hrd hwl hlo
    have KX := km_in_of Y
    km_tabs Y
    have X := (Ground.X G).1
    have V := (Ground.X G).2
    refine Ground.open G ?_
    intro T B D TE TW
    try (refine guard_noD D (by decide +kernel) ?_; clear D)
    km_lay T hmg ho hd cd
    clear hmg
    wrow_args hpre hlay hrd hwl hlo
    all_goals (
      first | refine callC_kw (enter_call ?_) | refine enter_call ?_
      w_top on
      refine Mine.postG hT9 (fun _ _ => rfl) ?hpost ?_
      case hpost => exact postW_of (by wrow_shape) (by wtm_val) (by str_meet; first | done | w_fin)
      w_call any ho hd hcd hD T F
      clear hd
      kn_ghosts F T
      k_drop
      skip)
    rename_i ns hs0 hl0 hL0 hr0 hl2 ad1 ad2 SA sv ad3 hS0 hRA hWell hReads hInts hrAll hnl htriv h₁ tk₁ oT oV oS oI oW oN oD dT dV dS dI dW dN dD X0 X' T' K' F' N' l0
    have l0a : @LT.lt Nat _ 157 s₁.heap.objs.size := Mine.ltM l0 Mine.mm0
    have hlen : sv.length ≤ 100 := by
      have := hInts.length
      omega
    refine @Mine.law_G1a w (ExcName.means s₀.heap) mg mb _ _ _ [] callerA _ _ s₁.heap.objs.size fa _ s₁ K' X' T' ?e1 ?e2 SA sv ns oD _ oN oW oI oS oV oT _ _ _ _ _ _ _ [(s₁.heap.objs.size + 4, oI), (s₁.heap.objs.size + 5, oS), (s₁.heap.objs.size + 6, oV), (s₁.heap.objs.size + 7, oT)] h₁ tk₁ s₁.gens _ _ F' ?e3 ?e4 ?e5 ?e6 ?e7 l0a dN dI dS dV dT ?e8 ?e9 ?e10 ?e11 dD ?e12 lifted hInts hlen dW (fun c1 c2 c3 _ _ _ p hp => Mine.pure_all c1 c2 c3 p hp) ?ret
    case e1 => decide +kernel
    case e2 => decide +kernel
    case e3 => exact fun q hq => N' q (by
      simp only [List.mem_cons, List.not_mem_nil, or_false] at hq ⊢
      rcases hq with e | e | e | e | e | e | e | e <;> simp [e])
    case e4 => simp
    case e5 => simp; try omega
    case e6 => simp; try omega
    case e7 => simp; try omega
    case e8 => simp
    case e9 => simp
    case e10 => simp
    case e11 => simp
    case e12 => exact rfl
    case ret =>
      intro h' tk' m' gs' hG hF hGr
      refine ⟨⟨rfl, fun b o e => hF.keep b o e, rfl, hG ?_⟩, hGr, True.intro⟩
      exact fun y hy => by rw [hg] at hy; simp at hy
end
end
