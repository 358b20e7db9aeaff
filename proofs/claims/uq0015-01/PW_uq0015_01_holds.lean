import PyProof.Rows.All
import Wide.All
import OpenK.AllK
import Wide.FinOn
import PySem.Challenge.RW_uq0015_01
set_option maxRecDepth 100000
set_option Elab.async false

open PySem PySem.W PyProof.Rows
set_option Elab.async false
namespace Mine
abbrev PW : Program := PySem.Challenge.pw_uq0015_01
/-- the program without its module names -/
noncomputable def view : Program := { PW with main := { PW.main with body := (((PW.main.body.eraseIdx 66).eraseIdx 59).eraseIdx 4).eraseIdx 0 } }
noncomputable def tdRow (x : Str) (i : Int) : Str × KTD.Dat := (x, KTD.Dat.flat (.int i))
noncomputable def TD : List (Str × KTD.Dat) := [tdRow "!" 54, tdRow "!=" 28, tdRow "%" 24, tdRow "%=" 40, tdRow "&" 19, tdRow "&=" 41, tdRow "(" 7, tdRow ")" 8, tdRow "*" 16, tdRow "**" 35, tdRow "**=" 46, tdRow "*=" 38, tdRow "+" 14, tdRow "+=" 36, tdRow "," 12, tdRow "-" 15, tdRow "-=" 37, tdRow "->" 51, tdRow "." 23, tdRow "..." 52, tdRow "/" 17, tdRow "//" 47, tdRow "//=" 48, tdRow "/=" 39, tdRow ":" 11, tdRow ":=" 53, tdRow ";" 13, tdRow "<" 20, tdRow "<<" 33, tdRow "<<=" 44, tdRow "<=" 29, tdRow "=" 22, tdRow "==" 27, tdRow ">" 21, tdRow ">=" 30, tdRow ">>" 34, tdRow ">>=" 45, tdRow "@" 49, tdRow "@=" 50, tdRow "[" 9, tdRow "]" 10, tdRow "^" 32, tdRow "^=" 43, tdRow "{" 25, tdRow "|" 18, tdRow "|=" 42, tdRow "}" 26, tdRow "~" 31]
noncomputable def tabSeen (s : Shared) : Bool := match s.heap.nsMap mainGlobals "EXACT_TOKEN_TYPES" with
  | some (.ref a) => KTD.tabLook (KTD.datLooks s.heap.get?) s.heap.get? a TD
  | _ => false
noncomputable def TabP (mg : Str → Option Value) (h : Heap) : Prop := ∃ a, mg "EXACT_TOKEN_TYPES" = some (.ref a) ∧ KTD.TextTab h a TD
theorem tab_of_seen {s : Shared} (e : tabSeen s = true) : TabP (s.heap.nsMap mainGlobals) s.heap := by
  unfold tabSeen at e
  split at e
  · rename_i a q; exact ⟨a, q, KTD.text_of_look (fun _ _ x => x) e⟩
  · cases e
noncomputable def seenAll (s : Shared) : Bool := (xlAt view [] s && recOk (RowW.records (OpenRow.toRowW PySem.Challenge.rw_uq0015_01.row)) s) && tabSeen s
noncomputable def XPP (mg : Str → Option Value) (h : Heap) : Prop := XL view [] mg h ∧ TabP mg h
theorem seen_xl {s : Shared} (e : seenAll s = true) : xlAt view [] s = true := (Bool.and_eq_true_iff.mp (Bool.and_eq_true_iff.mp e).1).1
theorem seen_rec {s : Shared} (e : seenAll s = true) : recOk (RowW.records (OpenRow.toRowW PySem.Challenge.rw_uq0015_01.row)) s = true := (Bool.and_eq_true_iff.mp (Bool.and_eq_true_iff.mp e).1).2
noncomputable def recOf : Option Stmt → DefRec
  | some (.FunctionDef name args body _ _ _ sc _ _ pos) => ⟨name, args, body, sc, pos⟩
  | _ => ⟨"", ⟨[], [], none, [], [], none, []⟩, [], ⟨.function, [], false, false, []⟩, ⟨0, 0, 0, 0⟩⟩
noncomputable def hbFn (k : Nat) : DefRec := recOf PW.main.body[k]?
/-! the states of the run (printed by heads.lean), the run in pieces (printed by hb.py) -/
noncomputable def hbO0 (_P : Params) : Obj := ⟨(.type "tuple"), none, (.seq #[] 0), #[]⟩
noncomputable def hbO1 (_P : Params) : Obj := ⟨.none, none, (.fields #[]), #[]⟩
noncomputable def hbO2 (_P : Params) : Obj := ⟨(.type "code"), none, (.fields #[(.str "<module>" 182), (.str "<module>" 183), (.str "/claim/cut.py" 184), (.int (1) 0), (.int (0) 0), (.int (0) 0), (.int (0) 0), (.int (0) 0), (.ref 11), (.bool false), (.int (181) 0), (.ref 12), .none, .none, .none, .none, (.int (185) 0), (.int (1) 0), (.str "/claim/cut.py" 186)]), #[]⟩
noncomputable def hbO3 (_P : Params) : Obj := ⟨(.type "frame"), none, .plain, #[(some (.ref 13)), (some (.ref 3)), (some (.ref 3)), none, (some (.str "__main__" 164)), none, (some (.ref 0))]⟩
noncomputable def hbT0 (P : Params) : BT := (.node (boot_o_0 P) (.node (boot_o_1 P) (.node (boot_o_3 P) (.node (boot_o_7 P) .nil .nil) (.node (hbO0 P) .nil .nil)) (.node (boot_o_5 P) (.node (boot_o_9 P) .nil .nil) (.node (hbO2 P) .nil .nil))) (.node (boot_o_2 P) (.node (boot_o_4 P) (.node (boot_o_8 P) .nil .nil) (.node (hbO1 P) .nil .nil)) (.node (boot_o_6 P) (.node (boot_o_10 P) .nil .nil) (.node (hbO3 P) .nil .nil))))
noncomputable def hbE0 (P : Params) : DictEntry := ⟨PyData.keyHash P "__name__", (.str "__name__" 165), (.str "cpy313.token" 221)⟩
noncomputable def hbE1 (P : Params) : DictEntry := ⟨PyData.keyHash P "__doc__", (.str "__doc__" 166), .none⟩
noncomputable def hbE2 (P : Params) : DictEntry := ⟨PyData.keyHash P "__package__", (.str "__package__" 167), .none⟩
noncomputable def hbE3 (P : Params) : DictEntry := ⟨PyData.keyHash P "__loader__", (.str "__loader__" 168), (.builtin "__main__.__loader__#opaque")⟩
noncomputable def hbE4 (P : Params) : DictEntry := ⟨PyData.keyHash P "__spec__", (.str "__spec__" 169), .none⟩
noncomputable def hbE5 (P : Params) : DictEntry := ⟨PyData.keyHash P "__annotations__", (.str "__annotations__" 170), (.ref 6)⟩
noncomputable def hbE6 (P : Params) : DictEntry := ⟨PyData.keyHash P "__builtins__", (.str "__builtins__" 171), (.ref 4)⟩
noncomputable def hbE7 (P : Params) : DictEntry := ⟨PyData.keyHash P "__file__", (.str "__file__" 173), (.str "/claim/cut.py" 172)⟩
noncomputable def hbE8 (P : Params) : DictEntry := ⟨PyData.keyHash P "__cached__", (.str "__cached__" 174), .none⟩
noncomputable def hbE9 (P : Params) : DictEntry := ⟨PyData.keyHash P "_iter_escaped_chars", (.str "_iter_escaped_chars" 198), (.ref 21)⟩
noncomputable def hbE10 (P : Params) : DictEntry := ⟨PyData.keyHash P "_strip_quoted_realnames", (.str "_strip_quoted_realnames" 210), (.ref 28)⟩
noncomputable def hbE11 (P : Params) : DictEntry := ⟨PyData.keyHash P "_check_parenthesis", (.str "_check_parenthesis" 220), (.ref 35)⟩
noncomputable def hbE12 (P : Params) : DictEntry := ⟨PyData.keyHash P "ENDMARKER", (.str "ENDMARKER" 224), (.int (0) 223)⟩
noncomputable def hbE13 (P : Params) : DictEntry := ⟨PyData.keyHash P "LPAR", (.str "LPAR" 226), (.int (7) 225)⟩
noncomputable def hbE14 (P : Params) : DictEntry := ⟨PyData.keyHash P "RPAR", (.str "RPAR" 228), (.int (8) 227)⟩
noncomputable def hbE15 (P : Params) : DictEntry := ⟨PyData.keyHash P "LSQB", (.str "LSQB" 230), (.int (9) 229)⟩
noncomputable def hbE16 (P : Params) : DictEntry := ⟨PyData.keyHash P "RSQB", (.str "RSQB" 232), (.int (10) 231)⟩
noncomputable def hbE17 (P : Params) : DictEntry := ⟨PyData.keyHash P "COLON", (.str "COLON" 234), (.int (11) 233)⟩
noncomputable def hbE18 (P : Params) : DictEntry := ⟨PyData.keyHash P "COMMA", (.str "COMMA" 236), (.int (12) 235)⟩
noncomputable def hbE19 (P : Params) : DictEntry := ⟨PyData.keyHash P "SEMI", (.str "SEMI" 238), (.int (13) 237)⟩
noncomputable def hbE20 (P : Params) : DictEntry := ⟨PyData.keyHash P "PLUS", (.str "PLUS" 240), (.int (14) 239)⟩
noncomputable def hbE21 (P : Params) : DictEntry := ⟨PyData.keyHash P "MINUS", (.str "MINUS" 242), (.int (15) 241)⟩
noncomputable def hbE22 (P : Params) : DictEntry := ⟨PyData.keyHash P "STAR", (.str "STAR" 244), (.int (16) 243)⟩
noncomputable def hbE23 (P : Params) : DictEntry := ⟨PyData.keyHash P "SLASH", (.str "SLASH" 246), (.int (17) 245)⟩
noncomputable def hbE24 (P : Params) : DictEntry := ⟨PyData.keyHash P "VBAR", (.str "VBAR" 248), (.int (18) 247)⟩
noncomputable def hbE25 (P : Params) : DictEntry := ⟨PyData.keyHash P "AMPER", (.str "AMPER" 250), (.int (19) 249)⟩
noncomputable def hbE26 (P : Params) : DictEntry := ⟨PyData.keyHash P "LESS", (.str "LESS" 252), (.int (20) 251)⟩
noncomputable def hbE27 (P : Params) : DictEntry := ⟨PyData.keyHash P "GREATER", (.str "GREATER" 254), (.int (21) 253)⟩
noncomputable def hbE28 (P : Params) : DictEntry := ⟨PyData.keyHash P "EQUAL", (.str "EQUAL" 256), (.int (22) 255)⟩
noncomputable def hbE29 (P : Params) : DictEntry := ⟨PyData.keyHash P "DOT", (.str "DOT" 258), (.int (23) 257)⟩
noncomputable def hbE30 (P : Params) : DictEntry := ⟨PyData.keyHash P "PERCENT", (.str "PERCENT" 260), (.int (24) 259)⟩
noncomputable def hbE31 (P : Params) : DictEntry := ⟨PyData.keyHash P "LBRACE", (.str "LBRACE" 262), (.int (25) 261)⟩
noncomputable def hbO4 (P : Params) : Obj := ⟨(.type "dict"), none, (.dict #[hbE0 P, hbE1 P, hbE2 P, hbE3 P, hbE4 P, hbE5 P, hbE6 P, hbE7 P, hbE8 P, hbE9 P, hbE10 P, hbE11 P, hbE12 P, hbE13 P, hbE14 P, hbE15 P, hbE16 P, hbE17 P, hbE18 P, hbE19 P, hbE20 P, hbE21 P, hbE22 P, hbE23 P, hbE24 P, hbE25 P, hbE26 P, hbE27 P, hbE28 P, hbE29 P, hbE30 P, hbE31 P] 32), #[]⟩
noncomputable def hbO5 (_P : Params) : Obj := ⟨.none, none, (.fields #[(.int (2) 0), (.int (0) 0), (.ref 20), (.int (15) 0), (.int (0) 0), (.ref 27), (.int (33) 0), (.int (0) 0), (.ref 34)]), #[]⟩
noncomputable def hbO6 (_P : Params) : Obj := ⟨(.type "tuple"), none, (.seq #[] 0), #[]⟩
noncomputable def hbO7 (_P : Params) : Obj := ⟨.none, none, (.fields #[]), #[]⟩
noncomputable def hbO8 (_P : Params) : Obj := ⟨(.type "tuple"), none, (.seq #[(.str "addr" 192), (.str "pos" 193), (.str "escape" 194), (.str "ch" 195)] 0), #[]⟩
noncomputable def hbO9 (_P : Params) : Obj := ⟨(.type "tuple"), none, (.seq #[] 0), #[]⟩
noncomputable def hbO10 (_P : Params) : Obj := ⟨.none, none, (.func ⟨"_iter_escaped_chars", "_iter_escaped_chars", (hbFn 1).params, .stmts (hbFn 1).body, (hbFn 1).scope, 0, [], .none, .none, .none, .none, none, .none, .none, 0⟩), #[]⟩
noncomputable def hbO11 (_P : Params) : Obj := ⟨(.type "code"), none, (.fields #[(.str "_iter_escaped_chars" 189), (.str "_iter_escaped_chars" 190), (.str "/claim/cut.py" 191), (.int (2) 0), (.int (1) 0), (.int (0) 0), (.int (0) 0), (.int (35) 0), (.ref 15), (.bool true), (.int (181) 0), (.ref 16), .none, (.ref 17), (.ref 18), (.ref 19), (.int (196) 0), (.int (2) 0), (.str "/claim/cut.py" 197)]), #[]⟩
noncomputable def hbO12 (_P : Params) : Obj := ⟨(.type "function"), none, (.func ⟨"_iter_escaped_chars", "_iter_escaped_chars", (hbFn 1).params, .stmts (hbFn 1).body, (hbFn 1).scope, 3, [], .none, .none, .none, (.str "cpy313.email.utils" 187), none, (.ref 20), .none, 0⟩), #[]⟩
noncomputable def hbO13 (_P : Params) : Obj := ⟨(.type "tuple"), none, (.seq #[] 0), #[]⟩
noncomputable def hbO14 (_P : Params) : Obj := ⟨.none, none, (.fields #[]), #[]⟩
noncomputable def hbO15 (_P : Params) : Obj := ⟨(.type "tuple"), none, (.seq #[(.str "addr" 202), (.str "start" 203), (.str "open_pos" 204), (.str "result" 205), (.str "pos" 206), (.str "ch" 207)] 0), #[]⟩
noncomputable def hbO16 (_P : Params) : Obj := ⟨(.type "tuple"), none, (.seq #[] 0), #[]⟩
noncomputable def hbO17 (_P : Params) : Obj := ⟨.none, none, (.func ⟨"_strip_quoted_realnames", "_strip_quoted_realnames", (hbFn 2).params, .stmts (hbFn 2).body, (hbFn 2).scope, 0, [], .none, .none, .none, .none, none, .none, .none, 0⟩), #[]⟩
noncomputable def hbO18 (_P : Params) : Obj := ⟨(.type "code"), none, (.fields #[(.str "_strip_quoted_realnames" 199), (.str "_strip_quoted_realnames" 200), (.str "/claim/cut.py" 201), (.int (15) 0), (.int (1) 0), (.int (0) 0), (.int (0) 0), (.int (3) 0), (.ref 22), (.bool true), (.int (181) 0), (.ref 23), .none, (.ref 24), (.ref 25), (.ref 26), (.int (208) 0), (.int (15) 0), (.str "/claim/cut.py" 209)]), #[]⟩
noncomputable def hbO19 (_P : Params) : Obj := ⟨(.type "function"), none, (.func ⟨"_strip_quoted_realnames", "_strip_quoted_realnames", (hbFn 2).params, .stmts (hbFn 2).body, (hbFn 2).scope, 3, [], .none, .none, .none, (.str "cpy313.email.utils" 187), none, (.ref 27), .none, 0⟩), #[]⟩
noncomputable def hbO20 (_P : Params) : Obj := ⟨(.type "tuple"), none, (.seq #[] 0), #[]⟩
noncomputable def hbO21 (_P : Params) : Obj := ⟨.none, none, (.fields #[]), #[]⟩
noncomputable def hbO22 (_P : Params) : Obj := ⟨(.type "tuple"), none, (.seq #[(.str "addr" 214), (.str "opens" 215), (.str "pos" 216), (.str "ch" 217)] 0), #[]⟩
noncomputable def hbO23 (_P : Params) : Obj := ⟨(.type "tuple"), none, (.seq #[] 0), #[]⟩
noncomputable def hbO24 (_P : Params) : Obj := ⟨.none, none, (.func ⟨"_check_parenthesis", "_check_parenthesis", (hbFn 3).params, .stmts (hbFn 3).body, (hbFn 3).scope, 0, [], .none, .none, .none, .none, none, .none, .none, 0⟩), #[]⟩
noncomputable def hbO25 (_P : Params) : Obj := ⟨(.type "code"), none, (.fields #[(.str "_check_parenthesis" 211), (.str "_check_parenthesis" 212), (.str "/claim/cut.py" 213), (.int (33) 0), (.int (1) 0), (.int (0) 0), (.int (0) 0), (.int (3) 0), (.ref 29), (.bool true), (.int (181) 0), (.ref 30), .none, (.ref 31), (.ref 32), (.ref 33), (.int (218) 0), (.int (33) 0), (.str "/claim/cut.py" 219)]), #[]⟩
noncomputable def hbO26 (_P : Params) : Obj := ⟨(.type "function"), none, (.func ⟨"_check_parenthesis", "_check_parenthesis", (hbFn 3).params, .stmts (hbFn 3).body, (hbFn 3).scope, 3, [], .none, .none, .none, (.str "cpy313.email.utils" 187), none, (.ref 34), .none, 0⟩), #[]⟩
noncomputable def hbT1 (P : Params) : BT := (.node (boot_o_0 P) (.node (boot_o_1 P) (.node (hbO4 P) (.node (boot_o_7 P) (.node (hbO6 P) (.node (hbO22 P) .nil .nil) .nil) (.node (hbO14 P) .nil .nil)) (.node (hbO0 P) (.node (hbO10 P) (.node (hbO26 P) .nil .nil) .nil) (.node (hbO18 P) .nil .nil))) (.node (boot_o_5 P) (.node (boot_o_9 P) (.node (hbO8 P) (.node (hbO24 P) .nil .nil) .nil) (.node (hbO16 P) .nil .nil)) (.node (hbO2 P) (.node (hbO12 P) .nil .nil) (.node (hbO20 P) .nil .nil)))) (.node (boot_o_2 P) (.node (boot_o_4 P) (.node (boot_o_8 P) (.node (hbO7 P) (.node (hbO23 P) .nil .nil) .nil) (.node (hbO15 P) .nil .nil)) (.node (hbO5 P) (.node (hbO11 P) .nil .nil) (.node (hbO19 P) .nil .nil))) (.node (boot_o_6 P) (.node (boot_o_10 P) (.node (hbO9 P) (.node (hbO25 P) .nil .nil) .nil) (.node (hbO17 P) .nil .nil)) (.node (hbO3 P) (.node (hbO13 P) .nil .nil) (.node (hbO21 P) .nil .nil)))))
noncomputable def hbE32 (P : Params) : DictEntry := ⟨PyData.keyHash P "RBRACE", (.str "RBRACE" 264), (.int (26) 263)⟩
noncomputable def hbE33 (P : Params) : DictEntry := ⟨PyData.keyHash P "EQEQUAL", (.str "EQEQUAL" 266), (.int (27) 265)⟩
noncomputable def hbE34 (P : Params) : DictEntry := ⟨PyData.keyHash P "NOTEQUAL", (.str "NOTEQUAL" 268), (.int (28) 267)⟩
noncomputable def hbE35 (P : Params) : DictEntry := ⟨PyData.keyHash P "LESSEQUAL", (.str "LESSEQUAL" 270), (.int (29) 269)⟩
noncomputable def hbE36 (P : Params) : DictEntry := ⟨PyData.keyHash P "GREATEREQUAL", (.str "GREATEREQUAL" 272), (.int (30) 271)⟩
noncomputable def hbE37 (P : Params) : DictEntry := ⟨PyData.keyHash P "TILDE", (.str "TILDE" 274), (.int (31) 273)⟩
noncomputable def hbE38 (P : Params) : DictEntry := ⟨PyData.keyHash P "CIRCUMFLEX", (.str "CIRCUMFLEX" 276), (.int (32) 275)⟩
noncomputable def hbE39 (P : Params) : DictEntry := ⟨PyData.keyHash P "LEFTSHIFT", (.str "LEFTSHIFT" 278), (.int (33) 277)⟩
noncomputable def hbE40 (P : Params) : DictEntry := ⟨PyData.keyHash P "RIGHTSHIFT", (.str "RIGHTSHIFT" 280), (.int (34) 279)⟩
noncomputable def hbE41 (P : Params) : DictEntry := ⟨PyData.keyHash P "DOUBLESTAR", (.str "DOUBLESTAR" 282), (.int (35) 281)⟩
noncomputable def hbE42 (P : Params) : DictEntry := ⟨PyData.keyHash P "PLUSEQUAL", (.str "PLUSEQUAL" 284), (.int (36) 283)⟩
noncomputable def hbE43 (P : Params) : DictEntry := ⟨PyData.keyHash P "MINEQUAL", (.str "MINEQUAL" 286), (.int (37) 285)⟩
noncomputable def hbE44 (P : Params) : DictEntry := ⟨PyData.keyHash P "STAREQUAL", (.str "STAREQUAL" 288), (.int (38) 287)⟩
noncomputable def hbE45 (P : Params) : DictEntry := ⟨PyData.keyHash P "SLASHEQUAL", (.str "SLASHEQUAL" 290), (.int (39) 289)⟩
noncomputable def hbE46 (P : Params) : DictEntry := ⟨PyData.keyHash P "PERCENTEQUAL", (.str "PERCENTEQUAL" 292), (.int (40) 291)⟩
noncomputable def hbE47 (P : Params) : DictEntry := ⟨PyData.keyHash P "AMPEREQUAL", (.str "AMPEREQUAL" 294), (.int (41) 293)⟩
noncomputable def hbE48 (P : Params) : DictEntry := ⟨PyData.keyHash P "VBAREQUAL", (.str "VBAREQUAL" 296), (.int (42) 295)⟩
noncomputable def hbE49 (P : Params) : DictEntry := ⟨PyData.keyHash P "CIRCUMFLEXEQUAL", (.str "CIRCUMFLEXEQUAL" 298), (.int (43) 297)⟩
noncomputable def hbE50 (P : Params) : DictEntry := ⟨PyData.keyHash P "LEFTSHIFTEQUAL", (.str "LEFTSHIFTEQUAL" 300), (.int (44) 299)⟩
noncomputable def hbE51 (P : Params) : DictEntry := ⟨PyData.keyHash P "RIGHTSHIFTEQUAL", (.str "RIGHTSHIFTEQUAL" 302), (.int (45) 301)⟩
noncomputable def hbE52 (P : Params) : DictEntry := ⟨PyData.keyHash P "DOUBLESTAREQUAL", (.str "DOUBLESTAREQUAL" 304), (.int (46) 303)⟩
noncomputable def hbE53 (P : Params) : DictEntry := ⟨PyData.keyHash P "DOUBLESLASH", (.str "DOUBLESLASH" 306), (.int (47) 305)⟩
noncomputable def hbE54 (P : Params) : DictEntry := ⟨PyData.keyHash P "DOUBLESLASHEQUAL", (.str "DOUBLESLASHEQUAL" 308), (.int (48) 307)⟩
noncomputable def hbE55 (P : Params) : DictEntry := ⟨PyData.keyHash P "AT", (.str "AT" 310), (.int (49) 309)⟩
noncomputable def hbE56 (P : Params) : DictEntry := ⟨PyData.keyHash P "ATEQUAL", (.str "ATEQUAL" 312), (.int (50) 311)⟩
noncomputable def hbE57 (P : Params) : DictEntry := ⟨PyData.keyHash P "RARROW", (.str "RARROW" 314), (.int (51) 313)⟩
noncomputable def hbE58 (P : Params) : DictEntry := ⟨PyData.keyHash P "ELLIPSIS", (.str "ELLIPSIS" 316), (.int (52) 315)⟩
noncomputable def hbE59 (P : Params) : DictEntry := ⟨PyData.keyHash P "COLONEQUAL", (.str "COLONEQUAL" 318), (.int (53) 317)⟩
noncomputable def hbE60 (P : Params) : DictEntry := ⟨PyData.keyHash P "EXCLAMATION", (.str "EXCLAMATION" 320), (.int (54) 319)⟩
noncomputable def hbE61 (P : Params) : DictEntry := ⟨PyData.keyHash P "NT_OFFSET", (.str "NT_OFFSET" 322), (.int (256) 321)⟩
noncomputable def hbO27 (P : Params) : Obj := ⟨(.type "dict"), none, (.dict #[hbE0 P, hbE1 P, hbE2 P, hbE3 P, hbE4 P, hbE5 P, hbE6 P, hbE7 P, hbE8 P, hbE9 P, hbE10 P, hbE11 P, hbE12 P, hbE13 P, hbE14 P, hbE15 P, hbE16 P, hbE17 P, hbE18 P, hbE19 P, hbE20 P, hbE21 P, hbE22 P, hbE23 P, hbE24 P, hbE25 P, hbE26 P, hbE27 P, hbE28 P, hbE29 P, hbE30 P, hbE31 P, hbE32 P, hbE33 P, hbE34 P, hbE35 P, hbE36 P, hbE37 P, hbE38 P, hbE39 P, hbE40 P, hbE41 P, hbE42 P, hbE43 P, hbE44 P, hbE45 P, hbE46 P, hbE47 P, hbE48 P, hbE49 P, hbE50 P, hbE51 P, hbE52 P, hbE53 P, hbE54 P, hbE55 P, hbE56 P, hbE57 P, hbE58 P, hbE59 P, hbE60 P, hbE61 P] 62), #[]⟩
noncomputable def hbT2 (P : Params) : BT := (.node (boot_o_0 P) (.node (boot_o_1 P) (.node (hbO27 P) (.node (boot_o_7 P) (.node (hbO6 P) (.node (hbO22 P) .nil .nil) .nil) (.node (hbO14 P) .nil .nil)) (.node (hbO0 P) (.node (hbO10 P) (.node (hbO26 P) .nil .nil) .nil) (.node (hbO18 P) .nil .nil))) (.node (boot_o_5 P) (.node (boot_o_9 P) (.node (hbO8 P) (.node (hbO24 P) .nil .nil) .nil) (.node (hbO16 P) .nil .nil)) (.node (hbO2 P) (.node (hbO12 P) .nil .nil) (.node (hbO20 P) .nil .nil)))) (.node (boot_o_2 P) (.node (boot_o_4 P) (.node (boot_o_8 P) (.node (hbO7 P) (.node (hbO23 P) .nil .nil) .nil) (.node (hbO15 P) .nil .nil)) (.node (hbO5 P) (.node (hbO11 P) .nil .nil) (.node (hbO19 P) .nil .nil))) (.node (boot_o_6 P) (.node (boot_o_10 P) (.node (hbO9 P) (.node (hbO25 P) .nil .nil) .nil) (.node (hbO17 P) .nil .nil)) (.node (hbO3 P) (.node (hbO13 P) .nil .nil) (.node (hbO21 P) .nil .nil)))))
noncomputable def hbE62 (P : Params) : DictEntry := ⟨PyData.keyHash P "EXACT_TOKEN_TYPES", (.str "EXACT_TOKEN_TYPES" 419), (.ref 36)⟩
noncomputable def hbO28 (P : Params) : Obj := ⟨(.type "dict"), none, (.dict #[hbE0 P, hbE1 P, hbE2 P, hbE3 P, hbE4 P, hbE5 P, hbE6 P, hbE7 P, hbE8 P, hbE9 P, hbE10 P, hbE11 P, hbE12 P, hbE13 P, hbE14 P, hbE15 P, hbE16 P, hbE17 P, hbE18 P, hbE19 P, hbE20 P, hbE21 P, hbE22 P, hbE23 P, hbE24 P, hbE25 P, hbE26 P, hbE27 P, hbE28 P, hbE29 P, hbE30 P, hbE31 P, hbE32 P, hbE33 P, hbE34 P, hbE35 P, hbE36 P, hbE37 P, hbE38 P, hbE39 P, hbE40 P, hbE41 P, hbE42 P, hbE43 P, hbE44 P, hbE45 P, hbE46 P, hbE47 P, hbE48 P, hbE49 P, hbE50 P, hbE51 P, hbE52 P, hbE53 P, hbE54 P, hbE55 P, hbE56 P, hbE57 P, hbE58 P, hbE59 P, hbE60 P, hbE61 P, hbE62 P] 63), #[]⟩
noncomputable def hbE63 (P : Params) : DictEntry := ⟨PyData.keyHash P "!", (.str "!" 323), (.int (54) 319)⟩
noncomputable def hbE64 (P : Params) : DictEntry := ⟨PyData.keyHash P "!=", (.str "!=" 325), (.int (28) 267)⟩
noncomputable def hbE65 (P : Params) : DictEntry := ⟨PyData.keyHash P "%", (.str "%" 327), (.int (24) 259)⟩
noncomputable def hbE66 (P : Params) : DictEntry := ⟨PyData.keyHash P "%=", (.str "%=" 329), (.int (40) 291)⟩
noncomputable def hbE67 (P : Params) : DictEntry := ⟨PyData.keyHash P "&", (.str "&" 331), (.int (19) 249)⟩
noncomputable def hbE68 (P : Params) : DictEntry := ⟨PyData.keyHash P "&=", (.str "&=" 333), (.int (41) 293)⟩
noncomputable def hbE69 (P : Params) : DictEntry := ⟨PyData.keyHash P "(", (.str "(" 335), (.int (7) 225)⟩
noncomputable def hbE70 (P : Params) : DictEntry := ⟨PyData.keyHash P ")", (.str ")" 337), (.int (8) 227)⟩
noncomputable def hbE71 (P : Params) : DictEntry := ⟨PyData.keyHash P "*", (.str "*" 339), (.int (16) 243)⟩
noncomputable def hbE72 (P : Params) : DictEntry := ⟨PyData.keyHash P "**", (.str "**" 341), (.int (35) 281)⟩
noncomputable def hbE73 (P : Params) : DictEntry := ⟨PyData.keyHash P "**=", (.str "**=" 343), (.int (46) 303)⟩
noncomputable def hbE74 (P : Params) : DictEntry := ⟨PyData.keyHash P "*=", (.str "*=" 345), (.int (38) 287)⟩
noncomputable def hbE75 (P : Params) : DictEntry := ⟨PyData.keyHash P "+", (.str "+" 347), (.int (14) 239)⟩
noncomputable def hbE76 (P : Params) : DictEntry := ⟨PyData.keyHash P "+=", (.str "+=" 349), (.int (36) 283)⟩
noncomputable def hbE77 (P : Params) : DictEntry := ⟨PyData.keyHash P ",", (.str "," 351), (.int (12) 235)⟩
noncomputable def hbE78 (P : Params) : DictEntry := ⟨PyData.keyHash P "-", (.str "-" 353), (.int (15) 241)⟩
noncomputable def hbE79 (P : Params) : DictEntry := ⟨PyData.keyHash P "-=", (.str "-=" 355), (.int (37) 285)⟩
noncomputable def hbE80 (P : Params) : DictEntry := ⟨PyData.keyHash P "->", (.str "->" 357), (.int (51) 313)⟩
noncomputable def hbE81 (P : Params) : DictEntry := ⟨PyData.keyHash P ".", (.str "." 359), (.int (23) 257)⟩
noncomputable def hbE82 (P : Params) : DictEntry := ⟨PyData.keyHash P "...", (.str "..." 361), (.int (52) 315)⟩
noncomputable def hbE83 (P : Params) : DictEntry := ⟨PyData.keyHash P "/", (.str "/" 363), (.int (17) 245)⟩
noncomputable def hbE84 (P : Params) : DictEntry := ⟨PyData.keyHash P "//", (.str "//" 365), (.int (47) 305)⟩
noncomputable def hbE85 (P : Params) : DictEntry := ⟨PyData.keyHash P "//=", (.str "//=" 367), (.int (48) 307)⟩
noncomputable def hbE86 (P : Params) : DictEntry := ⟨PyData.keyHash P "/=", (.str "/=" 369), (.int (39) 289)⟩
noncomputable def hbE87 (P : Params) : DictEntry := ⟨PyData.keyHash P ":", (.str ":" 371), (.int (11) 233)⟩
noncomputable def hbE88 (P : Params) : DictEntry := ⟨PyData.keyHash P ":=", (.str ":=" 373), (.int (53) 317)⟩
noncomputable def hbE89 (P : Params) : DictEntry := ⟨PyData.keyHash P ";", (.str ";" 375), (.int (13) 237)⟩
noncomputable def hbE90 (P : Params) : DictEntry := ⟨PyData.keyHash P "<", (.str "<" 377), (.int (20) 251)⟩
noncomputable def hbE91 (P : Params) : DictEntry := ⟨PyData.keyHash P "<<", (.str "<<" 379), (.int (33) 277)⟩
noncomputable def hbE92 (P : Params) : DictEntry := ⟨PyData.keyHash P "<<=", (.str "<<=" 381), (.int (44) 299)⟩
noncomputable def hbE93 (P : Params) : DictEntry := ⟨PyData.keyHash P "<=", (.str "<=" 383), (.int (29) 269)⟩
noncomputable def hbE94 (P : Params) : DictEntry := ⟨PyData.keyHash P "=", (.str "=" 385), (.int (22) 255)⟩
noncomputable def hbE95 (P : Params) : DictEntry := ⟨PyData.keyHash P "==", (.str "==" 387), (.int (27) 265)⟩
noncomputable def hbE96 (P : Params) : DictEntry := ⟨PyData.keyHash P ">", (.str ">" 389), (.int (21) 253)⟩
noncomputable def hbE97 (P : Params) : DictEntry := ⟨PyData.keyHash P ">=", (.str ">=" 391), (.int (30) 271)⟩
noncomputable def hbE98 (P : Params) : DictEntry := ⟨PyData.keyHash P ">>", (.str ">>" 392), (.int (34) 279)⟩
noncomputable def hbE99 (P : Params) : DictEntry := ⟨PyData.keyHash P ">>=", (.str ">>=" 393), (.int (45) 301)⟩
noncomputable def hbE100 (P : Params) : DictEntry := ⟨PyData.keyHash P "@", (.str "@" 394), (.int (49) 309)⟩
noncomputable def hbE101 (P : Params) : DictEntry := ⟨PyData.keyHash P "@=", (.str "@=" 395), (.int (50) 311)⟩
noncomputable def hbE102 (P : Params) : DictEntry := ⟨PyData.keyHash P "[", (.str "[" 396), (.int (9) 229)⟩
noncomputable def hbE103 (P : Params) : DictEntry := ⟨PyData.keyHash P "]", (.str "]" 397), (.int (10) 231)⟩
noncomputable def hbE104 (P : Params) : DictEntry := ⟨PyData.keyHash P "^", (.str "^" 398), (.int (32) 275)⟩
noncomputable def hbE105 (P : Params) : DictEntry := ⟨PyData.keyHash P "^=", (.str "^=" 399), (.int (43) 297)⟩
noncomputable def hbE106 (P : Params) : DictEntry := ⟨PyData.keyHash P "{", (.str "{" 400), (.int (25) 261)⟩
noncomputable def hbE107 (P : Params) : DictEntry := ⟨PyData.keyHash P "|", (.str "|" 401), (.int (18) 247)⟩
noncomputable def hbE108 (P : Params) : DictEntry := ⟨PyData.keyHash P "|=", (.str "|=" 402), (.int (42) 295)⟩
noncomputable def hbE109 (P : Params) : DictEntry := ⟨PyData.keyHash P "}", (.str "}" 403), (.int (26) 263)⟩
noncomputable def hbE110 (P : Params) : DictEntry := ⟨PyData.keyHash P "~", (.str "~" 404), (.int (31) 273)⟩
noncomputable def hbO29 (P : Params) : Obj := ⟨(.type "dict"), none, (.dict #[hbE63 P, hbE64 P, hbE65 P, hbE66 P, hbE67 P, hbE68 P, hbE69 P, hbE70 P, hbE71 P, hbE72 P, hbE73 P, hbE74 P, hbE75 P, hbE76 P, hbE77 P, hbE78 P, hbE79 P, hbE80 P, hbE81 P, hbE82 P, hbE83 P, hbE84 P, hbE85 P, hbE86 P, hbE87 P, hbE88 P, hbE89 P, hbE90 P, hbE91 P, hbE92 P, hbE93 P, hbE94 P, hbE95 P, hbE96 P, hbE97 P, hbE98 P, hbE99 P, hbE100 P, hbE101 P, hbE102 P, hbE103 P, hbE104 P, hbE105 P, hbE106 P, hbE107 P, hbE108 P, hbE109 P, hbE110 P] 48), #[]⟩
noncomputable def hbO30 (P : Params) : Obj := ⟨(.type "dict"), none, (.dict #[hbE80 P, hbE81 P, hbE82 P, hbE83 P, hbE84 P, hbE85 P, hbE86 P, hbE87 P, hbE88 P, hbE89 P, hbE90 P, hbE91 P, hbE92 P, hbE93 P, hbE94 P, hbE95 P, hbE96 P] 17), #[]⟩
noncomputable def hbO31 (P : Params) : Obj := ⟨(.type "dict"), none, (.dict #[hbE97 P, hbE98 P, hbE99 P, hbE100 P, hbE101 P, hbE102 P, hbE103 P, hbE104 P, hbE105 P, hbE106 P, hbE107 P, hbE108 P, hbE109 P, hbE110 P] 14), #[]⟩
noncomputable def hbT3 (P : Params) : BT := (.node (boot_o_0 P) (.node (boot_o_1 P) (.node (hbO28 P) (.node (boot_o_7 P) (.node (hbO6 P) (.node (hbO22 P) .nil .nil) .nil) (.node (hbO14 P) .nil .nil)) (.node (hbO0 P) (.node (hbO10 P) (.node (hbO26 P) .nil .nil) .nil) (.node (hbO18 P) .nil .nil))) (.node (boot_o_5 P) (.node (boot_o_9 P) (.node (hbO8 P) (.node (hbO24 P) .nil .nil) .nil) (.node (hbO16 P) .nil .nil)) (.node (hbO2 P) (.node (hbO12 P) (.node (hbO30 P) .nil .nil) .nil) (.node (hbO20 P) .nil .nil)))) (.node (boot_o_2 P) (.node (boot_o_4 P) (.node (boot_o_8 P) (.node (hbO7 P) (.node (hbO23 P) .nil .nil) .nil) (.node (hbO15 P) .nil .nil)) (.node (hbO5 P) (.node (hbO11 P) (.node (hbO29 P) .nil .nil) .nil) (.node (hbO19 P) .nil .nil))) (.node (boot_o_6 P) (.node (boot_o_10 P) (.node (hbO9 P) (.node (hbO25 P) .nil .nil) .nil) (.node (hbO17 P) .nil .nil)) (.node (hbO3 P) (.node (hbO13 P) (.node (hbO31 P) .nil .nil) .nil) (.node (hbO21 P) .nil .nil)))))
noncomputable def hbE111 (P : Params) : DictEntry := ⟨PyData.keyHash P "__name__", (.str "__name__" 165), (.str "law_uq0015_01" 485)⟩
noncomputable def hbE112 (P : Params) : DictEntry := ⟨PyData.keyHash P "ISTERMINAL", (.str "ISTERMINAL" 426), (.ref 45)⟩
noncomputable def hbE113 (P : Params) : DictEntry := ⟨PyData.keyHash P "ISNONTERMINAL", (.str "ISNONTERMINAL" 433), (.ref 52)⟩
noncomputable def hbE114 (P : Params) : DictEntry := ⟨PyData.keyHash P "ISEOF", (.str "ISEOF" 440), (.ref 59)⟩
noncomputable def hbE115 (P : Params) : DictEntry := ⟨PyData.keyHash P "_raise_serialization_error", (.str "_raise_serialization_error" 449), (.ref 66)⟩
noncomputable def hbE116 (P : Params) : DictEntry := ⟨PyData.keyHash P "_escape_cdata", (.str "_escape_cdata" 456), (.ref 73)⟩
noncomputable def hbE117 (P : Params) : DictEntry := ⟨PyData.keyHash P "_escape_attrib", (.str "_escape_attrib" 463), (.ref 80)⟩
noncomputable def hbE118 (P : Params) : DictEntry := ⟨PyData.keyHash P "_escape_attrib_html", (.str "_escape_attrib_html" 470), (.ref 87)⟩
noncomputable def hbE119 (P : Params) : DictEntry := ⟨PyData.keyHash P "_escape_cdata_c14n", (.str "_escape_cdata_c14n" 477), (.ref 94)⟩
noncomputable def hbE120 (P : Params) : DictEntry := ⟨PyData.keyHash P "_escape_attrib_c14n", (.str "_escape_attrib_c14n" 484), (.ref 101)⟩
noncomputable def hbO32 (P : Params) : Obj := ⟨(.type "dict"), none, (.dict #[hbE111 P, hbE1 P, hbE2 P, hbE3 P, hbE4 P, hbE5 P, hbE6 P, hbE7 P, hbE8 P, hbE9 P, hbE10 P, hbE11 P, hbE12 P, hbE13 P, hbE14 P, hbE15 P, hbE16 P, hbE17 P, hbE18 P, hbE19 P, hbE20 P, hbE21 P, hbE22 P, hbE23 P, hbE24 P, hbE25 P, hbE26 P, hbE27 P, hbE28 P, hbE29 P, hbE30 P, hbE31 P, hbE32 P, hbE33 P, hbE34 P, hbE35 P, hbE36 P, hbE37 P, hbE38 P, hbE39 P, hbE40 P, hbE41 P, hbE42 P, hbE43 P, hbE44 P, hbE45 P, hbE46 P, hbE47 P, hbE48 P, hbE49 P, hbE50 P, hbE51 P, hbE52 P, hbE53 P, hbE54 P, hbE55 P, hbE56 P, hbE57 P, hbE58 P, hbE59 P, hbE60 P, hbE61 P, hbE62 P, hbE112 P, hbE113 P, hbE114 P, hbE115 P, hbE116 P, hbE117 P, hbE118 P, hbE119 P, hbE120 P] 72), #[]⟩
noncomputable def hbO33 (_P : Params) : Obj := ⟨.none, none, (.fields #[(.int (2) 0), (.int (0) 0), (.ref 20), (.int (15) 0), (.int (0) 0), (.ref 27), (.int (33) 0), (.int (0) 0), (.ref 34), (.int (96) 0), (.int (0) 0), (.ref 44), (.int (98) 0), (.int (0) 0), (.ref 51), (.int (100) 0), (.int (0) 0), (.ref 58), (.int (103) 0), (.int (0) 0), (.ref 65), (.int (105) 0), (.int (0) 0), (.ref 72), (.int (116) 0), (.int (0) 0), (.ref 79), (.int (135) 0), (.int (0) 0), (.ref 86), (.int (146) 0), (.int (0) 0), (.ref 93), (.int (159) 0), (.int (0) 0), (.ref 100)]), #[]⟩
noncomputable def hbO34 (_P : Params) : Obj := ⟨(.type "tuple"), none, (.seq #[] 0), #[]⟩
noncomputable def hbO35 (_P : Params) : Obj := ⟨.none, none, (.fields #[]), #[]⟩
noncomputable def hbO36 (_P : Params) : Obj := ⟨(.type "tuple"), none, (.seq #[(.str "x" 423)] 0), #[]⟩
noncomputable def hbO37 (_P : Params) : Obj := ⟨(.type "tuple"), none, (.seq #[] 0), #[]⟩
noncomputable def hbO38 (_P : Params) : Obj := ⟨.none, none, (.func ⟨"ISTERMINAL", "ISTERMINAL", (hbFn 56).params, .stmts (hbFn 56).body, (hbFn 56).scope, 0, [], .none, .none, .none, .none, none, .none, .none, 0⟩), #[]⟩
noncomputable def hbO39 (_P : Params) : Obj := ⟨(.type "code"), none, (.fields #[(.str "ISTERMINAL" 420), (.str "ISTERMINAL" 421), (.str "/claim/cut.py" 422), (.int (96) 0), (.int (1) 0), (.int (0) 0), (.int (0) 0), (.int (3) 0), (.ref 39), (.bool true), (.int (181) 0), (.ref 40), .none, (.ref 41), (.ref 42), (.ref 43), (.int (424) 0), (.int (96) 0), (.str "/claim/cut.py" 425)]), #[]⟩
noncomputable def hbO40 (_P : Params) : Obj := ⟨(.type "function"), none, (.func ⟨"ISTERMINAL", "ISTERMINAL", (hbFn 56).params, .stmts (hbFn 56).body, (hbFn 56).scope, 3, [], .none, .none, .none, (.str "cpy313.token" 221), none, (.ref 44), .none, 0⟩), #[]⟩
noncomputable def hbO41 (_P : Params) : Obj := ⟨(.type "tuple"), none, (.seq #[] 0), #[]⟩
noncomputable def hbO42 (_P : Params) : Obj := ⟨.none, none, (.fields #[]), #[]⟩
noncomputable def hbO43 (_P : Params) : Obj := ⟨(.type "tuple"), none, (.seq #[(.str "x" 430)] 0), #[]⟩
noncomputable def hbO44 (_P : Params) : Obj := ⟨(.type "tuple"), none, (.seq #[] 0), #[]⟩
noncomputable def hbO45 (_P : Params) : Obj := ⟨.none, none, (.func ⟨"ISNONTERMINAL", "ISNONTERMINAL", (hbFn 57).params, .stmts (hbFn 57).body, (hbFn 57).scope, 0, [], .none, .none, .none, .none, none, .none, .none, 0⟩), #[]⟩
noncomputable def hbO46 (_P : Params) : Obj := ⟨(.type "code"), none, (.fields #[(.str "ISNONTERMINAL" 427), (.str "ISNONTERMINAL" 428), (.str "/claim/cut.py" 429), (.int (98) 0), (.int (1) 0), (.int (0) 0), (.int (0) 0), (.int (3) 0), (.ref 46), (.bool true), (.int (181) 0), (.ref 47), .none, (.ref 48), (.ref 49), (.ref 50), (.int (431) 0), (.int (98) 0), (.str "/claim/cut.py" 432)]), #[]⟩
noncomputable def hbO47 (_P : Params) : Obj := ⟨(.type "function"), none, (.func ⟨"ISNONTERMINAL", "ISNONTERMINAL", (hbFn 57).params, .stmts (hbFn 57).body, (hbFn 57).scope, 3, [], .none, .none, .none, (.str "cpy313.token" 221), none, (.ref 51), .none, 0⟩), #[]⟩
noncomputable def hbO48 (_P : Params) : Obj := ⟨(.type "tuple"), none, (.seq #[] 0), #[]⟩
noncomputable def hbO49 (_P : Params) : Obj := ⟨.none, none, (.fields #[]), #[]⟩
noncomputable def hbO50 (_P : Params) : Obj := ⟨(.type "tuple"), none, (.seq #[(.str "x" 437)] 0), #[]⟩
noncomputable def hbO51 (_P : Params) : Obj := ⟨(.type "tuple"), none, (.seq #[] 0), #[]⟩
noncomputable def hbO52 (_P : Params) : Obj := ⟨.none, none, (.func ⟨"ISEOF", "ISEOF", (hbFn 58).params, .stmts (hbFn 58).body, (hbFn 58).scope, 0, [], .none, .none, .none, .none, none, .none, .none, 0⟩), #[]⟩
noncomputable def hbO53 (_P : Params) : Obj := ⟨(.type "code"), none, (.fields #[(.str "ISEOF" 434), (.str "ISEOF" 435), (.str "/claim/cut.py" 436), (.int (100) 0), (.int (1) 0), (.int (0) 0), (.int (0) 0), (.int (3) 0), (.ref 53), (.bool true), (.int (181) 0), (.ref 54), .none, (.ref 55), (.ref 56), (.ref 57), (.int (438) 0), (.int (100) 0), (.str "/claim/cut.py" 439)]), #[]⟩
noncomputable def hbO54 (_P : Params) : Obj := ⟨(.type "function"), none, (.func ⟨"ISEOF", "ISEOF", (hbFn 58).params, .stmts (hbFn 58).body, (hbFn 58).scope, 3, [], .none, .none, .none, (.str "cpy313.token" 221), none, (.ref 58), .none, 0⟩), #[]⟩
noncomputable def hbO55 (_P : Params) : Obj := ⟨(.type "tuple"), none, (.seq #[] 0), #[]⟩
noncomputable def hbO56 (_P : Params) : Obj := ⟨.none, none, (.fields #[]), #[]⟩
noncomputable def hbO57 (_P : Params) : Obj := ⟨(.type "tuple"), none, (.seq #[(.str "text" 446)] 0), #[]⟩
noncomputable def hbO58 (_P : Params) : Obj := ⟨(.type "tuple"), none, (.seq #[] 0), #[]⟩
noncomputable def hbO59 (_P : Params) : Obj := ⟨.none, none, (.func ⟨"_raise_serialization_error", "_raise_serialization_error", (hbFn 60).params, .stmts (hbFn 60).body, (hbFn 60).scope, 0, [], .none, .none, .none, .none, none, .none, .none, 0⟩), #[]⟩
noncomputable def hbO60 (_P : Params) : Obj := ⟨(.type "code"), none, (.fields #[(.str "_raise_serialization_error" 443), (.str "_raise_serialization_error" 444), (.str "/claim/cut.py" 445), (.int (103) 0), (.int (1) 0), (.int (0) 0), (.int (0) 0), (.int (3) 0), (.ref 60), (.bool true), (.int (181) 0), (.ref 61), .none, (.ref 62), (.ref 63), (.ref 64), (.int (447) 0), (.int (103) 0), (.str "/claim/cut.py" 448)]), #[]⟩
noncomputable def hbO61 (_P : Params) : Obj := ⟨(.type "function"), none, (.func ⟨"_raise_serialization_error", "_raise_serialization_error", (hbFn 60).params, .stmts (hbFn 60).body, (hbFn 60).scope, 3, [], .none, .none, .none, (.str "cpy313.xml.etree.ElementTree" 441), none, (.ref 65), .none, 0⟩), #[]⟩
noncomputable def hbO62 (_P : Params) : Obj := ⟨(.type "tuple"), none, (.seq #[] 0), #[]⟩
noncomputable def hbO63 (_P : Params) : Obj := ⟨.none, none, (.fields #[]), #[]⟩
noncomputable def hbO64 (_P : Params) : Obj := ⟨(.type "tuple"), none, (.seq #[(.str "text" 453)] 0), #[]⟩
noncomputable def hbO65 (_P : Params) : Obj := ⟨(.type "tuple"), none, (.seq #[] 0), #[]⟩
noncomputable def hbO66 (_P : Params) : Obj := ⟨.none, none, (.func ⟨"_escape_cdata", "_escape_cdata", (hbFn 61).params, .stmts (hbFn 61).body, (hbFn 61).scope, 0, [], .none, .none, .none, .none, none, .none, .none, 0⟩), #[]⟩
noncomputable def hbO67 (_P : Params) : Obj := ⟨(.type "code"), none, (.fields #[(.str "_escape_cdata" 450), (.str "_escape_cdata" 451), (.str "/claim/cut.py" 452), (.int (105) 0), (.int (1) 0), (.int (0) 0), (.int (0) 0), (.int (3) 0), (.ref 67), (.bool true), (.int (181) 0), (.ref 68), .none, (.ref 69), (.ref 70), (.ref 71), (.int (454) 0), (.int (105) 0), (.str "/claim/cut.py" 455)]), #[]⟩
noncomputable def hbO68 (_P : Params) : Obj := ⟨(.type "function"), none, (.func ⟨"_escape_cdata", "_escape_cdata", (hbFn 61).params, .stmts (hbFn 61).body, (hbFn 61).scope, 3, [], .none, .none, .none, (.str "cpy313.xml.etree.ElementTree" 441), none, (.ref 72), .none, 0⟩), #[]⟩
noncomputable def hbO69 (_P : Params) : Obj := ⟨(.type "tuple"), none, (.seq #[] 0), #[]⟩
noncomputable def hbO70 (_P : Params) : Obj := ⟨.none, none, (.fields #[]), #[]⟩
noncomputable def hbO71 (_P : Params) : Obj := ⟨(.type "tuple"), none, (.seq #[(.str "text" 460)] 0), #[]⟩
noncomputable def hbO72 (_P : Params) : Obj := ⟨(.type "tuple"), none, (.seq #[] 0), #[]⟩
noncomputable def hbO73 (_P : Params) : Obj := ⟨.none, none, (.func ⟨"_escape_attrib", "_escape_attrib", (hbFn 62).params, .stmts (hbFn 62).body, (hbFn 62).scope, 0, [], .none, .none, .none, .none, none, .none, .none, 0⟩), #[]⟩
noncomputable def hbO74 (_P : Params) : Obj := ⟨(.type "code"), none, (.fields #[(.str "_escape_attrib" 457), (.str "_escape_attrib" 458), (.str "/claim/cut.py" 459), (.int (116) 0), (.int (1) 0), (.int (0) 0), (.int (0) 0), (.int (3) 0), (.ref 74), (.bool true), (.int (181) 0), (.ref 75), .none, (.ref 76), (.ref 77), (.ref 78), (.int (461) 0), (.int (116) 0), (.str "/claim/cut.py" 462)]), #[]⟩
noncomputable def hbO75 (_P : Params) : Obj := ⟨(.type "function"), none, (.func ⟨"_escape_attrib", "_escape_attrib", (hbFn 62).params, .stmts (hbFn 62).body, (hbFn 62).scope, 3, [], .none, .none, .none, (.str "cpy313.xml.etree.ElementTree" 441), none, (.ref 79), .none, 0⟩), #[]⟩
noncomputable def hbO76 (_P : Params) : Obj := ⟨(.type "tuple"), none, (.seq #[] 0), #[]⟩
noncomputable def hbO77 (_P : Params) : Obj := ⟨.none, none, (.fields #[]), #[]⟩
noncomputable def hbO78 (_P : Params) : Obj := ⟨(.type "tuple"), none, (.seq #[(.str "text" 467)] 0), #[]⟩
noncomputable def hbO79 (_P : Params) : Obj := ⟨(.type "tuple"), none, (.seq #[] 0), #[]⟩
noncomputable def hbO80 (_P : Params) : Obj := ⟨.none, none, (.func ⟨"_escape_attrib_html", "_escape_attrib_html", (hbFn 63).params, .stmts (hbFn 63).body, (hbFn 63).scope, 0, [], .none, .none, .none, .none, none, .none, .none, 0⟩), #[]⟩
noncomputable def hbO81 (_P : Params) : Obj := ⟨(.type "code"), none, (.fields #[(.str "_escape_attrib_html" 464), (.str "_escape_attrib_html" 465), (.str "/claim/cut.py" 466), (.int (135) 0), (.int (1) 0), (.int (0) 0), (.int (0) 0), (.int (3) 0), (.ref 81), (.bool true), (.int (181) 0), (.ref 82), .none, (.ref 83), (.ref 84), (.ref 85), (.int (468) 0), (.int (135) 0), (.str "/claim/cut.py" 469)]), #[]⟩
noncomputable def hbO82 (_P : Params) : Obj := ⟨(.type "function"), none, (.func ⟨"_escape_attrib_html", "_escape_attrib_html", (hbFn 63).params, .stmts (hbFn 63).body, (hbFn 63).scope, 3, [], .none, .none, .none, (.str "cpy313.xml.etree.ElementTree" 441), none, (.ref 86), .none, 0⟩), #[]⟩
noncomputable def hbO83 (_P : Params) : Obj := ⟨(.type "tuple"), none, (.seq #[] 0), #[]⟩
noncomputable def hbO84 (_P : Params) : Obj := ⟨.none, none, (.fields #[]), #[]⟩
noncomputable def hbO85 (_P : Params) : Obj := ⟨(.type "tuple"), none, (.seq #[(.str "text" 474)] 0), #[]⟩
noncomputable def hbO86 (_P : Params) : Obj := ⟨(.type "tuple"), none, (.seq #[] 0), #[]⟩
noncomputable def hbO87 (_P : Params) : Obj := ⟨.none, none, (.func ⟨"_escape_cdata_c14n", "_escape_cdata_c14n", (hbFn 64).params, .stmts (hbFn 64).body, (hbFn 64).scope, 0, [], .none, .none, .none, .none, none, .none, .none, 0⟩), #[]⟩
noncomputable def hbO88 (_P : Params) : Obj := ⟨(.type "code"), none, (.fields #[(.str "_escape_cdata_c14n" 471), (.str "_escape_cdata_c14n" 472), (.str "/claim/cut.py" 473), (.int (146) 0), (.int (1) 0), (.int (0) 0), (.int (0) 0), (.int (3) 0), (.ref 88), (.bool true), (.int (181) 0), (.ref 89), .none, (.ref 90), (.ref 91), (.ref 92), (.int (475) 0), (.int (146) 0), (.str "/claim/cut.py" 476)]), #[]⟩
noncomputable def hbO89 (_P : Params) : Obj := ⟨(.type "function"), none, (.func ⟨"_escape_cdata_c14n", "_escape_cdata_c14n", (hbFn 64).params, .stmts (hbFn 64).body, (hbFn 64).scope, 3, [], .none, .none, .none, (.str "cpy313.xml.etree.ElementTree" 441), none, (.ref 93), .none, 0⟩), #[]⟩
noncomputable def hbO90 (_P : Params) : Obj := ⟨(.type "tuple"), none, (.seq #[] 0), #[]⟩
noncomputable def hbO91 (_P : Params) : Obj := ⟨.none, none, (.fields #[]), #[]⟩
noncomputable def hbO92 (_P : Params) : Obj := ⟨(.type "tuple"), none, (.seq #[(.str "text" 481)] 0), #[]⟩
noncomputable def hbO93 (_P : Params) : Obj := ⟨(.type "tuple"), none, (.seq #[] 0), #[]⟩
noncomputable def hbO94 (_P : Params) : Obj := ⟨.none, none, (.func ⟨"_escape_attrib_c14n", "_escape_attrib_c14n", (hbFn 65).params, .stmts (hbFn 65).body, (hbFn 65).scope, 0, [], .none, .none, .none, .none, none, .none, .none, 0⟩), #[]⟩
noncomputable def hbO95 (_P : Params) : Obj := ⟨(.type "code"), none, (.fields #[(.str "_escape_attrib_c14n" 478), (.str "_escape_attrib_c14n" 479), (.str "/claim/cut.py" 480), (.int (159) 0), (.int (1) 0), (.int (0) 0), (.int (0) 0), (.int (3) 0), (.ref 95), (.bool true), (.int (181) 0), (.ref 96), .none, (.ref 97), (.ref 98), (.ref 99), (.int (482) 0), (.int (159) 0), (.str "/claim/cut.py" 483)]), #[]⟩
noncomputable def hbO96 (_P : Params) : Obj := ⟨(.type "function"), none, (.func ⟨"_escape_attrib_c14n", "_escape_attrib_c14n", (hbFn 65).params, .stmts (hbFn 65).body, (hbFn 65).scope, 3, [], .none, .none, .none, (.str "cpy313.xml.etree.ElementTree" 441), none, (.ref 100), .none, 0⟩), #[]⟩
noncomputable def hbT4 (P : Params) : BT := (.node (boot_o_0 P) (.node (boot_o_1 P) (.node (hbO32 P) (.node (boot_o_7 P) (.node (hbO6 P) (.node (hbO22 P) (.node (hbO58 P) .nil .nil) (.node (hbO90 P) .nil .nil)) (.node (hbO42 P) (.node (hbO74 P) .nil .nil) .nil)) (.node (hbO14 P) (.node (hbO34 P) (.node (hbO66 P) .nil .nil) .nil) (.node (hbO50 P) (.node (hbO82 P) .nil .nil) .nil))) (.node (hbO0 P) (.node (hbO10 P) (.node (hbO26 P) (.node (hbO62 P) .nil .nil) (.node (hbO94 P) .nil .nil)) (.node (hbO46 P) (.node (hbO78 P) .nil .nil) .nil)) (.node (hbO18 P) (.node (hbO38 P) (.node (hbO70 P) .nil .nil) .nil) (.node (hbO54 P) (.node (hbO86 P) .nil .nil) .nil)))) (.node (boot_o_5 P) (.node (boot_o_9 P) (.node (hbO8 P) (.node (hbO24 P) (.node (hbO60 P) .nil .nil) (.node (hbO92 P) .nil .nil)) (.node (hbO44 P) (.node (hbO76 P) .nil .nil) .nil)) (.node (hbO16 P) (.node (hbO36 P) (.node (hbO68 P) .nil .nil) .nil) (.node (hbO52 P) (.node (hbO84 P) .nil .nil) .nil))) (.node (hbO2 P) (.node (hbO12 P) (.node (hbO30 P) (.node (hbO64 P) .nil .nil) (.node (hbO96 P) .nil .nil)) (.node (hbO48 P) (.node (hbO80 P) .nil .nil) .nil)) (.node (hbO20 P) (.node (hbO40 P) (.node (hbO72 P) .nil .nil) .nil) (.node (hbO56 P) (.node (hbO88 P) .nil .nil) .nil))))) (.node (boot_o_2 P) (.node (boot_o_4 P) (.node (boot_o_8 P) (.node (hbO7 P) (.node (hbO23 P) (.node (hbO59 P) .nil .nil) (.node (hbO91 P) .nil .nil)) (.node (hbO43 P) (.node (hbO75 P) .nil .nil) .nil)) (.node (hbO15 P) (.node (hbO35 P) (.node (hbO67 P) .nil .nil) .nil) (.node (hbO51 P) (.node (hbO83 P) .nil .nil) .nil))) (.node (hbO33 P) (.node (hbO11 P) (.node (hbO29 P) (.node (hbO63 P) .nil .nil) (.node (hbO95 P) .nil .nil)) (.node (hbO47 P) (.node (hbO79 P) .nil .nil) .nil)) (.node (hbO19 P) (.node (hbO39 P) (.node (hbO71 P) .nil .nil) .nil) (.node (hbO55 P) (.node (hbO87 P) .nil .nil) .nil)))) (.node (boot_o_6 P) (.node (boot_o_10 P) (.node (hbO9 P) (.node (hbO25 P) (.node (hbO61 P) .nil .nil) (.node (hbO93 P) .nil .nil)) (.node (hbO45 P) (.node (hbO77 P) .nil .nil) .nil)) (.node (hbO17 P) (.node (hbO37 P) (.node (hbO69 P) .nil .nil) .nil) (.node (hbO53 P) (.node (hbO85 P) .nil .nil) .nil))) (.node (hbO3 P) (.node (hbO13 P) (.node (hbO31 P) (.node (hbO65 P) .nil .nil) .nil) (.node (hbO49 P) (.node (hbO81 P) .nil .nil) .nil)) (.node (hbO21 P) (.node (hbO41 P) (.node (hbO73 P) .nil .nil) .nil) (.node (hbO57 P) (.node (hbO89 P) .nil .nil) .nil))))))
noncomputable def hbE121 (P : Params) : DictEntry := ⟨PyData.keyHash P "_law_cells", (.str "_law_cells" 496), (.ref 108)⟩
noncomputable def hbE122 (P : Params) : DictEntry := ⟨PyData.keyHash P "_law_sign", (.str "_law_sign" 503), (.ref 115)⟩
noncomputable def hbE123 (P : Params) : DictEntry := ⟨PyData.keyHash P "_law_drawn", (.str "_law_drawn" 509), (.ref 120)⟩
noncomputable def hbE124 (P : Params) : DictEntry := ⟨PyData.keyHash P "_law_round", (.str "_law_round" 515), (.ref 125)⟩
noncomputable def hbE125 (P : Params) : DictEntry := ⟨PyData.keyHash P "_law_parts", (.str "_law_parts" 521), (.ref 130)⟩
noncomputable def hbE126 (P : Params) : DictEntry := ⟨PyData.keyHash P "_law_text", (.str "_law_text" 533), (.ref 137)⟩
noncomputable def hbE127 (P : Params) : DictEntry := ⟨PyData.keyHash P "_law_as_value", (.str "_law_as_value" 541), (.ref 144)⟩
noncomputable def hbE128 (P : Params) : DictEntry := ⟨PyData.keyHash P "_law_as_words", (.str "_law_as_words" 549), (.ref 151)⟩
noncomputable def hbE129 (P : Params) : DictEntry := ⟨PyData.keyHash P "_law_read", (.str "_law_read" 555), (.ref 156)⟩
noncomputable def hbE130 (P : Params) : DictEntry := ⟨PyData.keyHash P "_law_way", (.str "_law_way" 561), (.ref 161)⟩
noncomputable def hbO97 (P : Params) : Obj := ⟨(.type "dict"), none, (.dict #[hbE111 P, hbE1 P, hbE2 P, hbE3 P, hbE4 P, hbE5 P, hbE6 P, hbE7 P, hbE8 P, hbE9 P, hbE10 P, hbE11 P, hbE12 P, hbE13 P, hbE14 P, hbE15 P, hbE16 P, hbE17 P, hbE18 P, hbE19 P, hbE20 P, hbE21 P, hbE22 P, hbE23 P, hbE24 P, hbE25 P, hbE26 P, hbE27 P, hbE28 P, hbE29 P, hbE30 P, hbE31 P, hbE32 P, hbE33 P, hbE34 P, hbE35 P, hbE36 P, hbE37 P, hbE38 P, hbE39 P, hbE40 P, hbE41 P, hbE42 P, hbE43 P, hbE44 P, hbE45 P, hbE46 P, hbE47 P, hbE48 P, hbE49 P, hbE50 P, hbE51 P, hbE52 P, hbE53 P, hbE54 P, hbE55 P, hbE56 P, hbE57 P, hbE58 P, hbE59 P, hbE60 P, hbE61 P, hbE62 P, hbE112 P, hbE113 P, hbE114 P, hbE115 P, hbE116 P, hbE117 P, hbE118 P, hbE119 P, hbE120 P, hbE121 P, hbE122 P, hbE123 P, hbE124 P, hbE125 P, hbE126 P, hbE127 P, hbE128 P, hbE129 P, hbE130 P] 82), #[]⟩
noncomputable def hbO98 (_P : Params) : Obj := ⟨.none, none, (.fields #[(.int (2) 0), (.int (0) 0), (.ref 20), (.int (15) 0), (.int (0) 0), (.ref 27), (.int (33) 0), (.int (0) 0), (.ref 34), (.int (96) 0), (.int (0) 0), (.ref 44), (.int (98) 0), (.int (0) 0), (.ref 51), (.int (100) 0), (.int (0) 0), (.ref 58), (.int (103) 0), (.int (0) 0), (.ref 65), (.int (105) 0), (.int (0) 0), (.ref 72), (.int (116) 0), (.int (0) 0), (.ref 79), (.int (135) 0), (.int (0) 0), (.ref 86), (.int (146) 0), (.int (0) 0), (.ref 93), (.int (159) 0), (.int (0) 0), (.ref 100), (.int (177) 0), (.int (0) 0), (.ref 107), (.int (182) 0), (.int (0) 0), (.ref 114), (.int (184) 0), (.int (0) 0), (.ref 119), (.int (198) 0), (.int (0) 0), (.ref 124), (.int (208) 0), (.int (0) 0), (.ref 129), (.int (210) 0), (.int (0) 0), (.ref 136), (.int (218) 0), (.int (0) 0), (.ref 143), (.int (224) 0), (.int (0) 0), (.ref 150), (.int (228) 0), (.int (0) 0), (.ref 155), (.int (253) 0), (.int (0) 0), (.ref 160)]), #[]⟩
noncomputable def hbO99 (_P : Params) : Obj := ⟨(.type "tuple"), none, (.seq #[] 0), #[]⟩
noncomputable def hbO100 (_P : Params) : Obj := ⟨.none, none, (.fields #[]), #[]⟩
noncomputable def hbO101 (_P : Params) : Obj := ⟨(.type "tuple"), none, (.seq #[(.str "script" 490), (.str "cells" 491), (.str "place" 492), (.str "number" 493)] 0), #[]⟩
noncomputable def hbO102 (_P : Params) : Obj := ⟨(.type "tuple"), none, (.seq #[] 0), #[]⟩
noncomputable def hbO103 (_P : Params) : Obj := ⟨.none, none, (.func ⟨"_law_cells", "_law_cells", (hbFn 67).params, .stmts (hbFn 67).body, (hbFn 67).scope, 0, [], .none, .none, .none, .none, none, .none, .none, 0⟩), #[]⟩
noncomputable def hbO104 (_P : Params) : Obj := ⟨(.type "code"), none, (.fields #[(.str "_law_cells" 487), (.str "_law_cells" 488), (.str "/claim/cut.py" 489), (.int (177) 0), (.int (1) 0), (.int (0) 0), (.int (0) 0), (.int (3) 0), (.ref 102), (.bool true), (.int (181) 0), (.ref 103), .none, (.ref 104), (.ref 105), (.ref 106), (.int (494) 0), (.int (177) 0), (.str "/claim/cut.py" 495)]), #[]⟩
noncomputable def hbO105 (_P : Params) : Obj := ⟨(.type "function"), none, (.func ⟨"_law_cells", "_law_cells", (hbFn 67).params, .stmts (hbFn 67).body, (hbFn 67).scope, 3, [], .none, .none, .none, (.str "law_uq0015_01" 485), none, (.ref 107), .none, 0⟩), #[]⟩
noncomputable def hbO106 (_P : Params) : Obj := ⟨(.type "tuple"), none, (.seq #[] 0), #[]⟩
noncomputable def hbO107 (_P : Params) : Obj := ⟨.none, none, (.fields #[]), #[]⟩
noncomputable def hbO108 (_P : Params) : Obj := ⟨(.type "tuple"), none, (.seq #[(.str "number" 500)] 0), #[]⟩
noncomputable def hbO109 (_P : Params) : Obj := ⟨(.type "tuple"), none, (.seq #[] 0), #[]⟩
noncomputable def hbO110 (_P : Params) : Obj := ⟨.none, none, (.func ⟨"_law_sign", "_law_sign", (hbFn 68).params, .stmts (hbFn 68).body, (hbFn 68).scope, 0, [], .none, .none, .none, .none, none, .none, .none, 0⟩), #[]⟩
noncomputable def hbO111 (_P : Params) : Obj := ⟨(.type "code"), none, (.fields #[(.str "_law_sign" 497), (.str "_law_sign" 498), (.str "/claim/cut.py" 499), (.int (182) 0), (.int (1) 0), (.int (0) 0), (.int (0) 0), (.int (3) 0), (.ref 109), (.bool true), (.int (181) 0), (.ref 110), .none, (.ref 111), (.ref 112), (.ref 113), (.int (501) 0), (.int (182) 0), (.str "/claim/cut.py" 502)]), #[]⟩
noncomputable def hbO112 (_P : Params) : Obj := ⟨(.type "function"), none, (.func ⟨"_law_sign", "_law_sign", (hbFn 68).params, .stmts (hbFn 68).body, (hbFn 68).scope, 3, [], .none, .none, .none, (.str "law_uq0015_01" 485), none, (.ref 114), .none, 0⟩), #[]⟩
noncomputable def hbO113 (_P : Params) : Obj := ⟨(.type "tuple"), none, (.seq #[] 0), #[]⟩
noncomputable def hbO114 (_P : Params) : Obj := ⟨.none, none, (.fields #[]), #[]⟩
noncomputable def hbO115 (_P : Params) : Obj := ⟨.none, none, (.func ⟨"_law_drawn", "_law_drawn", (hbFn 69).params, .stmts (hbFn 69).body, (hbFn 69).scope, 0, [], .none, .none, .none, .none, none, .none, .none, 0⟩), #[]⟩
noncomputable def hbO116 (_P : Params) : Obj := ⟨(.type "code"), none, (.fields #[(.str "_law_drawn" 504), (.str "_law_drawn" 505), (.str "/claim/cut.py" 506), (.int (184) 0), (.int (2) 0), (.int (0) 0), (.int (0) 0), (.int (3) 0), (.ref 116), (.bool true), (.int (181) 0), (.ref 117), .none, .none, .none, (.ref 118), (.int (507) 0), (.int (184) 0), (.str "/claim/cut.py" 508)]), #[]⟩
noncomputable def hbO117 (_P : Params) : Obj := ⟨(.type "function"), none, (.func ⟨"_law_drawn", "_law_drawn", (hbFn 69).params, .stmts (hbFn 69).body, (hbFn 69).scope, 3, [], .none, .none, .none, (.str "law_uq0015_01" 485), none, (.ref 119), .none, 0⟩), #[]⟩
noncomputable def hbO118 (_P : Params) : Obj := ⟨(.type "tuple"), none, (.seq #[] 0), #[]⟩
noncomputable def hbO119 (_P : Params) : Obj := ⟨.none, none, (.fields #[]), #[]⟩
noncomputable def hbO120 (_P : Params) : Obj := ⟨.none, none, (.func ⟨"_law_round", "_law_round", (hbFn 70).params, .stmts (hbFn 70).body, (hbFn 70).scope, 0, [], .none, .none, .none, .none, none, .none, .none, 0⟩), #[]⟩
noncomputable def hbO121 (_P : Params) : Obj := ⟨(.type "code"), none, (.fields #[(.str "_law_round" 510), (.str "_law_round" 511), (.str "/claim/cut.py" 512), (.int (198) 0), (.int (2) 0), (.int (0) 0), (.int (0) 0), (.int (3) 0), (.ref 121), (.bool true), (.int (181) 0), (.ref 122), .none, .none, .none, (.ref 123), (.int (513) 0), (.int (198) 0), (.str "/claim/cut.py" 514)]), #[]⟩
noncomputable def hbO122 (_P : Params) : Obj := ⟨(.type "function"), none, (.func ⟨"_law_round", "_law_round", (hbFn 70).params, .stmts (hbFn 70).body, (hbFn 70).scope, 3, [], .none, .none, .none, (.str "law_uq0015_01" 485), none, (.ref 124), .none, 0⟩), #[]⟩
noncomputable def hbO123 (_P : Params) : Obj := ⟨(.type "tuple"), none, (.seq #[] 0), #[]⟩
noncomputable def hbO124 (_P : Params) : Obj := ⟨.none, none, (.fields #[]), #[]⟩
noncomputable def hbO125 (_P : Params) : Obj := ⟨.none, none, (.func ⟨"_law_parts", "_law_parts", (hbFn 71).params, .stmts (hbFn 71).body, (hbFn 71).scope, 0, [], .none, .none, .none, .none, none, .none, .none, 0⟩), #[]⟩
noncomputable def hbO126 (_P : Params) : Obj := ⟨(.type "code"), none, (.fields #[(.str "_law_parts" 516), (.str "_law_parts" 517), (.str "/claim/cut.py" 518), (.int (208) 0), (.int (2) 0), (.int (0) 0), (.int (0) 0), (.int (3) 0), (.ref 126), (.bool true), (.int (181) 0), (.ref 127), .none, .none, .none, (.ref 128), (.int (519) 0), (.int (208) 0), (.str "/claim/cut.py" 520)]), #[]⟩
noncomputable def hbO127 (_P : Params) : Obj := ⟨(.type "function"), none, (.func ⟨"_law_parts", "_law_parts", (hbFn 71).params, .stmts (hbFn 71).body, (hbFn 71).scope, 3, [], .none, .none, .none, (.str "law_uq0015_01" 485), none, (.ref 129), .none, 0⟩), #[]⟩
noncomputable def hbO128 (_P : Params) : Obj := ⟨(.type "tuple"), none, (.seq #[] 0), #[]⟩
noncomputable def hbO129 (_P : Params) : Obj := ⟨.none, none, (.fields #[]), #[]⟩
noncomputable def hbO130 (_P : Params) : Obj := ⟨(.type "tuple"), none, (.seq #[(.str "parts" 525), (.str "sides" 526), (.str "text" 527), (.str "hidden" 528), (.str "bracket" 529), (.str "pair" 530)] 0), #[]⟩
noncomputable def hbO131 (_P : Params) : Obj := ⟨(.type "tuple"), none, (.seq #[] 0), #[]⟩
noncomputable def hbO132 (_P : Params) : Obj := ⟨.none, none, (.func ⟨"_law_text", "_law_text", (hbFn 72).params, .stmts (hbFn 72).body, (hbFn 72).scope, 0, [], .none, .none, .none, .none, none, .none, .none, 0⟩), #[]⟩
noncomputable def hbO133 (_P : Params) : Obj := ⟨(.type "code"), none, (.fields #[(.str "_law_text" 522), (.str "_law_text" 523), (.str "/claim/cut.py" 524), (.int (210) 0), (.int (2) 0), (.int (0) 0), (.int (0) 0), (.int (3) 0), (.ref 131), (.bool true), (.int (181) 0), (.ref 132), .none, (.ref 133), (.ref 134), (.ref 135), (.int (531) 0), (.int (210) 0), (.str "/claim/cut.py" 532)]), #[]⟩
noncomputable def hbO134 (_P : Params) : Obj := ⟨(.type "function"), none, (.func ⟨"_law_text", "_law_text", (hbFn 72).params, .stmts (hbFn 72).body, (hbFn 72).scope, 3, [], .none, .none, .none, (.str "law_uq0015_01" 485), none, (.ref 136), .none, 0⟩), #[]⟩
noncomputable def hbO135 (_P : Params) : Obj := ⟨(.type "tuple"), none, (.seq #[] 0), #[]⟩
noncomputable def hbO136 (_P : Params) : Obj := ⟨.none, none, (.fields #[]), #[]⟩
noncomputable def hbO137 (_P : Params) : Obj := ⟨(.type "tuple"), none, (.seq #[(.str "text" 537), (.str "draw" 538)] 0), #[]⟩
noncomputable def hbO138 (_P : Params) : Obj := ⟨(.type "tuple"), none, (.seq #[] 0), #[]⟩
noncomputable def hbO139 (_P : Params) : Obj := ⟨.none, none, (.func ⟨"_law_as_value", "_law_as_value", (hbFn 73).params, .stmts (hbFn 73).body, (hbFn 73).scope, 0, [], .none, .none, .none, .none, none, .none, .none, 0⟩), #[]⟩
noncomputable def hbO140 (_P : Params) : Obj := ⟨(.type "code"), none, (.fields #[(.str "_law_as_value" 534), (.str "_law_as_value" 535), (.str "/claim/cut.py" 536), (.int (218) 0), (.int (2) 0), (.int (0) 0), (.int (0) 0), (.int (3) 0), (.ref 138), (.bool true), (.int (181) 0), (.ref 139), .none, (.ref 140), (.ref 141), (.ref 142), (.int (539) 0), (.int (218) 0), (.str "/claim/cut.py" 540)]), #[]⟩
noncomputable def hbO141 (_P : Params) : Obj := ⟨(.type "function"), none, (.func ⟨"_law_as_value", "_law_as_value", (hbFn 73).params, .stmts (hbFn 73).body, (hbFn 73).scope, 3, [], .none, .none, .none, (.str "law_uq0015_01" 485), none, (.ref 143), .none, 0⟩), #[]⟩
noncomputable def hbO142 (_P : Params) : Obj := ⟨(.type "tuple"), none, (.seq #[] 0), #[]⟩
noncomputable def hbO143 (_P : Params) : Obj := ⟨.none, none, (.fields #[]), #[]⟩
noncomputable def hbO144 (_P : Params) : Obj := ⟨(.type "tuple"), none, (.seq #[(.str "text" 545), (.str "draw" 546)] 0), #[]⟩
noncomputable def hbO145 (_P : Params) : Obj := ⟨(.type "tuple"), none, (.seq #[] 0), #[]⟩
noncomputable def hbO146 (_P : Params) : Obj := ⟨.none, none, (.func ⟨"_law_as_words", "_law_as_words", (hbFn 74).params, .stmts (hbFn 74).body, (hbFn 74).scope, 0, [], .none, .none, .none, .none, none, .none, .none, 0⟩), #[]⟩
noncomputable def hbO147 (_P : Params) : Obj := ⟨(.type "code"), none, (.fields #[(.str "_law_as_words" 542), (.str "_law_as_words" 543), (.str "/claim/cut.py" 544), (.int (224) 0), (.int (2) 0), (.int (0) 0), (.int (0) 0), (.int (3) 0), (.ref 145), (.bool true), (.int (181) 0), (.ref 146), .none, (.ref 147), (.ref 148), (.ref 149), (.int (547) 0), (.int (224) 0), (.str "/claim/cut.py" 548)]), #[]⟩
noncomputable def hbO148 (_P : Params) : Obj := ⟨(.type "function"), none, (.func ⟨"_law_as_words", "_law_as_words", (hbFn 74).params, .stmts (hbFn 74).body, (hbFn 74).scope, 3, [], .none, .none, .none, (.str "law_uq0015_01" 485), none, (.ref 150), .none, 0⟩), #[]⟩
noncomputable def hbO149 (_P : Params) : Obj := ⟨(.type "tuple"), none, (.seq #[] 0), #[]⟩
noncomputable def hbO150 (_P : Params) : Obj := ⟨.none, none, (.fields #[]), #[]⟩
noncomputable def hbO151 (_P : Params) : Obj := ⟨.none, none, (.func ⟨"_law_read", "_law_read", (hbFn 75).params, .stmts (hbFn 75).body, (hbFn 75).scope, 0, [], .none, .none, .none, .none, none, .none, .none, 0⟩), #[]⟩
noncomputable def hbO152 (_P : Params) : Obj := ⟨(.type "code"), none, (.fields #[(.str "_law_read" 550), (.str "_law_read" 551), (.str "/claim/cut.py" 552), (.int (228) 0), (.int (1) 0), (.int (0) 0), (.int (0) 0), (.int (3) 0), (.ref 152), (.bool true), (.int (181) 0), (.ref 153), .none, .none, .none, (.ref 154), (.int (553) 0), (.int (228) 0), (.str "/claim/cut.py" 554)]), #[]⟩
noncomputable def hbO153 (_P : Params) : Obj := ⟨(.type "function"), none, (.func ⟨"_law_read", "_law_read", (hbFn 75).params, .stmts (hbFn 75).body, (hbFn 75).scope, 3, [], .none, .none, .none, (.str "law_uq0015_01" 485), none, (.ref 155), .none, 0⟩), #[]⟩
noncomputable def hbO154 (_P : Params) : Obj := ⟨(.type "tuple"), none, (.seq #[] 0), #[]⟩
noncomputable def hbO155 (_P : Params) : Obj := ⟨.none, none, (.fields #[]), #[]⟩
noncomputable def hbO156 (_P : Params) : Obj := ⟨.none, none, (.func ⟨"_law_way", "_law_way", (hbFn 76).params, .stmts (hbFn 76).body, (hbFn 76).scope, 0, [], .none, .none, .none, .none, none, .none, .none, 0⟩), #[]⟩
noncomputable def hbO157 (_P : Params) : Obj := ⟨(.type "code"), none, (.fields #[(.str "_law_way" 556), (.str "_law_way" 557), (.str "/claim/cut.py" 558), (.int (253) 0), (.int (6) 0), (.int (0) 0), (.int (0) 0), (.int (3) 0), (.ref 157), (.bool true), (.int (181) 0), (.ref 158), .none, .none, .none, (.ref 159), (.int (559) 0), (.int (253) 0), (.str "/claim/cut.py" 560)]), #[]⟩
noncomputable def hbO158 (_P : Params) : Obj := ⟨(.type "function"), none, (.func ⟨"_law_way", "_law_way", (hbFn 76).params, .stmts (hbFn 76).body, (hbFn 76).scope, 3, [], .none, .none, .none, (.str "law_uq0015_01" 485), none, (.ref 160), .none, 0⟩), #[]⟩
noncomputable def hbT5 (P : Params) : BT := (.node (boot_o_0 P) (.node (boot_o_1 P) (.node (hbO97 P) (.node (boot_o_7 P) (.node (hbO6 P) (.node (hbO22 P) (.node (hbO58 P) (.node (hbO124 P) .nil .nil) .nil) (.node (hbO90 P) (.node (hbO156 P) .nil .nil) .nil)) (.node (hbO42 P) (.node (hbO74 P) (.node (hbO140 P) .nil .nil) .nil) (.node (hbO108 P) .nil .nil))) (.node (hbO14 P) (.node (hbO34 P) (.node (hbO66 P) (.node (hbO132 P) .nil .nil) .nil) (.node (hbO100 P) .nil .nil)) (.node (hbO50 P) (.node (hbO82 P) (.node (hbO148 P) .nil .nil) .nil) (.node (hbO116 P) .nil .nil)))) (.node (hbO0 P) (.node (hbO10 P) (.node (hbO26 P) (.node (hbO62 P) (.node (hbO128 P) .nil .nil) .nil) (.node (hbO94 P) .nil .nil)) (.node (hbO46 P) (.node (hbO78 P) (.node (hbO144 P) .nil .nil) .nil) (.node (hbO112 P) .nil .nil))) (.node (hbO18 P) (.node (hbO38 P) (.node (hbO70 P) (.node (hbO136 P) .nil .nil) .nil) (.node (hbO104 P) .nil .nil)) (.node (hbO54 P) (.node (hbO86 P) (.node (hbO152 P) .nil .nil) .nil) (.node (hbO120 P) .nil .nil))))) (.node (boot_o_5 P) (.node (boot_o_9 P) (.node (hbO8 P) (.node (hbO24 P) (.node (hbO60 P) (.node (hbO126 P) .nil .nil) .nil) (.node (hbO92 P) (.node (hbO158 P) .nil .nil) .nil)) (.node (hbO44 P) (.node (hbO76 P) (.node (hbO142 P) .nil .nil) .nil) (.node (hbO110 P) .nil .nil))) (.node (hbO16 P) (.node (hbO36 P) (.node (hbO68 P) (.node (hbO134 P) .nil .nil) .nil) (.node (hbO102 P) .nil .nil)) (.node (hbO52 P) (.node (hbO84 P) (.node (hbO150 P) .nil .nil) .nil) (.node (hbO118 P) .nil .nil)))) (.node (hbO2 P) (.node (hbO12 P) (.node (hbO30 P) (.node (hbO64 P) (.node (hbO130 P) .nil .nil) .nil) (.node (hbO96 P) .nil .nil)) (.node (hbO48 P) (.node (hbO80 P) (.node (hbO146 P) .nil .nil) .nil) (.node (hbO114 P) .nil .nil))) (.node (hbO20 P) (.node (hbO40 P) (.node (hbO72 P) (.node (hbO138 P) .nil .nil) .nil) (.node (hbO106 P) .nil .nil)) (.node (hbO56 P) (.node (hbO88 P) (.node (hbO154 P) .nil .nil) .nil) (.node (hbO122 P) .nil .nil)))))) (.node (boot_o_2 P) (.node (boot_o_4 P) (.node (boot_o_8 P) (.node (hbO7 P) (.node (hbO23 P) (.node (hbO59 P) (.node (hbO125 P) .nil .nil) .nil) (.node (hbO91 P) (.node (hbO157 P) .nil .nil) .nil)) (.node (hbO43 P) (.node (hbO75 P) (.node (hbO141 P) .nil .nil) .nil) (.node (hbO109 P) .nil .nil))) (.node (hbO15 P) (.node (hbO35 P) (.node (hbO67 P) (.node (hbO133 P) .nil .nil) .nil) (.node (hbO101 P) .nil .nil)) (.node (hbO51 P) (.node (hbO83 P) (.node (hbO149 P) .nil .nil) .nil) (.node (hbO117 P) .nil .nil)))) (.node (hbO98 P) (.node (hbO11 P) (.node (hbO29 P) (.node (hbO63 P) (.node (hbO129 P) .nil .nil) .nil) (.node (hbO95 P) .nil .nil)) (.node (hbO47 P) (.node (hbO79 P) (.node (hbO145 P) .nil .nil) .nil) (.node (hbO113 P) .nil .nil))) (.node (hbO19 P) (.node (hbO39 P) (.node (hbO71 P) (.node (hbO137 P) .nil .nil) .nil) (.node (hbO105 P) .nil .nil)) (.node (hbO55 P) (.node (hbO87 P) (.node (hbO153 P) .nil .nil) .nil) (.node (hbO121 P) .nil .nil))))) (.node (boot_o_6 P) (.node (boot_o_10 P) (.node (hbO9 P) (.node (hbO25 P) (.node (hbO61 P) (.node (hbO127 P) .nil .nil) .nil) (.node (hbO93 P) .nil .nil)) (.node (hbO45 P) (.node (hbO77 P) (.node (hbO143 P) .nil .nil) .nil) (.node (hbO111 P) .nil .nil))) (.node (hbO17 P) (.node (hbO37 P) (.node (hbO69 P) (.node (hbO135 P) .nil .nil) .nil) (.node (hbO103 P) .nil .nil)) (.node (hbO53 P) (.node (hbO85 P) (.node (hbO151 P) .nil .nil) .nil) (.node (hbO119 P) .nil .nil)))) (.node (hbO3 P) (.node (hbO13 P) (.node (hbO31 P) (.node (hbO65 P) (.node (hbO131 P) .nil .nil) .nil) (.node (hbO99 P) .nil .nil)) (.node (hbO49 P) (.node (hbO81 P) (.node (hbO147 P) .nil .nil) .nil) (.node (hbO115 P) .nil .nil))) (.node (hbO21 P) (.node (hbO41 P) (.node (hbO73 P) (.node (hbO139 P) .nil .nil) .nil) (.node (hbO107 P) .nil .nil)) (.node (hbO57 P) (.node (hbO89 P) (.node (hbO155 P) .nil .nil) .nil) (.node (hbO123 P) .nil .nil)))))))
noncomputable def hbE131 (P : Params) : DictEntry := ⟨PyData.keyHash P "_law_table", (.str "_law_table" 567), (.ref 166)⟩
noncomputable def hbE132 (P : Params) : DictEntry := ⟨PyData.keyHash P "_law_determinant", (.str "_law_determinant" 580), (.ref 173)⟩
noncomputable def hbE133 (P : Params) : DictEntry := ⟨PyData.keyHash P "law", (.str "law" 586), (.ref 178)⟩
noncomputable def hbO159 (P : Params) : Obj := ⟨(.type "dict"), none, (.dict #[hbE111 P, hbE1 P, hbE2 P, hbE3 P, hbE4 P, hbE5 P, hbE6 P, hbE7 P, hbE8 P, hbE9 P, hbE10 P, hbE11 P, hbE12 P, hbE13 P, hbE14 P, hbE15 P, hbE16 P, hbE17 P, hbE18 P, hbE19 P, hbE20 P, hbE21 P, hbE22 P, hbE23 P, hbE24 P, hbE25 P, hbE26 P, hbE27 P, hbE28 P, hbE29 P, hbE30 P, hbE31 P, hbE32 P, hbE33 P, hbE34 P, hbE35 P, hbE36 P, hbE37 P, hbE38 P, hbE39 P, hbE40 P, hbE41 P, hbE42 P, hbE43 P, hbE44 P, hbE45 P, hbE46 P, hbE47 P, hbE48 P, hbE49 P, hbE50 P, hbE51 P, hbE52 P, hbE53 P, hbE54 P, hbE55 P, hbE56 P, hbE57 P, hbE58 P, hbE59 P, hbE60 P, hbE61 P, hbE62 P, hbE112 P, hbE113 P, hbE114 P, hbE115 P, hbE116 P, hbE117 P, hbE118 P, hbE119 P, hbE120 P, hbE121 P, hbE122 P, hbE123 P, hbE124 P, hbE125 P, hbE126 P, hbE127 P, hbE128 P, hbE129 P, hbE130 P, hbE131 P, hbE132 P, hbE133 P] 85), #[]⟩
noncomputable def hbO160 (_P : Params) : Obj := ⟨.none, none, (.fields #[(.int (2) 0), (.int (0) 0), (.ref 20), (.int (15) 0), (.int (0) 0), (.ref 27), (.int (33) 0), (.int (0) 0), (.ref 34), (.int (96) 0), (.int (0) 0), (.ref 44), (.int (98) 0), (.int (0) 0), (.ref 51), (.int (100) 0), (.int (0) 0), (.ref 58), (.int (103) 0), (.int (0) 0), (.ref 65), (.int (105) 0), (.int (0) 0), (.ref 72), (.int (116) 0), (.int (0) 0), (.ref 79), (.int (135) 0), (.int (0) 0), (.ref 86), (.int (146) 0), (.int (0) 0), (.ref 93), (.int (159) 0), (.int (0) 0), (.ref 100), (.int (177) 0), (.int (0) 0), (.ref 107), (.int (182) 0), (.int (0) 0), (.ref 114), (.int (184) 0), (.int (0) 0), (.ref 119), (.int (198) 0), (.int (0) 0), (.ref 124), (.int (208) 0), (.int (0) 0), (.ref 129), (.int (210) 0), (.int (0) 0), (.ref 136), (.int (218) 0), (.int (0) 0), (.ref 143), (.int (224) 0), (.int (0) 0), (.ref 150), (.int (228) 0), (.int (0) 0), (.ref 155), (.int (253) 0), (.int (0) 0), (.ref 160), (.int (259) 0), (.int (0) 0), (.ref 165), (.int (269) 0), (.int (0) 0), (.ref 172), (.int (279) 0), (.int (0) 0), (.ref 177)]), #[]⟩
noncomputable def hbO161 (_P : Params) : Obj := ⟨(.type "tuple"), none, (.seq #[] 0), #[]⟩
noncomputable def hbO162 (_P : Params) : Obj := ⟨.none, none, (.fields #[]), #[]⟩
noncomputable def hbO163 (_P : Params) : Obj := ⟨.none, none, (.func ⟨"_law_table", "_law_table", (hbFn 77).params, .stmts (hbFn 77).body, (hbFn 77).scope, 0, [], .none, .none, .none, .none, none, .none, .none, 0⟩), #[]⟩
noncomputable def hbO164 (_P : Params) : Obj := ⟨(.type "code"), none, (.fields #[(.str "_law_table" 562), (.str "_law_table" 563), (.str "/claim/cut.py" 564), (.int (259) 0), (.int (5) 0), (.int (0) 0), (.int (0) 0), (.int (3) 0), (.ref 162), (.bool true), (.int (181) 0), (.ref 163), .none, .none, .none, (.ref 164), (.int (565) 0), (.int (259) 0), (.str "/claim/cut.py" 566)]), #[]⟩
noncomputable def hbO165 (_P : Params) : Obj := ⟨(.type "function"), none, (.func ⟨"_law_table", "_law_table", (hbFn 77).params, .stmts (hbFn 77).body, (hbFn 77).scope, 3, [], .none, .none, .none, (.str "law_uq0015_01" 485), none, (.ref 165), .none, 0⟩), #[]⟩
noncomputable def hbO166 (_P : Params) : Obj := ⟨(.type "tuple"), none, (.seq #[] 0), #[]⟩
noncomputable def hbO167 (_P : Params) : Obj := ⟨.none, none, (.fields #[]), #[]⟩
noncomputable def hbO168 (_P : Params) : Obj := ⟨(.type "tuple"), none, (.seq #[(.str "table" 571), (.str "last" 572), (.str "k" 573), (.str "pivot" 574), (.str "line" 575), (.str "head" 576), (.str "j" 577)] 0), #[]⟩
noncomputable def hbO169 (_P : Params) : Obj := ⟨(.type "tuple"), none, (.seq #[] 0), #[]⟩
noncomputable def hbO170 (_P : Params) : Obj := ⟨.none, none, (.func ⟨"_law_determinant", "_law_determinant", (hbFn 78).params, .stmts (hbFn 78).body, (hbFn 78).scope, 0, [], .none, .none, .none, .none, none, .none, .none, 0⟩), #[]⟩
noncomputable def hbO171 (_P : Params) : Obj := ⟨(.type "code"), none, (.fields #[(.str "_law_determinant" 568), (.str "_law_determinant" 569), (.str "/claim/cut.py" 570), (.int (269) 0), (.int (1) 0), (.int (0) 0), (.int (0) 0), (.int (3) 0), (.ref 167), (.bool true), (.int (181) 0), (.ref 168), .none, (.ref 169), (.ref 170), (.ref 171), (.int (578) 0), (.int (269) 0), (.str "/claim/cut.py" 579)]), #[]⟩
noncomputable def hbO172 (_P : Params) : Obj := ⟨(.type "function"), none, (.func ⟨"_law_determinant", "_law_determinant", (hbFn 78).params, .stmts (hbFn 78).body, (hbFn 78).scope, 3, [], .none, .none, .none, (.str "law_uq0015_01" 485), none, (.ref 172), .none, 0⟩), #[]⟩
noncomputable def hbO173 (_P : Params) : Obj := ⟨(.type "tuple"), none, (.seq #[] 0), #[]⟩
noncomputable def hbO174 (_P : Params) : Obj := ⟨.none, none, (.fields #[]), #[]⟩
noncomputable def hbO175 (_P : Params) : Obj := ⟨.none, none, (.func ⟨"law", "law", (hbFn 79).params, .stmts (hbFn 79).body, (hbFn 79).scope, 0, [], .none, .none, .none, .none, none, .none, .none, 0⟩), #[]⟩
noncomputable def hbO176 (_P : Params) : Obj := ⟨(.type "code"), none, (.fields #[(.str "law" 581), (.str "law" 582), (.str "/claim/cut.py" 583), (.int (279) 0), (.int (1) 0), (.int (0) 0), (.int (0) 0), (.int (3) 0), (.ref 174), (.bool true), (.int (181) 0), (.ref 175), .none, .none, .none, (.ref 176), (.int (584) 0), (.int (279) 0), (.str "/claim/cut.py" 585)]), #[]⟩
noncomputable def hbO177 (_P : Params) : Obj := ⟨(.type "function"), none, (.func ⟨"law", "law", (hbFn 79).params, .stmts (hbFn 79).body, (hbFn 79).scope, 3, [], .none, .none, .none, (.str "law_uq0015_01" 485), none, (.ref 177), .none, 0⟩), #[]⟩
noncomputable def hbT6 (P : Params) : BT := (.node (boot_o_0 P) (.node (boot_o_1 P) (.node (hbO159 P) (.node (boot_o_7 P) (.node (hbO6 P) (.node (hbO22 P) (.node (hbO58 P) (.node (hbO124 P) .nil .nil) .nil) (.node (hbO90 P) (.node (hbO156 P) .nil .nil) .nil)) (.node (hbO42 P) (.node (hbO74 P) (.node (hbO140 P) .nil .nil) .nil) (.node (hbO108 P) (.node (hbO174 P) .nil .nil) .nil))) (.node (hbO14 P) (.node (hbO34 P) (.node (hbO66 P) (.node (hbO132 P) .nil .nil) .nil) (.node (hbO100 P) (.node (hbO166 P) .nil .nil) .nil)) (.node (hbO50 P) (.node (hbO82 P) (.node (hbO148 P) .nil .nil) .nil) (.node (hbO116 P) .nil .nil)))) (.node (hbO0 P) (.node (hbO10 P) (.node (hbO26 P) (.node (hbO62 P) (.node (hbO128 P) .nil .nil) .nil) (.node (hbO94 P) (.node (hbO162 P) .nil .nil) .nil)) (.node (hbO46 P) (.node (hbO78 P) (.node (hbO144 P) .nil .nil) .nil) (.node (hbO112 P) .nil .nil))) (.node (hbO18 P) (.node (hbO38 P) (.node (hbO70 P) (.node (hbO136 P) .nil .nil) .nil) (.node (hbO104 P) (.node (hbO170 P) .nil .nil) .nil)) (.node (hbO54 P) (.node (hbO86 P) (.node (hbO152 P) .nil .nil) .nil) (.node (hbO120 P) .nil .nil))))) (.node (boot_o_5 P) (.node (boot_o_9 P) (.node (hbO8 P) (.node (hbO24 P) (.node (hbO60 P) (.node (hbO126 P) .nil .nil) .nil) (.node (hbO92 P) (.node (hbO158 P) .nil .nil) .nil)) (.node (hbO44 P) (.node (hbO76 P) (.node (hbO142 P) .nil .nil) .nil) (.node (hbO110 P) (.node (hbO176 P) .nil .nil) .nil))) (.node (hbO16 P) (.node (hbO36 P) (.node (hbO68 P) (.node (hbO134 P) .nil .nil) .nil) (.node (hbO102 P) (.node (hbO168 P) .nil .nil) .nil)) (.node (hbO52 P) (.node (hbO84 P) (.node (hbO150 P) .nil .nil) .nil) (.node (hbO118 P) .nil .nil)))) (.node (hbO2 P) (.node (hbO12 P) (.node (hbO30 P) (.node (hbO64 P) (.node (hbO130 P) .nil .nil) .nil) (.node (hbO96 P) (.node (hbO164 P) .nil .nil) .nil)) (.node (hbO48 P) (.node (hbO80 P) (.node (hbO146 P) .nil .nil) .nil) (.node (hbO114 P) .nil .nil))) (.node (hbO20 P) (.node (hbO40 P) (.node (hbO72 P) (.node (hbO138 P) .nil .nil) .nil) (.node (hbO106 P) (.node (hbO172 P) .nil .nil) .nil)) (.node (hbO56 P) (.node (hbO88 P) (.node (hbO154 P) .nil .nil) .nil) (.node (hbO122 P) .nil .nil)))))) (.node (boot_o_2 P) (.node (boot_o_4 P) (.node (boot_o_8 P) (.node (hbO7 P) (.node (hbO23 P) (.node (hbO59 P) (.node (hbO125 P) .nil .nil) .nil) (.node (hbO91 P) (.node (hbO157 P) .nil .nil) .nil)) (.node (hbO43 P) (.node (hbO75 P) (.node (hbO141 P) .nil .nil) .nil) (.node (hbO109 P) (.node (hbO175 P) .nil .nil) .nil))) (.node (hbO15 P) (.node (hbO35 P) (.node (hbO67 P) (.node (hbO133 P) .nil .nil) .nil) (.node (hbO101 P) (.node (hbO167 P) .nil .nil) .nil)) (.node (hbO51 P) (.node (hbO83 P) (.node (hbO149 P) .nil .nil) .nil) (.node (hbO117 P) .nil .nil)))) (.node (hbO160 P) (.node (hbO11 P) (.node (hbO29 P) (.node (hbO63 P) (.node (hbO129 P) .nil .nil) .nil) (.node (hbO95 P) (.node (hbO163 P) .nil .nil) .nil)) (.node (hbO47 P) (.node (hbO79 P) (.node (hbO145 P) .nil .nil) .nil) (.node (hbO113 P) .nil .nil))) (.node (hbO19 P) (.node (hbO39 P) (.node (hbO71 P) (.node (hbO137 P) .nil .nil) .nil) (.node (hbO105 P) (.node (hbO171 P) .nil .nil) .nil)) (.node (hbO55 P) (.node (hbO87 P) (.node (hbO153 P) .nil .nil) .nil) (.node (hbO121 P) .nil .nil))))) (.node (boot_o_6 P) (.node (boot_o_10 P) (.node (hbO9 P) (.node (hbO25 P) (.node (hbO61 P) (.node (hbO127 P) .nil .nil) .nil) (.node (hbO93 P) (.node (hbO161 P) .nil .nil) .nil)) (.node (hbO45 P) (.node (hbO77 P) (.node (hbO143 P) .nil .nil) .nil) (.node (hbO111 P) (.node (hbO177 P) .nil .nil) .nil))) (.node (hbO17 P) (.node (hbO37 P) (.node (hbO69 P) (.node (hbO135 P) .nil .nil) .nil) (.node (hbO103 P) (.node (hbO169 P) .nil .nil) .nil)) (.node (hbO53 P) (.node (hbO85 P) (.node (hbO151 P) .nil .nil) .nil) (.node (hbO119 P) .nil .nil)))) (.node (hbO3 P) (.node (hbO13 P) (.node (hbO31 P) (.node (hbO65 P) (.node (hbO131 P) .nil .nil) .nil) (.node (hbO99 P) (.node (hbO165 P) .nil .nil) .nil)) (.node (hbO49 P) (.node (hbO81 P) (.node (hbO147 P) .nil .nil) .nil) (.node (hbO115 P) .nil .nil))) (.node (hbO21 P) (.node (hbO41 P) (.node (hbO73 P) (.node (hbO139 P) .nil .nil) .nil) (.node (hbO107 P) (.node (hbO173 P) .nil .nil) .nil)) (.node (hbO57 P) (.node (hbO89 P) (.node (hbO155 P) .nil .nil) .nil) (.node (hbO123 P) .nil .nil)))))))
noncomputable def hbH (P : Params) : Heap := ⟨#[boot_o_0 P, boot_o_1 P, boot_o_2 P, hbO159 P, boot_o_4 P, boot_o_5 P, boot_o_6 P, boot_o_7 P, boot_o_8 P, boot_o_9 P, boot_o_10 P, hbO0 P, hbO160 P, hbO2 P, hbO3 P, hbO6 P, hbO7 P, hbO8 P, hbO9 P, hbO10 P, hbO11 P, hbO12 P, hbO13 P, hbO14 P, hbO15 P, hbO16 P, hbO17 P, hbO18 P, hbO19 P, hbO20 P, hbO21 P, hbO22 P, hbO23 P, hbO24 P, hbO25 P, hbO26 P, hbO29 P, hbO30 P, hbO31 P, hbO34 P, hbO35 P, hbO36 P, hbO37 P, hbO38 P, hbO39 P, hbO40 P, hbO41 P, hbO42 P, hbO43 P, hbO44 P, hbO45 P, hbO46 P, hbO47 P, hbO48 P, hbO49 P, hbO50 P, hbO51 P, hbO52 P, hbO53 P, hbO54 P, hbO55 P, hbO56 P, hbO57 P, hbO58 P, hbO59 P, hbO60 P, hbO61 P, hbO62 P, hbO63 P, hbO64 P, hbO65 P, hbO66 P, hbO67 P, hbO68 P, hbO69 P, hbO70 P, hbO71 P, hbO72 P, hbO73 P, hbO74 P, hbO75 P, hbO76 P, hbO77 P, hbO78 P, hbO79 P, hbO80 P, hbO81 P, hbO82 P, hbO83 P, hbO84 P, hbO85 P, hbO86 P, hbO87 P, hbO88 P, hbO89 P, hbO90 P, hbO91 P, hbO92 P, hbO93 P, hbO94 P, hbO95 P, hbO96 P, hbO99 P, hbO100 P, hbO101 P, hbO102 P, hbO103 P, hbO104 P, hbO105 P, hbO106 P, hbO107 P, hbO108 P, hbO109 P, hbO110 P, hbO111 P, hbO112 P, hbO113 P, hbO114 P, hbO115 P, hbO116 P, hbO117 P, hbO118 P, hbO119 P, hbO120 P, hbO121 P, hbO122 P, hbO123 P, hbO124 P, hbO125 P, hbO126 P, hbO127 P, hbO128 P, hbO129 P, hbO130 P, hbO131 P, hbO132 P, hbO133 P, hbO134 P, hbO135 P, hbO136 P, hbO137 P, hbO138 P, hbO139 P, hbO140 P, hbO141 P, hbO142 P, hbO143 P, hbO144 P, hbO145 P, hbO146 P, hbO147 P, hbO148 P, hbO149 P, hbO150 P, hbO151 P, hbO152 P, hbO153 P, hbO154 P, hbO155 P, hbO156 P, hbO157 P, hbO158 P, hbO161 P, hbO162 P, hbO163 P, hbO164 P, hbO165 P, hbO166 P, hbO167 P, hbO168 P, hbO169 P, hbO170 P, hbO171 P, hbO172 P, hbO173 P, hbO174 P, hbO175 P, hbO176 P, hbO177 P], {}⟩
abbrev hbProg : Program := PySem.Challenge.rw_uq0015_01.row.prog
abbrev hbEnv : Env := { scope := hbProg.main.scope, locals := mainNs, globals := mainNs, cells := [], code := (.ref 13), frame := some 14 }
abbrev hbCode : Code := .body (behindTheImports hbProg) hbEnv
abbrev hbFr : List Frame := [topFrame ⟨0, 0, 0, 0⟩]
noncomputable def hbSeg (a b : Nat) : List Stmt := ((behindTheImports hbProg).drop a).take (b - a)
noncomputable def hbSh (t : BT) (n k : Nat) (os : OsState) : SharedT := ⟨t, n, {}, Array.mk [], {}, k, os⟩
abbrev hbRun (w : World) (N : Nat) (S : SharedT) (l : List Stmt) (p : Pos) : Option (Flow × SharedT × Code × Pos) := segRunT treeTable hbProg w 11 (some (.ref 6)) 1 N S (piecesOf l hbEnv hbCode p hbFr)
theorem hb_pre (w : World) (os : OsState) : topGo treeTable hbProg w 11 (some (.ref 6)) 12 ⟨boot_heap w.params, Array.mk [], boot_drawn, boot_toks, os⟩ (topStub hbProg) = some ((hbSh (hbT0 w.params) 15 187 os).abs, ⟨denote treeTable hbCode, hbCode, ⟨0, 0, 0, 0⟩, hbFr⟩) := by
  kernel_rfl
theorem hb_block (w : World) (os : OsState) : segRun treeTable hbProg w 11 (some (.ref 6)) 1 1 (hbSh (hbT0 w.params) 15 187 os).abs (blockOf (behindTheImports hbProg) hbEnv hbCode ⟨0, 0, 0, 0⟩ hbFr) = some (.next, (hbSh (hbT0 w.params) 15 187 os).abs, hbCode, ⟨0, 0, 0, 0⟩) := by
  kernel_rfl
theorem hb_1 (w : World) (os : OsState) : hbRun w 297 (hbSh (hbT0 w.params) 15 187 os) (hbSeg 0 25) ⟨0, 0, 0, 0⟩ = some (.next, hbSh (hbT1 w.params) 36 263 os, hbCode, ⟨64, 0, 64, 6⟩) := by
  kernel_rfl
theorem hb_2 (w : World) (os : OsState) : hbRun w 271 (hbSh (hbT1 w.params) 36 263 os) (hbSeg 25 55) ⟨64, 0, 64, 6⟩ = some (.next, hbSh (hbT2 w.params) 36 323 os, hbCode, ⟨94, 0, 94, 9⟩) := by
  kernel_rfl
noncomputable def hbQ3 (w : World) : Prop := ∀ os : OsState, hbRun w 979 (hbSh (hbT2 w.params) 36 323 os) (hbSeg 55 56) ⟨94, 0, 94, 9⟩ = some (.next, hbSh (hbT3 w.params) 39 420 os, hbCode, ⟨95, 0, 95, 17⟩)
theorem hb_q3f (w : World) : hbQ3 (w.withFollow "special-get-raises" false) := by
  intro os
  kernel_rfl
theorem hb_q3t (w : World) : hbQ3 (w.withFollow "special-get-raises" true) := by
  intro os
  kernel_rfl
theorem hb_3 (w : World) (os : OsState) : hbRun w 979 (hbSh (hbT2 w.params) 36 323 os) (hbSeg 55 56) ⟨94, 0, 94, 9⟩ = some (.next, hbSh (hbT3 w.params) 39 420 os, hbCode, ⟨95, 0, 95, 17⟩) := byRow2 "special-get-raises" (P := hbQ3) hb_q3f hb_q3t w os
theorem hb_4 (w : World) (os : OsState) : hbRun w 280 (hbSh (hbT3 w.params) 39 420 os) (hbSeg 56 67) ⟨95, 0, 95, 17⟩ = some (.next, hbSh (hbT4 w.params) 102 487 os, hbCode, ⟨176, 0, 176, 8⟩) := by
  kernel_rfl
theorem hb_5 (w : World) (os : OsState) : hbRun w 286 (hbSh (hbT4 w.params) 102 487 os) (hbSeg 67 77) ⟨176, 0, 176, 8⟩ = some (.next, hbSh (hbT5 w.params) 162 562 os, hbCode, ⟨253, 0, 258, 77⟩) := by
  kernel_rfl
theorem hb_6 (w : World) (os : OsState) : hbRun w 88 (hbSh (hbT5 w.params) 162 562 os) (hbSeg 77 80) ⟨253, 0, 258, 77⟩ = some (.next, hbSh (hbT6 w.params) 179 587 os, hbCode, ⟨279, 0, 311, 80⟩) := by
  kernel_rfl
theorem hb_fin (w : World) (os : OsState) : topRun treeTable hbProg w 11 (some (.ref 6)) 2 (hbSh (hbT6 w.params) 179 587 os).abs ⟨doneF .next, hbCode, ⟨279, 0, 311, 80⟩, hbFr⟩ = some ⟨hbH w.params, Array.mk [], {}, 587, os⟩ := by
  kernel_rfl
theorem hb_parts : behindTheImports hbProg = hbSeg 0 25 ++ (hbSeg 25 55 ++ (hbSeg 55 56 ++ (hbSeg 56 67 ++ (hbSeg 67 77 ++ (hbSeg 77 80 ++ []))))) := by
  kernel_rfl
theorem hb_run (w : World) (os : OsState) : topRun treeTable hbProg w 11 (some (.ref 6)) (12 + (1 + (297 + (271 + (979 + (280 + (286 + (88 + (2))))))))) ⟨boot_heap w.params, Array.mk [], boot_drawn, boot_toks, os⟩ (topStub hbProg) = some ⟨hbH w.params, Array.mk [], {}, 587, os⟩ := by
  refine go_top (hb_pre w os) (piece_block (hb_block w os) ?_)
  rw [hb_parts]
  exact piece_app (l := hbSeg 0 25) (segRun_of (hb_1 w os)) (piece_app (l := hbSeg 25 55) (segRun_of (hb_2 w os)) (piece_app (l := hbSeg 55 56) (segRun_of (hb_3 w os)) (piece_app (l := hbSeg 56 67) (segRun_of (hb_4 w os)) (piece_app (l := hbSeg 67 77) (segRun_of (hb_5 w os)) (piece_app (l := hbSeg 77 80) (segRun_of (hb_6 w os)) (piece_nil (hb_fin w os)))))))
theorem hb_open : ∀ w : World, (fencedOpening treeTable hbProg w 6000).map (fun s => (s.heap, s.gens, s.drawn, s.toks)) = some (boot_heap w.params, Array.mk [], boot_drawn, boot_toks) :=
  boot_open (p := hbProg) (by kernel_rfl) (by decide) (fun s => by kernel_rfl)
theorem hb_size (w : World) : ((boot_heap w.params).isNs mainGlobals && (Array.mk [] : Array GenState).size == 0, (boot_heap w.params).objs.size, (boot_heap w.params).nsMap mainGlobals "__annotations__") = (true, 11, (some (.ref 6))) := by
  kernel_rfl
noncomputable def hbEnd (w : World) (os : OsState) : Shared := ⟨hbH w.params, Array.mk [], {}, 587, os⟩
abbrev hbLoose : List Str := ["EXACT_TOKEN_TYPES"]
theorem hb_k0a (w : World) (os : OsState) : staticsOk (importedModules hbProg.main.body) (boot_heap w.params) (hbH w.params) && namesBound hbProg (hbH w.params) && gensDone (hbEnd w os) = true := by
  kernel_rfl
theorem hb_k0b (w : World) : laidKept (boot_heap w.params) (hbH w.params) = true := by
  kernel_rfl
theorem hb_k1 (w : World) (os : OsState) : seen ((recsOf view).map (·.name)) (ownsOf view) [] { hbEnd w os with gens := #[] } = expectedOf view := by
  kernel_rfl
theorem hb_k2 (w : World) (os : OsState) : (hbEnd w os).heap.bltView = bltViewBooted := by
  kernel_rfl
theorem hb_k3a (w : World) (os : OsState) : (hbEnd w os).heap.keysOk (looseW view hbLoose) ((recsOf view).map (·.name)) ((litsOf view).map (·.1)) ((clssOf view (looseW view hbLoose)).map (·.name)) = true := by
  kernel_rfl
theorem hb_k3b (w : World) (os : OsState) : ((hbEnd w os).heap.accountedOkI (importedModules hbProg.main.body) && (hbEnd w os).heap.isNs mainGlobals && (hbEnd w os).heap.isNs builtinsNs && tablesOk view (hbEnd w os).heap) = true := by
  kernel_rfl
theorem hb_k3c (w : World) (os : OsState) : seenAll (hbEnd w os) = true := by
  kernel_rfl
theorem hb_k4 (w : World) (os : OsState) : tabsOk view (hbEnd w os) = true := by
  kernel_rfl
theorem hb_k5 (w : World) (os : OsState) : pinSeenD view (drecsOf view) (hbEnd w os) = pinGoodD (drecsOf view) := by
  kernel_rfl
theorem hb_k6 (w : World) (os : OsState) : plainSeenE view (looseW view hbLoose) (hbEnd w os) = plainGoodE view (looseW view hbLoose) := by
  kernel_rfl
theorem hb_k7 (w : World) (os : OsState) : plainSeenD view hbLoose (hbEnd w os) = plainGoodD view hbLoose := by
  kernel_rfl
theorem hb_k8 (w : World) (os : OsState) : wideSeen view (hbEnd w os) = wideGood view := by
  kernel_rfl
theorem hb_k9 (w : World) (os : OsState) : clsSeenW view hbLoose (hbEnd w os) = clsGoodW view hbLoose := by
  kernel_rfl
theorem hb_k10 (w : World) (os : OsState) : Hook.obs Hook.none (hbEnd w os) = Hook.val Hook.none w := by
  kernel_rfl
theorem hb_k3 {a b c d e f g : Bool} (x : a = true) (y : (b && c && d && e) = true) (z : f = true) (u : g = true) : (a && b && c && d && e && f && g) = true := by
  simp only [Bool.and_eq_true] at y
  obtain ⟨⟨⟨y1, y2⟩, y3⟩, y4⟩ := y
  rw [x, y1, y2, y3, y4, z, u]; rfl
theorem hb_looks (w : World) : (fun os : OsState => ((staticsOk (importedModules hbProg.main.body) (boot_heap w.params) (hbH w.params) && namesBound hbProg (hbH w.params) && gensDone ⟨hbH w.params, Array.mk [], {}, 587, os⟩ && laidKept (boot_heap w.params) (hbH w.params)),
    openSeen view ["EXACT_TOKEN_TYPES"] (importedModules hbProg.main.body) seenAll true ⟨hbH w.params, Array.mk [], {}, 587, os⟩, Hook.obs Hook.none ⟨hbH w.params, Array.mk [], {}, 587, os⟩)) = fun _ => (true, openGood view ["EXACT_TOKEN_TYPES"], Hook.val Hook.none w) :=
  funext fun os => looks_pair (look_both (hb_k0a w os) (hb_k0b w)) (looks_pair
    (show openSeen view hbLoose (importedModules hbProg.main.body) seenAll true (hbEnd w os) = openGood view hbLoose from looks_pair (hb_k1 w os) (looks_pair (hb_k2 w os) (looks_pair (hb_k3 (hb_k3a w os) (hb_k3b w os) (hb_k3c w os) rfl) (looks_pair (hb_k4 w os) (looks_pair (hb_k5 w os) (looks_pair (hb_k6 w os) (looks_pair (hb_k7 w os) (looks_pair (hb_k8 w os) (hb_k9 w os)))))))))
    (hb_k10 w os))
theorem left : LeftO PySem.Challenge.rw_uq0015_01.row.prog view ["EXACT_TOKEN_TYPES"] seenAll (Hook.obs Hook.none) (Hook.val Hook.none) 6000 := LeftO.of_pieces hb_open hb_size hb_run (by decide) hb_looks

set_option maxHeartbeats 8000000 in
theorem said : OpenLaw.wellSaid PySem.Challenge.rw_uq0015_01 = true := by
  unfold OpenLaw.wellSaid OpenRow.wellSaid OpenRow.partSaid looksOpen
  repeat' (with_reducible refine look_both ?_ ?_)
  all_goals decide +kernel
end Mine

namespace Mine
open PySem PySem.W PyProof.Rows

/-! data, relations -/
inductive D where
  | none
  | bool (b : Bool)
  | int (i : Int)
  | str (s : Str)
  | tup (ds : List D)
  | lst (a : Addr)
  | ints (ns : List Int)

abbrev tupO (vs : List Value) (n : Nat) : Obj := { cls := .type "tuple", data := .seq vs.toArray n }
abbrev lstO (vs : List Value) (n : Nat) : Obj := { cls := .type "list", data := .seq vs.toArray n }
mutual
inductive VR (b h : Heap) : Value → D → Prop
  | none : VR b h Value.none D.none
  | bool (x : Bool) : VR b h (Value.bool x) (D.bool x)
  | int (i : Int) (t : Tok) : VR b h (Value.int i t) (D.int i)
  | str (s : Str) (t : Tok) : VR b h (Value.str s t) (D.str s)
  | tup {a : Addr} {vs : List Value} {n : Nat} {ds : List D} : h.get? a = some (tupO vs n) → VRs b h vs ds → VR b h (Value.ref a) (D.tup ds)
  | lst (a : Addr) : VR b h (Value.ref a) (D.lst a)
  | ints {a : Addr} {vs : List Value} {ns : List Int} : b.IsList a vs.toArray → IntsAre vs ns → VR b h (Value.ref a) (D.ints ns)
inductive VRs (b h : Heap) : List Value → List D → Prop
  | nil : VRs b h [] []
  | cons {v : Value} {vs : List Value} {d : D} {ds : List D} : VR b h v d → VRs b h vs ds → VRs b h (v :: vs) (d :: ds)
end

noncomputable def isTupObj (o : Obj) : Prop := ∃ vs n, o = tupO vs n

mutual
theorem VR.mono {b h h' : Heap} (hk : ∀ a o, h.get? a = some o → isTupObj o → h'.get? a = some o) : ∀ {v : Value} {d : D}, VR b h v d → VR b h' v d
  | _, _, .none => .none
  | _, _, .bool x => .bool x
  | _, _, .int i t => .int i t
  | _, _, .str s t => .str s t
  | _, _, .tup e r => .tup (hk _ _ e ⟨_, _, rfl⟩) (VRs.mono hk r)
  | _, _, .lst a => .lst a
  | _, _, .ints e r => .ints e r
theorem VRs.mono {b h h' : Heap} (hk : ∀ a o, h.get? a = some o → isTupObj o → h'.get? a = some o) : ∀ {vs : List Value} {ds : List D}, VRs b h vs ds → VRs b h' vs ds
  | _, _, .nil => .nil
  | _, _, .cons h r => .cons (VR.mono hk h) (VRs.mono hk r)
end

section
variable {b h : Heap}
theorem VRs.length {vs : List Value} {ds : List D} (r : VRs b h vs ds) : vs.length = ds.length := by
  induction vs generalizing ds with
  | nil => cases r; rfl
  | cons v vs ih => cases r with | cons _ r => simp [ih r]
theorem VRs.append {vs ws : List Value} {ds es : List D} (r : VRs b h vs ds) (q : VRs b h ws es) : VRs b h (vs ++ ws) (ds ++ es) := by
  induction vs generalizing ds with
  | nil => cases r; exact q
  | cons v vs ih => cases r with | cons h r => exact .cons h (ih r)
theorem VRs.one {v : Value} {d : D} (r : VR b h v d) : VRs b h [v] [d] := .cons r .nil
theorem VRs.get {vs : List Value} {ds : List D} {i : Nat} {d : D} (r : VRs b h vs ds) (e : ds[i]? = some d) : ∃ v, vs[i]? = some v ∧ VR b h v d := by
  induction vs generalizing ds i with
  | nil => cases r; cases e
  | cons v vs ih =>
    cases r with
    | cons h r =>
      cases i with
      | zero => simp at e; subst e; exact ⟨v, rfl, h⟩
      | succ i => exact ih r (by simpa using e)
theorem VRs.set {vs : List Value} {ds : List D} {i : Nat} {v : Value} {d : D} (r : VRs b h vs ds) (x : VR b h v d) : VRs b h (vs.set i v) (ds.set i d) := by
  induction vs generalizing ds i with
  | nil => cases r; exact .nil
  | cons w vs ih =>
    cases r with
    | cons h r =>
      cases i with
      | zero => exact .cons x r
      | succ i => exact .cons h (ih r)
theorem VRs.take {vs : List Value} {ds : List D} (r : VRs b h vs ds) (n : Nat) : VRs b h (vs.take n) (ds.take n) := by
  induction vs generalizing ds n with
  | nil => cases r; simpa using VRs.nil
  | cons w vs ih =>
    cases r with
    | cons h r =>
      cases n with
      | zero => exact .nil
      | succ n => exact .cons h (ih r n)
theorem VRs.drop {vs : List Value} {ds : List D} (r : VRs b h vs ds) (n : Nat) : VRs b h (vs.drop n) (ds.drop n) := by
  induction vs generalizing ds n with
  | nil => cases r; simpa using VRs.nil
  | cons w vs ih =>
    cases r with
    | cons h r =>
      cases n with
      | zero => exact .cons h r
      | succ n => exact ih r n
theorem VRs.ints_are {vs : List Value} {ns : List Int} (r : VRs b h vs (ns.map D.int)) : IntsAre vs ns := by
  induction vs generalizing ns with
  | nil => cases ns with | nil => exact .nil | cons => cases r
  | cons v vs ih =>
    cases ns with
    | nil => cases r
    | cons n ns => cases r with | cons h r => cases h; exact .cons _ _ (ih r)
theorem VRs.of_ints {vs : List Value} {ns : List Int} (r : IntsAre vs ns) : VRs b h vs (ns.map D.int) := by
  induction r with
  | nil => exact .nil
  | cons n t _ ih => exact .cons (.int n t) ih
end

abbrev Store := Addr → Option (List D)
abbrev Names := Str → Option D
noncomputable def Store.put (σ : Store) (a : Addr) (ds : List D) : Store := fun x => if x = a then some ds else σ x
noncomputable def Names.put (η : Names) (x : Str) (d : D) : Names := fun y => if y = x then some d else η y

structure Fm where
  sc : Scope
  env : Env
  own : Addr → Prop

structure FmOk (b : Heap) (F : Fm) : Prop where
  kind : F.env.scope.kind = .function
  glob : F.env.globals = mainGlobals
  blt : F.env.builtins = builtinsNs
  loc : ∀ x, F.sc.names.lookup x = some .local → F.env.kindOf x = some .local
  glo : ∀ x, F.sc.names.lookup x = some .globalImplicit → F.env.kindOf x = some .globalImplicit
  cel : ∀ x, F.sc.names.lookup x = some .cell → F.env.kindOf x = some .cell ∧ ∃ c, F.env.cells.lookup x = some c ∧ F.own c
  fre : ∀ x, F.sc.names.lookup x = some .free → (F.env.kindOf x = some .cell ∨ F.env.kindOf x = some .free) ∧ ∃ c, F.env.cells.lookup x = some c
  apart : ∀ x y c, F.env.cells.lookup x = some c → F.env.cells.lookup y = some c → x = y
  ownL : F.own F.env.locals
  bnew : ∀ a, F.own a → b.get? a = none
  celL : ∀ x c, F.env.cells.lookup x = some c → c ≠ F.env.locals

noncomputable def isBox (o : Obj) : Prop := (∃ es ep, o.data = .dict es ep) ∨ ∃ v, o.data = .cell v
noncomputable def isListObj (o : Obj) : Prop := ∃ vs n, o = lstO vs n

structure NR (b h : Heap) (F : Fm) (η : Names) : Prop where
  ns : ∃ m, h.Ns F.env.locals m ∧ ∀ x d, F.sc.names.lookup x = some .local → η x = some d → ∃ v, m x = some v ∧ VR b h v d
  cells : ∀ x c, F.env.cells.lookup x = some c → ∃ vo, h.IsCell c vo ∧ ∀ d, (F.sc.names.lookup x = some .cell ∨ F.sc.names.lookup x = some .free) → η x = some d → ∃ v, vo = some v ∧ VR b h v d
  box : ∀ a, F.own a → ∃ o, h.get? a = some o ∧ isBox o

structure CR (b h : Heap) (σ : Store) : Prop where
  base : ∀ a o, b.get? a = some o → h.get? a = some o
  store : ∀ a ds, σ a = some ds → ∃ vs n, h.get? a = some (lstO vs n) ∧ VRs b h vs ds
  fresh : ∀ a ds, σ a = some ds → b.get? a = none

structure Step (own : Addr → Prop) (σ σ' : Store) (s s' : Shared) : Prop where
  heap : ∀ a o, s.heap.get? a = some o → σ a = none → ¬ own a → s'.heap.get? a = some o
  there : ∀ a o, s.heap.get? a = some o → σ a = none → own a → ∃ o', s'.heap.get? a = some o'
  dom : ∀ a o, s.heap.get? a = some o → σ a = none → σ' a = none
  gens : ∀ (i : Nat) (g : GenState), s.gens[i]? = some g → s'.gens[i]? = some g
  drawn : s'.drawn = s.drawn
  os : s'.os = s.os
  bare : AllBare s.gens → AllBare s'.gens

abbrev noOwn : Addr → Prop := fun _ => False

section
variable {b : Heap} {own own' : Addr → Prop} {σ σ₁ σ₂ σ' : Store} {s s₁ s₂ s' : Shared}
theorem Step.refl : Step own σ σ s s := ⟨fun _ _ e _ _ => e, fun _ o e _ _ => ⟨o, e⟩, fun _ _ _ e => e, fun _ _ e => e, rfl, rfl, fun h => h⟩
theorem Step.trans (x : Step own σ σ₁ s s₁) (y : Step own σ₁ σ₂ s₁ s₂) : Step own σ σ₂ s s₂ where
  heap a o e z n := y.heap a o (x.heap a o e z n) (x.dom a o e z) n
  there a o e z n := by
    obtain ⟨o', e'⟩ := x.there a o e z n
    exact y.there a o' e' (x.dom a o e z) n
  dom a o e z := by
    by_cases n : own a
    · obtain ⟨o', e'⟩ := x.there a o e z n
      exact y.dom a o' e' (x.dom a o e z)
    · exact y.dom a o (x.heap a o e z n) (x.dom a o e z)
  gens i g e := y.gens i g (x.gens i g e)
  drawn := y.drawn.trans x.drawn
  os := y.os.trans x.os
  bare := fun h => y.bare (x.bare h)
theorem Step.weaken (x : Step own σ σ' s s') (hw : ∀ a, own a → own' a) : Step own' σ σ' s s' where
  heap a o e z n := x.heap a o e z fun h => n (hw a h)
  there a o e z _ := by
    by_cases n : own a
    · exact x.there a o e z n
    · exact ⟨o, x.heap a o e z n⟩
  dom := x.dom
  gens := x.gens
  drawn := x.drawn
  os := x.os
  bare := x.bare
theorem Step.lift (x : Step noOwn σ σ' s s') : Step own σ σ' s s' := x.weaken fun _ h => h.elim
/-- a step that writes only what did not stand at the start -/
theorem Step.forget (x : Step own σ σ' s s') (hn : ∀ a o, s.heap.get? a = some o → σ a = none → ¬ own a) : Step noOwn σ σ' s s' where
  heap a o e z _ := x.heap a o e z (hn a o e z)
  there _ _ _ _ n := n.elim
  dom := x.dom
  gens := x.gens
  drawn := x.drawn
  os := x.os
  bare := x.bare
theorem Step.drop (x : Step own σ σ' s s') (hs : ∀ a ds, σ₁ a = some ds → σ' a = some ds) : Step own σ σ₁ s s' where
  heap := x.heap
  there := x.there
  dom a o e z := by
    cases q : σ₁ a with
    | none => rfl
    | some ds => have := hs a ds q; rw [x.dom a o e z] at this; cases this
  gens := x.gens
  drawn := x.drawn
  os := x.os
  bare := x.bare
theorem CR.drop (x : CR b s.heap σ') (hs : ∀ a ds, σ₁ a = some ds → σ' a = some ds) : CR b s.heap σ₁ :=
  ⟨x.base, fun a ds e => x.store a ds (hs a ds e), fun a ds e => x.fresh a ds (hs a ds e)⟩

theorem CR.listObj (x : CR b s.heap σ) {a : Addr} {o : Obj} {ds : List D} (e : s.heap.get? a = some o) (z : σ a = some ds) : isListObj o := by
  obtain ⟨vs, n, e', _⟩ := x.store a ds z
  rw [e] at e'; cases e'
  exact ⟨vs, n, rfl⟩
theorem not_tup_of_list {o : Obj} (x : isListObj o) : ¬ isTupObj o := fun y => by
  obtain ⟨vs, n, rfl⟩ := x
  obtain ⟨us, m, e⟩ := y
  have q : Value.type "list" = Value.type "tuple" := congrArg Obj.cls e
  exact absurd q (by decide)
theorem not_tup_of_box {o : Obj} (x : isBox o) : ¬ isTupObj o := fun y => by
  obtain ⟨vs, n, rfl⟩ := y
  rcases x with ⟨es, ep, d⟩ | ⟨v, d⟩ <;> cases d
theorem not_list_of_box {o : Obj} (x : isBox o) : ¬ isListObj o := fun y => by
  obtain ⟨vs, n, rfl⟩ := y
  rcases x with ⟨es, ep, d⟩ | ⟨v, d⟩ <;> cases d

/-- tuples stay -/
theorem Step.tups (x : Step own σ σ' s s') (c : CR b s.heap σ) (hb : ∀ a, own a → ∀ o, s.heap.get? a = some o → isBox o) :
    ∀ a o, s.heap.get? a = some o → isTupObj o → s'.heap.get? a = some o := fun a o e t => by
  refine x.heap a o e ?_ ?_
  · cases q : σ a with
    | none => rfl
    | some ds => exact absurd t (not_tup_of_list (c.listObj e q))
  · exact fun n => not_tup_of_box (hb a n o e) t
theorem Step.tups0 (x : Step noOwn σ σ' s s') (c : CR b s.heap σ) : ∀ a o, s.heap.get? a = some o → isTupObj o → s'.heap.get? a = some o :=
  x.tups c fun _ h => h.elim
theorem box_not_store (c : CR b s.heap σ) {a : Addr} {o : Obj} (e : s.heap.get? a = some o) (x : isBox o) : σ a = none := by
  cases q : σ a with
  | none => rfl
  | some ds => exact absurd (c.listObj e q) (not_list_of_box x)

theorem box_of_ns {h : Heap} {a : Addr} {m : Str → Option Value} (x : h.Ns a m) : ∃ o, h.get? a = some o ∧ isBox o :=
  let ⟨o, es, ep, e, d, _⟩ := x; ⟨o, e, .inl ⟨es, ep, d⟩⟩
theorem box_of_cell {h : Heap} {a : Addr} {v : Option Value} (x : h.IsCell a v) : ∃ o, h.get? a = some o ∧ isBox o :=
  let ⟨o, e, d⟩ := x; ⟨o, e, .inr ⟨v, d⟩⟩

theorem NR.mono {F : Fm} {η : Names} {h h' : Heap} (x : NR b h F η) (hb : ∀ a o, h.get? a = some o → isBox o → h'.get? a = some o)
    (ht : ∀ a o, h.get? a = some o → isTupObj o → h'.get? a = some o) : NR b h' F η where
  ns := by
    obtain ⟨m, hn, hm⟩ := x.ns
    refine ⟨m, ?_, fun y d hl hd => ?_⟩
    · obtain ⟨o, es, ep, e, d, r⟩ := hn
      exact ⟨o, es, ep, hb _ _ e (.inl ⟨es, ep, d⟩), d, r⟩
    · obtain ⟨v, e, r⟩ := hm y d hl hd
      exact ⟨v, e, r.mono ht⟩
  cells y c hc := by
    obtain ⟨vo, ⟨o, e, d⟩, r⟩ := x.cells y c hc
    refine ⟨vo, ⟨o, hb _ _ e (.inr ⟨vo, d⟩), d⟩, fun d hl hd => ?_⟩
    obtain ⟨v, e, r⟩ := r d hl hd
    exact ⟨v, e, r.mono ht⟩
  box a ha := by
    obtain ⟨o, e, q⟩ := x.box a ha
    exact ⟨o, hb a o e q, q⟩
theorem NR.step {F : Fm} {η : Names} (x : NR b s.heap F η) (c : CR b s.heap σ) (y : Step noOwn σ σ' s s') : NR b s'.heap F η :=
  x.mono (fun a o e q => y.heap a o e (box_not_store c e q) fun h => h) (y.tups0 c)
theorem VR.step {v : Value} {d : D} (x : VR b s.heap v d) (c : CR b s.heap σ) (y : Step noOwn σ σ' s s') : VR b s'.heap v d := x.mono (y.tups0 c)
/-- nothing but new objects and tokens -/
theorem Step.grown {h' : Heap} {tk : Nat} (hk : ∀ a o, s.heap.get? a = some o → h'.get? a = some o) : Step own σ σ s { s with heap := h', toks := tk } :=
  ⟨fun a o e _ _ => hk a o e, fun a o e _ _ => ⟨o, hk a o e⟩, fun _ _ _ e => e, fun _ _ e => e, rfl, rfl, fun h => h⟩
theorem CR.grown {h h' : Heap} (x : CR b h σ) (hk : ∀ a o, h.get? a = some o → h'.get? a = some o) : CR b h' σ where
  base a o e := hk a o (x.base a o e)
  store a ds e := by
    obtain ⟨vs, n, e, q⟩ := x.store a ds e
    exact ⟨vs, n, hk _ _ e, q.mono fun a o e _ => hk a o e⟩
  fresh := x.fresh
/-- a new tracked list -/
theorem CR.new {h h' : Heap} {a : Addr} {vs : List Value} {n : Nat} {ds : List D} (x : CR b h σ) (hk : ∀ a o, h.get? a = some o → h'.get? a = some o)
    (hn : h.get? a = none) (hl : h'.get? a = some (lstO vs n)) (hv : VRs b h' vs ds) : CR b h' (σ.put a ds) where
  base a o e := hk a o (x.base a o e)
  store c es e := by
    unfold Store.put at e
    split at e
    · rename_i q; cases e; subst q; exact ⟨vs, n, hl, hv⟩
    · exact (x.grown hk).store c es e
  fresh c es e := by
    unfold Store.put at e
    split at e
    · rename_i q; subst q
      cases z : b.get? c with
      | none => rfl
      | some o => have := x.base c o z; rw [hn] at this; cases this
    · exact x.fresh c es e
theorem Step.new {a : Addr} {ds : List D} {h' : Heap} {tk : Nat} (hk : ∀ a o, s.heap.get? a = some o → h'.get? a = some o) (hn : s.heap.get? a = none) :
    Step own σ (σ.put a ds) s { s with heap := h', toks := tk } :=
  ⟨fun a o e _ _ => hk a o e, fun a o e _ _ => ⟨o, hk a o e⟩, fun c o e z => by
    unfold Store.put
    split
    · rename_i q; subst q; rw [hn] at e; cases e
    · exact z, fun _ _ e => e, rfl, rfl, fun h => h⟩
theorem CR.none_of_fresh {h : Heap} (x : CR b h σ) {a : Addr} (hn : h.get? a = none) : σ a = none := by
  cases q : σ a with
  | none => rfl
  | some ds => obtain ⟨vs, n, e, _⟩ := x.store a ds q; rw [hn] at e; cases e
/-- a tracked list is written -/
theorem CR.write {h h' : Heap} {a : Addr} {vs : List Value} {n : Nat} {ds es : List D} (x : CR b h σ) (ha : σ a = some es) (hk : ∀ c o, c ≠ a → h.get? c = some o → h'.get? c = some o)
    (hl : h'.get? a = some (lstO vs n)) (hv : VRs b h' vs ds) : CR b h' (σ.put a ds) := by
  have ht : ∀ c o, h.get? c = some o → isTupObj o → h'.get? c = some o := fun c o e t => hk c o (fun q => by
    subst q
    obtain ⟨us, n', e', _⟩ := x.store c es ha
    rw [e] at e'; cases e'
    exact not_tup_of_list ⟨us, n', rfl⟩ t) e
  refine ⟨fun c o e => hk c o (fun q => ?_) (x.base c o e), fun c fs e => ?_, fun c fs e => ?_⟩
  · subst q; have := x.fresh c es ha; rw [e] at this; cases this
  · unfold Store.put at e
    split at e
    · rename_i q; cases e; subst q; exact ⟨vs, n, hl, hv⟩
    · rename_i q
      obtain ⟨us, n', e, q'⟩ := x.store c fs e
      exact ⟨us, n', hk _ _ q e, q'.mono ht⟩
  · unfold Store.put at e
    split at e
    · rename_i q; subst q; exact x.fresh c es ha
    · exact x.fresh c fs e
theorem Step.write {a : Addr} {ds es : List D} {h' : Heap} {tk : Nat} (ha : σ a = some es) (hk : ∀ c o, c ≠ a → s.heap.get? c = some o → h'.get? c = some o) :
    Step noOwn σ (σ.put a ds) s { s with heap := h', toks := tk } :=
  ⟨fun c o e z _ => hk c o (fun q => by subst q; rw [ha] at z; cases z) e, fun _ _ _ _ n => n.elim, fun c o e z => by
    unfold Store.put
    split
    · rename_i q; subst q; rw [ha] at z; cases z
    · exact z, fun _ _ e => e, rfl, rfl, fun h => h⟩
end

/-! the judgements -/
structure Ctx where
  prog : Program
  w : World
  b : Heap
  p : Program
  loose : List Str
  mean : ExcName → Option Value
  mg : Str → Option Value
  mb : Str → Option Value
  top : Top p loose mean mg mb b

noncomputable def OkA (n : Nat) (A : Around) : Prop := A.handled = none ∧ A.depth + n < recursionLimit ∧ A.units + 20 * n + 1000 < cLine

inductive Fl where
  | next
  | brk
  | cont
  | ret (d : D)
inductive FR (b h : Heap) : Flow → Fl → Prop
  | next : FR b h .next .next
  | brk : FR b h .brk .brk
  | cont : FR b h .cont .cont
  | ret {v : Value} {d : D} : VR b h v d → FR b h (.ret v) (.ret d)

abbrev NoE : Value → Shared → Prop := fun _ _ => False

noncomputable def PostV (X : Ctx) (σ : Store) (s : Shared) (Q : D → Store → Prop) (v : Value) (s' : Shared) : Prop :=
  ∃ d σ', VR X.b s'.heap v d ∧ CR X.b s'.heap σ' ∧ Step noOwn σ σ' s s' ∧ Q d σ'
noncomputable def PostB (X : Ctx) (σ : Store) (s : Shared) (Q : Bool → Store → Prop) (t : Bool) (s' : Shared) : Prop :=
  ∃ σ', CR X.b s'.heap σ' ∧ Step noOwn σ σ' s s' ∧ Q t σ'
noncomputable def PostVs (X : Ctx) (σ : Store) (s : Shared) (Q : List D → Store → Prop) (vs : List Value) (s' : Shared) : Prop :=
  ∃ ds σ', VRs X.b s'.heap vs ds ∧ CR X.b s'.heap σ' ∧ Step noOwn σ σ' s s' ∧ Q ds σ'
noncomputable def PostF (X : Ctx) (F : Fm) (σ : Store) (s : Shared) (Q : Fl → Names → Store → Prop) (f : Flow) (s' : Shared) : Prop :=
  ∃ fl η' σ', FR X.b s'.heap f fl ∧ NR X.b s'.heap F η' ∧ CR X.b s'.heap σ' ∧ Step F.own σ σ' s s' ∧ Q fl η' σ'

noncomputable def EV (X : Ctx) (n : Nat) (F : Fm) (η : Names) (σ : Store) (e : Expr) (Q : D → Store → Prop) : Prop :=
  ∀ A s, FmOk X.b F → OkA n A → NR X.b s.heap F η → CR X.b s.heap σ → wpAny (model X.prog X.w) A (eval e F.env) (PostV X σ s Q) NoE s
noncomputable def ET (X : Ctx) (n : Nat) (F : Fm) (η : Names) (σ : Store) (e : Expr) (Q : Bool → Store → Prop) : Prop :=
  ∀ A s, FmOk X.b F → OkA n A → NR X.b s.heap F η → CR X.b s.heap σ → wpAny (model X.prog X.w) A (isTrue e F.env (eval e F.env)) (PostB X σ s Q) NoE s
noncomputable def EX (X : Ctx) (n : Nat) (F : Fm) (η : Names) (σ : Store) (st : Stmt) (Q : Fl → Names → Store → Prop) : Prop :=
  ∀ A s, FmOk X.b F → OkA n A → NR X.b s.heap F η → CR X.b s.heap σ → wpAny (model X.prog X.w) A (exec st F.env) (PostF X F σ s Q) NoE s
noncomputable def EXS (X : Ctx) (n : Nat) (F : Fm) (η : Names) (σ : Store) (sts : List Stmt) (Q : Fl → Names → Store → Prop) : Prop :=
  ∀ A s, FmOk X.b F → OkA n A → NR X.b s.heap F η → CR X.b s.heap σ → wpAny (model X.prog X.w) A (execs sts F.env) (PostF X F σ s Q) NoE s
/-- operations on values -/
noncomputable def OP1 (X : Ctx) (n : Nat) (t : Value → Sem Value) (d : D) (σ : Store) (Q : D → Store → Prop) : Prop :=
  ∀ A s v, OkA n A → CR X.b s.heap σ → VR X.b s.heap v d → wpAny (model X.prog X.w) A (t v) (PostV X σ s Q) NoE s
noncomputable def OP2 (X : Ctx) (n : Nat) (t : Value → Value → Sem Value) (d e : D) (σ : Store) (Q : D → Store → Prop) : Prop :=
  ∀ A s v u, OkA n A → CR X.b s.heap σ → VR X.b s.heap v d → VR X.b s.heap u e → wpAny (model X.prog X.w) A (t v u) (PostV X σ s Q) NoE s
noncomputable def OPN (X : Ctx) (n : Nat) (t : List Value → Sem Value) (ds : List D) (σ : Store) (Q : D → Store → Prop) : Prop :=
  ∀ A s vs, OkA n A → CR X.b s.heap σ → VRs X.b s.heap vs ds → wpAny (model X.prog X.w) A (t vs) (PostV X σ s Q) NoE s
noncomputable def FN (X : Ctx) (n : Nat) (name : Str) (ds : List D) (σ : Store) (Q : D → Store → Prop) : Prop :=
  ∀ A s vs a, OkA n A → CR X.b s.heap σ → X.mg name = some (.ref a) → VRs X.b s.heap vs ds → wpAny (model X.prog X.w) A (call (.ref a) vs) (PostV X σ s Q) NoE s

section
variable {X : Ctx} {n m : Nat} {F : Fm} {η : Names} {σ σ₁ σ' : Store} {s s₁ s' : Shared} {A : Around}

theorem OkA.le {A : Around} (h : OkA n A) (hm : m ≤ n) : OkA m A := ⟨h.1, by have := h.2.1; (first | lia | omega), by have := h.2.2; (first | lia | omega)⟩
theorem OkA.in1 (h : OkA (n + 1) A) : OkA n A.in1 := ⟨h.1, by have := h.2.1; show A.depth + n < _; (first | lia | omega), by have := h.2.2; show A.units + 1 + 20 * n + 1000 < _; (first | lia | omega)⟩
theorem OkA.deeper {env : Env} (h : OkA (n + 1) A) : OkA n (A.deeper env) := ⟨h.1, by have := h.2.1; simp only [Around.deeper]; (first | lia | omega), by have := h.2.2; simp only [Around.deeper_units]; (first | lia | omega)⟩
theorem OkA.room (h : OkA n A) : A.depth < recursionLimit := by have := h.2.1; (first | lia | omega)

theorem PostV.after {Q : D → Store → Prop} {v : Value} (y : Step noOwn σ σ₁ s s₁) (h : PostV X σ₁ s₁ Q v s') : PostV X σ s Q v s' := by
  obtain ⟨d, σ', r, c, st, q⟩ := h
  exact ⟨d, σ', r, c, y.trans st, q⟩
theorem PostB.after {Q : Bool → Store → Prop} {v : Bool} (y : Step noOwn σ σ₁ s s₁) (h : PostB X σ₁ s₁ Q v s') : PostB X σ s Q v s' := by
  obtain ⟨σ', c, st, q⟩ := h
  exact ⟨σ', c, y.trans st, q⟩
theorem PostF.after {Q : Fl → Names → Store → Prop} {f : Flow} (y : Step F.own σ σ₁ s s₁) (h : PostF X F σ₁ s₁ Q f s') : PostF X F σ s Q f s' := by
  obtain ⟨d, η', σ', r, c, c', st, q⟩ := h
  exact ⟨d, η', σ', r, c, c', y.trans st, q⟩
theorem PostV.mono {Q Q' : D → Store → Prop} {v : Value} (h : PostV X σ s Q v s') (hq : ∀ d σ', Q d σ' → Q' d σ') : PostV X σ s Q' v s' := by
  obtain ⟨d, σ', r, c, st, q⟩ := h
  exact ⟨d, σ', r, c, st, hq _ _ q⟩

/-- change only the objects and tokens -/
theorem wpAny_weak {α : Type} {M : Model} {t : Sem α} {Q Q' : α → Shared → Prop} (h : wpAny M A t Q NoE s) (hq : ∀ a s', Q a s' → Q' a s') {E : Value → Shared → Prop} : wpAny M A t Q' E s :=
  wpAny_mono h hq fun _ _ x => x.elim
end

section
variable {X : Ctx} {n : Nat} {F : Fm} {η η' : Names} {σ σ₁ : Store} {e : Expr}
theorem EV.mono {Q Q' : D → Store → Prop} (h : EV X n F η σ e Q) (hq : ∀ d σ', Q d σ' → Q' d σ') : EV X n F η σ e Q' :=
  fun A s a o b c => wpAny_weak (h A s a o b c) fun _ _ p => p.mono hq
end
end Mine

namespace Mine
open PySem PySem.W PyProof.Rows

section
variable {X : Ctx} {n : Nat} {F : Fm} {η : Names} {σ σ₁ : Store} {s : Shared} {Q : D → Store → Prop}

theorem PostV.toks {v : Value} {d : D} (tk : Nat) (r : VR X.b s.heap v d) (c : CR X.b s.heap σ) (h : Q d σ) : PostV X σ s Q v { s with toks := tk } :=
  ⟨d, σ, r, c, Step.grown (h' := s.heap) fun _ _ e => e, h⟩
theorem PostV.here {v : Value} {d : D} (r : VR X.b s.heap v d) (c : CR X.b s.heap σ) (h : Q d σ) : PostV X σ s Q v s := ⟨d, σ, r, c, .refl, h⟩
theorem PostV.push {v : Value} {d : D} {h' : Heap} (tk : Nat) (hk : ∀ a o, s.heap.get? a = some o → h'.get? a = some o) (r : VR X.b h' v d) (c : CR X.b s.heap σ) (h : Q d σ) : PostV X σ s Q v { s with heap := h', toks := tk } :=
  ⟨d, σ, r, c.grown hk, Step.grown hk, h⟩
/-! constants and names -/
theorem E_int {i : Int} {k : Nat} {pos : Pos} (h : Q (.int i) σ) : EV X n F η σ (.Constant (.int i) k pos) Q :=
  fun _ _ _ _ _ cr => wpAny_Constant_int (PostV.toks _ (.int i _) cr h)
theorem E_str {x : Str} {k : Nat} {pos : Pos} (h : Q (.str x) σ) : EV X n F η σ (.Constant (.str x) k pos) Q :=
  fun _ _ _ _ _ cr => Calls.Constant_str (PostV.toks _ (.str x _) cr h)
theorem E_bool {x : Bool} {k : Nat} {pos : Pos} (h : Q (.bool x) σ) : EV X n F η σ (.Constant (.bool x) k pos) Q :=
  fun _ _ _ _ _ cr => by rw [eval_Constant]; exact wpAny_pure (PostV.here (.bool x) cr h)
theorem E_none {k : Nat} {pos : Pos} (h : Q .none σ) : EV X n F η σ (.Constant .none k pos) Q :=
  fun _ _ _ _ _ cr => by rw [eval_Constant]; exact wpAny_pure (PostV.here .none cr h)

noncomputable def isVar (sc : Scope) (x : Str) : Bool := (match sc.names.lookup x with
  | some .local => true
  | some .cell => true
  | some .free => true
  | _ => false) && !(x == ("__debug__" : Str)) && !(x == ("__classdict__" : Str))
theorem isVar_cases {sc : Scope} {x : Str} (h : isVar sc x = true) : (sc.names.lookup x = some .local ∨ sc.names.lookup x = some .cell ∨ sc.names.lookup x = some .free) ∧ (x == ("__debug__" : Str)) = false ∧ (x == ("__classdict__" : Str)) = false := by
  unfold isVar at h
  rw [Bool.and_eq_true, Bool.and_eq_true, Bool.not_eq_true', Bool.not_eq_true'] at h
  refine ⟨?_, h.1.2, h.2⟩
  have := h.1.1
  split at this
  · rename_i e; exact .inl e
  · rename_i e; exact .inr (.inl e)
  · rename_i e; exact .inr (.inr e)
  · cases this

theorem wpAny_load_var {x : Str} {d : D} {A : Around} {E : Value → Shared → Prop} (fo : FmOk X.b F) (nr : NR X.b s.heap F η) (cr : CR X.b s.heap σ) (hk : isVar F.sc x = true) (hη : η x = some d) (h : Q d σ) :
    wpAny (model X.prog X.w) A (loadName F.env x) (PostV X σ s Q) E s := by
  obtain ⟨hl, _, hc⟩ := isVar_cases hk
  rcases hl with hl | hl | hl
  · obtain ⟨m, hn, hm⟩ := nr.ns
    obtain ⟨v, e, r⟩ := hm x d hl hη
    exact wpAny_loadName_local fo.kind (fo.loc x hl) hn e (PostV.here r cr h)
  · obtain ⟨k, c, hlk, _⟩ := fo.cel x hl
    obtain ⟨vo, ic, r⟩ := nr.cells x c hlk
    obtain ⟨v, rfl, r'⟩ := r d (.inl hl) hη
    exact wpAny_loadName_cell fo.kind k hlk ic (PostV.here r' cr h)
  · obtain ⟨k, c, hlk⟩ := fo.fre x hl
    obtain ⟨vo, ic, r⟩ := nr.cells x c hlk
    obtain ⟨v, rfl, r'⟩ := r d (.inr hl) hη
    rcases k with k | k
    · exact wpAny_loadName_cell fo.kind k hlk ic (PostV.here r' cr h)
    · exact wpAny_loadName_free fo.kind k hlk ic (PostV.here r' cr h) hc
theorem E_name {x : Str} {pos : Pos} {d : D} (hk : isVar F.sc x = true) (hη : η x = some d) (h : Q d σ) : EV X n F η σ (.Name x pos) Q :=
  fun _ _ fo _ nr cr => wpAny_Name (wpAny_load_var fo nr cr hk hη h) (isVar_cases hk).2.1

/-! two operands -/
theorem E_bin {l r : Expr} {op : Operator} {pos : Pos} (h : EV X n F η σ l fun d σ₁ => EV X n F η σ₁ r fun e σ₂ => OP2 X n (binaryOp op) d e σ₂ Q) : EV X n F η σ (.BinOp l op r pos) Q :=
  fun A s fo ao nr cr => wpAny_BinOp (wpAny_weak (h A s fo ao nr cr) fun v s₁ p => by
    obtain ⟨d, σ₁, r1, c1, st1, q⟩ := p
    refine wpAny_weak (q A s₁ fo ao (nr.step cr st1) c1) fun u s₂ p => ?_
    obtain ⟨e, σ₂, r2, c2, st2, q⟩ := p
    exact wpAny_weak (q A s₂ v u ao c2 (r1.step c1 st2) r2) fun y s₃ p => PostV.after (st1.trans st2) p)
theorem E_cmp {l r : Expr} {op : CmpOp} {pos : Pos} (h : EV X n F η σ l fun d σ₁ => EV X n F η σ₁ r fun e σ₂ => OP2 X n (compareOp op) d e σ₂ Q)
    (hm : behindInMarks op r = false := by with_unfolding_all rfl) : EV X n F η σ (.Compare l [op] [r] pos) Q :=
  fun A s fo ao nr cr => wpAny_Compare1 (wpAny_weak (h A s fo ao nr cr) fun v s₁ p => by
    obtain ⟨d, σ₁, r1, c1, st1, q⟩ := p
    refine wpAny_weak (q A s₁ fo ao (nr.step cr st1) c1) fun u s₂ p => ?_
    obtain ⟨e, σ₂, r2, c2, st2, q⟩ := p
    exact wpAny_weak (q A s₂ v u ao c2 (r1.step c1 st2) r2) fun y s₃ p => PostV.after (st1.trans st2) p) hm
/-- the answer is a bool and nothing is made -/
theorem T_cmp {l r : Expr} {op : CmpOp} {pos : Pos} {Q : Bool → Store → Prop} (h : EV X n F η σ l fun d σ₁ => EV X n F η σ₁ r fun e σ₂ => OP2 X n (compareOp op) d e σ₂ fun y σ₃ => ∃ t, y = .bool t ∧ Q t σ₃)
    (hm : behindInMarks op r = false := by with_unfolding_all rfl) : ET X n F η σ (.Compare l [op] [r] pos) Q :=
  fun A s fo ao nr cr => wpAny_isTrue_Compare1 (wpAny_weak (h A s fo ao nr cr) fun v s₁ p => by
    obtain ⟨d, σ₁, r1, c1, st1, q⟩ := p
    refine wpAny_weak (q A s₁ fo ao (nr.step cr st1) c1) fun u s₂ p => ?_
    obtain ⟨e, σ₂, r2, c2, st2, q⟩ := p
    refine wpAny_weak (q A s₂ v u ao c2 (r1.step c1 st2) r2) fun y s₃ p => ?_
    obtain ⟨y', σ₃, r3, c3, st3, t, rfl, q⟩ := p
    cases r3
    exact wpAny_truthy_bool ⟨σ₃, c3, (st1.trans st2).trans st3, q⟩) hm
theorem T_plain {e : Expr} {Q : Bool → Store → Prop} (h : EV X n F η σ e fun d σ₁ => ∃ t, d = .bool t ∧ Q t σ₁)
    (he : ∀ env whole, isTrue e env whole = (do let v ← whole; standAt e.pos; holding [v] (truthy v)) := by intro _ _; rfl) : ET X n F η σ e Q :=
  fun A s fo ao nr cr => isTrue_plain (wpAny_weak (h A s fo ao nr cr) fun v s₁ p => by
    obtain ⟨d, σ₁, r, c, st, t, rfl, q⟩ := p
    cases r
    exact wpAny_truthy_bool ⟨σ₁, c, st, q⟩) (he _ _)
theorem T_not {x : Expr} {pos : Pos} {Q : Bool → Store → Prop} (h : ET X n F η σ x fun t σ₁ => Q (!t) σ₁) : ET X n F η σ (.UnaryOp .Not x pos) Q :=
  fun A s fo ao nr cr => by
    show wpAny _ A (do return !(← isTrue x F.env (eval x F.env))) _ _ s
    exact wpAny_bind (wpAny_weak (h A s fo ao nr cr) fun t s₁ p => wpAny_pure (by obtain ⟨σ₁, c, st, q⟩ := p; exact ⟨σ₁, c, st, q⟩))
/-- and, or in a test -/
theorem T_and {x y : Expr} {pos : Pos} {Q : Bool → Store → Prop} (h : ET X n F η σ x fun t σ₁ => if t then ET X n F η σ₁ y Q else Q false σ₁) : ET X n F η σ (.BoolOp .And [x, y] pos) Q :=
  fun A s fo ao nr cr => by
    show wpAny _ A (do
      match BoolOp.And, ← isTrue x F.env (eval x F.env) with
      | .And, false => pure false
      | .Or, true => pure true
      | _, _ => allTrue .And [y] F.env) _ _ s
    refine wpAny_bind (wpAny_weak (h A s fo ao nr cr) fun t s₁ p => ?_)
    obtain ⟨σ₁, c, st, q⟩ := p
    cases t with
    | false => exact wpAny_pure ⟨σ₁, c, st, q⟩
    | true =>
      show wpAny _ A (do
        match BoolOp.And, ← isTrue y F.env (eval y F.env) with
        | .And, false => pure false
        | .Or, true => pure true
        | _, _ => allTrue .And [] F.env) _ _ s₁
      refine wpAny_bind (wpAny_weak ((by simpa using q : ET X n F η σ₁ y Q) A s₁ fo ao (nr.step cr st) c) fun t s₂ p => ?_)
      cases t <;> exact wpAny_pure (PostB.after st p)
theorem T_or {x y : Expr} {pos : Pos} {Q : Bool → Store → Prop} (h : ET X n F η σ x fun t σ₁ => if t then Q true σ₁ else ET X n F η σ₁ y Q) : ET X n F η σ (.BoolOp .Or [x, y] pos) Q :=
  fun A s fo ao nr cr => by
    show wpAny _ A (do
      match BoolOp.Or, ← isTrue x F.env (eval x F.env) with
      | .And, false => pure false
      | .Or, true => pure true
      | _, _ => allTrue .Or [y] F.env) _ _ s
    refine wpAny_bind (wpAny_weak (h A s fo ao nr cr) fun t s₁ p => ?_)
    obtain ⟨σ₁, c, st, q⟩ := p
    cases t with
    | true => exact wpAny_pure ⟨σ₁, c, st, q⟩
    | false =>
      show wpAny _ A (do
        match BoolOp.Or, ← isTrue y F.env (eval y F.env) with
        | .And, false => pure false
        | .Or, true => pure true
        | _, _ => allTrue .Or [] F.env) _ _ s₁
      refine wpAny_bind (wpAny_weak ((by simpa using q : ET X n F η σ₁ y Q) A s₁ fo ao (nr.step cr st) c) fun t s₂ p => ?_)
      cases t <;> exact wpAny_pure (PostB.after st p)
theorem E_ifexp {test body orelse : Expr} {pos : Pos} (h : ET X n F η σ test fun t σ₁ => if t then EV X n F η σ₁ body Q else EV X n F η σ₁ orelse Q) : EV X n F η σ (.IfExp test body orelse pos) Q :=
  fun A s fo ao nr cr => wpAny_IfExp (wpAny_weak (h A s fo ao nr cr) fun t s₁ p => by
    obtain ⟨σ₁, c, st, q⟩ := p
    cases t with
    | true => exact wpAny_weak ((by simpa using q : EV X n F η σ₁ body Q) A s₁ fo ao (nr.step cr st) c) fun _ _ p => PostV.after st p
    | false => exact wpAny_weak ((by simpa using q : EV X n F η σ₁ orelse Q) A s₁ fo ao (nr.step cr st) c) fun _ _ p => PostV.after st p)

/-! lists of expressions -/
noncomputable def EVS (X : Ctx) (n : Nat) (F : Fm) (η : Names) (σ : Store) (es : List Expr) (Q : List D → Store → Prop) : Prop :=
  ∀ A s pos, FmOk X.b F → OkA n A → NR X.b s.heap F η → CR X.b s.heap σ → wpAny (model X.prog X.w) A (spliced (backTo pos (starEach es F.env))) (PostVs X σ s Q) NoE s
theorem S_nil {Q : List D → Store → Prop} (h : Q [] σ) : EVS X n F η σ [] Q :=
  fun _ _ _ _ _ _ cr => Calls.spliced_nil ⟨[], σ, .nil, cr, .refl, h⟩
theorem S_cons {e : Expr} {es : List Expr} {Q : List D → Store → Prop} (h : EV X n F η σ e fun d σ₁ => EVS X n F η σ₁ es fun ds σ₂ => Q (d :: ds) σ₂)
    (hs : ∀ env, starEach (e :: es) env = (false, eval e env) :: starEach es env := by intro _; rfl) : EVS X n F η σ (e :: es) Q :=
  fun A s pos fo ao nr cr => by
    rw [hs]
    show wpAny _ A (spliced ((false, eval e F.env) :: backTo pos (starEach es F.env))) _ _ s
    refine Calls.spliced_cons (wpAny_weak (h A s fo ao nr cr) fun v s₁ p => ?_)
    obtain ⟨d, σ₁, r, c, st, q⟩ := p
    refine wpAny_weak (q A s₁ pos fo ao (nr.step cr st) c) fun vs s₂ p => ?_
    obtain ⟨ds, σ₂, rs, c2, st2, q⟩ := p
    exact ⟨d :: ds, σ₂, .cons (r.step c st2) rs, c2, st.trans st2, q⟩

theorem wpAny_new_list {vs : List Value} {ds : List D} {A : Around} (r : VRs X.b s.heap vs ds) (cr : CR X.b s.heap σ) (hz : ds.length ≤ sizeLine) (h : ∀ a, σ a = none → Q (.lst a) (σ.put a ds)) :
    wpAny (model X.prog X.w) A (newList vs) (PostV X σ s Q) NoE s := by
  have hk : ∀ a o, s.heap.get? a = some o → (s.heap.push (lstO vs 0)).get? a = some o := fun _ _ e => Heap.get?_push_of_some _ e
  have hn : s.heap.get? s.heap.objs.size = none := by
    cases e : s.heap.get? s.heap.objs.size with
    | none => rfl
    | some o => exact absurd (Heap.lt_size e) (Nat.lt_irrefl _)
  refine wpAny_newObj_type ⟨.lst _, σ.put s.heap.objs.size ds, .lst _, cr.new (vs := vs) (n := 0) hk hn (Heap.get?_push_size _ rfl) (r.mono fun a o e _ => hk a o e), Step.new hk hn, h _ (cr.none_of_fresh hn)⟩ ?_
  show vs.toArray.size ≤ sizeLine
  rw [List.size_toArray, r.length]; exact hz
theorem wpAny_new_tuple {vs : List Value} {ds : List D} {A : Around} (r : VRs X.b s.heap vs ds) (cr : CR X.b s.heap σ) (hz : ds.length ≤ sizeLine) (h : Q (.tup ds) σ) :
    wpAny (model X.prog X.w) A (newTuple vs) (PostV X σ s Q) NoE s := by
  have hk : ∀ a o, s.heap.get? a = some o → (s.heap.push (tupO vs 0)).get? a = some o := fun _ _ e => Heap.get?_push_of_some _ e
  refine wpAny_newObj_type ⟨.tup ds, σ, .tup (vs := vs) (n := 0) (Heap.get?_push_size _ rfl) (r.mono fun a o e _ => hk a o e), cr.grown hk, Step.grown hk, h⟩ ?_
  show vs.toArray.size ≤ sizeLine
  rw [List.size_toArray, r.length]; exact hz
theorem E_list {es : List Expr} {pos : Pos} (h : EVS X n F η σ es fun ds σ₁ => ds.length ≤ sizeLine ∧ ∀ a, σ₁ a = none → Q (.lst a) (σ₁.put a ds)) : EV X n F η σ (.List es pos) Q :=
  fun A s fo ao nr cr => List_ (wpAny_weak (h A s pos fo ao nr cr) fun vs s₁ p => by
    obtain ⟨ds, σ₁, r, c, st, hz, q⟩ := p
    exact wpAny_weak (wpAny_new_list r c hz q) fun _ _ p => PostV.after st p)
theorem E_tuple {es : List Expr} {k : Nat} {pos : Pos} (h : EVS X n F η σ es fun ds σ₁ => ds.length ≤ sizeLine ∧ Q (.tup ds) σ₁) : EV X n F η σ (.Tuple es k pos) Q :=
  fun A s fo ao nr cr => Tuple_ (wpAny_weak (h A s pos fo ao nr cr) fun vs s₁ p => by
    obtain ⟨ds, σ₁, r, c, st, hz, q⟩ := p
    exact wpAny_weak (wpAny_new_tuple r c hz q) fun _ _ p => PostV.after st p)

/-! calls -/
noncomputable def isGlob (sc : Scope) (x : Str) : Bool := (match sc.names.lookup x with
  | some .globalImplicit => true
  | _ => false) && !(x == ("__debug__" : Str))
theorem isGlob_cases {sc : Scope} {x : Str} (h : isGlob sc x = true) : sc.names.lookup x = some .globalImplicit ∧ (x == ("__debug__" : Str)) = false := by
  unfold isGlob at h
  rw [Bool.and_eq_true, Bool.not_eq_true'] at h
  refine ⟨?_, h.2⟩
  have := h.1
  split at this
  · assumption
  · cases this
theorem CR.mg {h : Heap} (cr : CR X.b h σ) : h.Ns mainGlobals X.mg := X.top.g.keeps cr.base
theorem CR.mb {h : Heap} (cr : CR X.b h σ) : h.Ns builtinsNs X.mb := X.top.b.keeps cr.base
theorem wpAny_global {x : Str} {pos : Pos} {v : Value} {A : Around} {E : Value → Shared → Prop} {R : Value → Shared → Prop} (fo : FmOk X.b F) (cr : CR X.b s.heap σ) (hg : isGlob F.sc x = true) (hv : X.mg x = some v) (h : R v s) :
    wpAny (model X.prog X.w) A (eval (.Name x pos) F.env) R E s :=
  Calls.Name_function_global fo.kind (fo.glo x (isGlob_cases hg).1) (Calls.loadGlobal_global (by rw [fo.glob]; exact cr.mg) hv h) (isGlob_cases hg).2
theorem wpAny_builtin {x : Str} {pos : Pos} {v : Value} {A : Around} {E : Value → Shared → Prop} {R : Value → Shared → Prop} (fo : FmOk X.b F) (cr : CR X.b s.heap σ) (hg : isGlob F.sc x = true) (hm : X.mg x = none) (hv : X.mb x = some v) (h : R v s) :
    wpAny (model X.prog X.w) A (eval (.Name x pos) F.env) R E s :=
  Calls.Name_function_global fo.kind (fo.glo x (isGlob_cases hg).1) (Calls.loadGlobal_builtin (by rw [fo.glob]; exact cr.mg) hm (by rw [fo.blt]; exact cr.mb) hv h) (isGlob_cases hg).2

/-- a global that is data: ints -/
theorem E_glob {x : Str} {pos : Pos} {d : D} (hg : isGlob F.sc x = true) (hv : ∃ v, X.mg x = some v ∧ ∀ h', VR X.b h' v d) (h : Q d σ) : EV X n F η σ (.Name x pos) Q :=
  fun A s fo ao nr cr => by
    obtain ⟨v, hv, r⟩ := hv
    exact wpAny_global fo cr hg hv (PostV.here (r _) cr h)

theorem wpAny_evalArgs {A : Around} {f : Value} {e : Expr} {es : List Expr} {pos : Pos} {R : Args → Shared → Prop}
    (hs : ∀ env, starEach (e :: es) env = (false, eval e env) :: starEach es env)
    (h : wpAny (model X.prog X.w) A (spliced (backTo pos (starEach (e :: es) F.env))) (fun vs s' => R ⟨vs, []⟩ s') NoE s) :
    wpAny (model X.prog X.w) A (evalArgs f true (backTo pos (starEach (e :: es) F.env)) []) R NoE s := by
  rw [hs] at h ⊢
  exact Calls.evalArgs_plain h

noncomputable def plainArgs (es : List Expr) : Bool := es.all fun e => match e with | .Starred .. => false | _ => true
theorem plainArgs_star {es : List Expr} (h : plainArgs es = true) : ∀ env, starEach es env = es.map fun e => (false, eval e env) := by
  induction es with
  | nil => intro _; rfl
  | cons e es ih =>
    intro env
    unfold plainArgs at h
    rw [List.all_cons, Bool.and_eq_true] at h
    have := ih h.2 env
    cases e <;> first | (cases h.1; done) | (show (false, _) :: starEach es env = _; rw [this]; rfl)
theorem plainArgs_any {es : List Expr} (h : plainArgs es = true) (pos : Pos) (env : Env) : (backTo pos (starEach es env)).any (·.1) = false := by
  rw [plainArgs_star h]
  unfold backTo
  simp

/-- a built-in by its name -/
theorem E_call {x : Str} {p pos : Pos} {e : Expr} {es : List Expr} {id : String} (hg : isGlob F.sc x = true) (hm : X.mg x = none) (hv : X.mb x = some (.builtin id)) (hp : plainArgs (e :: es) = true)
    (h : EVS X n F η σ (e :: es) fun ds σ₁ => OPN X n (fun vs => call (.builtin id) vs) ds σ₁ Q) : EV X n F η σ (.Call (.Name x p) (e :: es) [] pos) Q :=
  fun A s fo ao nr cr => by
    refine Call_Name rfl (wpAny_builtin fo cr hg hm hv ?_)
    refine Calls.callWith_builtin (plainArgs_any hp _ _) (wpAny_evalArgs (fun env => by rw [plainArgs_star hp, plainArgs_star (es := es) (by unfold plainArgs at hp ⊢; rw [List.all_cons, Bool.and_eq_true] at hp; exact hp.2)]; rfl) ?_)
    refine wpAny_weak (h A s pos fo ao nr cr) fun vs s₁ p => ?_
    obtain ⟨ds, σ₁, r, c, st, q⟩ := p
    exact wpAny_weak (q A s₁ vs ao c r) fun _ _ p => PostV.after st p

/-- a def of the text -/
theorem E_fn {x : Str} {p pos : Pos} {e : Expr} {es : List Expr} {d : DefRec} (hd : d ∈ recsOf X.p) (hx : d.name = x) (hg : isGlob F.sc x = true) (hp : plainArgs (e :: es) = true)
    (h : EVS X n F η σ (e :: es) fun ds σ₁ => FN X n x ds σ₁ Q) : EV X n F η σ (.Call (.Name x p) (e :: es) [] pos) Q :=
  fun A s fo ao nr cr => by
    subst hx
    obtain ⟨a, o, pm, code, doc, hma, ho, hdat, hcd⟩ := X.top.fn d hd
    refine Call_Name rfl (wpAny_global fo cr hg hma ?_)
    refine Calls.callWith_function (o := o) (fd := Calls.docDef d.name d.params d.body d.scope pm code doc) (wpAny_evalArgs (fun env => by rw [plainArgs_star hp, plainArgs_star (es := es) (by unfold plainArgs at hp ⊢; rw [List.all_cons, Bool.and_eq_true] at hp; exact hp.2)]; rfl) ?_)
    refine wpAny_weak (h A s pos fo ao nr cr) fun vs s₁ p => ?_
    obtain ⟨ds, σ₁, r, c, st, q⟩ := p
    exact ⟨⟨c.base _ _ ho, hdat⟩, wpAny_weak (q A s₁ vs a ao c hma r) fun _ _ p => PostV.after st p⟩
end
end Mine

namespace Mine
open PySem PySem.W PyProof.Rows

section
variable {X : Ctx} {n : Nat} {F : Fm} {η η' : Names} {σ σ₁ σ' : Store} {s s₁ s' : Shared} {A : Around} {Q : Fl → Names → Store → Prop}

theorem Names.put_self (η : Names) (x : Str) (d : D) : (η.put x d) x = some d := by unfold Names.put; simp
theorem Names.put_other (η : Names) {x y : Str} (d : D) (h : y ≠ x) : (η.put x d) y = η y := by unfold Names.put; simp [h]

noncomputable def isOwnVar (sc : Scope) (x : Str) : Bool := match sc.names.lookup x with
  | some .local => true
  | some .cell => true
  | _ => false

/-- what a store of a name leaves -/
noncomputable def PostN (X : Ctx) (F : Fm) (η : Names) (σ : Store) (s s' : Shared) : Prop :=
  NR X.b s'.heap F η ∧ CR X.b s'.heap σ ∧ Step F.own σ σ s s' ∧ (∀ a o, s.heap.get? a = some o → isTupObj o → s'.heap.get? a = some o)

theorem NR.boxes (nr : NR X.b s.heap F η) : ∀ a, F.own a → ∀ o, s.heap.get? a = some o → isBox o := fun a ha o e => by
  obtain ⟨o', e', q⟩ := nr.box a ha
  rw [e] at e'; cases e'; exact q

/-- an own box is written: all else stays -/
theorem CR.boxWrite {h h' : Heap} {c : Addr} {o : Obj} (cr : CR X.b h σ) (hb : X.b.get? c = none) (e : h.get? c = some o) (hx : isBox o) (hk : ∀ b o, b ≠ c → h.get? b = some o → h'.get? b = some o) : CR X.b h' σ := by
  have ht : ∀ a o, h.get? a = some o → isTupObj o → h'.get? a = some o := fun a o' e' t => hk a o' (fun q => by subst q; rw [e] at e'; cases e'; exact not_tup_of_box hx t) e'
  refine ⟨fun a o' e' => hk a o' (fun q => by subst q; rw [hb] at e'; cases e') (cr.base a o' e'), fun a ds z => ?_, cr.fresh⟩
  obtain ⟨vs, n, e', r⟩ := cr.store a ds z
  exact ⟨vs, n, hk _ _ (fun q => by subst q; rw [e] at e'; cases e'; exact not_list_of_box hx ⟨vs, n, rfl⟩) e', r.mono ht⟩

theorem wpAny_store_var {x : Str} {v : Value} {d : D} {E : Value → Shared → Prop} {R : Unit → Shared → Prop} (fo : FmOk X.b F) (nr : NR X.b s.heap F η) (cr : CR X.b s.heap σ) (hk : isOwnVar F.sc x = true) (r : VR X.b s.heap v d)
    (h : ∀ s', PostN X F (η.put x d) σ s s' → R () s') : wpAny (model X.prog X.w) A (storeName F.env x v) R E s := by
  unfold isOwnVar at hk
  split at hk
  · rename_i hl
    obtain ⟨m, hn, hm⟩ := nr.ns
    refine wpAny_storeName_local (fo.loc x hl) hn (fun h' hn' hs => h _ ?_) (by rw [fo.kind]; rfl)
    obtain ⟨oL, eL, bL⟩ := box_of_ns hn
    have hkp : ∀ b o, b ≠ F.env.locals → s.heap.get? b = some o → h'.get? b = some o := hs.extBut
    have ht : ∀ a o, s.heap.get? a = some o → isTupObj o → h'.get? a = some o := fun a o e t => hkp a o (fun q => by subst q; rw [eL] at e; cases e; exact not_tup_of_box bL t) e
    refine ⟨⟨⟨_, hn', fun y d' hy hd => ?_⟩, fun y c hc => ?_, fun a ha => ?_⟩, cr.boxWrite (fo.bnew _ fo.ownL) eL bL hkp, ⟨fun a o e _ n => hkp a o (fun q => n (q ▸ fo.ownL)) e, fun a o e _ _ => ?_, fun _ _ _ z => z, fun _ _ e => e, rfl, rfl, fun h => h⟩, ht⟩
    · by_cases q : y = x
      · subst q; rw [Names.put_self] at hd; cases hd; exact ⟨v, by simp, r.mono ht⟩
      · rw [Names.put_other η d q] at hd
        obtain ⟨u, e, r'⟩ := hm y d' hy hd
        exact ⟨u, by simp [q, e], r'.mono ht⟩
    · obtain ⟨vo, ic, hr⟩ := nr.cells y c hc
      refine ⟨vo, ic.sameBut hs (fo.celL y c hc), fun d' hy hd => ?_⟩
      have q : y ≠ x := fun q => by subst q; rw [hl] at hy; rcases hy with hy | hy <;> cases hy
      rw [Names.put_other η d q] at hd
      obtain ⟨u, e, r'⟩ := hr d' hy hd
      exact ⟨u, e, r'.mono ht⟩
    · by_cases q : a = F.env.locals
      · subst q; exact box_of_ns hn'
      · obtain ⟨o, e, bx⟩ := nr.box a ha
        exact ⟨o, hkp a o q e, bx⟩
    · by_cases q : a = F.env.locals
      · subst q; obtain ⟨o', e', _⟩ := box_of_ns hn'; exact ⟨o', e'⟩
      · exact ⟨o, hkp a o q e⟩
  · rename_i hl
    obtain ⟨kx, c, hc, oc⟩ := fo.cel x hl
    obtain ⟨vo, ic, hr⟩ := nr.cells x c hc
    refine wpAny_storeName_cell fo.kind kx hc ic fun h' ic' hs => h _ ?_
    obtain ⟨oL, eL, bL⟩ := box_of_cell ic
    have hkp : ∀ b o, b ≠ c → s.heap.get? b = some o → h'.get? b = some o := hs.extBut
    have ht : ∀ a o, s.heap.get? a = some o → isTupObj o → h'.get? a = some o := fun a o e t => hkp a o (fun q => by subst q; rw [eL] at e; cases e; exact not_tup_of_box bL t) e
    refine ⟨⟨?_, fun y c' hc' => ?_, fun a ha => ?_⟩, cr.boxWrite (fo.bnew _ oc) eL bL hkp, ⟨fun a o e _ n => hkp a o (fun q => n (q ▸ oc)) e, fun a o e _ _ => ?_, fun _ _ _ z => z, fun _ _ e => e, rfl, rfl, fun h => h⟩, ht⟩
    · obtain ⟨m, hn, hm⟩ := nr.ns
      refine ⟨m, hn.sameBut hs (Ne.symm (fo.celL x c hc)), fun y d' hy hd => ?_⟩
      have q : y ≠ x := fun q => by subst q; rw [hl] at hy; cases hy
      rw [Names.put_other η d q] at hd
      obtain ⟨u, e, r'⟩ := hm y d' hy hd
      exact ⟨u, e, r'.mono ht⟩
    · by_cases q : y = x
      · subst q
        rw [hc] at hc'; cases hc'
        refine ⟨some v, ic', fun d' _ hd => ?_⟩
        rw [Names.put_self] at hd; cases hd
        exact ⟨v, rfl, r.mono ht⟩
      · obtain ⟨vo', ic₂, hr₂⟩ := nr.cells y c' hc'
        refine ⟨vo', ic₂.sameBut hs (fun z => q (fo.apart y x c (z ▸ hc') hc)), fun d' hy hd => ?_⟩
        rw [Names.put_other η d q] at hd
        obtain ⟨u, e, r'⟩ := hr₂ d' hy hd
        exact ⟨u, e, r'.mono ht⟩
    · by_cases q : a = c
      · subst q; exact box_of_cell ic'
      · obtain ⟨o, e, bx⟩ := nr.box a ha
        exact ⟨o, hkp a o q e, bx⟩
    · by_cases q : a = c
      · subst q; obtain ⟨o', e', _⟩ := box_of_cell ic'; exact ⟨o', e'⟩
      · exact ⟨o, hkp a o q e⟩
  · cases hk

/-! statements -/
theorem X_nil (h : Q .next η σ) : EXS X n F η σ [] Q := fun _ _ _ _ nr cr => wpAny_execs_nil ⟨.next, η, σ, .next, nr, cr, .refl, h⟩
theorem X_cons {st : Stmt} {sts : List Stmt} (h : EX X n F η σ st fun fl η₁ σ₁ => match fl with
    | .next => EXS X n F η₁ σ₁ sts Q
    | fl => Q fl η₁ σ₁) : EXS X n F η σ (st :: sts) Q :=
  fun A s fo ao nr cr => wpAny_execs_cons (wpAny_weak (h A s fo ao nr cr) fun f s₁ p => by
    obtain ⟨fl, η₁, σ₁, fr, nr1, c1, st1, q⟩ := p
    cases fr with
    | next => exact wpAny_weak (q A s₁ fo ao nr1 c1) fun _ _ p => PostF.after st1 p
    | brk => exact ⟨_, η₁, σ₁, .brk, nr1, c1, st1, q⟩
    | cont => exact ⟨_, η₁, σ₁, .cont, nr1, c1, st1, q⟩
    | ret r => exact ⟨_, η₁, σ₁, .ret r, nr1, c1, st1, q⟩)
theorem EX.mono {st : Stmt} {Q' : Fl → Names → Store → Prop} (h : EX X n F η σ st Q) (hq : ∀ f η σ, Q f η σ → Q' f η σ) : EX X n F η σ st Q' :=
  fun A s fo ao nr cr => wpAny_weak (h A s fo ao nr cr) fun _ _ p => by
    obtain ⟨fl, η₁, σ₁, a, b, c, d, q⟩ := p
    exact ⟨fl, η₁, σ₁, a, b, c, d, hq _ _ _ q⟩
theorem EXS.mono {st : List Stmt} {Q' : Fl → Names → Store → Prop} (h : EXS X n F η σ st Q) (hq : ∀ f η σ, Q f η σ → Q' f η σ) : EXS X n F η σ st Q' :=
  fun A s fo ao nr cr => wpAny_weak (h A s fo ao nr cr) fun _ _ p => by
    obtain ⟨fl, η₁, σ₁, a, b, c, d, q⟩ := p
    exact ⟨fl, η₁, σ₁, a, b, c, d, hq _ _ _ q⟩
theorem interactive_no (fo : FmOk X.b F) : interactive F.env = false := by unfold interactive; rw [fo.kind]; rfl

noncomputable def flat : D → Prop
  | .lst _ | .tup _ | .ints _ => False
  | _ => True
theorem X_expr {e : Expr} {pos : Pos} (h : EV X n F η σ e fun d σ₁ => flat d ∧ Q .next η σ₁) (hs : swapsWith e none pos.line F.env = pure false := by rfl) : EX X n F η σ (.Expr e pos) Q :=
  fun A s fo ao nr cr => wpAny_Expr (wpAny_weak (h A s fo ao nr cr) fun v s₁ p => by
    obtain ⟨d, σ₁, r, c, st, fl, q⟩ := p
    have fin : PostF X F σ s Q .next s₁ := ⟨.next, η, σ₁, .next, nr.step cr st, c, st.lift, q⟩
    cases r <;> first | exact fin | exact fl.elim) (interactive_no fo) hs
theorem X_return {e : Expr} {pos : Pos} (h : EV X n F η σ e fun d σ₁ => Q (.ret d) η σ₁) : EX X n F η σ (.Return (some e) pos) Q :=
  fun A s fo ao nr cr => wpAny_Return_some (wpAny_weak (h A s fo ao nr cr) fun v s₁ p => by
    obtain ⟨d, σ₁, r, c, st, q⟩ := p
    exact ⟨.ret d, η, σ₁, .ret r, nr.step cr st, c, st.lift, q⟩)
theorem X_if {test : Expr} {body orelse : List Stmt} {pos : Pos} (h : ET X n F η σ test fun t σ₁ => if t then EXS X n F η σ₁ body Q else EXS X n F η σ₁ orelse Q) : EX X n F η σ (.If test body orelse pos) Q :=
  fun A s fo ao nr cr => wpAny_If (wpAny_weak (h A s fo ao nr cr) fun t s₁ p => by
    obtain ⟨σ₁, c, st, q⟩ := p
    cases t with
    | true =>
      simp only [if_true] at q ⊢
      exact wpAny_weak (q A s₁ fo ao (nr.step cr st) c) fun _ _ p => PostF.after st.lift p
    | false =>
      simp only [Bool.false_eq_true, if_false] at q ⊢
      exact wpAny_weak (q A s₁ fo ao (nr.step cr st) c) fun _ _ p => PostF.after st.lift p)

theorem PostF.named {Q : Fl → Names → Store → Prop} (st : Step noOwn σ σ₁ s s₁) (p : PostN X F η' σ₁ s₁ s') (q : Q .next η' σ₁) : PostF X F σ s Q .next s' :=
  ⟨.next, η', σ₁, .next, p.1, p.2.1, st.lift.trans p.2.2.1, q⟩

theorem X_assign {x : Str} {p pos : Pos} {e : Expr} (hk : isOwnVar F.sc x = true) (h : EV X n F η σ e fun d σ₁ => Q .next (η.put x d) σ₁)
    (hs : swapsWith e (some (.Name x p)) pos.line F.env = pure false := by rfl) : EX X n F η σ (.Assign [.Name x p] e pos) Q :=
  fun A s fo ao nr cr => wpAny_Assign_Name (wpAny_weak (h A s fo ao nr cr) fun v s₁ p => by
    obtain ⟨d, σ₁, r, c, st, q⟩ := p
    exact wpAny_store_var fo (nr.step cr st) c hk r fun s₂ pn => PostF.named st pn q) hs
theorem X_aug {x : Str} {p pos : Pos} {op : Operator} {e : Expr} {d : D} (hk : isVar F.sc x = true) (ho : isOwnVar F.sc x = true) (hx : η x = some d)
    (h : EV X n F η σ e fun d' σ₁ => OP2 X n (inplaceOp op) d d' σ₁ fun d'' σ₂ => Q .next (η.put x d'') σ₂) : EX X n F η σ (.AugAssign (.Name x p) op e pos) Q :=
  fun A s fo ao nr cr => wpAny_AugAssign_Name (wpAny_weak (wpAny_load_var (Q := fun d' σ' => d' = d ∧ σ' = σ) fo nr cr hk hx ⟨rfl, rfl⟩) fun v s₁ p => by
    obtain ⟨d', σ', r, c, st, rfl, rfl⟩ := p
    refine wpAny_weak (h A s₁ fo ao (nr.step cr st) c) fun u s₂ p => ?_
    obtain ⟨e', σ₁, r1, c1, st1, q⟩ := p
    refine wpAny_weak (q A s₂ v u ao c1 (r.step c st1) r1) fun y s₃ p => ?_
    obtain ⟨d'', σ₂, r2, c2, st2, q⟩ := p
    have stt := (st.trans st1).trans st2
    exact wpAny_store_var fo (nr.step cr stt) c2 ho r2 fun s₄ pn => PostF.named stt pn q)

/-! stores into lists -/
theorem CR.setAt {h : Heap} {a : Addr} {ds : List D} {vs : List Value} {m : Nat} {v : Value} {d : D} {i : Nat} (cr : CR X.b h σ) (ha : σ a = some ds) (ho : h.get? a = some (lstO vs m)) (r : VRs X.b h vs ds) (rv : VR X.b h v d) :
    CR X.b (h.update a (Obj.mapSeq (·.setIfInBounds i v))) (σ.put a (ds.set i d)) := by
  have hk : ∀ c o, c ≠ a → h.get? c = some o → (h.update a (Obj.mapSeq (·.setIfInBounds i v))).get? c = some o := fun c o q e => (Heap.get?_update_other h _ (Ne.symm q)).trans e
  have ht : ∀ c o, h.get? c = some o → isTupObj o → (h.update a (Obj.mapSeq (·.setIfInBounds i v))).get? c = some o := fun c o e t => hk c o (fun q => by subst q; rw [ho] at e; cases e; exact not_tup_of_list ⟨vs, m, rfl⟩ t) e
  have z := PySem.IsL.update (items := vs.toArray) (n := m) ho (·.setIfInBounds i v)
  refine cr.write (vs := vs.set i v) ha hk (n := m) ?_ ((r.mono ht).set (rv.mono ht))
  rw [z]
  simp
theorem wpAny_set_list {l : Addr} {k : Int} {t : Tok} {v : Value} {d : D} {ds : List D} {E : Value → Shared → Prop} {R : Unit → Shared → Prop} (cr : CR X.b s.heap σ) (ha : σ l = some ds) (rv : VR X.b s.heap v d) (h0 : 0 ≤ k) (h1 : k < ds.length) (hz : ds.length ≤ sizeLine)
    (h : ∀ s', CR X.b s'.heap (σ.put l (ds.set k.toNat d)) → Step noOwn σ (σ.put l (ds.set k.toNat d)) s s' → R () s') : wpAny (model X.prog X.w) A (setItem (.ref l) (.int k t) v) R E s := by
  obtain ⟨vs, m, ho, r⟩ := cr.store l ds ha
  have hl := r.length
  have : (sizeLine : Int) < 2 ^ 63 := by rw [sizeLine_eq]; decide
  refine ki_setAt ho h0 (by (first | lia | omega)) (by simp; (first | lia | omega)) (h _ (cr.setAt ha ho r rv) ?_)
  exact Step.write (tk := s.toks) ha fun c o q e => (Heap.get?_update_other s.heap _ (Ne.symm q)).trans e

noncomputable def isPlainIdx : Expr → Bool
  | .Slice .. => false
  | _ => true
theorem X_setitem {o i e : Expr} {p pos : Pos} {Q : Fl → Names → Store → Prop}
    (h : EV X n F η σ e fun d σ₁ => EV X n F η σ₁ o fun l σ₂ => EV X n F η σ₂ i fun k σ₃ => ∃ a j ds, l = .lst a ∧ k = .int j ∧ σ₃ a = some ds ∧ 0 ≤ j ∧ j < ds.length ∧ ds.length ≤ sizeLine ∧ Q .next η (σ₃.put a (ds.set j.toNat d)))
    (hs : swapsWith e (some (.Subscript o i p)) pos.line F.env = pure false := by rfl) : EX X n F η σ (.Assign [.Subscript o i p] e pos) Q :=
  fun A s fo ao nr cr => wpAny_Assign_Subscript (wpAny_weak (h A s fo ao nr cr) fun v s₁ p => by
    obtain ⟨d, σ₁, r, c1, st1, q⟩ := p
    refine wpAny_weak (q A s₁ fo ao (nr.step cr st1) c1) fun lv s₂ p => ?_
    obtain ⟨l, σ₂, r2, c2, st2, q⟩ := p
    refine wpAny_weak (q A s₂ fo ao (nr.step cr (st1.trans st2)) c2) fun kv s₃ p => ?_
    obtain ⟨k, σ₃, r3, c3, st3, a, j, ds, rfl, rfl, ha, h0, h1, hz, q⟩ := p
    cases r2; cases r3
    have stt := (st1.trans st2).trans st3
    refine wpAny_set_list c3 ha (r.step c1 (st2.trans st3)) h0 h1 hz fun s₄ c4 st4 => ?_
    exact ⟨.next, η, _, .next, nr.step cr (stt.trans st4), c4, (stt.trans st4).lift, q⟩) hs
theorem X_augitem {o i e : Expr} {op : Operator} {p pos : Pos} {Q : Fl → Names → Store → Prop}
    (h : EV X n F η σ o fun l σ₁ => EV X n F η σ₁ i fun k σ₂ => ∃ a j ds old, l = .lst a ∧ k = .int j ∧ σ₂ a = some ds ∧ 0 ≤ j ∧ ds[j.toNat]? = some old ∧ ds.length ≤ sizeLine ∧
      EV X n F η σ₂ e fun d σ₃ => OP2 X n (inplaceOp op) old d σ₃ fun d' σ₄ => ∃ ds', σ₄ a = some ds' ∧ j < ds'.length ∧ ds'.length ≤ sizeLine ∧ Q .next η (σ₄.put a (ds'.set j.toNat d')))
    (hi : ∀ ov iv new, augStore i ov iv new = (do holding [new, ov, iv] (setItem ov iv new); release [new, ov, iv] []; pure .next) := by intros; rfl) : EX X n F η σ (.AugAssign (.Subscript o i p) op e pos) Q :=
  fun A s fo ao nr cr => wpAny_AugAssign_SubscriptAny (wpAny_weak (h A s fo ao nr cr) fun lv s₁ p => by
    obtain ⟨l, σ₁, r1, c1, st1, q⟩ := p
    refine wpAny_weak (q A s₁ fo ao (nr.step cr st1) c1) fun kv s₂ p => ?_
    obtain ⟨k, σ₂, r2, c2, st2, a, j, ds, old, rfl, rfl, ha, h0, hold, hz, q⟩ := p
    cases r1; cases r2
    obtain ⟨vs, m, ho, rs⟩ := c2.store a ds ha
    obtain ⟨ov, hov, rov⟩ := rs.get hold
    have hlt : j.toNat < ds.length := (List.getElem?_eq_some_iff.mp hold).1
    have hbig : (sizeLine : Int) < 2 ^ 63 := by rw [sizeLine_eq]; decide
    refine wpAny_getItem_list (items := vs.toArray) ⟨_, ho, rfl, m, rfl⟩ h0 (by (first | lia | omega)) (by simpa using hov) ?_
    refine wpAny_weak (q A s₂ fo ao (nr.step cr (st1.trans st2)) c2) fun u s₃ p => ?_
    obtain ⟨d, σ₃, r3, c3, st3, q⟩ := p
    refine wpAny_weak (q A s₃ ov u ao c3 (rov.step c2 st3) r3) fun y s₄ p => ?_
    obtain ⟨d', σ₄, r4, c4, st4, ds', ha', hj, hz', q⟩ := p
    refine wpAny_set_list c4 ha' r4 h0 hj hz' fun s₅ c5 st5 => ?_
    have stt := (((st1.trans st2).trans st3).trans st4).trans st5
    exact ⟨.next, η, _, .next, nr.step cr stt, c5, stt.lift, q⟩) hi

/-! tuples on the left -/
noncomputable def putAll : Names → List Str → List D → Names
  | η, x :: xs, d :: ds => putAll (η.put x d) xs ds
  | η, _, _ => η
noncomputable def namesOf : List Expr → Option (List Str)
  | [] => some []
  | .Name x _ :: r => (namesOf r).map (x :: ·)
  | _ => none
theorem assignEach_names : ∀ {es : List Expr} {xs : List Str}, namesOf es = some xs → ∀ env, ∃ ps : List Pos, ps.length = xs.length ∧ assignEach es env = (xs.zip ps).map fun xp => (false, assign (.Name xp.1 xp.2) env)
  | [], _, h, env => by cases h; exact ⟨[], rfl, rfl⟩
  | e :: r, xs, h, env => by
    cases e <;> try (cases h; done)
    rename_i x p
    unfold namesOf at h
    obtain ⟨ys, hy, rfl⟩ := Option.map_eq_some_iff.mp h
    obtain ⟨ps, hl, e⟩ := assignEach_names hy env
    refine ⟨p :: ps, by simp [hl], ?_⟩
    show (false, assign (.Name x p) env) :: assignEach r env = _
    rw [e]; rfl

theorem wpAny_storeAll {E : Value → Shared → Prop} {R : Unit → Shared → Prop} : ∀ (xs : List Str) (ps : List Pos) (vs : List Value) (ds : List D) (η : Names) (s : Shared), FmOk X.b F → NR X.b s.heap F η → CR X.b s.heap σ → VRs X.b s.heap vs ds → (∀ x ∈ xs, isOwnVar F.sc x = true) → ps.length = xs.length → ds.length = xs.length →
    (∀ s', PostN X F (putAll η xs ds) σ s s' → R () s') →
    wpAny (model X.prog X.w) A (assignInOrder ((xs.zip ps).map fun xp => assign (.Name xp.1 xp.2) F.env) vs) R E s
  | [], ps, vs, ds, η, s, fo, nr, cr, rs, ho, hp, hd, h => by
    have : ds = [] := List.length_eq_zero_iff.mp hd
    subst this
    have : vs = [] := by cases rs; rfl
    subst this
    exact wpAny_pure (h s ⟨nr, cr, .refl, fun _ _ e _ => e⟩)
  | x :: xs, [], vs, ds, η, s, fo, nr, cr, rs, ho, hp, hd, h => by simp at hp
  | x :: xs, p :: ps, vs, [], η, s, fo, nr, cr, rs, ho, hp, hd, h => by simp at hd
  | x :: xs, p :: ps, _, d :: ds, η, s, fo, nr, cr, .cons (v := v) (vs := vs) r rs, ho, hp, hd, h => by
    show wpAny _ _ (do holding vs (assign (.Name x p) F.env v); assignInOrder ((xs.zip ps).map fun xp => assign (.Name xp.1 xp.2) F.env) vs) _ _ s
    refine wpAny_bind (wpAny_holding (PySem.wpAny_assign_Name (wpAny_store_var fo nr cr (ho x List.mem_cons_self) r fun s₁ pn => ?_)))
    obtain ⟨nr1, cr1, st1, ht1⟩ := pn
    refine wpAny_storeAll xs ps vs ds (η.put x d) s₁ fo nr1 cr1 (rs.mono ht1) (fun y hy => ho y (List.mem_cons_of_mem _ hy)) (by simpa using hp) (by simpa using hd) fun s₂ pn => ?_
    exact h s₂ ⟨pn.1, pn.2.1, st1.trans pn.2.2.1, fun a o e t => pn.2.2.2 a o (ht1 a o e t) t⟩

theorem wpAny_assignNames {es : List Expr} {xs : List Str} {k : Nat} {pos : Pos} {v : Value} {ds : List D} {E : Value → Shared → Prop} {R : Unit → Shared → Prop} (fo : FmOk X.b F) (ao : OkA n A) (nr : NR X.b s.heap F η) (cr : CR X.b s.heap σ) (hn : namesOf es = some xs) (ho : ∀ x ∈ xs, isOwnVar F.sc x = true) (hd : ds.length = xs.length)
    (r : VR X.b s.heap v (.tup ds)) (h : ∀ s', PostN X F (putAll η xs ds) σ s s' → R () s') : wpAny (model X.prog X.w) A (assign (.Tuple es k pos) F.env v) R E s := by
  cases r with
  | tup e rs =>
    rename_i a vs m
    obtain ⟨ps, hl, hps⟩ := assignEach_names hn F.env
    have hvl := rs.length
    show wpAny _ _ (do standAt pos; unpack (.ref a) (assignEach es F.env)) _ _ s
    refine wpAny_bind (wpAny_standAt (unpack_tuple ao.1 (items := vs.toArray) ⟨_, e, rfl, m, rfl⟩ ?_ ?_ fun h' hx => ?_))
    · rw [hps]; simp [hl]; (first | lia | omega)
    · rw [hps]; simp
    · have hk : ∀ a o, s.heap.get? a = some o → h'.get? a = some o := fun a o e => hx a o (Nat.ne_of_lt (Heap.lt_size e)) e
      rw [hps, List.map_map]
      refine wpAny_storeAll xs ps vs ds η { s with heap := h' } fo (nr.mono (fun a o e _ => hk a o e) fun a o e _ => hk a o e) (cr.grown hk) (rs.mono fun a o e _ => hk a o e) ho hl hd fun s' pn => h s' ?_
      exact ⟨pn.1, pn.2.1, (Step.grown (tk := s.toks) hk).trans pn.2.2.1, fun a o e t => pn.2.2.2 a o (hk a o e) t⟩
end
end Mine

namespace Mine
open PySem PySem.W PyProof.Rows

section
variable {X : Ctx} {n : Nat} {F : Fm} {η η' : Names} {σ σ₁ σ' : Store} {s s₁ s' : Shared} {A : Around} {Q : Fl → Names → Store → Prop}

theorem X_assignT {es : List Expr} {xs : List Str} {k : Nat} {p pos : Pos} {e : Expr} (hn : namesOf es = some xs) (ho : (xs.all fun x => isOwnVar F.sc x) = true)
    (h : EV X n F η σ e fun d σ₁ => ∃ ds, d = .tup ds ∧ ds.length = xs.length ∧ Q .next (putAll η xs ds) σ₁)
    (hs : swapsWithSole [.Tuple es k p] e pos.line F.env = pure false := by rfl) (hw : swappedStores [.Tuple es k p] e F.env = pure none := by rfl) : EX X n F η σ (.Assign [.Tuple es k p] e pos) Q :=
  fun A s fo ao nr cr => Assign_Tuple (wpAny_weak (h A s fo ao nr cr) fun v s₁ p => by
    obtain ⟨d, σ₁, r, c, st, ds, rfl, hl, q⟩ := p
    exact wpAny_assignNames fo ao (nr.step cr st) c hn (fun x hx => List.all_eq_true.mp ho x hx) hl r fun s₂ pn => PostF.named st pn q) hs hw

theorem wpAny_bindAll {E : Value → Shared → Prop} {R : Unit → Shared → Prop} : ∀ (xs : List Str) (vs : List Value) (ds : List D) (η : Names) (s : Shared), FmOk X.b F → NR X.b s.heap F η → CR X.b s.heap σ → VRs X.b s.heap vs ds → (∀ x ∈ xs, isOwnVar F.sc x = true) → ds.length = xs.length →
    (∀ s', PostN X F (putAll η xs ds) σ s s' → R () s') →
    wpAny (model X.prog X.w) A (assignInOrder (xs.map fun x => bindName F.env x) vs) R E s
  | [], vs, ds, η, s, fo, nr, cr, rs, ho, hd, h => by
    have : ds = [] := List.length_eq_zero_iff.mp hd
    subst this
    have : vs = [] := by cases rs; rfl
    subst this
    exact wpAny_pure (h s ⟨nr, cr, .refl, fun _ _ e _ => e⟩)
  | x :: xs, vs, [], η, s, fo, nr, cr, rs, ho, hd, h => by simp at hd
  | x :: xs, _, d :: ds, η, s, fo, nr, cr, .cons (v := v) (vs := vs) r rs, ho, hd, h => by
    show wpAny _ _ (do holding vs (bindName F.env x v); assignInOrder (xs.map fun x => bindName F.env x) vs) _ _ s
    refine wpAny_bind (wpAny_holding (wpAny_bindName (wpAny_store_var fo nr cr (ho x List.mem_cons_self) r fun s₁ pn => ?_)))
    obtain ⟨nr1, cr1, st1, ht1⟩ := pn
    refine wpAny_bindAll xs vs ds (η.put x d) s₁ fo nr1 cr1 (rs.mono ht1) (fun y hy => ho y (List.mem_cons_of_mem _ hy)) (by simpa using hd) fun s₂ pn => ?_
    exact h s₂ ⟨pn.1, pn.2.1, st1.trans pn.2.2.1, fun a o e t => pn.2.2.2 a o (ht1 a o e t) t⟩

theorem VRs.reverse {b h : Heap} {vs : List Value} {ds : List D} (r : VRs b h vs ds) : VRs b h vs.reverse ds.reverse := by
  induction vs generalizing ds with
  | nil => cases r; exact .nil
  | cons v vs ih => cases r with | cons x r => simp only [List.reverse_cons]; exact (ih r).append (.one x)

theorem put_comm (η : Names) {x y : Str} (h : x ≠ y) (d e : D) : (η.put x d).put y e = (η.put y e).put x d := by
  funext z
  unfold Names.put
  by_cases h1 : z = x
  · subst h1; simp [h]
  · by_cases h2 : z = y
    · subst h2; simp [h1]
    · simp [h1, h2]
theorem putAll_put : ∀ (xs : List Str) (ds : List D) (η : Names) (x : Str) (d : D), x ∉ xs → putAll (η.put x d) xs ds = (putAll η xs ds).put x d
  | [], _, _, _, _, _ => rfl
  | _ :: _, [], _, _, _, _ => rfl
  | y :: xs, e :: ds, η, x, d, h => by
    show putAll ((η.put x d).put y e) xs ds = (putAll (η.put y e) xs ds).put x d
    rw [put_comm η (fun q => h (by rw [q]; exact List.mem_cons_self)), putAll_put xs ds _ x d fun q => h (List.mem_cons_of_mem _ q)]
theorem putAll_snoc : ∀ (xs : List Str) (ds : List D) (η : Names) (x : Str) (d : D), ds.length = xs.length → putAll η (xs ++ [x]) (ds ++ [d]) = (putAll η xs ds).put x d
  | [], [], _, _, _, _ => rfl
  | [], _ :: _, _, _, _, h => by simp at h
  | _ :: _, [], _, _, _, h => by simp at h
  | y :: xs, e :: ds, η, x, d, h => putAll_snoc xs ds (η.put y e) x d (by simpa using h)
theorem putAll_reverse : ∀ (xs : List Str) (ds : List D) (η : Names), xs.Nodup → ds.length = xs.length → putAll η xs.reverse ds.reverse = putAll η xs ds
  | [], [], _, _, _ => rfl
  | [], _ :: _, _, _, h => by simp at h
  | _ :: _, [], _, _, h => by simp at h
  | x :: xs, d :: ds, η, hn, h => by
    rw [List.nodup_cons] at hn
    have hl : ds.length = xs.length := by simpa using h
    rw [List.reverse_cons, List.reverse_cons, putAll_snoc _ _ _ _ _ (by simp [hl]), putAll_reverse xs ds η hn.2 hl, ← putAll_put xs ds η x d hn.1]
    rfl

theorem wpAny_swapped {xs : List Str} {v : Value} {ds : List D} {E : Value → Shared → Prop} {R : Unit → Shared → Prop} (fo : FmOk X.b F) (ao : OkA n A) (nr : NR X.b s.heap F η) (cr : CR X.b s.heap σ) (ho : ∀ x ∈ xs, isOwnVar F.sc x = true) (hd : ds.length = xs.length)
    (r : VR X.b s.heap v (.tup ds)) (h : ∀ s', PostN X F (putAll η xs.reverse ds.reverse) σ s s' → R () s') :
    wpAny (model X.prog X.w) A (unpackItems v xs.length none) (fun items s₂ => wpAny (model X.prog X.w) A (assignInOrder (xs.reverse.map fun n => bindName F.env n) items.reverse) R E s₂) E s := by
  cases r with
  | tup e rs =>
    rename_i a vs m
    have hvl := rs.length
    have hsz : xs.length = vs.toArray.size := by simp; (first | lia | omega)
    rw [hsz]
    refine unpackItems_tuple ao.1 (items := vs.toArray) ⟨_, e, rfl, m, rfl⟩ fun h' hx => ?_
    have hk : ∀ a o, s.heap.get? a = some o → h'.get? a = some o := fun a o e => hx a o (Nat.ne_of_lt (Heap.lt_size e)) e
    refine wpAny_bindAll xs.reverse vs.reverse ds.reverse η { s with heap := h' } fo (nr.mono (fun a o e _ => hk a o e) fun a o e _ => hk a o e) (cr.grown hk) ((rs.mono fun a o e _ => hk a o e).reverse) (fun x hx => ho x (List.mem_reverse.mp hx)) (by simp [hd]) fun s' pn => h s' ?_
    exact ⟨pn.1, pn.2.1, (Step.grown (tk := s.toks) hk).trans pn.2.2.1, fun a o e t => pn.2.2.2 a o (hk a o e) t⟩

theorem filterMap_full {ts : List Expr} {xs : List Str} {f : Expr → Option Str} (hf : ∀ x p, f (.Name x p) = some x ∨ f (.Name x p) = none) (hn : namesOf ts = some xs) (hl : (ts.filterMap f).length = ts.length) : ts.filterMap f = xs := by
  induction ts generalizing xs with
  | nil => cases hn; rfl
  | cons e r ih =>
    cases e <;> try (cases hn; done)
    rename_i x p
    unfold namesOf at hn
    obtain ⟨ys, hy, rfl⟩ := Option.map_eq_some_iff.mp hn
    have hle := List.length_filterMap_le f r
    rcases hf x p with e | e
    · rw [List.filterMap_cons_some e] at hl ⊢
      rw [ih hy (by simpa using hl)]
    · rw [List.filterMap_cons_none e] at hl
      simp at hl
      (first | lia | omega)
theorem swapped_cases {ts vs : List Expr} {xs : List Str} {k k' : Nat} {tp vp : Pos} {env : Env} (hn : namesOf ts = some xs) (hv : (vs.all (foldedForSure 8) || !vs.all (constantsAlone 8)) = true) :
    swappedStores [.Tuple ts k tp] (.Tuple vs k' vp) env = pure none ∨ swappedStores [.Tuple ts k tp] (.Tuple vs k' vp) env = pure (some xs) := by
  unfold swappedStores
  dsimp only
  split
  · exact .inl rfl
  split
  · exact .inl rfl
  split
  · exact .inl rfl
  rename_i hl
  split
  · exact .inl rfl
  rename_i hf
  split
  · rename_i hc
    rw [hc] at hv
    simp at hv
    simp at hf
    obtain ⟨x, hx, hx'⟩ := hf
    exact absurd (hv x hx) (by simp [hx'])
  · right
    refine congrArg (fun z => pure (some z)) (filterMap_full (fun x p => ?_) hn ?_)
    · dsimp only
      split
      · exact .inl rfl
      · exact .inr rfl
    · simp only [Bool.or_eq_true, not_or, bne_iff_ne, ne_eq, Decidable.not_not] at hl
      exact hl.1

theorem X_assignTT {es vs : List Expr} {xs : List Str} {k k' : Nat} {p vp pos : Pos} (hn : namesOf es = some xs) (ho : (xs.all fun x => isOwnVar F.sc x) = true) (hnd : xs.Nodup) (hv : (vs.all (foldedForSure 8) || !vs.all (constantsAlone 8)) = true)
    (h : EV X n F η σ (.Tuple vs k' vp) fun d σ₁ => ∃ ds, d = .tup ds ∧ ds.length = xs.length ∧ Q .next (putAll η xs ds) σ₁)
    (hs : swapsWithSole [.Tuple es k p] (.Tuple vs k' vp) pos.line F.env = pure false := by rfl) : EX X n F η σ (.Assign [.Tuple es k p] (.Tuple vs k' vp) pos) Q :=
  fun A s fo ao nr cr => by
    rcases swapped_cases (env := F.env) (k := k) (tp := p) (k' := k') (vp := vp) hn hv with hw | hw
    · exact X_assignT hn ho h hs hw A s fo ao nr cr
    · refine Assign_Tuple_swapped (wpAny_weak (h A s fo ao nr cr) fun v s₁ p => ?_) hs hw
      obtain ⟨d, σ₁, r, c, st, ds, rfl, hl, q⟩ := p
      exact wpAny_swapped fo ao (nr.step cr st) c (fun x hx => List.all_eq_true.mp ho x hx) hl r fun s₂ pn => PostF.named st pn (putAll_reverse xs ds η hnd hl ▸ q)

/-! a call of a def of the text -/
end

noncomputable def argNames (ps : Arguments) : List Str := ps.args.map (·.arg)
noncomputable def argsNames : List Str → List D → Names
  | x :: xs, d :: ds => fun y => if y = x then some d else argsNames xs ds y
  | _, _ => fun _ => none
/-- the body of a def from its arguments -/
structure BODY (X : Ctx) (n : Nat) (d : DefRec) (ds : List D) (σ : Store) (Q : D → Store → Prop) : Prop where
  run : ∀ env own, EXS X n ⟨d.scope, env, own⟩ (argsNames (argNames d.params) ds) σ d.body fun fl _ σ' => match fl with
    | .ret r => Q r σ'
    | _ => Q .none σ'

theorem cellsFrom_lookup_isSome : ∀ (names : List (Str × NameKind)) (k : Nat) (acc : List (Str × Addr)) (x : Str), names.lookup x = some .cell → ((cellsFrom k names acc).lookup x).isSome = true := by
  have keep : ∀ (names : List (Str × NameKind)) (k : Nat) (acc : List (Str × Addr)) (x : Str), (acc.lookup x).isSome = true → ((cellsFrom k names acc).lookup x).isSome = true := by
    intro names
    induction names with
    | nil => intro k acc x h; exact h
    | cons p r ih =>
      intro k acc x h
      obtain ⟨nm, kd⟩ := p
      unfold cellsFrom
      split
      · refine ih _ _ x ?_
        rw [List.lookup_cons]
        split <;> simp_all
      · exact ih _ _ x h
  intro names
  induction names with
  | nil => intro k acc x h; cases h
  | cons p r ih =>
    intro k acc x h
    obtain ⟨nm, kd⟩ := p
    rw [List.lookup_cons] at h
    unfold cellsFrom
    cases hx : x == nm with
    | true =>
      rw [hx] at h; cases h
      simp only [beq_self_eq_true, if_true]
      refine keep r _ _ x ?_
      rw [List.lookup_cons, hx]; rfl
    | false =>
      rw [hx] at h
      split
      · exact ih _ _ x h
      · exact ih _ _ x h
theorem cellsFrom_mem : ∀ (names : List (Str × NameKind)) (k : Nat) (acc : List (Str × Addr)) (x : Str) (c : Addr), (x, c) ∈ cellsFrom k names acc → (x, c) ∈ acc ∨ ∃ kd, (x, kd) ∈ names ∧ kd = .cell := by
  intro names
  induction names with
  | nil => intro k acc x c h; exact .inl h
  | cons p r ih =>
    intro k acc x c h
    obtain ⟨nm, kd⟩ := p
    unfold cellsFrom at h
    split at h
    · rename_i hk
      rcases ih _ _ x c h with h | ⟨kd', hm, he⟩
      · rcases List.mem_cons.mp h with e | h
        · cases e; exact .inr ⟨kd, List.mem_cons_self, by simpa using hk⟩
        · exact .inl h
      · exact .inr ⟨kd', List.mem_cons_of_mem _ hm, he⟩
    · rcases ih _ _ x c h with h | ⟨kd', hm, he⟩
      · exact .inl h
      · exact .inr ⟨kd', List.mem_cons_of_mem _ hm, he⟩

structure DefOk (d : DefRec) (k : Nat) : Prop where
  bind : ∀ pm cd doc vs, vs.length = k → bindArgs (Calls.docDef d.name d.params d.body d.scope pm cd doc) ⟨vs, []⟩ = pure ((argNames d.params).zip vs)
  len : (argNames d.params).length = k
  nodup : (argNames d.params).Nodup
  kind : d.scope.kind = .function
  co : d.scope.isCoroutine = false
  gen : d.scope.isGenerator = false
  args : ((argNames d.params).all fun x => isOwnVar d.scope x) = true
  nofree : (d.scope.names.all fun p => decide (p.2 ≠ .free)) = true

section
variable {X : Ctx} {n : Nat} {σ : Store} {Q : D → Store → Prop}

theorem lookup_mem {α : Type} {l : List (Str × α)} {x : Str} {c : α} (h : l.lookup x = some c) : (x, c) ∈ l := mem_of_lookup h

theorem bindL_none {kindOf : Str → Option NameKind} : ∀ (xs : List Str) (vs : List Value) (m : Str → Option Value) (x : Str), x ∉ xs → bindL kindOf (xs.zip vs) m x = m x
  | [], _, _, _, _ => rfl
  | _ :: _, [], _, _, _ => rfl
  | y :: xs, v :: vs, m, x, h => by
    show bindL kindOf (xs.zip vs) _ x = _
    rw [bindL_none xs vs _ x fun q => h (List.mem_cons_of_mem _ q)]
    split
    · exact if_neg fun (q : x = y) => h (by rw [q]; exact List.mem_cons_self)
    · rfl
theorem bindC_none {kindOf : Str → Option NameKind} : ∀ (xs : List Str) (vs : List Value) (m : Str → Option Value) (x : Str), x ∉ xs → bindC kindOf (xs.zip vs) m x = m x
  | [], _, _, _, _ => rfl
  | _ :: _, [], _, _, _ => rfl
  | y :: xs, v :: vs, m, x, h => by
    show bindC kindOf (xs.zip vs) _ x = _
    rw [bindC_none xs vs _ x fun q => h (List.mem_cons_of_mem _ q)]
    split
    · rfl
    · exact if_neg fun (q : x = y) => h (by rw [q]; exact List.mem_cons_self)
theorem args_found {b h : Heap} {kindOf : Str → Option NameKind} : ∀ (xs : List Str) (vs : List Value) (ds : List D) (m : Str → Option Value) (x : Str) (d : D), xs.Nodup → VRs b h vs ds → vs.length = xs.length → argsNames xs ds x = some d →
    ∃ v, VR b h v d ∧ (kindOf x = some .local → bindL kindOf (xs.zip vs) m x = some v) ∧ (kindOf x ≠ some .local → bindC kindOf (xs.zip vs) m x = some v)
  | [], _, _, _, _, _, _, _, _, h => by cases h
  | y :: xs, [], _, _, _, _, _, _, hl, _ => by simp at hl
  | y :: xs, v :: vs, _, m, x, d, hn, .cons (d := e) (ds := ds) r rs, hl, h => by
    rw [List.nodup_cons] at hn
    by_cases q : x = y
    · subst q
      have : e = d := by
        have h' : (if x = x then some e else argsNames xs ds x) = some d := h
        simpa using h'
      subst this
      refine ⟨v, r, fun hk => ?_, fun hk => ?_⟩
      · show bindL kindOf (xs.zip vs) _ x = _
        rw [bindL_none xs vs _ x hn.1, if_pos hk]; simp
      · show bindC kindOf (xs.zip vs) _ x = _
        rw [bindC_none xs vs _ x hn.1, if_neg hk]; simp
    · have h' : (if x = y then some e else argsNames xs ds x) = some d := h
      rw [if_neg q] at h'
      obtain ⟨u, ru, h1, h2⟩ := args_found xs vs ds (if kindOf y = some .local then fun z => if z = y then some v else m z else m) x d hn.2 rs (by simpa using hl) h'
      obtain ⟨u', ru', h1', h2'⟩ := args_found xs vs ds (if kindOf y = some .local then m else fun z => if z = y then some v else m z) x d hn.2 rs (by simpa using hl) h'
      by_cases hk : kindOf x = some .local
      · exact ⟨u, ru, h1, fun z => absurd hk z⟩
      · exact ⟨u', ru', fun z => absurd z hk, h2'⟩

theorem FN_intro {d : DefRec} {k : Nat} {ds : List D} (hd : d ∈ recsOf X.p) (ok : DefOk d k) (hl : ds.length = k) (h : BODY X n d ds σ Q) : FN X (n + 1) d.name ds σ Q := by
  intro A s vs a ao cr hma r
  obtain ⟨a', o, pm, code, doc, hma', ho, hdat, hcd⟩ := X.top.fn d hd
  rw [hma] at hma'; cases hma'
  have hvl : vs.length = k := r.length.trans hl
  refine wpAny_call (call_cells (binds := (argNames d.params).zip vs) ao.room (cr.base _ _ ho) hdat (X.top.nolimit.keeps cr.base) (hcd.keeps cr.base) (ok.bind _ _ _ _ hvl) ?_ (fun h₁ tk F1 C1 => ?_) ok.co ok.gen ok.kind)
  · intro x hx
    have hm : x.1 ∈ argNames d.params := (List.of_mem_zip (show (x.1, x.2) ∈ _ from hx)).1
    have := List.all_eq_true.mp ok.args x.1 hm
    unfold isOwnVar at this
    split at this
    · rename_i e; exact .inl e
    · rename_i e; exact .inr ⟨e, cellsFrom_lookup_isSome _ _ _ _ e⟩
    · cases this
  let env := envOfC d.name d.scope s.heap.objs.size a code
  let F : Fm := ⟨d.scope, env, fun c => c = s.heap.objs.size ∨ ∃ x, env.cells.lookup x = some c⟩
  have hcell : env.cells = cellsFrom (s.heap.objs.size + 1) d.scope.names [] := rfl
  have hfr : ∀ c, F.own c → s.heap.get? c = none := by
    intro c hc
    have hge : s.heap.objs.size ≤ c := by
      rcases hc with rfl | ⟨x, hx⟩
      · exact Nat.le_refl _
      · exact Nat.le_of_lt (C1.above x c (lookup_mem hx))
    cases e : s.heap.get? c with
    | none => rfl
    | some o => exact absurd (Heap.lt_size e) (Nat.not_lt.mpr hge)
  have fo : FmOk X.b F := {
    kind := ok.kind
    glob := rfl
    blt := rfl
    loc := fun x hx => hx
    glo := fun x hx => hx
    cel := fun x hx => ⟨hx, by
      obtain ⟨c, hc⟩ := Option.isSome_iff_exists.mp (cellsFrom_lookup_isSome d.scope.names (s.heap.objs.size + 1) [] x hx)
      exact ⟨c, hc, .inr ⟨x, hc⟩⟩⟩
    fre := fun x hx => by
      have := List.all_eq_true.mp ok.nofree _ (lookup_mem hx)
      simp at this
    apart := fun x y c hx hy => name_of_addr C1.apart (lookup_mem hx) (lookup_mem hy)
    ownL := .inl rfl
    bnew := fun c hc => by
      cases e : X.b.get? c with
      | none => rfl
      | some o => have := cr.base c o e; rw [hfr c hc] at this; cases this
    celL := fun x c hc => Nat.ne_of_gt (C1.above x c (lookup_mem hc)) }
  have hk : ∀ c o, s.heap.get? c = some o → h₁.get? c = some o := F1.keep
  have r1 : VRs X.b h₁ vs ds := r.mono fun a o e _ => hk a o e
  have nr : NR X.b h₁ F (argsNames (argNames d.params) ds) := {
    ns := ⟨_, F1.ns, fun x e hx he => by
      obtain ⟨v, rv, h1, _⟩ := args_found (kindOf := env.kindOf) (argNames d.params) vs ds (fun _ => none) x e ok.nodup r1 (by rw [ok.len, hvl]) he
      exact ⟨v, h1 hx, rv⟩⟩
    cells := fun x c hc => ⟨_, C1.cell x c hc, fun e hx he => by
      obtain ⟨v, rv, _, h2⟩ := args_found (kindOf := env.kindOf) (argNames d.params) vs ds (fun _ => none) x e ok.nodup r1 (by rw [ok.len, hvl]) he
      exact ⟨v, h2 (fun z => by
        have z' : d.scope.names.lookup x = some .local := z
        have hx' : d.scope.names.lookup x = some .cell ∨ d.scope.names.lookup x = some .free := hx
        rw [z'] at hx'; rcases hx' with hx' | hx' <;> cases hx'), rv⟩⟩
    box := fun c hc => by
      rcases hc with rfl | ⟨x, hx⟩
      · exact box_of_ns F1.ns
      · exact box_of_cell (C1.cell x c hx) }
  refine wpAny_weak (h.run F.env F.own (A.deeper env) { s with heap := h₁, toks := tk } fo ao.deeper nr (cr.grown hk)) fun f s' p => ?_
  obtain ⟨fl, η', σ', fr, _, c', st, q⟩ := p
  have stt : Step noOwn σ σ' s s' := ((Step.grown (own := F.own) hk).trans st).forget fun c o e _ hc => by rw [hfr c hc] at e; cases e
  cases fr with
  | ret rv => exact ⟨_, σ', rv, c', stt, q⟩
  | next => exact ⟨_, σ', .none, c', stt, q⟩
  | brk => exact ⟨_, σ', .none, c', stt, q⟩
  | cont => exact ⟨_, σ', .none, c', stt, q⟩
end
end Mine

namespace Mine
open PySem PySem.W PyProof.Rows

abbrev S (l : List Nat) : Str := ⟨l.toArray⟩
theorem S_len (l : List Nat) : (S l).length = l.length := by simp [Str.length]
theorem S_cps (l : List Nat) : (S l).cps.toList = l := by simp
theorem S_append (a b : List Nat) : S a ++ S b = S (a ++ b) := by
  apply Str.ext'
  rw [Str.cps_append]
  simp
theorem S_inj {a b : List Nat} (h : S a = S b) : a = b := by
  have := congrArg (fun x : Str => x.cps.toList) h
  simpa using this

section
variable {X : Ctx} {n : Nat} {σ : Store} {Q : D → Store → Prop}

/-! ints -/
theorem O_add {a b : Int} (h : Q (.int (a + b)) σ) : OP2 X n (binaryOp .Add) (.int a) (.int b) σ Q := fun _ _ _ _ _ cr r1 r2 => by
  cases r1; cases r2; exact PyProof.Rows.add_int (PostV.toks _ (.int _ _) cr h)
theorem O_sub {a b : Int} (h : Q (.int (a - b)) σ) : OP2 X n (binaryOp .Sub) (.int a) (.int b) σ Q := fun _ _ _ _ _ cr r1 r2 => by
  cases r1; cases r2; exact PyProof.Rows.sub_int' (PostV.toks _ (.int _ _) cr h)
theorem O_mul {a b : Int} (hm : IntMulOk a b) (h : Q (.int (a * b)) σ) : OP2 X n (binaryOp .Mult) (.int a) (.int b) σ Q := fun _ _ _ _ _ cr r1 r2 => by
  cases r1; cases r2; exact PyProof.Rows.mul_int (PostV.toks _ (.int _ _) cr h) hm
theorem O_mod {a b : Int} (hb : b ≠ 0) (h : Q (.int (a.fmod b)) σ) : OP2 X n (binaryOp .Mod) (.int a) (.int b) σ Q := fun _ _ _ _ _ cr r1 r2 => by
  cases r1; cases r2; exact PyProof.Rows.mod_int' hb (PostV.toks _ (.int _ _) cr h)
theorem O_fdiv {a b : Int} (hb : b ≠ 0) (hp : Builtin.divisionGoesByPylong a b = false) (h : Q (.int (a.fdiv b)) σ) : OP2 X n (binaryOp .FloorDiv) (.int a) (.int b) σ Q := fun _ _ _ _ _ cr r1 r2 => by
  cases r1; cases r2; exact PyProof.Rows.floordiv_int hb (PostV.toks _ (.int _ _) cr h) (.inl hp)
theorem O_pow {a b : Int} (hn : 0 ≤ b) (hz : (Builtin.Int.intBits a : Int) * b ≤ 2 ^ 27) (h : Q (.int (a ^ b.toNat)) σ) : OP2 X n (binaryOp .Pow) (.int a) (.int b) σ Q := fun _ _ _ _ _ cr r1 r2 => by
  cases r1; cases r2; exact PyProof.Rows.pow_int hn hz (PostV.toks _ (.int _ _) cr h)
theorem O_shr {a b : Int} (hn : 0 ≤ b) (h : Q (.int (a.fdiv (2 ^ b.toNat))) σ) : OP2 X n (binaryOp .RShift) (.int a) (.int b) σ Q := fun _ _ _ _ _ cr r1 r2 => by
  cases r1; cases r2; exact PyProof.Rows.rshift_int hn (PostV.toks _ (.int _ _) cr h)
theorem O_and {a b : Int} (h : Q (.int (Builtin.bitAnd a b)) σ) : OP2 X n (binaryOp .BitAnd) (.int a) (.int b) σ Q := fun _ _ _ _ _ cr r1 r2 => by
  cases r1; cases r2; exact PyProof.Rows.and_int (PostV.toks _ (.int _ _) cr h)
theorem O_iadd {a b : Int} (h : Q (.int (a + b)) σ) : OP2 X n (inplaceOp .Add) (.int a) (.int b) σ Q := fun _ _ _ _ _ cr r1 r2 => by
  cases r1; cases r2; exact PyProof.Rows.iadd_int (PostV.toks _ (.int _ _) cr h)
theorem O_isub {a b : Int} (h : Q (.int (a - b)) σ) : OP2 X n (inplaceOp .Sub) (.int a) (.int b) σ Q := fun _ _ _ _ _ cr r1 r2 => by
  cases r1; cases r2; exact PyProof.Rows.isub_int (PostV.toks _ (.int _ _) cr h)
theorem O_imul {a b : Int} (hm : IntMulOk a b) (h : Q (.int (a * b)) σ) : OP2 X n (inplaceOp .Mult) (.int a) (.int b) σ Q := fun _ _ _ _ _ cr r1 r2 => by
  cases r1; cases r2; exact PyProof.Rows.imul_int (PostV.toks _ (.int _ _) cr h) hm
theorem O_ifdiv {a b : Int} (hb : b ≠ 0) (hp : Builtin.divisionGoesByPylong a b = false) (h : Q (.int (a.fdiv b)) σ) : OP2 X n (inplaceOp .FloorDiv) (.int a) (.int b) σ Q := fun _ _ _ _ _ cr r1 r2 => by
  cases r1; cases r2; exact PyProof.Rows.ifloordiv_int hb (PostV.toks _ (.int _ _) cr h) (.inl hp)

/-! comparisons -/
theorem C_eq {a b : Int} (h : Q (.bool (decide (a = b))) σ) : OP2 X n (compareOp .Eq) (.int a) (.int b) σ Q := fun _ _ _ _ _ cr r1 r2 => by
  cases r1; cases r2
  have e : (a == b) = decide (a = b) := by
    by_cases q : a = b <;> simp [q]
  exact PyProof.Rows.eq_int (e ▸ PostV.here (.bool _) cr h)
theorem C_ne {a b : Int} (h : Q (.bool (decide (a ≠ b))) σ) : OP2 X n (compareOp .NotEq) (.int a) (.int b) σ Q := fun _ _ _ _ _ cr r1 r2 => by
  cases r1; cases r2
  have e : (a != b) = decide (a ≠ b) := by
    by_cases q : a = b <;> simp [q]
  exact PySem.P.ne_int (e ▸ PostV.here (.bool _) cr h)
theorem C_lt {a b : Int} (h : Q (.bool (decide (a < b))) σ) : OP2 X n (compareOp .Lt) (.int a) (.int b) σ Q := fun _ _ _ _ _ cr r1 r2 => by
  cases r1; cases r2; exact PyProof.Rows.lt_int (PostV.here (.bool _) cr h)
theorem C_ge {a b : Int} (h : Q (.bool (decide (a ≥ b))) σ) : OP2 X n (compareOp .GtE) (.int a) (.int b) σ Q := fun _ _ _ _ _ cr r1 r2 => by
  cases r1; cases r2; exact PySem.P.ge_int (PostV.here (.bool _) cr h)
theorem C_seq {a b : List Nat} (h : Q (.bool (decide (a = b))) σ) : OP2 X n (compareOp .Eq) (.str (S a)) (.str (S b)) σ Q := fun _ _ _ _ _ cr r1 r2 => by
  cases r1; cases r2
  have e : ((S a) == (S b)) = decide (a = b) := by
    by_cases q : a = b
    · subst q; simp
    · rw [decide_eq_false q]; exact Bool.eq_false_iff.mpr fun z => q (S_inj (eq_of_beq z))
  exact PyProof.Rows.eq_str (e ▸ PostV.here (.bool _) cr h)
theorem C_isnot_bool {a b : Bool} (h : Q (.bool (decide (a ≠ b))) σ) : OP2 X n (compareOp .IsNot) (.bool a) (.bool b) σ Q := fun _ _ _ _ _ cr r1 r2 => by
  cases r1; cases r2
  have e : (!(Value.bool a == Value.bool b)) = decide (a ≠ b) := by cases a <;> cases b <;> decide
  exact wpAny_isNot_plain rfl (e ▸ PostV.here (.bool _) cr h)
theorem C_is_none_none (h : Q (.bool true) σ) : OP2 X n (compareOp .Is) .none .none σ Q := fun _ _ _ _ _ cr r1 r2 => by
  cases r1; cases r2
  exact wpAny_is_plain rfl (PostV.here (.bool _) cr h)
theorem C_is_int_none {a : Int} (h : Q (.bool false) σ) : OP2 X n (compareOp .Is) (.int a) .none σ Q := fun _ _ _ _ _ cr r1 r2 => by
  cases r1; cases r2
  exact wpAny_is_other rfl (fun q => nomatch q) (PostV.here (.bool _) cr h)
theorem C_sin {c : Nat} {l : List Nat} (h : Q (.bool (decide (c ∈ l))) σ) : OP2 X n (compareOp .In) (.str (S [c])) (.str (S l)) σ Q := fun _ _ _ _ _ cr r1 r2 => by
  cases r1; cases r2
  refine PyProof.Rows.in_str ?_
  have e := StrLaws.found_one (S l) c
  rw [S_cps] at e
  exact e ▸ PostV.here (.bool _) cr h
theorem C_snotin {c : Nat} {l : List Nat} (h : Q (.bool (!decide (c ∈ l))) σ) : OP2 X n (compareOp .NotIn) (.str (S [c])) (.str (S l)) σ Q := fun _ _ _ _ _ cr r1 r2 => by
  cases r1; cases r2
  refine PyProof.Rows.notIn_str ?_
  have e := StrLaws.found_one (S l) c
  rw [S_cps] at e
  exact e ▸ PostV.here (.bool _) cr h

/-! texts -/
theorem O_sadd {a b : List Nat} (hz : a.length + b.length ≤ sizeLine) (h : Q (.str (S (a ++ b))) σ) : OP2 X n (binaryOp .Add) (.str (S a)) (.str (S b)) σ Q := fun _ _ _ _ _ cr r1 r2 => by
  cases r1; cases r2
  exact PyProof.Rows.add_str (fun t' tk => by rw [S_append]; exact PostV.toks _ (.str _ _) cr h) (by rw [S_len, S_len]; exact hz)
theorem O_isadd {a b : List Nat} (hz : a.length + b.length ≤ sizeLine) (h : Q (.str (S (a ++ b))) σ) : OP2 X n (inplaceOp .Add) (.str (S a)) (.str (S b)) σ Q := fun _ _ _ _ _ cr r1 r2 => by
  cases r1; cases r2
  exact PyProof.Rows.iadd_str (fun t' tk => by rw [S_append]; exact PostV.toks _ (.str _ _) cr h) (by rw [S_len, S_len]; exact hz)
theorem O_smul {c : Nat} {k : Int} (h0 : -1000000 ≤ k) (h1 : k ≤ 1000000) (h : Q (.str (S (List.replicate k.toNat c))) σ) : OP2 X n (binaryOp .Mult) (.str (S [c])) (.int k) σ Q := fun _ _ _ _ _ cr r1 r2 => by
  cases r1; cases r2
  refine SB.mul ⟨by rw [decide_eq_false (by (first | lia | omega)), decide_eq_false (by (first | lia | omega))]; rfl, fun hk _ => ?_, fun _ _ => ?_⟩ fun t' tk => ?_
  · have : (S [c]).length = 1 := rfl
    rw [this]
    have h2 : (1 : Int) ≤ (2 ^ 63 - 1) / k := Int.le_ediv_of_mul_le (by (first | lia | omega)) (by (first | lia | omega))
    (first | lia | omega)
  · have : (S [c]).length = 1 := rfl
    rw [this]
    unfold Builtin.Str.tooLong sizeLine
    exact decide_eq_false (by (first | lia | omega))
  · have e : Txt.mul (S [c]) k = S (List.replicate k.toNat c) := by
      apply Str.ext'
      apply Array.ext'
      rw [PyProof.Rows.mul_one_list, S_cps]
    rw [e]
    exact PostV.toks _ (.str _ _) cr h

/-! lists -/
theorem O_ladd {a b : Addr} {ds es : List D} (ha : σ a = some ds) (hb : σ b = some es) (hz : ds.length + es.length ≤ sizeLine) (h : ∀ c, σ c = none → Q (.lst c) (σ.put c (ds ++ es))) : OP2 X n (binaryOp .Add) (.lst a) (.lst b) σ Q := fun _ s _ _ _ cr r1 r2 => by
  cases r1; cases r2
  obtain ⟨vs, m, e1, x1⟩ := cr.store a ds ha
  obtain ⟨us, k, e2, x2⟩ := cr.store b es hb
  have hk : ∀ (o' : Obj) a o, s.heap.get? a = some o → (s.heap.push o').get? a = some o := fun o' _ _ e => Heap.get?_push_of_some o' e
  have hn : s.heap.get? s.heap.objs.size = none := by
    cases e : s.heap.get? s.heap.objs.size with
    | none => rfl
    | some o => exact absurd (Heap.lt_size e) (Nat.lt_irrefl _)
  refine PySem.P.add_list e1 e2 ?_ (by simp [x1.length, x2.length]; exact hz)
  have q : vs.toArray ++ us.toArray = (vs ++ us).toArray := by simp
  rw [q]
  exact ⟨.lst _, _, .lst _, cr.new (vs := vs ++ us) (n := 0) (hk _) hn (Heap.get?_push_size _ rfl) ((x1.append x2).mono fun a o e _ => hk _ a o e), Step.new (hk _) hn, h _ (cr.none_of_fresh hn)⟩
theorem any_isInt {vs : List Value} {ns : List Int} (k : Int) (r : IntsAre vs ns) : ∃ e : Value → Bool, (∀ t y, y ∈ vs.toArray → MeetsSeq.EqGives y (.int k t) (e y)) ∧ vs.toArray.any e = decide (k ∈ ns) := by
  refine ⟨fun y => match y with | .int i _ => i == k | _ => false, fun t y hy => ?_, ?_⟩
  · have hy' : y ∈ vs := by simpa using hy
    clear hy
    induction r with
    | nil => cases hy'
    | cons i u _ ih =>
      rcases List.mem_cons.mp hy' with rfl | hy'
      · exact MeetsSeq.EqGives.int i k u t
      · exact ih hy'
  · rw [List.any_toArray]
    induction r with
    | nil => rfl
    | cons i u _ ih =>
      rw [List.any_cons, ih]
      by_cases q : i = k
      · subst q; simp
      · have : k ≠ i := fun z => q z.symm
        simp [q, this]
theorem C_lin {a : Addr} {k : Int} {ns : List Int} (ha : σ a = some (ns.map D.int)) (h : Q (.bool (decide (k ∈ ns))) σ) : OP2 X n (compareOp .In) (.int k) (.lst a) σ Q := fun _ _ _ _ _ cr r1 r2 => by
  cases r1; cases r2
  obtain ⟨vs, m, e1, x1⟩ := cr.store a _ ha
  obtain ⟨e, he, hq⟩ := any_isInt k x1.ints_are
  exact PySem.SeqRoads2.in_list e (he _) e1 (hq ▸ PostV.here (.bool _) cr h)
theorem C_lnotin {a : Addr} {k : Int} {ns : List Int} (ha : σ a = some (ns.map D.int)) (h : Q (.bool (!decide (k ∈ ns))) σ) : OP2 X n (compareOp .NotIn) (.int k) (.lst a) σ Q := fun _ _ _ _ _ cr r1 r2 => by
  cases r1; cases r2
  obtain ⟨vs, m, e1, x1⟩ := cr.store a _ ha
  obtain ⟨e, he, hq⟩ := any_isInt k x1.ints_are
  exact PySem.SeqRoads2.notIn_list e (he _) e1 (hq ▸ PostV.here (.bool _) cr h)
theorem C_tin {k : Int} {ns : List Int} (h : Q (.bool (decide (k ∈ ns))) σ) : OP2 X n (compareOp .In) (.int k) (.tup (ns.map D.int)) σ Q := fun _ _ _ _ _ cr r1 r2 => by
  cases r1
  cases r2 with
  | tup e1 x1 =>
    obtain ⟨e, he, hq⟩ := any_isInt k x1.ints_are
    exact PySem.SeqRoads2.in_tuple e (he _) e1 (hq ▸ PostV.here (.bool _) cr h)
theorem C_leq {a b : Addr} {ns ms : List Int} (ha : σ a = some (ns.map D.int)) (hb : σ b = some (ms.map D.int)) (h : Q (.bool (decide (ns = ms))) σ) : OP2 X n (compareOp .Eq) (.lst a) (.lst b) σ Q := fun _ _ _ _ ao cr r1 r2 => by
  cases r1; cases r2
  obtain ⟨vs, m, e1, x1⟩ := cr.store a _ ha
  obtain ⟨us, k, e2, x2⟩ := cr.store b _ hb
  exact eq_intsK ⟨_, e1, rfl, m, rfl⟩ x1.ints_are ⟨_, e2, rfl, k, rfl⟩ x2.ints_are (by have := ao.2.2; (first | lia | omega)) (PostV.here (.bool _) cr h)
theorem C_lne {a b : Addr} {ns ms : List Int} (ha : σ a = some (ns.map D.int)) (hb : σ b = some (ms.map D.int)) (h : Q (.bool (!decide (ns = ms))) σ) : OP2 X n (compareOp .NotEq) (.lst a) (.lst b) σ Q := fun _ _ _ _ ao cr r1 r2 => by
  cases r1; cases r2
  obtain ⟨vs, m, e1, x1⟩ := cr.store a _ ha
  obtain ⟨us, k, e2, x2⟩ := cr.store b _ hb
  exact ne_intsK ⟨_, e1, rfl, m, rfl⟩ x1.ints_are ⟨_, e2, rfl, k, rfl⟩ x2.ints_are (by have := ao.2.2; (first | lia | omega)) (PostV.here (.bool _) cr h)
end
end Mine

namespace Mine
open PySem PySem.W PyProof.Rows

section
variable {X : Ctx} {n : Nat} {F : Fm} {η : Names} {σ : Store} {Q : D → Store → Prop}

theorem line63 : (sizeLine : Int) < 2 ^ 63 := by rw [sizeLine_eq]; decide

/-! subscripts -/
noncomputable def OPS (X : Ctx) (n : Nat) (value slice : Expr) (d e : D) (σ : Store) (Q : D → Store → Prop) : Prop := OP2 X n (fun o i => subscriptTail value slice o i) d e σ Q
theorem E_sub {value slice : Expr} {pos : Pos} (h : EV X n F η σ value fun d σ₁ => EV X n F η σ₁ slice fun e σ₂ => OPS X n value slice d e σ₂ Q) : EV X n F η σ (.Subscript value slice pos) Q :=
  fun A s fo ao nr cr => Subscript_ (wpAny_weak (h A s fo ao nr cr) fun v s₁ p => by
    obtain ⟨d, σ₁, r1, c1, st1, q⟩ := p
    refine wpAny_weak (q A s₁ fo ao (nr.step cr st1) c1) fun u s₂ p => ?_
    obtain ⟨e, σ₂, r2, c2, st2, q⟩ := p
    exact wpAny_weak (q A s₂ v u ao c2 (r1.step c1 st2) r2) fun y s₃ p => PostV.after (st1.trans st2) p)
theorem plainIdx_sub {slice : Expr} (h : isPlainIdx slice = true) (o i : Value) : subscripted slice false o i = operate [o, i] (getItem o i) := by
  cases slice <;> first | rfl | cases h
theorem I_list {value slice : Expr} {a : Addr} {k : Int} {ds : List D} {d : D} (hp : isPlainIdx slice = true) (ha : σ a = some ds) (h0 : 0 ≤ k) (hz : ds.length ≤ sizeLine) (hk : ds[k.toNat]? = some d) (h : Q d σ) : OPS X n value slice (.lst a) (.int k) σ Q := fun A s _ _ ao cr r1 r2 => by
  cases r1; cases r2
  obtain ⟨vs, m, e1, x1⟩ := cr.store a _ ha
  obtain ⟨v, hv, rv⟩ := x1.get hk
  have hl : s.heap.IsList a vs.toArray := ⟨_, e1, rfl, m, rfl⟩
  have hlt : k.toNat < ds.length := (List.getElem?_eq_some_iff.mp hk).1
  have := line63
  exact tail_any hl.typeIs slot_list_getitem.lookup (wpAny_getItem_list hl h0 (by (first | lia | omega)) (by simpa using hv) (PostV.here rv cr h)) (plainIdx_sub hp _ _)
theorem I_str {value slice : Expr} {k : Int} {l : List Nat} {c : Nat} (hp : isPlainIdx slice = true) (h0 : 0 ≤ k) (hz : l.length ≤ sizeLine) (hk : l[k.toNat]? = some c) (h : Q (.str (S [c])) σ) : OPS X n value slice (.str (S l)) (.int k) σ Q := fun A s _ _ ao cr r1 r2 => by
  cases r1; cases r2
  have hlt : k.toNat < l.length := (List.getElem?_eq_some_iff.mp hk).1
  have := line63
  refine tail_any (typeIs_str _ _ _) PySem.F.slot_str_getitem.lookup (PyProof.Rows.getItem_str (c := c) (by rw [decide_eq_false (by (first | lia | omega)), decide_eq_false (by (first | lia | omega))]; rfl) ?_ (PostV.toks _ (.str _ _) cr h)) (plainIdx_sub hp _ _)
  rw [S_len, PyProof.Rows.seqIndex_at h0 (by (first | lia | omega))]
  simpa using hk

/-! slices: bounds that are no ints or ints -/
inductive Part : D → Option Int → Prop
  | none : Part .none none
  | int (i : Int) : Part (.int i) (some i)
noncomputable def EVO (X : Ctx) (n : Nat) (F : Fm) (η : Names) (σ : Store) : Option Expr → (Option Int → Store → Prop) → Prop
  | none, Q => Q none σ
  | some e, Q => EV X n F η σ e fun d σ₁ => ∃ i, d = .int i ∧ Q (some i) σ₁
theorem VR.part {b h : Heap} {v : Value} {i : Int} (r : VR b h v (.int i)) : IsPart v (some i) := by cases r; exact .int _ _

theorem wpAny_evo {A : Around} {s : Shared} {o : Option Expr} {R : Value → Shared → Prop} {Q : Option Int → Store → Prop} (h : EVO X n F η σ o Q) (fo : FmOk X.b F) (ao : OkA n A) (nr : NR X.b s.heap F η) (cr : CR X.b s.heap σ)
    (k : ∀ v s' p σ', IsPart v p → CR X.b s'.heap σ' → Step noOwn σ σ' s s' → Q p σ' → R v s') : wpAny (model X.prog X.w) A (valueOrNone (evalOpt o F.env)) R NoE s := by
  cases o with
  | none => exact wpAny_pure (k _ _ none σ .none cr .refl h)
  | some e =>
    refine wpAny_weak (h A s fo ao nr cr) fun v s₁ p => ?_
    obtain ⟨d, σ₁, r, c, st, i, rfl, q⟩ := p
    exact k _ _ (some i) σ₁ r.part c st q

/-- what a slice of d is -/
noncomputable def SLC (X : Ctx) (n : Nat) (value : Expr) (d : D) (lo hi : Option Int) (σ : Store) (Q : D → Store → Prop) : Prop :=
  ∀ A s v vl vu p, OkA n A → CR X.b s.heap σ → VR X.b s.heap v d → IsPart vl lo → IsPart vu hi →
    wpAny (model X.prog X.w) A (subscriptTail value (.Slice none none none p) v (.ref s.heap.objs.size)) (PostV X σ s Q) NoE { s with heap := s.heap.push { cls := .type "slice", data := .fields #[vl, vu, .none] } }
theorem slice_same {value : Expr} {lo hi : Option Expr} {p p' : Pos} {o i : Value} : subscriptTail value (.Slice lo hi none p) o i = subscriptTail value (.Slice none none none p') o i := rfl
theorem E_slice {value : Expr} {lower upper : Option Expr} {p pos : Pos} (h : EV X n F η σ value fun d σ₁ => EVO X n F η σ₁ lower fun lo σ₂ => EVO X n F η σ₂ upper fun hi σ₃ => SLC X n value d lo hi σ₃ Q) :
    EV X n F η σ (.Subscript value (.Slice lower upper none p) pos) Q :=
  fun A s fo ao nr cr => Subscript_ (wpAny_weak (h A s fo ao nr cr) fun v s₁ q => by
    obtain ⟨d, σ₁, r1, c1, st1, q⟩ := q
    show wpAny _ A (do
      let l ← valueOrNone (evalOpt lower F.env)
      let u ← holding [l] (valueOrNone (evalOpt upper F.env))
      let s ← holding [l, u] (valueOrNone (evalOpt none F.env))
      newFields "slice" [l, u, s]) _ _ s₁
    refine wpAny_bind (wpAny_evo q fo ao (nr.step cr st1) c1 fun vl s₂ lo σ₂ hl c2 st2 q => ?_)
    refine wpAny_bind (wpAny_holding (wpAny_evo q fo ao (nr.step cr (st1.trans st2)) c2 fun vu s₃ hi σ₃ hu c3 st3 q => ?_))
    refine wpAny_bind (wpAny_holding (wpAny_pure ?_))
    refine wpAny_newObj_type ?_ (by show (3 : Nat) ≤ sizeLine + 2; rw [sizeLine_eq]; decide)
    rw [slice_same (p' := p)]
    refine wpAny_weak (q A s₃ v vl vu p ao c3 (r1.step c1 (st2.trans st3)) hl hu) fun y s₄ z => PostV.after ((st1.trans st2).trans st3) z)

theorem slice_obj {s : Shared} {vl vu : Value} : (s.heap.push { cls := .type "slice", data := .fields #[vl, vu, .none] }).IsSliceOf s.heap.objs.size vl vu .none := ⟨_, Heap.get?_push_size _ rfl, rfl, rfl⟩
/-- the places that a slice by ones takes -/
abbrev loOf (lo : Option Int) : Nat := lo.elim 0 Int.toNat
abbrev hiOf (hi : Option Int) (n : Nat) : Nat := hi.elim n Int.toNat
noncomputable def cut {α : Type} (l : List α) (lo hi : Option Int) : List α := (l.drop (loOf lo)).take (hiOf hi l.length - loOf lo)
noncomputable def Pos0 (o : Option Int) : Prop := ∀ i, o = some i → 0 ≤ i
theorem Pos0.none : Pos0 none := fun _ h => nomatch h
theorem Pos0.some {i : Int} (h : 0 ≤ i) : Pos0 (some i) := fun _ e => by cases e; exact h
theorem cut_min {α : Type} (l : List α) (A B : Nat) : (l.drop (min A l.length)).take (min B l.length - min A l.length) = (l.drop A).take (B - A) := by
  rcases Nat.le_total A l.length with h | h
  · rw [Nat.min_eq_left h]
    rcases Nat.le_total B l.length with h' | h'
    · rw [Nat.min_eq_left h']
    · rw [Nat.min_eq_right h', List.take_of_length_le (by simp), List.take_of_length_le (by simp; (first | lia | omega))]
  · rw [Nat.min_eq_right h, List.drop_of_length_le h, List.drop_of_length_le (Nat.le_refl _)]; simp
theorem clip_lo {lo : Option Int} (h : Pos0 lo) (n : Nat) : (match lo with | none => (0 : Int) | some i => max 0 (min (if i < 0 then i + (n : Int) else i) n)) = ((min (loOf lo) n : Nat) : Int) := by
  cases lo with
  | none => simp
  | some i =>
    have := h i rfl
    simp only [loOf, Option.elim_some]
    rw [if_neg (by (first | lia | omega))]; (first | lia | omega)
theorem clip_hi {hi : Option Int} (h : Pos0 hi) (n : Nat) : (match hi with | none => (n : Int) | some i => max 0 (min (if i < 0 then i + (n : Int) else i) n)) = ((min (hiOf hi n) n : Nat) : Int) := by
  cases hi with
  | none => simp
  | some i =>
    have := h i rfl
    simp only [hiOf, Option.elim_some]
    rw [if_neg (by (first | lia | omega))]; (first | lia | omega)
theorem pick_cut {α : Type} (xs : Array α) (A B : Nat) : (sliceRange ((min A xs.size : Nat) : Int) ((min B xs.size : Nat) : Int) 1).filterMap (xs[·]?) = (xs.toList.drop A).take (B - A) := by
  rw [sliceRange_one, pick_run]
  have := cut_min xs.toList A B
  simpa using this
theorem slicePick_cut (l : List Value) {lo hi : Option Int} (h1 : Pos0 lo) (h2 : Pos0 hi) : slicePick l.toArray lo hi none = (cut l lo hi).toArray := by
  have e : sliceBounds lo hi none l.toArray.size = (((min (loOf lo) l.toArray.size : Nat) : Int), ((min (hiOf hi l.toArray.size) l.toArray.size : Nat) : Int), 1) := by
    rw [← clip_lo h1, ← clip_hi h2]
    cases lo <;> cases hi <;> rfl
  unfold slicePick
  rw [e]
  simp only
  rw [pick_cut]
  simp [cut]
theorem strSlice_cut (l : List Nat) {lo hi : Option Int} (h1 : Pos0 lo) (h2 : Pos0 hi) : Txt.slice (S l) lo hi = S (cut l lo hi) := by
  have e : Builtin.Str.strSliceIndices lo hi 1 (S l).length = sliceRange ((min (loOf lo) l.length : Nat) : Int) ((min (hiOf hi l.length) l.length : Nat) : Int) 1 := by
    rw [S_len, ← clip_lo h1, ← clip_hi h2]
    cases lo <;> cases hi <;> rfl
  have key : (Builtin.Str.strSliceIndices lo hi 1 (S l).length).filterMap ((S l).cps[·]?) = cut l lo hi := by
    rw [e]
    have := pick_cut l.toArray (loOf lo) (hiOf hi l.length)
    simpa [cut] using this
  unfold Txt.slice
  split
  · rename_i hc
    have hl : (Builtin.Str.strSliceIndices lo hi 1 (S l).length).length = l.length := by simpa [S_len] using hc
    have hall : ∀ i ∈ Builtin.Str.strSliceIndices lo hi 1 (S l).length, ((S l).cps[i]?).isSome = true := by
      intro i hi'
      rw [e, sliceRange_one] at hi'
      obtain ⟨k, hk, rfl⟩ := List.mem_map.mp hi'
      have := List.mem_range.mp hk
      simp; (first | lia | omega)
    have hlen : (cut l lo hi).length = l.length := by
      rw [← key, ← hl]
      clear key e hl hc
      generalize Builtin.Str.strSliceIndices lo hi 1 (S l).length = ks at hall
      induction ks with
      | nil => rfl
      | cons i r ih =>
        obtain ⟨c, hc⟩ := Option.isSome_iff_exists.mp (hall i List.mem_cons_self)
        rw [List.filterMap_cons_some hc, List.length_cons, List.length_cons, ih fun j hj => hall j (List.mem_cons_of_mem _ hj)]
    congr 1
    have : cut l lo hi = l := by
      have sub : (cut l lo hi).Sublist l := ((List.take_sublist _ _).trans (List.drop_sublist _ _))
      exact sub.eq_of_length hlen
    rw [this]
  · rw [key]

theorem L_slice {value : Expr} {a : Addr} {ds : List D} {lo hi : Option Int} (h1 : Pos0 lo) (h2 : Pos0 hi) (ha : σ a = some ds) (hz : ds.length ≤ sizeLine) (h : ∀ c, σ c = none → Q (.lst c) (σ.put c (cut ds lo hi))) : SLC X n value (.lst a) lo hi σ Q := fun A s v vl vu p ao cr r pl pu => by
  cases r
  obtain ⟨vs, m, e1, x1⟩ := cr.store a _ ha
  have hl : (s.heap.push { cls := .type "slice", data := .fields #[vl, vu, .none] }).IsList a vs.toArray := ⟨_, Heap.get?_push_of_some _ e1, rfl, m, rfl⟩
  have hlen := x1.length
  refine tail_any (Heap.IsList.typeIs (s := { s with heap := s.heap.push { cls := .type "slice", data := .fields #[vl, vu, .none] } }) hl) list_getitem_lookup
    (wpAny_getItem_list_slice hl slice_obj pl pu .none (by simp) ?_ (by simp; (first | lia | omega))) rfl
  rw [slicePick_cut vs h1 h2]
  have hcut : VRs X.b s.heap (cut vs lo hi) (cut ds lo hi) := by
    unfold cut
    rw [hlen]
    exact (x1.drop _).take _
  generalize hs : s.heap.push { cls := .type "slice", data := .fields #[vl, vu, .none] } = H
  have hk1 : ∀ a o, s.heap.get? a = some o → H.get? a = some o := fun _ _ e => hs ▸ Heap.get?_push_of_some _ e
  have hk : ∀ a o, s.heap.get? a = some o → (H.push (lstO (cut vs lo hi) 0)).get? a = some o := fun _ _ e => Heap.get?_push_of_some _ (hk1 _ _ e)
  have hn : s.heap.get? H.objs.size = none := by
    cases e : s.heap.get? H.objs.size with
    | none => rfl
    | some o => exact absurd (Heap.lt_size (hk1 _ _ e)) (Nat.lt_irrefl _)
  exact ⟨.lst _, _, .lst _, cr.new (vs := cut vs lo hi) (n := 0) hk hn (Heap.get?_push_size _ rfl) (hcut.mono fun a o e _ => hk a o e), Step.new hk hn, h _ (cr.none_of_fresh hn)⟩
/-- a slice of the script -/
theorem L_sliceInts {value : Expr} {ns : List Int} {lo hi : Option Int} (h1 : Pos0 lo) (h2 : Pos0 hi) (hz : ns.length ≤ sizeLine) (h : ∀ c, σ c = none → Q (.lst c) (σ.put c ((cut ns lo hi).map D.int))) : SLC X n value (.ints ns) lo hi σ Q := fun A s v vl vu p ao cr r pl pu => by
  cases r
  rename_i a vs e0 x0
  obtain ⟨o, e1, hc, m, hd⟩ := e0
  have e1 := cr.base _ _ e1
  have hl : (s.heap.push { cls := .type "slice", data := .fields #[vl, vu, .none] }).IsList a vs.toArray := ⟨_, Heap.get?_push_of_some _ e1, hc, m, hd⟩
  have x1 : VRs X.b s.heap vs (ns.map D.int) := .of_ints x0
  have hlen := x1.length
  rw [List.length_map] at hlen
  refine tail_any (Heap.IsList.typeIs (s := { s with heap := s.heap.push { cls := .type "slice", data := .fields #[vl, vu, .none] } }) hl) list_getitem_lookup
    (wpAny_getItem_list_slice hl slice_obj pl pu .none (by simp) ?_ (by simp; (first | lia | omega))) rfl
  rw [slicePick_cut vs h1 h2]
  have hcut : VRs X.b s.heap (cut vs lo hi) ((cut ns lo hi).map D.int) := by
    unfold cut
    rw [hlen, List.map_take, List.map_drop]
    exact (x1.drop _).take _
  generalize hs : s.heap.push { cls := .type "slice", data := .fields #[vl, vu, .none] } = H
  have hk1 : ∀ a o, s.heap.get? a = some o → H.get? a = some o := fun _ _ e => hs ▸ Heap.get?_push_of_some _ e
  have hk : ∀ a o, s.heap.get? a = some o → (H.push (lstO (cut vs lo hi) 0)).get? a = some o := fun _ _ e => Heap.get?_push_of_some _ (hk1 _ _ e)
  have hn : s.heap.get? H.objs.size = none := by
    cases e : s.heap.get? H.objs.size with
    | none => rfl
    | some o => exact absurd (Heap.lt_size (hk1 _ _ e)) (Nat.lt_irrefl _)
  exact ⟨.lst _, _, .lst _, cr.new (vs := cut vs lo hi) (n := 0) hk hn (Heap.get?_push_size _ rfl) (hcut.mono fun a o e _ => hk a o e), Step.new hk hn, h _ (cr.none_of_fresh hn)⟩
theorem L_sliceStr {value : Expr} {l : List Nat} {lo hi : Option Int} (h1 : Pos0 lo) (h2 : Pos0 hi) (hz : l.length ≤ sizeLine) (h : Q (.str (S (cut l lo hi))) σ) : SLC X n value (.str (S l)) lo hi σ Q := fun A s v vl vu p ao cr r pl pu => by
  cases r with
  | str x t =>
  have hk0 : KeptH fun h' => ∀ a o, s.heap.get? a = some o → h'.get? a = some o := fun h' ob q a o e => Heap.get?_push_of_some _ (q a o e)
  have fin : ∀ (h' : Heap) (t' k : Nat), (∀ a o, s.heap.get? a = some o → h'.get? a = some o) → PostV X σ s Q (.str (Txt.slice (S l) lo hi) t') { s with heap := h', toks := k } := fun h' t' k q => by
    rw [strSlice_cut l h1 h2]
    exact PostV.push k q (.str _ _) cr h
  have hz' : (S l).length ≤ sizeLine := by rw [S_len]; exact hz
  have it : ItemOn (model X.prog X.w) A NoE (.str (S l) t) (.ref s.heap.objs.size) (PostV X σ s Q) { s with heap := s.heap.push { cls := .type "slice", data := .fields #[vl, vu, .none] } } := by
    cases pl <;> cases pu
    · exact SBH.sliceItem_nn hk0 (fun _ _ e => e) fin hz'
    · exact SBH.sliceItem_ns hk0 (fun _ _ e => e) fin hz'
    · exact SBH.sliceItem_sn hk0 (fun _ _ e => e) fin hz'
    · exact SBH.sliceItem_ss hk0 (fun _ _ e => e) fin hz'
  obtain ⟨T, id, hl, hT, hg⟩ := it
  exact tail_any hT hl hg rfl
end
end Mine

namespace Mine
open PySem PySem.W PyProof.Rows

section
variable {X : Ctx} {n : Nat} {F : Fm} {η : Names} {σ : Store} {Q : D → Store → Prop}

/-! methods of str and of tracked lists -/
noncomputable def kindOk (σ : Store) (T : String) : D → Prop
  | .str _ => T = "str"
  | .lst a => T = "list" ∧ (σ a).isSome = true
  | _ => False
theorem E_meth {o : Expr} {name : Str} {apos pos : Pos} {args : List Expr} {T id : String} (pa : PlainAttrs T) (slot : Slot T name id) (ty : typeOf (.builtin id) = pure (.type "method_descriptor")) (hp : plainArgs args = true) (hl : decide (args.length < 29) = true) (hline : (apos.endLine == pos.line) = true)
    (h : EV X n F η σ o fun d σ₁ => kindOk σ₁ T d ∧ EVS X n F η σ₁ args fun ds σ₂ => OPN X n (fun vs => call (.builtin id) vs) (d :: ds) σ₂ Q)
    (hb : ∀ env, attributeBase o name env (eval o env) = eval o env := by intro _; rfl) : EV X n F η σ (.Call (.Attribute o name apos) args [] pos) Q :=
  fun A s fo ao nr cr => by
    refine wpAny_Call_method_lateS (hb _) ?_ hline (wpAny_weak (h A s fo ao nr cr) fun v s₁ p => ?_)
    · rw [plainArgs_star hp]
      unfold backTo backToKw
      have hl' := of_decide_eq_true hl
      have hk : keywordEach [] F.env = [] := rfl
      rw [hk]
      simp
      (first | lia | omega)
    · obtain ⟨d, σ₁, r1, c1, st1, kd, q⟩ := p
      have hT : s₁.TypeIs v T ∧ ∀ a, v = .ref a → ∃ ob, s₁.heap.get? a = some ob ∧ ob.dict = none := by
        cases d <;> try exact kd.elim
        · cases r1
          have kd' : T = "str" := kd
          subst kd'
          exact ⟨typeIs_str _ _ _, fun _ e => nomatch e⟩
        · cases r1
          obtain ⟨kd', ks⟩ := (kd : T = "list" ∧ _)
          subst kd'
          obtain ⟨ds, hs⟩ := Option.isSome_iff_exists.mp ks
          obtain ⟨vs, m, e1, _⟩ := c1.store _ _ hs
          exact ⟨⟨_, e1, rfl⟩, fun a e => by cases e; exact ⟨_, e1, rfl⟩⟩
      refine ⟨T, id, pa, slot, ty, hT.1, hT.2, Calls.callWith_builtin (plainArgs_any hp _ _) ?_⟩
      have fin : wpAny (model X.prog X.w) A (spliced (backTo pos (starEach args F.env))) (fun vs s' => wpAny (model X.prog X.w) A (call (.builtin id) ([v] ++ vs)) (PostV X σ s Q) NoE s') NoE s₁ := by
        refine wpAny_weak (q A s₁ pos fo ao (nr.step cr st1) c1) fun vs s₂ p => ?_
        obtain ⟨ds, σ₂, rs, c2, st2, q⟩ := p
        exact wpAny_weak (q A s₂ (v :: vs) ao c2 (.cons (r1.step c1 st2) rs)) fun _ _ p => PostV.after (st1.trans st2) p
      cases args with
      | nil =>
        have : backTo pos (starEach [] F.env) = [] := rfl
        rw [this] at fin ⊢
        refine evalArgs_nil3 ?_
        exact fun Γ p hΓ => fin Γ p hΓ Γ p hΓ
      | cons e es =>
        refine wpAny_evalArgs (fun env => ?_) fin
        rw [plainArgs_star hp, plainArgs_star (es := es) (by unfold plainArgs at hp ⊢; rw [List.all_cons, Bool.and_eq_true] at hp; exact hp.2)]; rfl
end

section
variable {X : Ctx} {n : Nat} {σ : Store} {Q : D → Store → Prop}

abbrev callB (id : String) : List Value → Sem Value := fun vs => call (.builtin id) vs

theorem B_lenL {a : Addr} {ds : List D} (ha : σ a = some ds) (hz : ds.length ≤ sizeLine) (h : Q (.int ds.length) σ) : OPN X n (callB "len") [.lst a] σ Q := fun _ s _ ao cr rs => by
  cases rs with
  | cons r rs =>
  cases rs
  cases r
  obtain ⟨vs, m, e1, x1⟩ := cr.store a _ ha
  have hl := x1.length
  have := line63
  refine PyProof.Rows.len_list (items := vs.toArray) ⟨_, e1, rfl, m, rfl⟩ (by simp; (first | lia | omega)) ?_
  have e : ((vs.toArray.size : Nat) : Int) = (ds.length : Int) := by simp [hl]
  rw [e]
  exact PostV.toks _ (.int _ _) cr h
theorem B_lenI {ns : List Int} (hz : ns.length ≤ sizeLine) (h : Q (.int ns.length) σ) : OPN X n (callB "len") [.ints ns] σ Q := fun _ s _ ao cr rs => by
  cases rs with
  | cons r rs =>
  cases rs
  cases r
  rename_i a vs e0 x0
  obtain ⟨o, e1, hc, m, hd⟩ := e0
  have hl := (VRs.of_ints (b := X.b) (h := s.heap) x0).length
  rw [List.length_map] at hl
  have := line63
  refine PyProof.Rows.len_list (items := vs.toArray) ⟨_, cr.base _ _ e1, hc, m, hd⟩ (by simp; (first | lia | omega)) ?_
  have e : ((vs.toArray.size : Nat) : Int) = (ns.length : Int) := by simp [hl]
  rw [e]
  exact PostV.toks _ (.int _ _) cr h
theorem B_lenS {l : List Nat} (hz : l.length ≤ sizeLine) (h : Q (.int l.length) σ) : OPN X n (callB "len") [.str (S l)] σ Q := fun _ s _ ao cr rs => by
  cases rs with
  | cons r rs =>
  cases rs
  cases r
  have := line63
  refine PyProof.Rows.len_str (by rw [S_len]; (first | lia | omega)) ?_
  rw [S_len]
  exact PostV.toks _ (.int _ _) cr h

noncomputable def SmallSum (ns : List Int) : Prop := (∀ x ∈ ns, 0 ≤ x) ∧ ns.sum < 2 ^ 62
theorem take_sum_le (ns : List Int) (h : ∀ x ∈ ns, 0 ≤ x) (k : Nat) : 0 ≤ (ns.take k).sum ∧ (ns.take k).sum ≤ ns.sum := by
  induction ns generalizing k with
  | nil => simp
  | cons x r ih =>
    have hx := h x List.mem_cons_self
    have hr : ∀ y ∈ r, 0 ≤ y := fun y hy => h y (List.mem_cons_of_mem _ hy)
    cases k with
    | zero =>
      have := (ih hr r.length)
      rw [List.take_length] at this
      simp; (first | lia | omega)
    | succ k =>
      have := ih hr k
      simp; (first | lia | omega)
theorem mem_le_sum (ns : List Int) (h : ∀ x ∈ ns, 0 ≤ x) : ∀ x ∈ ns, x ≤ ns.sum := by
  induction ns with
  | nil => intro x hx; cases hx
  | cons y r ih =>
    have hr : ∀ z ∈ r, 0 ≤ z := fun z hz => h z (List.mem_cons_of_mem _ hz)
    have hs := (take_sum_le r hr r.length).1
    rw [List.take_length] at hs
    have hy := h y List.mem_cons_self
    intro x hx
    rw [List.sum_cons]
    rcases List.mem_cons.mp hx with rfl | hx
    · (first | lia | omega)
    · have := ih hr x hx; (first | lia | omega)
theorem B_sum {a : Addr} {ns : List Int} (ha : σ a = some (ns.map D.int)) (hz : SmallSum ns) (h : Q (.int ns.sum) σ) : OPN X n (callB "sum") [.lst a] σ Q := fun _ s _ ao cr rs => by
  cases rs with
  | cons r rs =>
  cases rs
  cases r
  obtain ⟨vs, m, e1, x1⟩ := cr.store a _ ha
  have hi := x1.ints_are
  obtain ⟨xs, hxs⟩ := hi.allInts.items
  have hn : xs.toList.map (·.1) = ns := by
    have := nums_intItems xs
    rw [← hxs] at this
    have q := hi.numsOf
    rw [← this]
    simpa using q
  refine sum_intList (xs := xs) ao.1 ⟨_, e1, rfl, m, by show Data.seq vs.toArray m = _; rw [hxs]⟩ (fun j hj => ?_) fun h' tk t' hk => ?_
  · rw [numAt_eq, preSum_eq, hn]
    obtain ⟨p0, ps⟩ := hz
    have t := take_sum_le ns p0 (j + 1)
    have hlen : j < ns.length := by rw [← hn]; simpa using hj
    have hm : ns.getD j 0 ∈ ns := getD_mem hlen
    have h1 := p0 _ hm
    have h2 := mem_le_sum ns p0 _ hm
    unfold InLong
    (first | lia | omega)
  · rw [preSum_eq, hn]
    have : (ns.take xs.size) = ns := List.take_of_length_le (by rw [← hn]; simp)
    rw [this]
    exact PostV.push tk hk (.int _ _) cr h
theorem B_max {a : Addr} {ns : List Int} {M : Int} (ha : σ a = some (ns.map D.int)) (hm : M ∈ ns) (hM : ∀ x ∈ ns, x ≤ M) (h : Q (.int M) σ) : OPN X n (callB "max") [.lst a] σ Q := fun _ s _ ao cr rs => by
  cases rs with
  | cons r rs =>
  cases rs
  cases r
  obtain ⟨vs, m, e1, x1⟩ := cr.store a _ ha
  have hi := x1.ints_are
  obtain ⟨xs, hxs⟩ := hi.allInts.items
  have hn : xs.toList.map (·.1) = ns := by
    have := nums_intItems xs
    rw [← hxs] at this
    have q := hi.numsOf
    rw [← this]
    simpa using q
  have hpos : 0 < xs.size := by
    have : 0 < ns.length := List.length_pos_of_mem hm
    rw [← hn] at this; simpa using this
  refine max_intList (xs := xs) ao.1 ⟨_, e1, rfl, m, by show Data.seq vs.toArray m = _; rw [hxs]⟩ hpos fun v h' tk hv hk => ?_
  obtain ⟨t, rfl⟩ := intItems_at hv
  obtain ⟨h1, h2⟩ := argBest_gt (numAt xs) (xs.size - 1)
  generalize argBest (fun i j => decide (numAt xs i > numAt xs j)) (xs.size - 1) = j at *
  have hj : j < xs.size := by (first | lia | omega)
  have e : numAt xs j = M := by
    have hin : numAt xs j ∈ ns := by rw [numAt_eq, hn]; exact getD_mem (by rw [← hn]; simpa using hj)
    obtain ⟨i, hi', he⟩ := mem_getD hm
    have hi2 : i < xs.size := by rw [← hn] at hi'; simpa using hi'
    have q1 := h2 i (by (first | lia | omega))
    rw [numAt_eq xs i, hn, he] at q1
    have q2 := hM _ hin
    (first | lia | omega)
  rw [e]
  exact PostV.push tk hk (.int _ _) cr h
/-! methods of a tracked list -/
theorem M_append {a : Addr} {d : D} {ds : List D} (ha : σ a = some ds) (hz : ds.length ≤ sizeLine) (h : Q .none (σ.put a (ds ++ [d]))) : OPN X n (callB "list.append") [.lst a, d] σ Q := fun _ s _ ao cr rs => by
  cases rs with
  | cons r rs =>
  cases rs with
  | cons r2 rs =>
  cases rs
  cases r
  rename_i v
  obtain ⟨vs, m, e1, x1⟩ := cr.store a _ ha
  have hl := x1.length
  refine call_meets PySem.F.slot_list_append ⟨_, e1, rfl⟩ PySem.F.entry_list_append (PySem.F.args_list_append_2 _ _) (PySem.list_append a vs.toArray m v (by simp; (first | lia | omega))) ⟨e1, ?_⟩
  have hk : ∀ c o, c ≠ a → s.heap.get? c = some o → (s.heap.update a (Obj.mapSeq fun x => x.push v)).get? c = some o := fun c o q e => (Heap.get?_update_other s.heap _ (Ne.symm q)).trans e
  have ht : ∀ c o, s.heap.get? c = some o → isTupObj o → (s.heap.update a (Obj.mapSeq fun x => x.push v)).get? c = some o := fun c o e t => hk c o (fun q => by subst q; rw [e1] at e; cases e; exact not_tup_of_list ⟨vs, m, rfl⟩ t) e
  have z := PySem.IsL.update (items := vs.toArray) (n := m) e1 (fun x => x.push v)
  have q : vs.toArray.push v = (vs ++ [v]).toArray := by simp
  rw [q] at z
  exact ⟨.none, _, .none, cr.write (vs := vs ++ [v]) ha hk z ((x1.mono ht).append (.one (r2.mono ht))), Step.write (tk := s.toks) ha hk, h⟩
theorem M_pop {a : Addr} {d : D} {ds : List D} (ha : σ a = some (ds ++ [d])) (hz : ds.length < sizeLine) (h : Q d (σ.put a ds)) : OPN X n (callB "list.pop") [.lst a] σ Q := fun _ s _ ao cr rs => by
  cases rs with
  | cons r rs =>
  cases rs
  cases r
  obtain ⟨vs, m, e1, x1⟩ := cr.store a _ ha
  have hl := x1.length
  rw [List.length_append, List.length_singleton] at hl
  obtain ⟨v, hv, rv⟩ := x1.get (i := ds.length) (d := d) (by simp)
  have hsz : vs.toArray.size - 1 = ds.length := by simp; (first | lia | omega)
  refine call_meets PySem.F.slot_list_pop ⟨_, e1, rfl⟩ PySem.F.entry_list_pop (PySem.F.args_list_pop_1 _) (PySem.MeetsSeq.list_pop_last a vs.toArray m v (by rw [hsz]; simpa using hv) (by simp; (first | lia | omega))) ⟨e1, ?_⟩
  generalize hf : (fun xs : Array Value => xs.eraseIdxIfInBounds (vs.toArray.size - 1)) = f
  have hk : ∀ c o, c ≠ a → s.heap.get? c = some o → (s.heap.update a (Obj.mapSeq f)).get? c = some o := fun c o q e => (Heap.get?_update_other s.heap _ (Ne.symm q)).trans e
  have ht : ∀ c o, s.heap.get? c = some o → isTupObj o → (s.heap.update a (Obj.mapSeq f)).get? c = some o := fun c o e t => hk c o (fun q => by subst q; rw [e1] at e; cases e; exact not_tup_of_list ⟨vs, m, rfl⟩ t) e
  have z := PySem.IsL.update (items := vs.toArray) (n := m) e1 f
  have q : f vs.toArray = (vs.take ds.length).toArray := by
    rw [← hf]
    simp only
    rw [hsz]
    apply Array.ext'
    simp [Array.eraseIdxIfInBounds]
    rw [if_pos (by (first | lia | omega))]
    simp
    rw [List.eraseIdx_eq_take_drop_succ, List.drop_of_length_le (by (first | lia | omega)), List.append_nil]
  rw [q] at z
  have x2 := x1.take ds.length
  rw [List.take_left] at x2
  exact ⟨d, _, rv.mono ht, cr.write (vs := vs.take ds.length) ha hk z (x2.mono ht), Step.write (tk := s.toks) ha hk, h⟩
theorem M_count {a : Addr} {k : Int} {ns : List Int} (ha : σ a = some (ns.map D.int)) (h : Q (.int (ns.count k)) σ) : OPN X n (callB "list.count") [.lst a, .int k] σ Q := fun _ s _ ao cr rs => by
  cases rs with
  | cons r rs =>
  cases rs with
  | cons r2 rs =>
  cases rs
  cases r; cases r2
  obtain ⟨vs, m, e1, x1⟩ := cr.store a _ ha
  exact count_list_ints ⟨_, e1, rfl, m, rfl⟩ x1.ints_are (PostV.toks _ (.int _ _) cr h)
theorem M_index {a : Addr} {k : Int} {ns : List Int} {j : Nat} (ha : σ a = some (ns.map D.int)) (hz : ns.length ≤ sizeLine) (hj : ns[j]? = some k) (hno : ∀ i, i < j → ns[i]? ≠ some k) (h : Q (.int j) σ) : OPN X n (callB "list.index") [.lst a, .int k] σ Q := fun _ s _ ao cr rs => by
  cases rs with
  | cons r rs =>
  cases rs with
  | cons r2 rs =>
  cases rs
  cases r; cases r2
  rename_i t
  obtain ⟨vs, m, e1, x1⟩ := cr.store a _ ha
  have hi := x1.ints_are
  have hl := x1.length
  rw [List.length_map] at hl
  have hjl : j < ns.length := (List.getElem?_eq_some_iff.mp hj).1
  have at_ : ∀ i, i < ns.length → ∃ u, vs[i]? = some (.int (ns.getD i 0) u) := fun i hlt => by
    obtain ⟨v, hv, rv⟩ := x1.get (i := i) (d := .int (ns.getD i 0)) (by rw [List.getElem?_map, List.getElem?_eq_getElem hlt]; simp [List.getD_eq_getElem?_getD, List.getElem?_eq_getElem hlt])
    cases rv; exact ⟨_, hv⟩
  let e : Value → Bool := fun y => match y with | .int i _ => i == k | _ => false
  have he : ∀ y, y ∈ vs.toArray → MeetsSeq.EqGives y (.int k t) (e y) := fun y hy => by
    have hy' : y ∈ vs := by simpa using hy
    obtain ⟨i, hlt, rfl⟩ := List.getElem_of_mem hy'
    obtain ⟨u, hu⟩ := at_ i (by (first | lia | omega))
    have : vs[i] = .int (ns.getD i 0) u := by rw [List.getElem?_eq_getElem hlt] at hu; exact Option.some.inj hu
    rw [this]
    exact MeetsSeq.EqGives.int _ _ _ _
  have val : ∀ i (hlt : i < vs.toArray.size), e vs.toArray[i] = (ns.getD i 0 == k) := fun i hlt => by
    have hlt' : i < vs.length := by simpa using hlt
    obtain ⟨u, hu⟩ := at_ i (by (first | lia | omega))
    have q : vs[i] = .int (ns.getD i 0) u := by rw [List.getElem?_eq_getElem hlt'] at hu; exact Option.some.inj hu
    have : vs.toArray[i] = .int (ns.getD i 0) u := by simpa using q
    rw [this]
  have := line63
  refine call_meets PySem.F.slot_list_index ⟨_, e1, rfl⟩ PySem.F.entry_list_index (PySem.F.args_list_index_2 _ _) (PySem.MeetsSeq.list_index a vs.toArray m (.int k t) e he j (by simp; (first | lia | omega)) (by (first | lia | omega)) ?_ ?_) ⟨e1, PostV.toks _ (.int _ _) cr h⟩
  · rw [val]
    rw [List.getD_eq_getElem?_getD, hj]; simp
  · intro i hlt hij
    rw [val]
    have hlt' : i < ns.length := by simp at hlt; (first | lia | omega)
    have := hno i hij
    rw [List.getElem?_eq_getElem hlt'] at this
    rw [List.getD_eq_getElem?_getD, List.getElem?_eq_getElem hlt']
    simp at this ⊢
    exact this

/-! methods of a text -/
theorem VRs.of_strs {b h : Heap} : ∀ (l : List (Str × Tok)), VRs b h (strValues l) ((l.map (·.1)).map D.str)
  | [] => .nil
  | (x, t) :: r => .cons (.str x t) (VRs.of_strs r)
theorem M_split {x : Str} {ws : List Str} (h1 : (Builtin.Str.spaceWords x (x.length + 1) == [(0, x.length)]) = false) (hw : _root_.PySem.wordsOf x = ws) (hx : x.length ≤ sizeLine) (hz : (Builtin.Str.spaceWords x (x.length + 1)).length ≤ sizeLine)
    (h : ∀ a, σ a = none → Q (.lst a) (σ.put a (ws.map D.str))) : OPN X n (callB "str.split") [.str x] σ Q := fun _ s _ ao cr rs => by
  cases rs with
  | cons r rs =>
  cases rs
  cases r
  rename_i t
  refine call_meets PySem.F.slot_str_split (typeIs_str _ _ _) PySem.F.entry_str_split (PySem.F.args_str_split_1 _) (meets_str_split_space x t hx hz) ?_
  rw [if_neg (by rw [h1]; exact Bool.false_ne_true), strsFrom_eq, hw]
  have x1 : VRs X.b s.heap (strValues (_root_.PySem.numbered s.toks ws)) (ws.map D.str) := by
    have := VRs.of_strs (b := X.b) (h := s.heap) (_root_.PySem.numbered s.toks ws)
    rw [numbered_texts] at this
    exact this
  generalize strValues (_root_.PySem.numbered s.toks ws) = vs at x1
  have hk : ∀ a o, s.heap.get? a = some o → (s.heap.push (lstO vs 0)).get? a = some o := fun _ _ e => Heap.get?_push_of_some _ e
  have hn : s.heap.get? s.heap.objs.size = none := by
    cases e : s.heap.get? s.heap.objs.size with
    | none => rfl
    | some o => exact absurd (Heap.lt_size e) (Nat.lt_irrefl _)
  exact ⟨.lst _, _, .lst _, cr.new (vs := vs) (n := 0) hk hn (Heap.get?_push_size _ rfl) (x1.mono fun a o e _ => hk a o e), Step.new hk hn, h _ (cr.none_of_fresh hn)⟩
theorem strs_pairs {b h : Heap} : ∀ {vs : List Value} {ls : List (List Nat)}, VRs b h vs (ls.map fun l => D.str (S l)) → ∃ l : List (Str × Tok), vs = strValues l ∧ l.map (·.1) = ls.map S
  | [], ls, r => by
    cases ls with
    | nil => exact ⟨[], rfl, rfl⟩
    | cons => cases r
  | v :: vs, ls, r => by
    cases ls with
    | nil => cases r
    | cons l ls =>
      cases r with
      | cons r rs =>
        obtain ⟨q, e1, e2⟩ := strs_pairs rs
        cases r
        rename_i t
        exact ⟨(S l, t) :: q, by rw [e1]; rfl, by simp [e2]⟩
theorem join_empty : ∀ (ls : List (List Nat)), Str.join (S []) (ls.map S) = S ls.flatten
  | [] => rfl
  | [l] => by
    show S l = _
    simp
  | l :: m :: r => by
    show S l ++ S [] ++ Str.join (S []) ((m :: r).map S) = _
    rw [join_empty (m :: r), S_append, S_append]
    simp
theorem M_join {a : Addr} {ls : List (List Nat)} (ha : σ a = some (ls.map fun l => D.str (S l))) (hz : (ls.map List.length).sum ≤ sizeLine) (h : Q (.str (S ls.flatten)) σ) : OPN X n (callB "str.join") [.str (S []), .lst a] σ Q := fun _ s _ ao cr rs => by
  cases rs with
  | cons r rs =>
  cases rs with
  | cons r2 rs =>
  cases rs
  cases r; cases r2
  obtain ⟨vs, m, e1, x1⟩ := cr.store a _ ha
  obtain ⟨l, rfl, e2⟩ := strs_pairs x1
  have ok : JoinOk (S []) (ls.map S) = true := by
    unfold JoinOk Builtin.Str.tooLong
    have key : ∀ (ls : List (List Nat)) (k : Nat), (ls.map S).toArray.foldl (fun a x => a + x.length + (S []).length) k = k + (ls.map List.length).sum := by
      intro ls
      induction ls with
      | nil => intro k; simp
      | cons l r ih =>
        intro k
        have := ih (k + l.length)
        simp only [List.foldl_toArray, List.map_cons, List.foldl_cons, S_len, List.length_nil, Nat.add_zero, List.sum_cons] at this ⊢
        rw [this]; (first | lia | omega)
    rw [key]
    simp; (first | lia | omega)
  refine SC.join (l := l) ⟨_, e1, rfl, m, rfl⟩ e2 ok fun t' tk => ?_
  have e : PySem.Txt.join (S []) (ls.map S) = S ls.flatten := by
    rw [← join_empty]
    exact StrLaws.glued_eq_join _ _
  rw [e]
  exact PostV.toks tk (.str _ _) cr h
end
end Mine

namespace Mine
open PySem PySem.W PyProof.Rows

noncomputable def loopObj (o : Obj) : Prop := isBox o ∨ ∃ vs, o.data = .fields vs
theorem not_tup_of_loop {o : Obj} (x : loopObj o) : ¬ isTupObj o := fun y => by
  rcases x with x | ⟨vs, d⟩
  · exact not_tup_of_box x y
  · obtain ⟨us, n, rfl⟩ := y; cases d
theorem not_list_of_loop {o : Obj} (x : loopObj o) : ¬ isListObj o := fun y => by
  rcases x with x | ⟨vs, d⟩
  · exact not_list_of_box x y
  · obtain ⟨us, n, rfl⟩ := y; cases d

structure Touch (wr : Addr → Prop) (gi : Nat → Prop) (s s' : Shared) : Prop where
  heap : ∀ a o, ¬ wr a → s.heap.get? a = some o → s'.heap.get? a = some o
  gens : ∀ (j : Nat) (g : GenState), ¬ gi j → s.gens[j]? = some g → s'.gens[j]? = some g
  drawn : s'.drawn = s.drawn
  os : s'.os = s.os
  bare : AllBare s.gens → AllBare s'.gens

noncomputable def Fresh (wr : Addr → Prop) (gi : Nat → Prop) (σ : Store) (s : Shared) : Prop :=
  (∀ a o, s.heap.get? a = some o → σ a = none → ¬ wr a) ∧ ∀ (j : Nat) (g : GenState), s.gens[j]? = some g → ¬ gi j

structure IW (X : Ctx) (n : Nat) (target : Expr) (I : Addr) (gi : Nat → Prop) (ds : List D) (need : Store → Prop) (St : Nat → (Addr → Prop) → Shared → Prop) : Prop where
  frame : ∀ i wr s s', St i wr s → (∀ a o, wr a → s.heap.get? a = some o → s'.heap.get? a = some o) → (∀ a o, s.heap.get? a = some o → isTupObj o → s'.heap.get? a = some o) → (∀ (j : Nat) (g : GenState), s.gens[j]? = some g → s'.gens[j]? = some g) → St i wr s'
  kind : ∀ i wr s a, St i wr s → wr a → ∃ o, s.heap.get? a = some o ∧ loopObj o
  item : ∀ A i wr s σ d (R : Value → Shared → Prop), OkA n A → CR X.b s.heap σ → need σ → St i wr s → ds[i]? = some d →
    (∀ v s' wr', VR X.b s'.heap v d → St (i + 1) wr' s' → (∀ a, wr' a → wr a ∨ s.heap.get? a = none) → Touch wr gi s s' → R v s') →
    wpAny (model X.prog X.w) A (pyNext (.ref I)) (fun r s₁ => ∃ v, r = some v ∧ wpAny (model X.prog X.w) A (letOwnedTupleGo target (.ref I) v) (fun _ s₂ => R v s₂) NoE s₁) NoE s
  done : ∀ A wr s σ (R : Shared → Prop), OkA n A → CR X.b s.heap σ → need σ → St ds.length wr s → (∀ s', Touch wr gi s s' → R s') →
    wpAny (model X.prog X.w) A (pyNext (.ref I)) (fun r s₁ => r = none ∧ R s₁) NoE s
  self : ∀ A i wr s (R : Value → Shared → Prop), St i wr s → R (.ref I) s → wpAny (model X.prog X.w) A (pyIter (.ref I)) R NoE s

section
variable {b : Heap} {own : Addr → Prop} {σ σ₀ σ' : Store} {s s₀ s' : Shared} {wr : Addr → Prop} {gi : Nat → Prop}

theorem Touch.tups (t : Touch wr gi s s') (hw : ∀ a, wr a → ∃ o, s.heap.get? a = some o ∧ loopObj o) : ∀ a o, s.heap.get? a = some o → isTupObj o → s'.heap.get? a = some o := fun a o e z =>
  t.heap a o (fun q => by obtain ⟨o', e', k⟩ := hw a q; rw [e] at e'; cases e'; exact not_tup_of_loop k z) e
theorem CR.touch (cr : CR b s.heap σ) (t : Touch wr gi s s') (hw : ∀ a, wr a → ∃ o, s.heap.get? a = some o ∧ loopObj o) (hb : ∀ a o, b.get? a = some o → ¬ wr a) : CR b s'.heap σ where
  base a o e := t.heap a o (hb a o e) (cr.base a o e)
  store a ds z := by
    obtain ⟨vs, n, e, r⟩ := cr.store a ds z
    exact ⟨vs, n, t.heap _ _ (fun q => by obtain ⟨o', e', k⟩ := hw a q; rw [e] at e'; cases e'; exact not_list_of_loop k ⟨vs, n, rfl⟩) e, r.mono (t.tups hw)⟩
  fresh := cr.fresh
theorem NR.touch {F : Fm} {η : Names} (nr : NR b s.heap F η) (t : Touch wr gi s s') (hw : ∀ a, wr a → ∃ o, s.heap.get? a = some o ∧ loopObj o)
    (hl : ¬ wr F.env.locals) (hc : ∀ x c, F.env.cells.lookup x = some c → ¬ wr c) (ho : ∀ a, F.own a → ¬ wr a) : NR b s'.heap F η where
  ns := by
    obtain ⟨m, hn, hm⟩ := nr.ns
    refine ⟨m, hn.at' fun o e => t.heap _ o hl e, fun y d hl' hd => ?_⟩
    obtain ⟨v, e, r⟩ := hm y d hl' hd
    exact ⟨v, e, r.mono (t.tups hw)⟩
  cells y c hy := by
    obtain ⟨vo, ⟨o, e, d⟩, r⟩ := nr.cells y c hy
    refine ⟨vo, ⟨o, t.heap _ _ (hc y c hy) e, d⟩, fun d hl' hd => ?_⟩
    obtain ⟨v, e, r⟩ := r d hl' hd
    exact ⟨v, e, r.mono (t.tups hw)⟩
  box a ha := by
    obtain ⟨o, e, q⟩ := nr.box a ha
    exact ⟨o, t.heap a o (ho a ha) e, q⟩
theorem Step.alive (st : Step own σ σ' s s') {a : Addr} {o : Obj} (e : s.heap.get? a = some o) (z : σ a = none) : ∃ o', s'.heap.get? a = some o' := by
  by_cases n : own a
  · exact st.there a o e z n
  · exact ⟨o, st.heap a o e z n⟩
theorem Step.touch (st : Step own σ₀ σ s₀ s) (t : Touch wr gi s s') (fr : Fresh wr gi σ₀ s₀) : Step own σ₀ σ s₀ s' where
  heap a o e z n := t.heap a o (fr.1 a o e z) (st.heap a o e z n)
  there a o e z n := by
    obtain ⟨o', e'⟩ := st.there a o e z n
    exact ⟨o', t.heap a o' (fr.1 a o e z) e'⟩
  dom := st.dom
  gens j g e := t.gens j g (fr.2 j g e) (st.gens j g e)
  drawn := t.drawn.trans st.drawn
  os := t.os.trans st.os
  bare := fun h => t.bare (st.bare h)
theorem Fresh.more {wr' : Addr → Prop} (fr : Fresh wr gi σ₀ s₀) (st : Step own σ₀ σ s₀ s) (h : ∀ a, wr' a → wr a ∨ s.heap.get? a = none) : Fresh wr' gi σ₀ s₀ :=
  And.intro (fun a o e z q => by
    rcases h a q with q | q
    · exact fr.1 a o e z q
    · obtain ⟨o', e'⟩ := st.alive e z
      rw [q] at e'
      cases e') fr.2
/-- what stood in the frame is not written by the walk -/
theorem Fresh.names {F : Fm} {η : Names} (fr : Fresh wr gi σ₀ s₀) (nr : NR b s₀.heap F η) (cr : CR b s₀.heap σ₀) :
    ¬ wr F.env.locals ∧ (∀ x c, F.env.cells.lookup x = some c → ¬ wr c) ∧ (∀ a, F.own a → ¬ wr a) ∧ ∀ a o, b.get? a = some o → ¬ wr a := by
  have bx : ∀ a o, s₀.heap.get? a = some o → isBox o → ¬ wr a := fun a o e x => fr.1 a o e (box_not_store cr e x)
  refine ⟨?_, fun x c hc => ?_, fun a ha => ?_, fun a o e => ?_⟩
  · obtain ⟨m, hn, _⟩ := nr.ns
    obtain ⟨o, e, x⟩ := box_of_ns hn
    exact bx _ o e x
  · obtain ⟨vo, ic, _⟩ := nr.cells x c hc
    obtain ⟨o, e, x⟩ := box_of_cell ic
    exact bx _ o e x
  · obtain ⟨o, e, x⟩ := nr.box a ha
    exact bx _ o e x
  · refine fr.1 a o (cr.base a o e) ?_
    cases q : σ₀ a with
    | none => rfl
    | some ds => have := cr.fresh a ds q; rw [e] at this; cases this
end

section
variable {X : Ctx} {n : Nat} {F : Fm} {η η' : Names} {σ σ₁ σ' : Store} {s s₁ s' : Shared} {A : Around}

noncomputable def AS (sc : Scope) (target : Expr) (d : D) (η : Names) (K : Names → Prop) : Prop :=
  match target with
  | .Name x _ => isOwnVar sc x = true ∧ K (η.put x d)
  | .Tuple es _ _ => ∃ xs ds, namesOf es = some xs ∧ (xs.all fun x => isOwnVar sc x) = true ∧ d = .tup ds ∧ ds.length = xs.length ∧ K (putAll η xs ds)
  | _ => False
theorem wpAny_AS {target : Expr} {d : D} {K : Names → Prop} {v : Value} (h : AS F.sc target d η K) (fo : FmOk X.b F) (ao : OkA n A) (nr : NR X.b s.heap F η) (cr : CR X.b s.heap σ) (r : VR X.b s.heap v d) {E : Value → Shared → Prop} :
    wpAny (model X.prog X.w) A (assign target F.env v) (fun _ s' => ∃ η', PostN X F η' σ s s' ∧ K η') E s := by
  unfold AS at h
  split at h
  · exact PySem.wpAny_assign_Name (wpAny_store_var fo nr cr h.1 r fun s₁ pn => ⟨_, pn, h.2⟩)
  · obtain ⟨xs, ds, hn, ho, rfl, hl, k⟩ := h
    exact wpAny_assignNames fo ao nr cr hn (fun x hx => List.all_eq_true.mp ho x hx) hl r fun s₁ pn => ⟨_, pn, k⟩
  · cases h
theorem AS.mono {sc : Scope} {target : Expr} {d : D} {K K' : Names → Prop} (h : AS sc target d η K) (hk : ∀ η, K η → K' η) : AS sc target d η K' := by
  unfold AS at h ⊢
  split at h
  · exact ⟨h.1, hk _ h.2⟩
  · obtain ⟨xs, ds, a, b, c, d, e⟩ := h; exact ⟨xs, ds, a, b, c, d, hk _ e⟩
  · cases h

noncomputable def LOOP (X : Ctx) (n : Nat) (F : Fm) (target : Expr) (body : List Stmt) (need : Store → Prop) (Q : Fl → Names → Store → Prop) : List D → Names → Store → Prop
  | [], η, σ => need σ ∧ Q .next η σ
  | d :: ds, η, σ => need σ ∧ AS F.sc target d η fun η₁ => EXS X n F η₁ σ body fun fl η₂ σ₂ => match fl with
    | .next => LOOP X n F target body need Q ds η₂ σ₂
    | .cont => LOOP X n F target body need Q ds η₂ σ₂
    | .brk => Q .next η₂ σ₂
    | .ret r => Q (.ret r) η₂ σ₂

noncomputable def ITR (X : Ctx) (n : Nat) (F : Fm) (η : Names) (σ : Store) (target iter : Expr) (Q : List D → (Store → Prop) → Store → Prop) : Prop :=
  ∀ A s, FmOk X.b F → OkA n A → NR X.b s.heap F η → CR X.b s.heap σ →
    wpAny (model X.prog X.w) A (eval iter F.env) (fun x s₁ => wpAny (model X.prog X.w) A (pyIter x) (fun it s₂ =>
      ∃ I gi ds need St wr σ₂, it = .ref I ∧ IW X n target I gi ds need St ∧ St 0 wr s₂ ∧ Fresh wr gi σ s ∧ CR X.b s₂.heap σ₂ ∧ Step noOwn σ σ₂ s s₂ ∧ Q ds need σ₂) NoE s₁) NoE s

theorem loop_sound {target : Expr} {body : List Stmt} {I : Addr} {gi : Nat → Prop} {ds : List D} {need : Store → Prop} {St : Nat → (Addr → Prop) → Shared → Prop} {Q : Fl → Names → Store → Prop} {s₀ : Shared} {σ₀ : Store} {η₀ : Names} {R : Result → Shared → Prop}
    (W : IW X n target I gi ds need St) (fo : FmOk X.b F) (ao : OkA n A) (nr0 : NR X.b s₀.heap F η₀) (cr0 : CR X.b s₀.heap σ₀)
    (hR : ∀ f s', PostF X F σ₀ s₀ Q f s' → R (.ok f) s')
    {wr : Addr → Prop} (fr : Fresh wr gi σ₀ s₀) (st : St 0 wr s) (nr : NR X.b s.heap F η) (cr : CR X.b s.heap σ) (stp : Step F.own σ₀ σ s₀ s) (h : LOOP X n F target body need Q ds η σ) :
    codeAny (model X.prog X.w) A (.forLoop target (.ref I) body [] F.env) R s := by
  refine codeAny_forLoop_any (fun k s => ∃ i η σ wr, i ≤ ds.length ∧ k = ds.length - i ∧ Fresh wr gi σ₀ s₀ ∧ St i wr s ∧ NR X.b s.heap F η ∧ CR X.b s.heap σ ∧ Step F.own σ₀ σ s₀ s ∧ LOOP X n F target body need Q (ds.drop i) η σ) ?_ ds.length
    ⟨0, η, σ, wr, Nat.zero_le _, rfl, fr, st, nr, cr, stp, by simpa using h⟩
  clear h stp cr nr st fr
  rintro k s ⟨i, η, σ, wr, hi, rfl, fr, st, nr, cr, stp, h⟩
  have hw := fun a => W.kind i wr s a st
  obtain ⟨hl, hc, ho, hb⟩ := fr.names nr0 cr0
  by_cases hlt : i < ds.length
  · have hd : ds[i]? = some ds[i] := List.getElem?_eq_getElem hlt
    rw [List.drop_eq_getElem_cons hlt] at h
    obtain ⟨hneed, has⟩ := h
    refine wpAny_weak (W.item A i wr s σ ds[i] (fun v s₁ => wpAny (model X.prog X.w) A (assign target F.env v) (fun _ s₂ => wpAny (model X.prog X.w) A (execs body F.env) (fun f s₃ => match f with
            | .next | .cont => ∃ m, m < ds.length - i ∧ ∃ i η σ wr, i ≤ ds.length ∧ m = ds.length - i ∧ Fresh wr gi σ₀ s₀ ∧ St i wr s₃ ∧ NR X.b s₃.heap F η ∧ CR X.b s₃.heap σ ∧ Step F.own σ₀ σ s₀ s₃ ∧ LOOP X n F target body need Q (ds.drop i) η σ
            | .brk => R (.ok .next) s₃
            | .ret v => R (.ok (.ret v)) s₃) NoE s₂) NoE s₁) ao cr hneed st hd fun v s₁ wr' rv st₁ hwr' t => ?_) fun r s₁ p => ?_
    · have nr₁ := nr.touch t hw hl hc ho
      have cr₁ := cr.touch t hw hb
      have stp₁ := stp.touch t fr
      have fr' := fr.more stp hwr'
      obtain ⟨hl', hc', ho', hb'⟩ := fr'.names nr0 cr0
      have hw' := fun a => W.kind (i + 1) wr' s₁ a st₁
      refine wpAny_weak (wpAny_AS has fo ao nr₁ cr₁ rv) fun _ s₂ p => ?_
      obtain ⟨η', ⟨nr₂, cr₂, stp₂, _⟩, hx⟩ := p
      refine wpAny_weak (hx A s₂ fo ao nr₂ cr₂) fun f s₃ p => ?_
      obtain ⟨fl, η₃, σ₃, rf, nr₃, cr₃, stp₃, q⟩ := p
      have stt : Step F.own σ₀ σ₃ s₀ s₃ := (stp₁.trans stp₂).trans stp₃
      have st₃ : St (i + 1) wr' s₃ := W.frame _ _ _ _ st₁ (fun a o hwa e => by
        obtain ⟨o', e', k⟩ := hw' a hwa
        rw [e] at e'; cases e'
        have z : σ a = none := by
          cases q : σ a with
          | none => rfl
          | some es => exact absurd (cr₁.listObj e q) (not_list_of_loop k)
        exact (stp₂.trans stp₃).heap a o e z fun h => ho' a h hwa) ((stp₂.trans stp₃).tups cr₁ nr₁.boxes) (stp₂.trans stp₃).gens
      cases rf with
      | next => exact ⟨ds.length - (i + 1), by omega, i + 1, η₃, σ₃, wr', hlt, rfl, fr', st₃, nr₃, cr₃, stt, q⟩
      | cont => exact ⟨ds.length - (i + 1), by omega, i + 1, η₃, σ₃, wr', hlt, rfl, fr', st₃, nr₃, cr₃, stt, q⟩
      | brk => exact hR _ _ ⟨.next, η₃, σ₃, .next, nr₃, cr₃, stt, q⟩
      | ret rv => exact hR _ _ ⟨.ret _, η₃, σ₃, .ret rv, nr₃, cr₃, stt, q⟩
    · obtain ⟨v, rfl, p⟩ := p
      refine wpAny_weak p fun _ s₂ p => wpAny_weak p fun _ s₃ p => wpAny_weak p fun f s₄ p => ?_
      cases f <;> exact p
  · have hi' : i = ds.length := by omega
    subst hi'
    rw [List.drop_length] at h
    refine wpAny_weak (W.done A wr s σ (fun s' => PostF X F σ₀ s₀ Q .next s') ao cr h.1 st fun s' t => ?_) fun r s₁ p => ?_
    · exact ⟨.next, η, σ, .next, nr.touch t hw hl hc ho, cr.touch t hw hb, stp.touch t fr, h.2⟩
    · obtain ⟨rfl, p⟩ := p
      exact wpAny_execs_nil (hR _ _ p)

theorem X_for {target iter : Expr} {body : List Stmt} {pos : Pos} {Q : Fl → Names → Store → Prop} (h : ITR X n F η σ target iter fun ds need σ₁ => LOOP X n F target body need Q ds η σ₁)
    (hs : ∀ x, foldedSetIterable iter F.env x = pure x := by intro _; rfl) : EX X n F η σ (.For target iter body [] pos) Q :=
  fun A s fo ao nr cr => wpAny_For (wpAny_weak (h A s fo ao nr cr) fun x s₁ p => wpAny_weak p fun it s₂ p => by
    obtain ⟨I, gi, ds, need, St, wr, σ₂, rfl, W, st, fr, cr₂, stp, q⟩ := p
    exact loop_sound W fo ao nr cr (fun f s' p => p) fr st (nr.step cr stp) cr₂ stp.lift q) hs

/-- by an invariant -/
theorem LOOP.inv {target : Expr} {body : List Stmt} {need : Store → Prop} {Q : Fl → Names → Store → Prop} {ds : List D} (J : Nat → Names → Store → Prop) (h0 : J 0 η σ)
    (step : ∀ i d η σ, ds[i]? = some d → J i η σ → need σ ∧ AS F.sc target d η fun η₁ => EXS X n F η₁ σ body fun fl η₂ σ₂ => match fl with
      | .next => J (i + 1) η₂ σ₂
      | .cont => J (i + 1) η₂ σ₂
      | .brk => Q .next η₂ σ₂
      | .ret r => Q (.ret r) η₂ σ₂)
    (fin : ∀ η σ, J ds.length η σ → need σ ∧ Q .next η σ) : LOOP X n F target body need Q ds η σ := by
  have key : ∀ (rest : List D) (i : Nat) (η : Names) (σ : Store), ds.drop i = rest → i ≤ ds.length → J i η σ → LOOP X n F target body need Q rest η σ := by
    intro rest
    induction rest with
    | nil =>
      intro i η σ e hi hj
      have : i = ds.length := by
        have := List.drop_eq_nil_iff.mp e; omega
      exact fin η σ (this ▸ hj)
    | cons d rest ih =>
      intro i η σ e hi hj
      have hlt : i < ds.length := by
        rcases Nat.lt_or_ge i ds.length with h | h
        · exact h
        · rw [List.drop_of_length_le h] at e; cases e
      rw [List.drop_eq_getElem_cons hlt] at e
      injection e with e1 e2
      have hd : ds[i]? = some d := by rw [List.getElem?_eq_getElem hlt, e1]
      obtain ⟨hn, has⟩ := step i d η σ hd hj
      refine ⟨hn, has.mono fun η₁ hx => hx.mono fun fl η₂ σ₂ q => ?_⟩
      cases fl with
      | next => exact ih (i + 1) η₂ σ₂ e2 hlt q
      | cont => exact ih (i + 1) η₂ σ₂ e2 hlt q
      | brk => exact q
      | ret r => exact q
  exact key ds 0 η σ rfl (Nat.zero_le _) h0

/-! while -/
theorem X_while {test : Expr} {body : List Stmt} {pos : Pos} {Q : Fl → Names → Store → Prop} (J : Nat → Names → Store → Prop) (k : Nat) (h0 : J k η σ)
    (step : ∀ k η σ, J k η σ → ET X n F η σ test fun t σ₁ => if t then EXS X n F η σ₁ body fun fl η₂ σ₂ => match fl with
        | .next => ∃ m, m < k ∧ J m η₂ σ₂
        | .cont => ∃ m, m < k ∧ J m η₂ σ₂
        | .brk => Q .next η₂ σ₂
        | .ret r => Q (.ret r) η₂ σ₂
      else Q .next η σ₁) : EX X n F η σ (.While test body [] pos) Q :=
  fun A s fo ao nr cr => by
    refine wpAny_While ?_
    refine codeAny_whileLoop (fun k s' => ∃ η' σ', NR X.b s'.heap F η' ∧ CR X.b s'.heap σ' ∧ Step F.own σ σ' s s' ∧ J k η' σ') ?_ k ⟨η, σ, nr, cr, .refl, h0⟩
    rintro k s₁ ⟨η₁, σ₁, nr₁, cr₁, st₁, j⟩
    refine wpAny_weak (step k η₁ σ₁ j A s₁ fo ao nr₁ cr₁) fun t s₂ p => ?_
    obtain ⟨σ₂, c, st₂, q⟩ := p
    have stt := st₁.trans st₂.lift
    cases t with
    | false =>
      simp only [Bool.false_eq_true, if_false] at q ⊢
      exact wpAny_execs_nil ⟨.next, η₁, σ₂, .next, nr₁.step cr₁ st₂, c, stt, q⟩
    | true =>
      simp only [if_true] at q ⊢
      refine wpAny_weak (q A s₂ fo ao (nr₁.step cr₁ st₂) c) fun f s₃ p => ?_
      obtain ⟨fl, η₃, σ₃, rf, nr₃, cr₃, st₃, q⟩ := p
      have st' := stt.trans st₃
      cases rf with
      | next => obtain ⟨m, hm, j⟩ := q; exact ⟨m, hm, η₃, σ₃, nr₃, cr₃, st', j⟩
      | cont => obtain ⟨m, hm, j⟩ := q; exact ⟨m, hm, η₃, σ₃, nr₃, cr₃, st', j⟩
      | brk => exact ⟨.next, η₃, σ₃, .next, nr₃, cr₃, st', q⟩
      | ret rv => exact ⟨.ret _, η₃, σ₃, .ret rv, nr₃, cr₃, st', q⟩
end
end Mine

namespace Mine
open PySem PySem.W PyProof.Rows

section
variable {X : Ctx} {n : Nat} {F : Fm} {η η' : Names} {σ σ₁ σ' : Store} {s s₁ s' : Shared} {A : Around}

abbrev noGen : Nat → Prop := fun _ => False

theorem IW.list {target : Expr} {I ax : Addr} {ds : List D} :
    IW X n target I noGen ds (fun σ => σ ax = some ds) (fun i wr s => (∀ a, wr a ↔ a = I) ∧ s.heap.IsListIter I ax i) where
  frame i wr s s' st hk _ _ := ⟨st.1, st.2.at fun o e => hk I o ((st.1 I).mpr rfl) e⟩
  kind i wr s a st ha := by
    obtain ⟨hw, o, e, _, d⟩ := st
    rw [(hw a).mp ha]
    exact ⟨o, e, .inr ⟨_, d⟩⟩
  item A i wr s σ d R ao cr need st hd h := by
    obtain ⟨hw, st⟩ := st
    obtain ⟨vs, m, e1, x1⟩ := cr.store ax ds need
    obtain ⟨v, hv, rv⟩ := x1.get hd
    refine wpAny_pyNext_list_item (items := vs.toArray) st ⟨_, e1, rfl, m, rfl⟩ (x := v) (by simpa using hv) fun h' hit' hs' => ?_
    have t : Touch wr noGen s { s with heap := h' } := ⟨fun a o na e => hs'.extBut a o (fun q => na ((hw a).mpr q)) e, fun _ _ _ e => e, rfl, rfl, fun h => h⟩
    refine ⟨v, rfl, letGo_listiter (s' := { s with heap := h' }) hit' (h v _ wr (rv.mono fun a o e z => ?_) ⟨hw, hit'⟩ (fun a h => .inl h) t)⟩
    refine t.tups (fun a ha => ?_) a o e z
    obtain ⟨o, e, _, d⟩ := st
    rw [(hw a).mp ha]
    exact ⟨o, e, .inr ⟨_, d⟩⟩
  done A wr s σ R ao cr need st h := by
    obtain ⟨hw, st⟩ := st
    obtain ⟨vs, m, e1, x1⟩ := cr.store ax ds need
    have hl := x1.length
    refine wpAny_pyNext_list_end (items := vs.toArray) ao.1 st ⟨_, e1, rfl, m, rfl⟩ (by simp; (first | lia | omega)) fun h' he => ⟨rfl, h _ ⟨fun a o na e => he a o (fun q => na ((hw a).mpr q)) e, fun _ _ _ e => e, rfl, rfl, fun h => h⟩⟩
  self A i wr s R st h := wpAny_pyIter_listiter st.2 h

theorem IW.tuple {target : Expr} {I ax : Addr} {ds : List D} :
    IW X n target I noGen ds (fun _ => True) (fun i wr s => (∀ a, wr a ↔ a = I) ∧ s.heap.IsTupleIter I ax i ∧ ∃ vs m, s.heap.get? ax = some (tupO vs m) ∧ VRs X.b s.heap vs ds) where
  frame i wr s s' st hk ht _ := by
    obtain ⟨hw, hi, vs, m, e, r⟩ := st
    exact ⟨hw, hi.at fun o e => hk I o ((hw I).mpr rfl) e, vs, m, ht _ _ e ⟨vs, m, rfl⟩, r.mono ht⟩
  kind i wr s a st ha := by
    obtain ⟨hw, ⟨o, e, _, d⟩, _⟩ := st
    rw [(hw a).mp ha]
    exact ⟨o, e, .inr ⟨_, d⟩⟩
  item A i wr s σ d R ao cr need st hd h := by
    obtain ⟨hw, st, vs, m, e1, x1⟩ := st
    obtain ⟨v, hv, rv⟩ := x1.get hd
    refine wpAny_pyNext_tuple_item (items := vs.toArray) st ⟨_, e1, rfl, m, rfl⟩ (x := v) (by simpa using hv) fun h' hit' hs' => ?_
    have t : Touch wr noGen s { s with heap := h' } := ⟨fun a o na e => hs'.extBut a o (fun q => na ((hw a).mpr q)) e, fun _ _ _ e => e, rfl, rfl, fun h => h⟩
    have tt := t.tups (fun a ha => by
      obtain ⟨o, e, _, d⟩ := st
      rw [(hw a).mp ha]
      exact ⟨o, e, .inr ⟨_, d⟩⟩)
    refine ⟨v, rfl, letGo_tupleiter (s' := { s with heap := h' }) hit' (h v _ wr (rv.mono tt) ⟨hw, hit', vs, m, tt _ _ e1 ⟨vs, m, rfl⟩, x1.mono tt⟩ (fun a h => .inl h) t)⟩
  done A wr s σ R ao cr need st h := by
    obtain ⟨hw, st, vs, m, e1, x1⟩ := st
    have hl := x1.length
    refine wpAny_pyNext_tuple_end (items := vs.toArray) ao.1 st ⟨_, e1, rfl, m, rfl⟩ (by simp; (first | lia | omega)) fun h' he => ⟨rfl, h _ ⟨fun a o na e => he a o (fun q => na ((hw a).mpr q)) e, fun _ _ _ e => e, rfl, rfl, fun h => h⟩⟩
  self A i wr s R st h := wpAny_pyIter_tupleiter st.2.1 h

theorem letGo_rangeiter {E : Value → Shared → Prop} {target : Expr} {I : Addr} {a b c : Int} {v : Value} {Q' : Unit → Shared → Prop} {s' : Shared} (hit : IsRangeIter s'.heap I a b c) (h : Q' () s') :
    wpAny (model X.prog X.w) A (letOwnedTupleGo target (.ref I) v) Q' E s' := by
  unfold letOwnedTupleGo
  cases target <;> first
    | exact wpAny_pure h
    | (cases v <;> first
        | exact wpAny_pure h
        | (refine wpAny_bind (wpAny_load hit ?_)
           exact wpAny_pure h))

noncomputable def ups (a : Int) (k : Nat) : List D := (List.range k).map fun i : Nat => D.int (a + i)
theorem ups_length (a : Int) (k : Nat) : (ups a k).length = k := by simp [ups]
theorem ups_get {a : Int} {k i : Nat} {d : D} (h : (ups a k)[i]? = some d) : i < k ∧ d = .int (a + i) := by
  have hlt : i < (ups a k).length := (List.getElem?_eq_some_iff.mp h).1
  rw [ups_length] at hlt
  refine ⟨hlt, ?_⟩
  unfold ups at h
  rw [List.getElem?_map, List.getElem?_range hlt] at h
  simpa using h.symm

theorem IW.range {target : Expr} {I : Addr} {a : Int} {k : Nat} :
    IW X n target I noGen (ups a k) (fun _ => True) (fun i wr s => (∀ a, wr a ↔ a = I) ∧ IsRangeIter s.heap I (a + i) ((k : Int) - i) 1) where
  frame i wr s s' st hk ht _ := by
    obtain ⟨hw, hi⟩ := st
    exact ⟨hw, hk I _ ((hw I).mpr rfl) hi⟩
  kind i wr s a st ha := by
    obtain ⟨hw, e⟩ := st
    rw [(hw a).mp ha]
    exact ⟨_, e, .inr ⟨_, rfl⟩⟩
  item A i wr s σ d R ao cr need st hd h := by
    obtain ⟨hw, st⟩ := st
    obtain ⟨hlt, rfl⟩ := ups_get hd
    refine wpAny_pyNext_range_item st (by (first | lia | omega)) fun h' hit' hs' => ?_
    have t : Touch wr noGen s { s with heap := h', toks := s.toks + 1 } := ⟨fun a o na e => hs'.extBut a o (fun q => na ((hw a).mpr q)) e, fun _ _ _ e => e, rfl, rfl, fun h => h⟩
    have e1 : a + (i : Int) + 1 = a + ((i + 1 : Nat) : Int) := by push_cast; (first | lia | omega)
    have e2 : (k : Int) - i - 1 = (k : Int) - ((i + 1 : Nat) : Int) := by push_cast; (first | lia | omega)
    exact ⟨_, rfl, letGo_rangeiter (s' := { s with heap := h', toks := s.toks + 1 }) hit' (h _ _ wr (.int _ _) ⟨hw, by rw [← e1, ← e2]; exact hit'⟩ (fun a h => .inl h) t)⟩
  done A wr s σ R ao cr need st h := by
    obtain ⟨hw, st⟩ := st
    rw [ups_length] at st
    refine wpAny_pyNext_range_end ao.1 st (by (first | lia | omega)) fun h' he => ⟨rfl, h _ ⟨fun a o na e => he a o (fun q => na ((hw a).mpr q)) e, fun _ _ _ e => e, rfl, rfl, fun h => h⟩⟩
  self A i wr s R st h := wpAny_pyIter_rangeiter st.2 h

noncomputable def numberedD (ds : List D) : List D := ds.mapIdx fun i d => .tup [.int i, d]
theorem numberedD_length (ds : List D) : (numberedD ds).length = ds.length := by simp [numberedD]
theorem numberedD_get {ds : List D} {i : Nat} {d : D} (h : (numberedD ds)[i]? = some d) : ∃ e, ds[i]? = some e ∧ d = .tup [.int i, e] := by
  unfold numberedD at h
  rw [List.getElem?_mapIdx] at h
  obtain ⟨e, h1, h2⟩ := Option.map_eq_some_iff.mp h
  exact ⟨e, h1, h2.symm⟩

theorem IW.enum {es : List Expr} {x1 : Nat} {tp : Pos} {I it ax : Addr} {ds : List D} (hne : I ≠ it) :
    IW X n (.Tuple es x1 tp) I noGen (numberedD ds) (fun σ => σ ax = some ds) (fun i wr s => (∀ a, wr a ↔ a = I ∨ a = it) ∧ (∃ old, IsEnum s.heap I it i old) ∧ s.heap.IsListIter it ax i) where
  frame i wr s s' st hk _ _ := by
    obtain ⟨hw, ⟨old, he⟩, hi⟩ := st
    exact ⟨hw, ⟨old, hk I _ ((hw I).mpr (.inl rfl)) he⟩, hi.at fun o e => hk it o ((hw it).mpr (.inr rfl)) e⟩
  kind i wr s a st ha := by
    obtain ⟨hw, ⟨old, he⟩, o, e, _, d⟩ := st
    rcases (hw a).mp ha with rfl | rfl
    · exact ⟨_, he, .inr ⟨_, rfl⟩⟩
    · exact ⟨o, e, .inr ⟨_, d⟩⟩
  item A i wr s σ d R ao cr need st hd h := by
    obtain ⟨hw, ⟨old, he⟩, hi⟩ := st
    obtain ⟨e, hd', rfl⟩ := numberedD_get hd
    obtain ⟨vs, m, e1, x1⟩ := cr.store ax ds need
    obtain ⟨v, hv, rv⟩ := x1.get hd'
    have kd : ∀ a, wr a → ∃ o, s.heap.get? a = some o ∧ loopObj o := fun a ha => by
      obtain ⟨o, e, _, d⟩ := hi
      rcases (hw a).mp ha with rfl | rfl
      · exact ⟨_, he, .inr ⟨_, rfl⟩⟩
      · exact ⟨o, e, .inr ⟨_, d⟩⟩
    refine wpAny_pyNext_enum_item (items := vs.toArray) he hi ⟨_, e1, rfl, m, rfl⟩ (x := v) (by simpa using hv) hne fun h' ho hit' hT hsz hk => ?_
    refine ⟨_, rfl, wpAny_letOwnedTupleGo_enum (s := { s with heap := h', toks := s.toks + 1 }) ho fun h₂ he₂ hs₂ => ?_⟩
    have hs₂ : Heap.SameBut I h' h₂ := hs₂
    have hlt : I < s.heap.objs.size := Heap.lt_size he
    have t : Touch wr noGen s { s with heap := h₂, toks := s.toks + 1 } := ⟨fun a o na e => hs₂.extBut a o (fun q => na ((hw a).mpr (.inl q))) (hk a o (fun q => na ((hw a).mpr (.inl q))) (fun q => na ((hw a).mpr (.inr q))) e), fun _ _ _ e => e, rfl, rfl, fun h => h⟩
    refine h _ _ wr (.tup (vs := [.int i s.toks, v]) (n := 0) (hs₂.extBut _ _ (Nat.ne_of_gt hlt) hT) (.cons (.int _ _) (.one (rv.mono (t.tups kd))))) ⟨hw, ⟨v, ?_⟩, Heap.IsListIter.extBut hit' hs₂.extBut (Ne.symm hne)⟩ (fun a h => .inl h) t
    have : ((i : Int) + 1) = ((i + 1 : Nat) : Int) := by push_cast; rfl
    rw [← this]
    exact he₂
  done A wr s σ R ao cr need st h := by
    obtain ⟨hw, ⟨old, he⟩, hi⟩ := st
    rw [numberedD_length] at he hi
    obtain ⟨vs, m, e1, x1⟩ := cr.store ax ds need
    have hl := x1.length
    refine wpAny_pyNext_enum_end (items := vs.toArray) ao.1 he hi ⟨_, e1, rfl, m, rfl⟩ (by simp; (first | lia | omega)) fun h' he => ⟨rfl, h _ ⟨fun a o na e => he a o (fun q => na ((hw a).mpr (.inr q))) e, fun _ _ _ e => e, rfl, rfl, fun h => h⟩⟩
  self A i wr s R st h := by
    obtain ⟨hw, ⟨old, he⟩, hi⟩ := st
    exact wpAny_pyIter_enum he h

/-! the iterables -/
theorem ITR_list {target iter : Expr} {Q : List D → (Store → Prop) → Store → Prop} (h : EV X n F η σ iter fun d σ₁ => ∃ a ds, d = .lst a ∧ σ₁ a = some ds ∧ Q ds (fun σ => σ a = some ds) σ₁) : ITR X n F η σ target iter Q :=
  fun A s fo ao nr cr => wpAny_weak (h A s fo ao nr cr) fun v s₁ p => by
    obtain ⟨d, σ₁, r, c, st, a, ds, rfl, ha, q⟩ := p
    cases r
    obtain ⟨vs, m, e1, x1⟩ := c.store a ds ha
    refine wpAny_pyIter_list (items := vs.toArray) ⟨_, e1, rfl, m, rfl⟩ ?_
    have hk : ∀ (o : Obj) b o', s₁.heap.get? b = some o' → (s₁.heap.push o).get? b = some o' := fun o _ _ e => Heap.get?_push_of_some o e
    refine ⟨s₁.heap.objs.size, noGen, ds, _, _, (· = s₁.heap.objs.size), σ₁, rfl, .list (ax := a), ⟨fun _ => Iff.rfl, _, Heap.get?_push_size _ rfl, rfl, rfl⟩, ⟨fun b o e z q => ?_, fun _ _ _ h => h⟩, c.grown (hk _), st.trans (Step.grown (tk := s₁.toks) (hk _)), q⟩
    subst q
    obtain ⟨o', e'⟩ := st.alive e z
    exact absurd (Heap.lt_size e') (Nat.lt_irrefl _)
theorem ITR_tuple {target iter : Expr} {Q : List D → (Store → Prop) → Store → Prop} (h : EV X n F η σ iter fun d σ₁ => ∃ ds, d = .tup ds ∧ Q ds (fun _ => True) σ₁) : ITR X n F η σ target iter Q :=
  fun A s fo ao nr cr => wpAny_weak (h A s fo ao nr cr) fun v s₁ p => by
    obtain ⟨d, σ₁, r, c, st, ds, rfl, q⟩ := p
    cases r with
    | tup e1 x1 =>
    rename_i a vs m
    refine wpAny_pyIter_tuple (items := vs.toArray) ⟨_, e1, rfl, m, rfl⟩ ?_
    have hk : ∀ (o : Obj) b o', s₁.heap.get? b = some o' → (s₁.heap.push o).get? b = some o' := fun o _ _ e => Heap.get?_push_of_some o e
    refine ⟨s₁.heap.objs.size, noGen, ds, _, _, (· = s₁.heap.objs.size), σ₁, rfl, .tuple (ax := a), ⟨fun _ => Iff.rfl, ⟨_, Heap.get?_push_size _ rfl, rfl, rfl⟩, vs, m, hk _ _ _ e1, x1.mono fun a o e _ => hk _ a o e⟩, ⟨fun b o e z q => ?_, fun _ _ _ h => h⟩, c.grown (hk _), st.trans (Step.grown (tk := s₁.toks) (hk _)), q⟩
    subst q
    obtain ⟨o', e'⟩ := st.alive e z
    exact absurd (Heap.lt_size e') (Nat.lt_irrefl _)

/-- a type called by its name -/
theorem wpAny_callType {x : Str} {p pos : Pos} {e : Expr} {es : List Expr} {T : String} {s : Shared} {R : Value → Shared → Prop} (fo : FmOk X.b F) (cr : CR X.b s.heap σ) (hg : isGlob F.sc x = true) (hm : X.mg x = none) (hv : X.mb x = some (.type T)) (hp : plainArgs (e :: es) = true)
    (h : wpAny (model X.prog X.w) A (spliced (backTo pos (starEach (e :: es) F.env))) (fun vs s' => wpAny (model X.prog X.w) A (call (.type T) vs) R NoE s') NoE s) :
    wpAny (model X.prog X.w) A (eval (.Call (.Name x p) (e :: es) [] pos) F.env) R NoE s := by
  refine Call_Name rfl (wpAny_builtin fo cr hg hm hv ?_)
  have he : ∀ env, starEach (e :: es) env = (false, eval e env) :: starEach es env := fun env => by
    rw [plainArgs_star hp, plainArgs_star (es := es) (by unfold plainArgs at hp ⊢; rw [List.all_cons, Bool.and_eq_true] at hp; exact hp.2)]; rfl
  refine callWith_type1 h (he _) (plainArgs_any (by unfold plainArgs at hp ⊢; rw [List.all_cons, Bool.and_eq_true] at hp; exact hp.2) _ _)
theorem ITR_range {target e : Expr} {x : Str} {p pos : Pos} {Q : List D → (Store → Prop) → Store → Prop} (hg : isGlob F.sc x = true) (hm : X.mg x = none) (hv : X.mb x = some (.type "range")) (hp : plainArgs [e] = true)
    (h : EVS X n F η σ [e] fun ds σ₁ => ∃ k : Int, ds = [.int k] ∧ -1000000 ≤ k ∧ k ≤ 1000000 ∧ Q (ups 0 k.toNat) (fun _ => True) σ₁) : ITR X n F η σ target (.Call (.Name x p) [e] [] pos) Q :=
  fun A s fo ao nr cr => by
    refine wpAny_callType fo cr hg hm hv hp (wpAny_weak (h A s pos fo ao nr cr) fun vs s₁ p => ?_)
    obtain ⟨ds, σ₁, r, c, st, k, rfl, k0, k1, q⟩ := p
    cases r with
    | cons r rs =>
    cases rs
    cases r
    rename_i t
    refine call_range_1 ?_
    generalize hH : s₁.heap.push { cls := .type "range", data := .fields #[.int 0 s₁.toks, .int k t, .int 1 (s₁.toks + 1)] } = H
    have hr : IsRange H s₁.heap.objs.size 0 k 1 s₁.toks t (s₁.toks + 1) := hH ▸ IsRange.new _ _ _ _ _ _ _
    refine wpAny_pyIter_range (s := { s₁ with heap := H, toks := s₁.toks + 1 + 1 }) hr (small_one (by (first | lia | omega)) (by (first | lia | omega)) (by (first | lia | omega)) (by (first | lia | omega))) ?_
    have hk : ∀ (o : Obj) b o', s₁.heap.get? b = some o' → (H.push o).get? b = some o' := fun o _ _ e => Heap.get?_push_of_some o (hH ▸ Heap.get?_push_of_some _ e)
    refine ⟨H.objs.size, noGen, ups 0 k.toNat, _, _, (· = H.objs.size), σ₁, rfl, .range (a := 0) (k := k.toNat), ⟨fun _ => Iff.rfl, ?_⟩, ⟨fun b o e z q => ?_, fun _ _ _ h => h⟩, c.grown (hk _), st.trans (Step.grown (tk := s₁.toks + 1 + 1) (hk _)), q⟩
    · have e2 : Builtin.Range.rangeSize 0 k 1 = ((k.toNat : Nat) : Int) - ((0 : Nat) : Int) := by
        rw [rangeSize_one]; split <;> (first | lia | omega)
      have e1 : (0 : Int) + ((0 : Nat) : Int) = 0 := rfl
      show IsRangeIter _ _ _ _ _
      rw [← e2, e1]
      exact Heap.get?_push_size _ rfl
    · subst q
      obtain ⟨o', e'⟩ := st.alive e z
      have := Heap.lt_size e'
      rw [← hH, Heap.size_push] at this
      exact absurd this (Nat.not_lt.mpr (Nat.le_succ _))

theorem ITR_enum {es : List Expr} {x1 : Nat} {tp : Pos} {e : Expr} {x : Str} {p pos : Pos} {Q : List D → (Store → Prop) → Store → Prop} (hg : isGlob F.sc x = true) (hm : X.mg x = none) (hv : X.mb x = some (.type "enumerate")) (hp : plainArgs [e] = true)
    (h : EVS X n F η σ [e] fun args σ₁ => ∃ a ds, args = [.lst a] ∧ σ₁ a = some ds ∧ Q (numberedD ds) (fun σ => σ a = some ds) σ₁) : ITR X n F η σ (.Tuple es x1 tp) (.Call (.Name x p) [e] [] pos) Q :=
  fun A s fo ao nr cr => by
    refine wpAny_callType fo cr hg hm hv hp (wpAny_weak (h A s pos fo ao nr cr) fun vs s₁ p => ?_)
    obtain ⟨args, σ₁, r, c, st, a, ds, rfl, ha, q⟩ := p
    cases r with
    | cons r rs =>
    cases rs
    cases r
    obtain ⟨vs, m, e1, x1⟩ := c.store a ds ha
    refine call_enumerate_list (items := vs.toArray) ⟨_, e1, rfl, m, rfl⟩ fun h' he hi hsz hk => ?_
    refine wpAny_pyIter_enum (s := { s₁ with heap := h' }) he ?_
    refine ⟨s₁.heap.objs.size + 1, noGen, numberedD ds, _, _, (fun b => b = s₁.heap.objs.size + 1 ∨ b = s₁.heap.objs.size), σ₁, rfl, .enum (it := s₁.heap.objs.size) (ax := a) (Nat.succ_ne_self _), ⟨fun _ => Iff.rfl, ⟨_, he⟩, hi⟩, ⟨fun b o e z q => ?_, fun _ _ _ h => h⟩, c.grown hk, st.trans (Step.grown (tk := s₁.toks) hk), q⟩
    obtain ⟨o', e'⟩ := st.alive e z
    have := Heap.lt_size e'
    rcases q with rfl | rfl
    · exact absurd this (Nat.not_lt.mpr (Nat.le_succ _))
    · exact absurd this (Nat.lt_irrefl _)
end
end Mine

namespace Mine
open PySem PySem.W PyProof.Rows

/-! the frame of a comprehension -/
noncomputable def isFreeOf (sc : Scope) (x : Str) : Bool := match sc.names.lookup x with
  | some .cell => true
  | some .free => true
  | _ => false
noncomputable def compOk (sc scope : Scope) : Bool :=
  (scope.kind == .function) && decide ((scope.names.map (·.1)).Nodup) && (scope.names.all fun p => !(p.2 == .free) || isFreeOf sc p.1)
noncomputable def compNames (scope : Scope) (η : Names) : Names := fun x => match scope.names.lookup x with
  | some .free => η x
  | _ => none

theorem nodup_lookup {α : Type} {l : List (Str × α)} {x : Str} {a : α} (hn : (l.map (·.1)).Nodup) (h : (x, a) ∈ l) : l.lookup x = some a := by
  induction l with
  | nil => cases h
  | cons p r ih =>
    obtain ⟨y, b⟩ := p
    rw [List.map_cons, List.nodup_cons] at hn
    rw [List.lookup_cons]
    rcases List.mem_cons.mp h with e | h'
    · cases e; simp
    · have : (x == y) = false := by
        refine Bool.eq_false_iff.mpr fun q => hn.1 ?_
        have := eq_of_beq q
        subst this
        exact List.mem_map.mpr ⟨(x, a), h', rfl⟩
      rw [this]
      exact ih hn.2 h'

noncomputable def closOf (cells : List (Str × Addr)) : List (Str × NameKind) → List (Str × Addr) → List (Str × Addr)
  | [], acc => acc
  | (x, k) :: r, acc => if k == .free then closOf cells r ((x, (cells.lookup x).getD 0) :: acc) else closOf cells r acc
theorem closureFor_ok {scope : Scope} {env : Env} (h : ∀ p ∈ scope.names, p.2 = .free → ∃ c, env.cells.lookup p.1 = some c) : closureFor scope env = pure (closOf env.cells scope.names []) := by
  simp only [closureFor]
  have key : ∀ (names : List (Str × NameKind)) (acc : List (Str × Addr)), (∀ p ∈ names, p.2 = .free → ∃ c, env.cells.lookup p.1 = some c) →
      (forIn names acc fun (x : Str × NameKind) (r : List (Str × Addr)) =>
        match x with
        | (name, kind) => if (kind == NameKind.free) = true then (do let a ← cellOf env name; pure (ForInStep.yield ((name, a) :: r))) else (pure (ForInStep.yield r) : Sem _)) = pure (closOf env.cells names acc) := by
    intro names
    induction names with
    | nil => intro acc _; rfl
    | cons p r ih =>
      intro acc hp
      obtain ⟨x, k⟩ := p
      rw [List.forIn_cons]
      have ih' := fun acc => ih acc fun q hq => hp q (List.mem_cons_of_mem _ hq)
      unfold closOf
      by_cases hk : (k == NameKind.free) = true
      · obtain ⟨c, hc⟩ := hp (x, k) List.mem_cons_self (by simpa using hk)
        have hc' : cellOf env x = pure c := by unfold cellOf; rw [hc]
        rw [hc]
        simp only [hk, if_true, hc', pure_bind, Option.getD_some]
        exact ih' _
      · have hk' : (k == NameKind.free) = false := by simpa using hk
        simp only [hk', Bool.false_eq_true, if_false]
        exact ih' _
  have := key scope.names [] h
  simpa using this
theorem closOf_mem {cells : List (Str × Addr)} : ∀ (names : List (Str × NameKind)) (acc : List (Str × Addr)) (x : Str) (c : Addr), (x, c) ∈ closOf cells names acc → (x, c) ∈ acc ∨ ((x, NameKind.free) ∈ names ∧ c = (cells.lookup x).getD 0)
  | [], _, _, _, h => .inl h
  | (y, k) :: r, acc, x, c, h => by
    unfold closOf at h
    split at h
    · rename_i hk
      rcases closOf_mem r _ x c h with h | h
      · rcases List.mem_cons.mp h with e | h
        · injection e with e1 e2
          subst e1; subst e2
          have : k = .free := by simpa using hk
          subst this
          exact .inr ⟨List.mem_cons_self, rfl⟩
        · exact .inl h
      · exact .inr ⟨List.mem_cons_of_mem _ h.1, h.2⟩
    · rcases closOf_mem r _ x c h with h | h
      · exact .inl h
      · exact .inr ⟨List.mem_cons_of_mem _ h.1, h.2⟩
theorem closOf_has {cells : List (Str × Addr)} : ∀ (names : List (Str × NameKind)) (acc : List (Str × Addr)) (x : Str), ((x, NameKind.free) ∈ names ∨ ∃ c, (x, c) ∈ acc) → ∃ c, (x, c) ∈ closOf cells names acc
  | [], _, _, h => by
    rcases h with h | h
    · cases h
    · exact h
  | (y, k) :: r, acc, x, h => by
    unfold closOf
    split
    · refine closOf_has r _ x ?_
      rcases h with h | ⟨c, h⟩
      · rcases List.mem_cons.mp h with e | h
        · cases e; exact .inr ⟨_, List.mem_cons_self⟩
        · exact .inl h
      · exact .inr ⟨c, List.mem_cons_of_mem _ h⟩
    · rename_i hk
      refine closOf_has r _ x ?_
      rcases h with h | h
      · rcases List.mem_cons.mp h with e | h
        · cases e; exact absurd rfl hk
        · exact .inl h
      · exact .inr h
theorem cellsFrom_acc : ∀ (names : List (Str × NameKind)) (k : Nat) (acc : List (Str × Addr)), cellsFrom k names acc = cellsFrom k names [] ++ acc
  | [], _, _ => rfl
  | (x, kd) :: r, k, acc => by
    unfold cellsFrom
    split
    · rw [cellsFrom_acc r _ ((x, k) :: acc), cellsFrom_acc r _ [(x, k)]]; simp
    · exact cellsFrom_acc r k acc
theorem lookup_some_of_mem {α : Type} {l : List (Str × α)} {x : Str} {c : α} (h : (x, c) ∈ l) : ∃ c', l.lookup x = some c' := by
  induction l with
  | nil => cases h
  | cons p r ih =>
    obtain ⟨y, b⟩ := p
    rw [List.lookup_cons]
    cases q : x == y with
    | true => exact ⟨_, rfl⟩
    | false =>
      rcases List.mem_cons.mp h with e | h
      · cases e; simp at q
      · exact ih h

theorem lookup_relabel {env : Env} {k : NameKind} (hk : k ≠ .free) : ∀ {names : List (Str × NameKind)} {x : Str}, names.lookup x = some k →
    (names.map fun (n, k) => if (k == NameKind.free && env.scope.kind == .function && env.kindOf n == some .cell) then (n, NameKind.cell) else (n, k)).lookup x = some k
  | [], _, h => by simp at h
  | (n, k') :: r, x, h => by
    have ih := @lookup_relabel env k hk r x
    show List.lookup x ((if (k' == NameKind.free && env.scope.kind == .function && env.kindOf n == some .cell) = true then (n, NameKind.cell) else (n, k')) :: _) = _
    cases hx : x == n with
    | true =>
      simp only [List.lookup_cons, hx] at h
      cases h
      have : (k == NameKind.free) = false := by simpa using hk
      simp [List.lookup_cons, hx, this]
    | false =>
      simp only [List.lookup_cons, hx] at h
      by_cases hc : (k' == NameKind.free && env.scope.kind == .function && env.kindOf n == some .cell) = true
      · rw [if_pos hc]; simp only [List.lookup_cons, hx]; exact ih h
      · rw [if_neg hc]; simp only [List.lookup_cons, hx]; exact ih h
theorem lookup_relabel_free {env : Env} : ∀ {names : List (Str × NameKind)} {x : Str}, names.lookup x = some .free →
    (names.map fun (n, k) => if (k == NameKind.free && env.scope.kind == .function && env.kindOf n == some .cell) then (n, NameKind.cell) else (n, k)).lookup x = some .cell ∨
    (names.map fun (n, k) => if (k == NameKind.free && env.scope.kind == .function && env.kindOf n == some .cell) then (n, NameKind.cell) else (n, k)).lookup x = some .free
  | [], _, h => by simp at h
  | (n, k') :: r, x, h => by
    have ih := @lookup_relabel_free env r x
    show List.lookup x ((if (k' == NameKind.free && env.scope.kind == .function && env.kindOf n == some .cell) = true then (n, NameKind.cell) else (n, k')) :: _) = _ ∨ List.lookup x ((if (k' == NameKind.free && env.scope.kind == .function && env.kindOf n == some .cell) = true then (n, NameKind.cell) else (n, k')) :: _) = _
    cases hx : x == n with
    | true =>
      simp only [List.lookup_cons, hx] at h
      cases h
      by_cases hc : (NameKind.free == NameKind.free && env.scope.kind == .function && env.kindOf n == some .cell) = true
      · rw [if_pos hc]; simp [List.lookup_cons, hx]
      · rw [if_neg hc]; simp [List.lookup_cons, hx]
    | false =>
      simp only [List.lookup_cons, hx] at h
      by_cases hc : (k' == NameKind.free && env.scope.kind == .function && env.kindOf n == some .cell) = true
      · rw [if_pos hc]; simp only [List.lookup_cons, hx]; exact ih h
      · rw [if_neg hc]; simp only [List.lookup_cons, hx]; exact ih h

section
variable {X : Ctx} {n : Nat} {F : Fm} {η η' : Names} {σ σ₁ σ' : Store} {s s₁ s' : Shared} {A : Around}

abbrev compFm (scope : Scope) (cells : List (Str × Addr)) (C : Addr) (F : Fm) : Fm := ⟨scope, compEnvC scope cells C F.env, fun a => a = C ∨ ∃ x, (x, a) ∈ cellsFrom (C + 1) scope.names []⟩

theorem closure_ok {scope : Scope} (hok : compOk F.sc scope = true) (fo : FmOk X.b F) : closureFor scope F.env = pure (closOf F.env.cells scope.names []) := by
  unfold compOk at hok
  rw [Bool.and_eq_true, Bool.and_eq_true] at hok
  obtain ⟨⟨hk, hnd⟩, hfr⟩ := hok
  refine closureFor_ok fun p hp hf => ?_
  obtain ⟨x, k⟩ := p
  have hf : k = .free := hf
  subst hf
  have hx := List.all_eq_true.mp hfr _ hp
  have hx : isFreeOf F.sc x = true := by simpa using hx
  unfold isFreeOf at hx
  split at hx
  · rename_i e; obtain ⟨_, c, hc, _⟩ := fo.cel x e; exact ⟨c, hc⟩
  · rename_i e; obtain ⟨_, c, hc⟩ := fo.fre x e; exact ⟨c, hc⟩
  · cases hx
theorem compOk_kind {sc scope : Scope} (hok : compOk sc scope = true) : scope.kind = .function := by
  unfold compOk at hok
  rw [Bool.and_eq_true, Bool.and_eq_true] at hok
  simpa using hok.1.1
theorem compOk_names {sc scope : Scope} (hok : compOk sc scope = true) : ∀ x ∈ scope.names, x.2 = .local → scope.names.lookup x.1 = some .local := fun x hx hl => by
  unfold compOk at hok
  rw [Bool.and_eq_true, Bool.and_eq_true] at hok
  obtain ⟨y, k⟩ := x
  have hl : k = .local := hl
  subst hl
  exact nodup_lookup (of_decide_eq_true hok.1.2) hx

/-- the frame is laid -/
theorem wpAny_compFrame {scope : Scope} {R : Env → Shared → Prop} (hok : compOk F.sc scope = true) (fo : FmOk X.b F) (nr : NR X.b s.heap F η) (cr : CR X.b s.heap σ)
    (h : ∀ cells C h', closureFor scope F.env = pure (closOf F.env.cells scope.names []) → (∀ a o, s.heap.get? a = some o → h'.get? a = some o) → (∀ a o, s.heap.get? a = some o → ¬ (compFm scope cells C F).own a) →
      FmOk X.b (compFm scope cells C F) → NR X.b h' (compFm scope cells C F) (compNames scope η) → s.heap.get? C = none → (∀ x c, cells.lookup x = some c → (compFm scope cells C F).own c ∨ F.env.cells.lookup x = some c) → R (newEnv scope C F.env.globals cells F.env.qual none .none (some F.env) builtinsNs) { s with heap := h' }) :
    wpAny (model X.prog X.w) A (newFunctionEnv scope F.env.globals (closOf F.env.cells scope.names []) [] F.env.qual none .none (some F.env)) R NoE s := by
  unfold compOk at hok
  rw [Bool.and_eq_true, Bool.and_eq_true] at hok
  obtain ⟨⟨hk, hnd⟩, hfr⟩ := hok
  have hk : scope.kind = .function := by simpa using hk
  have hnd := of_decide_eq_true hnd
  have free_of : ∀ x, scope.names.lookup x = some .free → isFreeOf F.sc x = true := fun x hx => by
    have := List.all_eq_true.mp hfr _ (mem_of_lookup hx)
    simpa using this
  have cell_of : ∀ x, isFreeOf F.sc x = true → ∃ c, F.env.cells.lookup x = some c := fun x hx => by
    unfold isFreeOf at hx
    split at hx
    · rename_i e; obtain ⟨_, c, hc, _⟩ := fo.cel x e; exact ⟨c, hc⟩
    · rename_i e; obtain ⟨_, c, hc⟩ := fo.fre x e; exact ⟨c, hc⟩
    · cases hx
  have clos := closureFor_ok (scope := scope) (env := F.env) fun p hp hf => by
    obtain ⟨x, k⟩ := p
    have hf : k = .free := hf
    subst hf
    exact cell_of x (free_of x (nodup_lookup hnd hp))
  simp only [newFunctionEnv, Option.isSome_some, if_true]
  refine wpAny_bind (wpAny_alloc (wpAny_bind ?_))
  refine wpAny_layCells _ (fun name kind cells => by split <;> rfl) scope.names _ _ _ ?_
  refine wpAny_bind ?_
  rw [List.forIn_nil]
  refine wpAny_pure (wpAny_pure ?_)
  generalize hH : s.heap.push { cls := .type "dict", data := .dict #[] } = H
  show R _ { s with heap := pushCells H scope.names }
  have hsz : H.objs.size = s.heap.objs.size + 1 := by rw [← hH, Heap.size_push]
  show R (newEnv scope s.heap.objs.size F.env.globals (cellsFrom H.objs.size scope.names (closOf F.env.cells scope.names [])) F.env.qual none .none (some F.env) builtinsNs) _
  rw [hsz]
  have keep : ∀ a o, s.heap.get? a = some o → (pushCells H scope.names).get? a = some o := fun a o e => pushCells_keeps _ _ _ _ (hH ▸ Heap.get?_push_of_some _ e)
  have ok := cellsFrom_ok scope.names H H.objs.size [] ⟨fun _ _ h => absurd h List.not_mem_nil, List.Pairwise.nil⟩ (Nat.le_refl _)
  rw [hsz] at ok
  have fresh : ∀ a o, s.heap.get? a = some o → ¬ (a = s.heap.objs.size ∨ ∃ x, (x, a) ∈ cellsFrom (s.heap.objs.size + 1) scope.names []) := fun a o e q => by
    have := Heap.lt_size e
    rcases q with q | ⟨x, q⟩
    · rw [q] at this; exact Nat.lt_irrefl _ this
    · exact Nat.lt_irrefl _ (Nat.lt_of_lt_of_le this (Nat.le_of_succ_le (ok.empty x a q).2))
  have memcl : ∀ x c, (x, c) ∈ closOf F.env.cells scope.names [] → scope.names.lookup x = some .free ∧ F.env.cells.lookup x = some c := fun x c h => by
    rcases closOf_mem _ _ _ _ h with h | ⟨h, e⟩
    · cases h
    · have hx := nodup_lookup hnd h
      obtain ⟨c', hc'⟩ := cell_of x (free_of x hx)
      rw [hc'] at e
      exact ⟨hx, by rw [hc', e]; rfl⟩
  have memnew : ∀ x c, (x, c) ∈ cellsFrom (s.heap.objs.size + 1) scope.names [] → scope.names.lookup x = some .cell := fun x c h => by
    rcases cellsFrom_mem _ _ _ _ _ h with h | ⟨k, h, e⟩
    · cases h
    · subst e; exact nodup_lookup hnd h
  have outer : ∀ x c, F.env.cells.lookup x = some c → ∃ o, s.heap.get? c = some o := fun x c hc => by
    obtain ⟨vo, ic, _⟩ := nr.cells x c hc
    obtain ⟨o, e, _⟩ := box_of_cell ic
    exact ⟨o, e⟩
  have split : ∀ x c, (cellsFrom (s.heap.objs.size + 1) scope.names (closOf F.env.cells scope.names [])).lookup x = some c →
      ((x, c) ∈ cellsFrom (s.heap.objs.size + 1) scope.names [] ∧ scope.names.lookup x = some .cell) ∨ (scope.names.lookup x = some .free ∧ F.env.cells.lookup x = some c) := fun x c hx => by
    have hm := mem_of_lookup hx
    rw [cellsFrom_acc] at hm
    rcases List.mem_append.mp hm with hm | hm
    · exact .inl ⟨hm, memnew x c hm⟩
    · exact .inr (memcl x c hm)
  have ns0 : H.Ns s.heap.objs.size (fun _ => none) := by
    rw [← hH]
    exact Heap.Ns.new ..
  refine h _ _ _ clos keep fresh ?_ ?_ (Heap.get?_none_of_le (Nat.le_refl _)) fun x c hx => ?_
  · exact {
      kind := hk
      glob := fo.glob
      blt := fo.blt
      loc := fun x hx => lookup_relabel (by decide) hx
      glo := fun x hx => lookup_relabel (by decide) hx
      cel := fun x hx => ⟨lookup_relabel (by decide) hx, by
        obtain ⟨c, hc⟩ := Option.isSome_iff_exists.mp (cellsFrom_lookup_isSome scope.names (s.heap.objs.size + 1) (closOf F.env.cells scope.names []) x hx)
        rcases split x c hc with ⟨hm, _⟩ | ⟨hx', _⟩
        · exact ⟨c, hc, .inr ⟨x, hm⟩⟩
        · have hx : scope.names.lookup x = some .cell := hx
          rw [hx] at hx'; cases hx'⟩
      fre := fun x hx => ⟨lookup_relabel_free hx, by
        have hx : scope.names.lookup x = some .free := hx
        obtain ⟨c, hc⟩ := closOf_has (cells := F.env.cells) scope.names [] x (.inl (mem_of_lookup hx))
        refine lookup_some_of_mem (c := c) ?_
        show (x, c) ∈ cellsFrom _ _ _
        rw [cellsFrom_acc]
        exact List.mem_append_right _ hc⟩
      apart := fun x y c hx hy => by
        rcases split x c hx with ⟨hm, _⟩ | ⟨_, hc⟩ <;> rcases split y c hy with ⟨hm', _⟩ | ⟨_, hc'⟩
        · exact name_of_addr ok.apart hm hm'
        · obtain ⟨o, e⟩ := outer y c hc'
          exact absurd (.inr ⟨x, hm⟩) (fresh c o e)
        · obtain ⟨o, e⟩ := outer x c hc
          exact absurd (.inr ⟨y, hm'⟩) (fresh c o e)
        · exact fo.apart x y c hc hc'
      ownL := .inl rfl
      bnew := fun c hc => by
        cases e : X.b.get? c with
        | none => rfl
        | some o => exact absurd hc (fresh c o (cr.base c o e))
      celL := fun x c hc => by
        show c ≠ s.heap.objs.size
        rcases split x c hc with ⟨hm, _⟩ | ⟨_, hc⟩
        · have := (ok.empty x c hm).2; exact fun q => absurd (q ▸ this) (Nat.not_succ_le_self _)
        · obtain ⟨o, e⟩ := outer x c hc
          exact fun q => by subst q; exact absurd (Heap.lt_size e) (Nat.lt_irrefl _) }
  · have tups : ∀ a o, s.heap.get? a = some o → isTupObj o → (pushCells H scope.names).get? a = some o := fun a o e _ => keep a o e
    exact {
      ns := ⟨fun _ => none, ns0.keeps (fun b o e => pushCells_keeps _ _ _ _ e), fun x d hl hd => by
        have hl : scope.names.lookup x = some .local := hl
        unfold compNames at hd
        rw [hl] at hd; cases hd⟩
      cells := fun x c hc => by
        rcases split x c hc with ⟨hm, hx⟩ | ⟨hx, hc⟩
        · refine ⟨none, (ok.empty x c hm).1, fun d _ hd => ?_⟩
          unfold compNames at hd
          rw [hx] at hd; cases hd
        · obtain ⟨vo, ic, r⟩ := nr.cells x c hc
          refine ⟨vo, ic.keeps keep, fun d _ hd => ?_⟩
          have hd' : η x = some d := by
            unfold compNames at hd
            rw [hx] at hd; exact hd
          have hfx := free_of x hx
          obtain ⟨v, e, r'⟩ := r d (by
            unfold isFreeOf at hfx
            split at hfx
            · rename_i e; exact .inl e
            · rename_i e; exact .inr e
            · cases hfx) hd'
          exact ⟨v, e, r'.mono tups⟩
      box := fun a ha => by
        rcases ha with rfl | ⟨x, hm⟩
        · exact box_of_ns (ns0.keeps (fun b o e => pushCells_keeps _ _ _ _ e))
        · exact box_of_cell (ok.empty x a hm).1 }
  · rcases split x c hx with ⟨hm, _⟩ | ⟨_, hc⟩
    · exact .inl (.inr ⟨x, hm⟩)
    · exact .inr hc
end
end Mine

namespace Mine
open PySem PySem.W PyProof.Rows

section
variable {prog : Program} {w : World} {A : Around} {R : Result → Shared → Prop} {s : Shared}
/-- the turns of a comprehension, with what a target of many names lets go -/
theorem codeAny_compLoop_any {elt target iter : Expr} {ifs : List Expr} {scope : Scope} {pos : Pos} {it acc : Value} {env : Env} (I : Nat → Shared → Prop)
    (turn : ∀ n s, I n s → wpAny (model prog w) A (pyNext it) (fun r s₁ => match r with
      | none => R (.ok .next) s₁
      | some v => wpAny (model prog w) A (letOwnedTupleGo target it v) (fun _ s₁' => wpAny (model prog w) A (assign target env v) (fun _ s₂ =>
          wpAny (model prog w) A (forIn ifs true fun c r => if r = true then do let ok ← isTrue c env (eval c env); pure (ForInStep.yield ok) else pure (ForInStep.yield r)) (fun ok s₃ =>
            if ok = true then wpAny (model prog w) A (eval elt env) (fun x s₄ =>
              wpAny (model prog w) A (call (.builtin "list.append") [acc, x]) (fun _ s₅ => ∃ m, m < n ∧ I m s₅) NoE s₄) NoE s₃
            else ∃ m, m < n ∧ I m s₃) NoE s₂) NoE s₁') NoE s₁) NoE s)
    (n : Nat) (h : I n s) : codeAny (model prog w) A (.compLoop (.ListComp elt [⟨target, iter, ifs, 0⟩] scope pos) 0 it acc env) R s := by
  refine codeAny_loop rfl I (fun n s hI => ?_) n h
  show wpAny _ A ((compTurn (.ListComp elt [⟨target, iter, ifs, 0⟩] scope pos) 0 it acc env).onRaise (fun x => do noteFrame x env; theTreesLotGoes x)) _ _ s
  refine wpAny_noted ?_
  rw [compTurn_list]
  refine wpAny_bind (wpAny_standAt (wpAny_bind (wpAny_weak (turn n s hI) (fun r s₁ h₁ => ?_))))
  cases r with
  | none => exact wpAny_pure h₁
  | some v =>
    refine wpAny_bind (wpAny_weak h₁ fun _ s₁' h₁' => ?_)
    refine wpAny_bind (wpAny_weak h₁' (fun _ s₂ h₂ => wpAny_bind (wpAny_weak h₂ (fun ok s₃ h₃ => ?_))))
    cases ok with
    | false => exact wpAny_pure ⟨rfl, h₃⟩
    | true =>
      refine wpAny_bind (wpAny_bind (wpAny_weak h₃ fun x s₄ h₄ => wpAny_bind (wpAny_weak h₄ fun _ s₅ h₅ => ?_)))
      exact wpAny_pure (wpAny_pure ⟨rfl, h₅⟩)
end

section
variable {X : Ctx} {n : Nat} {F : Fm} {η η' : Names} {σ σ₁ σ' : Store} {s s₁ s' : Shared} {A : Around}

noncomputable def ETS (X : Ctx) (n : Nat) (F : Fm) (η : Names) (σ : Store) (ifs : List Expr) (K : Bool → Store → Prop) : Prop :=
  match ifs with
  | [] => K true σ
  | [c] => ET X n F η σ c K
  | _ => False
theorem wpAny_ETS {ifs : List Expr} {K : Bool → Store → Prop} (h : ETS X n F η σ ifs K) (fo : FmOk X.b F) (ao : OkA n A) (nr : NR X.b s.heap F η) (cr : CR X.b s.heap σ) :
    wpAny (model X.prog X.w) A (forIn ifs true fun c r => if r = true then do let ok ← isTrue c F.env (eval c F.env); pure (ForInStep.yield ok) else pure (ForInStep.yield r)) (PostB X σ s K) NoE s := by
  unfold ETS at h
  split at h
  · exact wpAny_tests_nil ⟨σ, cr, .refl, h⟩
  · exact wpAny_tests_one (h A s fo ao nr cr)
  · exact h.elim
theorem ETS.mono {ifs : List Expr} {K K' : Bool → Store → Prop} (h : ETS X n F η σ ifs K) (hk : ∀ t σ, K t σ → K' t σ) : ETS X n F η σ ifs K' := by
  unfold ETS at h ⊢
  split at h
  · exact hk _ _ h
  · intro A s fo ao nr cr
    exact wpAny_weak (h A s fo ao nr cr) fun _ _ p => by
      obtain ⟨σ', a, b, c⟩ := p
      exact ⟨σ', a, b, hk _ _ c⟩
  · exact h

noncomputable def CLOOP (X : Ctx) (n : Nat) (F : Fm) (target : Expr) (ifs : List Expr) (elt : Expr) (need : Store → Prop) (Q : List D → Store → Prop) : List D → List D → Names → Store → Prop
  | [], acc, _, σ => need σ ∧ Q acc σ
  | d :: ds, acc, η, σ => need σ ∧ AS F.sc target d η fun η₁ => ETS X n F η₁ σ ifs fun t σ₁ =>
      if t = true then EV X n F η₁ σ₁ elt fun v σ₂ => CLOOP X n F target ifs elt need Q ds (acc ++ [v]) η₁ σ₂ else CLOOP X n F target ifs elt need Q ds acc η₁ σ₁

/-- the own list of a comprehension -/
noncomputable def OwnL (X : Ctx) (a : Addr) (ds : List D) (h : Heap) : Prop := ∃ vs m, h.get? a = some (lstO vs m) ∧ VRs X.b h vs ds
theorem OwnL.keep {a : Addr} {ds : List D} {h h' : Heap} (x : OwnL X a ds h) (ha : ∀ o, h.get? a = some o → h'.get? a = some o) (ht : ∀ a o, h.get? a = some o → isTupObj o → h'.get? a = some o) : OwnL X a ds h' :=
  let ⟨vs, m, e, r⟩ := x; ⟨vs, m, ha _ e, r.mono ht⟩
theorem OwnL.cr {a : Addr} {ds : List D} {h : Heap} (x : OwnL X a ds h) (cr : CR X.b h σ) (hb : X.b.get? a = none) : CR X.b h (σ.put a ds) := by
  obtain ⟨vs, m, e, r⟩ := x
  refine ⟨cr.base, fun c es z => ?_, fun c es z => ?_⟩
  · unfold Store.put at z
    split at z
    · rename_i q; cases z; subst q; exact ⟨vs, m, e, r⟩
    · exact cr.store c es z
  · unfold Store.put at z
    split at z
    · rename_i q; subst q; exact hb
    · exact cr.fresh c es z
theorem put_sub {σ : Store} {a : Addr} {ds : List D} (h : σ a = none) : ∀ c es, σ c = some es → (σ.put a ds) c = some es := fun c es e => by
  unfold Store.put
  split
  · rename_i q; subst q; rw [h] at e; cases e
  · exact e
theorem put_at {σ : Store} {a : Addr} {ds : List D} : (σ.put a ds) a = some ds := by unfold Store.put; simp
theorem put_ne {σ : Store} {a c : Addr} {ds : List D} (h : c ≠ a) : (σ.put a ds) c = σ c := by unfold Store.put; simp [h]

theorem wpAny_own_append {a : Addr} {ds : List D} {d : D} {v : Value} {R : Shared → Prop} (ao : OkA n A) (x : OwnL X a ds s.heap) (cr : CR X.b s.heap σ) (ha : σ a = none) (hb : X.b.get? a = none) (hz : ds.length ≤ sizeLine) (r : VR X.b s.heap v d)
    (h : ∀ s', OwnL X a (ds ++ [d]) s'.heap → CR X.b s'.heap σ → (∀ c o, c ≠ a → s.heap.get? c = some o → s'.heap.get? c = some o) → (∀ (i : Nat) (g : GenState), s.gens[i]? = some g → s'.gens[i]? = some g) → s'.drawn = s.drawn → s'.os = s.os → (AllBare s.gens → AllBare s'.gens) → R s') :
    wpAny (model X.prog X.w) A (call (.builtin "list.append") [.ref a, v]) (fun _ s' => R s') NoE s := by
  have hbase : ∀ c o, X.b.get? c = some o → c ≠ a := fun c o e q => by subst q; rw [hb] at e; cases e
  have cr1 : CR X.b s.heap (Store.put (fun _ => none) a ds) := (x.cr cr hb).drop fun c es z => by
    unfold Store.put at z ⊢
    split at z
    · rename_i q; rw [if_pos q]; exact z
    · cases z
  refine wpAny_weak (M_append (n := n) (X := X) (Q := fun _ σ' => σ' = (Store.put (fun _ => none) a ds).put a (ds ++ [d])) put_at hz rfl A s [.ref a, v] ao cr1 (.cons (.lst a) (.one r))) fun _ s' p => ?_
  obtain ⟨_, σ', _, c, st, rfl⟩ := p
  obtain ⟨vs, m, e, rr⟩ := c.store a (ds ++ [d]) put_at
  have kp : ∀ c o, c ≠ a → s.heap.get? c = some o → s'.heap.get? c = some o := fun c o hc e => st.heap c o e (put_ne hc) fun h => h
  have ht : ∀ c o, s.heap.get? c = some o → isTupObj o → s'.heap.get? c = some o := fun c o e1 t => kp c o (fun q => by
    subst q
    obtain ⟨vs, m, e', _⟩ := x
    rw [e1] at e'; cases e'
    exact not_tup_of_list ⟨vs, m, rfl⟩ t) e1
  refine h s' ⟨vs, m, e, rr⟩ ⟨fun c o e => kp c o (hbase c o e) (cr.base c o e), fun c es z => ?_, cr.fresh⟩ kp st.gens st.drawn st.os st.bare
  obtain ⟨us, m', e', r'⟩ := cr.store c es z
  exact ⟨us, m', kp _ _ (fun q => by subst q; rw [ha] at z; cases z) e', r'.mono ht⟩

/-- where the comprehension's turns stand -/
structure CIn (X : Ctx) (F' : Fm) (gi : Nat → Prop) (St : Nat → (Addr → Prop) → Shared → Prop) (s₀ : Shared) (σ₀ : Store) (D : Addr) (i : Nat) (acc : List Mine.D) (wr : Addr → Prop) (η : Names) (σ : Store) (s : Shared) : Prop where
  st : St i wr s
  fr : Fresh wr gi σ₀ s₀
  apart : (∀ a, F'.own a → ¬ wr a) ∧ ∀ x c, F'.env.cells.lookup x = some c → ¬ wr c
  nr : NR X.b s.heap F' η
  cr : CR X.b s.heap σ
  stp : Step noOwn σ₀ σ s₀ s
  own : OwnL X D acc s.heap
  dn : σ D = none

theorem Step.own_again {own : Addr → Prop} {σ₀ : Store} {s₀ s₂ : Shared} {σ₂ : Store} (x : Step noOwn σ₀ σ s₀ s) (y : Step own σ σ₂ s s₂) (h : ∀ a o, s₀.heap.get? a = some o → σ₀ a = none → ¬ own a) : Step noOwn σ₀ σ₂ s₀ s₂ :=
  ((x.lift (own := own)).trans y).forget h

theorem OwnL.touch {a : Addr} {ds : List D} {wr : Addr → Prop} {gi : Nat → Prop} (x : OwnL X a ds s.heap) (t : Touch wr gi s s') (hw : ∀ a, wr a → ∃ o, s.heap.get? a = some o ∧ loopObj o) : OwnL X a ds s'.heap := by
  refine x.keep (fun o e => t.heap a o (fun q => ?_) e) (t.tups hw)
  obtain ⟨vs, m, e', _⟩ := x
  obtain ⟨o', e'', k⟩ := hw a q
  rw [e'] at e''; cases e''
  exact not_list_of_loop k ⟨vs, m, rfl⟩
theorem OwnL.step {a : Addr} {ds : List D} {own : Addr → Prop} (x : OwnL X a ds s.heap) (st : Step own σ σ' s s') (ha : σ a = none) (hbx : ∀ a, own a → ∀ o, s.heap.get? a = some o → isBox o) (cr : CR X.b s.heap σ) : OwnL X a ds s'.heap ∧ σ' a = none := by
  obtain ⟨vs, m, e, r⟩ := id x
  refine ⟨x.keep (fun o e' => st.heap a o e' ha fun q => ?_) (st.tups cr hbx), st.dom a _ e ha⟩
  rw [e] at e'; cases e'
  exact not_list_of_box (hbx a q _ e) ⟨vs, m, rfl⟩

theorem comp_sound {target iter elt : Expr} {ifs : List Expr} {scope : Scope} {pos : Pos} {I D : Addr} {gi : Nat → Prop} {ds : List Mine.D} {need : Store → Prop} {St : Nat → (Addr → Prop) → Shared → Prop} {Q : List Mine.D → Store → Prop} {s₀ : Shared} {σ₀ : Store} {F' : Fm} {R : Result → Shared → Prop}
    (W : IW X n target I gi ds need St) (hz : ds.length ≤ sizeLine) (fo : FmOk X.b F') (ao : OkA n A) (cr0 : CR X.b s₀.heap σ₀) (hown : ∀ a o, s₀.heap.get? a = some o → σ₀ a = none → ¬ F'.own a) (hDb : X.b.get? D = none) (hD0 : ∀ a o, s₀.heap.get? a = some o → σ₀ a = none → a ≠ D)
    (hR : ∀ s' η σ acc, NR X.b s'.heap F' η → CR X.b s'.heap σ → Step noOwn σ₀ σ s₀ s' → OwnL X D acc s'.heap → σ D = none → acc.length ≤ ds.length → Q acc σ → R (.ok .next) s')
    {wr : Addr → Prop} (ci : CIn X F' gi St s₀ σ₀ D 0 [] wr η σ s) (h : CLOOP X n F' target ifs elt need Q ds [] η σ) :
    codeAny (model X.prog X.w) A (.compLoop (.ListComp elt [⟨target, iter, ifs, 0⟩] scope pos) 0 (.ref I) (.ref D) F'.env) R s := by
  refine codeAny_compLoop_any (fun k s => ∃ i η σ wr acc, i ≤ ds.length ∧ k = ds.length - i ∧ acc.length ≤ i ∧ CIn X F' gi St s₀ σ₀ D i acc wr η σ s ∧ CLOOP X n F' target ifs elt need Q (ds.drop i) acc η σ) ?_ ds.length
    ⟨0, η, σ, wr, [], Nat.zero_le _, rfl, Nat.le_refl _, ci, by simpa using h⟩
  clear h ci
  rintro k s ⟨i, η, σ, wr, acc, hi, rfl, hacc, ci, h⟩
  have hw := fun a => W.kind i wr s a ci.st
  have hl : ¬ wr F'.env.locals := ci.apart.1 _ fo.ownL
  have hb : ∀ a o, X.b.get? a = some o → ¬ wr a := fun a o e => by
    refine ci.fr.1 a o (cr0.base a o e) ?_
    cases q : σ₀ a with
    | none => rfl
    | some ds => have := cr0.fresh a ds q; rw [e] at this; cases this
  by_cases hlt : i < ds.length
  · have hd : ds[i]? = some ds[i] := List.getElem?_eq_getElem hlt
    rw [List.drop_eq_getElem_cons hlt] at h
    obtain ⟨hneed, has⟩ := h
    refine wpAny_weak (W.item A i wr s σ ds[i] (fun v s₁ => wpAny (model X.prog X.w) A (assign target F'.env v) (fun _ s₂ =>
          wpAny (model X.prog X.w) A (forIn ifs true fun c r => if r = true then do let ok ← isTrue c F'.env (eval c F'.env); pure (ForInStep.yield ok) else pure (ForInStep.yield r)) (fun ok s₃ =>
            if ok = true then wpAny (model X.prog X.w) A (eval elt F'.env) (fun x s₄ =>
              wpAny (model X.prog X.w) A (call (.builtin "list.append") [.ref D, x]) (fun _ s₅ => ∃ m, m < ds.length - i ∧ ∃ i η σ wr acc, i ≤ ds.length ∧ m = ds.length - i ∧ acc.length ≤ i ∧ CIn X F' gi St s₀ σ₀ D i acc wr η σ s₅ ∧ CLOOP X n F' target ifs elt need Q (ds.drop i) acc η σ) NoE s₄) NoE s₃
            else ∃ m, m < ds.length - i ∧ ∃ i η σ wr acc, i ≤ ds.length ∧ m = ds.length - i ∧ acc.length ≤ i ∧ CIn X F' gi St s₀ σ₀ D i acc wr η σ s₃ ∧ CLOOP X n F' target ifs elt need Q (ds.drop i) acc η σ) NoE s₂) NoE s₁) ao ci.cr hneed ci.st hd fun v s₁ wr' rv st₁ hwr' t => ?_) fun r s₁ p => ?_
    · have nr₁ := ci.nr.touch t hw hl ci.apart.2 ci.apart.1
      have cr₁ := ci.cr.touch t hw hb
      have stp₁ := ci.stp.touch t ci.fr
      have own₁ := ci.own.touch t hw
      have fr' := ci.fr.more ci.stp hwr'
      have apart' : (∀ a, F'.own a → ¬ wr' a) ∧ ∀ x c, F'.env.cells.lookup x = some c → ¬ wr' c := by
        refine ⟨fun a ha q => ?_, fun x c hc q => ?_⟩
        · rcases hwr' a q with q | q
          · exact ci.apart.1 a ha q
          · obtain ⟨o, e, _⟩ := ci.nr.box a ha; rw [q] at e; cases e
        · rcases hwr' c q with q | q
          · exact ci.apart.2 x c hc q
          · obtain ⟨vo, ic, _⟩ := ci.nr.cells x c hc
            obtain ⟨o, e, _⟩ := box_of_cell ic
            rw [q] at e; cases e
      have hw' := fun a => W.kind (i + 1) wr' s₁ a st₁
      have stKeep : ∀ (s₃ : Shared) (σ₃ : Store), Step F'.own σ σ₃ s₁ s₃ → St (i + 1) wr' s₃ := fun s₃ σ₃ y => W.frame _ _ _ _ st₁ (fun a o hwa e => by
        obtain ⟨o', e', k⟩ := hw' a hwa
        rw [e] at e'; cases e'
        have z : σ a = none := by
          cases q : σ a with
          | none => rfl
          | some es => exact absurd (cr₁.listObj e q) (not_list_of_loop k)
        exact y.heap a o e z fun h => apart'.1 a h hwa) (y.tups cr₁ nr₁.boxes) y.gens
      refine wpAny_weak (wpAny_AS has fo ao nr₁ cr₁ rv) fun _ s₂ p => ?_
      obtain ⟨η', ⟨nr₂, cr₂, stp₂, _⟩, hx⟩ := p
      refine wpAny_weak (wpAny_ETS hx fo ao nr₂ cr₂) fun ok s₃ p => ?_
      obtain ⟨σ₃, cr₃, stp₃, q⟩ := p
      have nr₃ := nr₂.step cr₂ stp₃
      have y₃ := stp₂.trans stp₃.lift
      have own₃ := own₁.step y₃ ci.dn nr₁.boxes cr₁
      cases ok with
      | false =>
        simp only [Bool.false_eq_true, if_false] at q ⊢
        exact ⟨ds.length - (i + 1), by (first | lia | omega), i + 1, η', σ₃, wr', acc, hlt, rfl, Nat.le_succ_of_le hacc, ⟨stKeep _ _ y₃, fr', apart', nr₃, cr₃, stp₁.own_again y₃ hown, own₃.1, own₃.2⟩, q⟩
      | true =>
        simp only [if_true] at q ⊢
        refine wpAny_weak (q A s₃ fo ao nr₃ cr₃) fun x s₄ p => ?_
        obtain ⟨d, σ₄, r₄, cr₄, stp₄, q⟩ := p
        have nr₄ := nr₃.step cr₃ stp₄
        have y₄ := y₃.trans stp₄.lift
        have own₄ := own₁.step y₄ ci.dn nr₁.boxes cr₁
        refine wpAny_own_append ao own₄.1 cr₄ own₄.2 hDb (by (first | lia | omega)) r₄ fun s₅ own₅ cr₅ kp hgens hdr hos hba => ?_
        have stp' := stp₁.own_again y₄ hown
        have notD : ∀ o, s₄.heap.get? D = some o → isListObj o := fun o e => by
          obtain ⟨vs, m, e', _⟩ := own₄.1
          rw [e] at e'; cases e'; exact ⟨vs, m, rfl⟩
        have ne_box : ∀ a o, s₄.heap.get? a = some o → isBox o → a ≠ D := fun a o e bx q => by subst q; exact not_list_of_box bx (notD o e)
        have ne_tup : ∀ a o, s₄.heap.get? a = some o → isTupObj o → a ≠ D := fun a o e bx q => by subst q; exact not_tup_of_list (notD o e) bx
        have st₄ := stKeep _ _ y₄
        refine ⟨ds.length - (i + 1), by (first | lia | omega), i + 1, η', σ₄, wr', acc ++ [d], hlt, rfl, by simp; (first | lia | omega), ⟨?_, fr', apart', nr₄.mono (fun a o e bx => kp a o (ne_box a o e bx) e) (fun a o e tp => kp a o (ne_tup a o e tp) e), cr₅, ?_, own₅, own₄.2⟩, q⟩
        · refine W.frame _ _ _ _ st₄ (fun a o hwa e => kp a o (fun q => ?_) e) (fun a o e tp => kp a o (ne_tup a o e tp) e) hgens
          subst q
          obtain ⟨o', e', k⟩ := W.kind _ _ _ _ st₄ hwa
          exact not_list_of_loop k (notD o' e')
        · exact ⟨fun a o e z _ => kp a o (hD0 a o e z) (stp'.heap a o e z fun h => h), fun _ _ _ _ h => h.elim, stp'.dom, fun i g e => hgens i g (stp'.gens i g e), hdr.trans stp'.drawn, hos.trans stp'.os, fun h => hba (stp'.bare h)⟩
    · obtain ⟨v, rfl, p⟩ := p
      exact p
  · have hi' : i = ds.length := by (first | lia | omega)
    subst hi'
    rw [List.drop_length] at h
    refine wpAny_weak (W.done A wr s σ (fun s' => R (.ok .next) s') ao ci.cr h.1 ci.st fun s' t => ?_) fun r s₁ p => ?_
    · exact hR s' η σ acc (ci.nr.touch t hw hl ci.apart.2 ci.apart.1) (ci.cr.touch t hw hb) (ci.stp.touch t ci.fr) (ci.own.touch t hw) ci.dn hacc h.2
    · obtain ⟨rfl, p⟩ := p
      exact p
end
end Mine

namespace Mine
open PySem PySem.W PyProof.Rows

section
variable {X : Ctx} {n : Nat} {F : Fm} {η η' : Names} {σ σ₁ σ' : Store} {s s₁ s' : Shared} {A : Around}

theorem Step.withOwn {D : Addr} {acc : List Mine.D} {own : Addr → Prop} (x : Step own σ σ₁ s s') (h : ∀ a o, s.heap.get? a = some o → σ a = none → a ≠ D) : Step own σ (σ₁.put D acc) s s' :=
  ⟨x.heap, x.there, fun a o e z => (put_ne (h a o e z)).trans (x.dom a o e z), x.gens, x.drawn, x.os, x.bare⟩

theorem comp_block {target iter elt : Expr} {ifs : List Expr} {scope : Scope} {pos : Pos} {I : Addr} {gi : Nat → Prop} {ds : List Mine.D} {need : Store → Prop} {St : Nat → (Addr → Prop) → Shared → Prop} {Q : List Mine.D → Store → Prop} {s₂ : Shared} {σ₂ : Store} {wr : Addr → Prop} {RR : Value → Addr → Result → Shared → Prop}
    (hok : compOk F.sc scope = true) (W : IW X n target I gi ds need St) (hz : ds.length ≤ sizeLine) (fo : FmOk X.b F) (ao : OkA n A) (nr : NR X.b s.heap F η) (cr : CR X.b s.heap σ) (st : St 0 wr s₂) (fr : Fresh wr gi σ s) (cr₂ : CR X.b s₂.heap σ₂) (stp : Step noOwn σ σ₂ s s₂)
    (h : ∀ env own, CLOOP X n ⟨scope, env, own⟩ target ifs elt need Q ds [] (compNames scope η) σ₂)
    (hRR : ∀ D C s' σ' acc, (∃ m, s'.heap.Ns C m) → CR X.b s'.heap σ' → Step noOwn σ σ' s s' → OwnL X D acc s'.heap → σ' D = none → X.b.get? D = none → X.b.get? C = none → (∀ a o, s.heap.get? a = some o → σ a = none → a ≠ D) → (∀ a o, s.heap.get? a = some o → σ a = none → a ≠ C) → acc.length ≤ ds.length → Q acc σ' → RR (.ref D) C (.ok .next) s') :
    wpAny (model X.prog X.w) A (newList []) (fun acc s₃ => wpAny (model X.prog X.w) A (newFunctionEnv scope F.env.globals (closOf F.env.cells scope.names []) [] F.env.qual none .none (some F.env)) (fun cenv s₄ =>
      codeAny (model X.prog X.w) A (.compStart (.ListComp elt [⟨target, iter, ifs, 0⟩] scope pos) 0 (.ref I) acc { cenv with scope := relabel scope F.env }) (RR acc cenv.locals) s₄) NoE s₃) NoE s₂ := by
  have hk : ∀ (o : Obj) b o', s₂.heap.get? b = some o' → (s₂.heap.push o).get? b = some o' := fun o _ _ e => Heap.get?_push_of_some o e
  refine wpAny_newObj_type ?_ (by show ([] : List Value).toArray.size ≤ sizeLine; simp)
  generalize hH : s₂.heap.push { cls := .type "list", data := .seq ([] : List Value).toArray } = H
  have hHk : ∀ b o', s₂.heap.get? b = some o' → H.get? b = some o' := fun b o' e => hH ▸ hk _ b o' e
  have nr₃ : NR X.b H F η := (nr.step cr stp).mono (fun a o e _ => hHk a o e) fun a o e _ => hHk a o e
  have cr₃ : CR X.b H σ₂ := cr₂.grown hHk
  have hD : H.get? s₂.heap.objs.size = some (lstO [] 0) := hH ▸ Heap.get?_push_size _ rfl
  have hDn : s₂.heap.get? s₂.heap.objs.size = none := Heap.get?_none_of_le (Nat.le_refl _)
  have hD0 : ∀ a o, s.heap.get? a = some o → σ a = none → a ≠ s₂.heap.objs.size := fun a o e z q => by
    subst q
    obtain ⟨o', e'⟩ := stp.alive e z
    rw [hDn] at e'; cases e'
  have hDb : X.b.get? s₂.heap.objs.size = none := by
    cases e : X.b.get? s₂.heap.objs.size with
    | none => rfl
    | some o => have := cr₂.base _ o e; rw [hDn] at this; cases this
  refine wpAny_compFrame (s := { s₂ with heap := H }) hok fo nr₃ cr₃ fun cells C h' hclos hk' hfr fo' nr' hC hcells => ?_
  show codeAny _ A (.compStart _ 0 (.ref I) (.ref s₂.heap.objs.size) (compFm scope cells C F).env) (RR (.ref s₂.heap.objs.size) C) { s₂ with heap := h' }
  have hk₂ : ∀ b o', s₂.heap.get? b = some o' → h'.get? b = some o' := fun b o' e => hk' b o' (hHk b o' e)
  have hC0 : ∀ a o, s.heap.get? a = some o → σ a = none → a ≠ C := fun a o e z q => by
    subst q
    obtain ⟨o', e'⟩ := stp.alive e z
    rw [hHk _ _ e'] at hC; cases hC
  have st' : St 0 wr { s₂ with heap := h' } := W.frame _ _ _ _ st (fun a o _ e => hk₂ a o e) (fun a o e _ => hk₂ a o e) fun _ _ e => e
  have own0 : ∀ a o, s.heap.get? a = some o → σ a = none → ¬ (compFm scope cells C F).own a := fun a o e z => by
    obtain ⟨o', e'⟩ := stp.alive e z
    exact hfr a o' (hHk _ _ e')
  have wr2 : ∀ a, wr a → ∃ o, H.get? a = some o := fun a ha => by
    obtain ⟨o, e, _⟩ := W.kind 0 wr s₂ a st ha
    exact ⟨o, hHk _ _ e⟩
  have outer := fr.names nr cr
  have ci : CIn X (compFm scope cells C F) gi St s σ s₂.heap.objs.size 0 [] wr (compNames scope η) σ₂ { s₂ with heap := h' } := {
    st := st'
    fr := fr
    apart := ⟨fun a ha hwa => by
      obtain ⟨o, e⟩ := wr2 a hwa
      exact hfr a o e ha, fun x c hc hwa => by
      rcases hcells x c hc with h | h
      · obtain ⟨o, e⟩ := wr2 c hwa
        exact hfr c o e h
      · exact outer.2.1 x c h hwa⟩
    nr := nr'
    cr := cr₂.grown hk₂
    stp := stp.trans (Step.grown (tk := s₂.toks) hk₂)
    own := ⟨[], 0, hk' _ _ hD, .nil⟩
    dn := cr₂.none_of_fresh hDn }
  have fin : codeAny (model X.prog X.w) A (.compLoop (.ListComp elt [⟨target, iter, ifs, 0⟩] scope pos) 0 (.ref I) (.ref s₂.heap.objs.size) (compFm scope cells C F).env) (RR (.ref s₂.heap.objs.size) C) { s₂ with heap := h' } := by
    refine comp_sound (F' := compFm scope cells C F) W hz fo' ao cr own0 hDb hD0 (fun s' η' σ' acc nrf crf stpf ownf dnf hlen hq => ?_) ci (h _ _)
    obtain ⟨m, hn, _⟩ := nrf.ns
    exact hRR _ C s' σ' acc ⟨m, hn⟩ crf stpf ownf dnf hDb (fo'.bnew C (.inl rfl)) hD0 hC0 hlen hq
  exact codeAny_compStart_list fin (wpAny_weak (W.self A 0 wr _ (fun v s' => v = .ref I ∧ s' = { s₂ with heap := h' }) st' ⟨rfl, rfl⟩) fun v s' p => by
    obtain ⟨rfl, rfl⟩ := p
    exact fin)

theorem sameBut_touch {C : Addr} {h' : Heap} (hs : Heap.SameBut C s'.heap h') : Touch (· = C) noGen s' { s' with heap := h' } := ⟨fun a o na e => hs.extBut a o na e, fun _ _ _ e => e, rfl, rfl, fun h => h⟩
theorem sameBut_kind {C : Addr} {m : Str → Option Value} (hn : s'.heap.Ns C m) : ∀ a, a = C → ∃ o, s'.heap.get? a = some o ∧ loopObj o := fun a ha => by
  obtain ⟨o, e, b⟩ := box_of_ns hn
  exact ⟨o, ha ▸ e, .inl b⟩

theorem E_comp {target iter elt : Expr} {ifs : List Expr} {scope : Scope} {pos : Pos} {Q : D → Store → Prop} (hok : compOk F.sc scope = true)
    (h : ITR X n F η σ target iter fun ds need σ₁ => ds.length ≤ sizeLine ∧ ∀ env own, CLOOP X n ⟨scope, env, own⟩ target ifs elt need (fun acc σ₂ => ∀ a, σ₂ a = none → Q (.lst a) (σ₂.put a acc)) ds [] (compNames scope η) σ₁)
    (hs : ∀ x, foldedSetIterable iter F.env x = pure x := by intro _; rfl) : EV X n F η σ (.ListComp elt [⟨target, iter, ifs, 0⟩] scope pos) Q :=
  fun A s fo ao nr cr => by
    rw [eval_ListComp]
    refine wpAny_comprehension_free (use := none) rfl hs (closure_ok hok fo) (compOk_kind hok) (compOk_names hok) (wpAny_weak (h A s fo ao nr cr) fun xv s₁ p => wpAny_weak p fun it s₂ p => ?_)
    obtain ⟨I, gi, ds, need, St, wr, σ₂, rfl, W, st, fr, cr₂, stp, hz, q⟩ := p
    refine comp_block hok W hz fo ao nr cr st fr cr₂ stp q fun D C s' σ' acc hn crf stpf ownf dnf hDb hCb hD0 hC0 hlen hq => ?_
    obtain ⟨m, hn⟩ := hn
    refine ⟨m, hn, fun h' hs => ?_⟩
    have t := sameBut_touch hs
    have hw := sameBut_kind hn
    have crt : CR X.b h' σ' := crf.touch t hw fun a o e q => by subst q; rw [hCb] at e; cases e
    have ownt : OwnL X D acc h' := ownf.touch t hw
    refine ⟨.lst D, σ'.put D acc, .lst D, ownt.cr crt hDb, ?_, hq D dnf⟩
    exact (stpf.touch t ⟨fun a o e z => hC0 a o e z, fun _ _ _ h => h⟩).withOwn hD0

/-- a comprehension whose list goes to a name of the frame, on one row -/
theorem X_assign_comp {target iter elt : Expr} {ifs : List Expr} {scope : Scope} {pos spos py : Pos} {y : Str} {Q : Fl → Names → Store → Prop} (hok : compOk F.sc scope = true) (hk : isOwnVar F.sc y = true)
    (h : ITR X n F η σ target iter fun ds need σ₁ => ds.length ≤ sizeLine ∧ ∀ env own, CLOOP X n ⟨scope, env, own⟩ target ifs elt need (fun acc σ₂ => ∀ a, σ₂ a = none → Q .next (η.put y (.lst a)) (σ₂.put a acc)) ds [] (compNames scope η) σ₁)
    (hs : ∀ x, foldedSetIterable iter F.env x = pure x := by intro _; rfl) : EX X n F η σ (.Assign [.Name y py] (.ListComp elt [⟨target, iter, ifs, 0⟩] scope pos) spos) Q := by
  intro A s fo ao nr cr
  have hsw : swapsWith (.ListComp elt [⟨target, iter, ifs, 0⟩] scope pos) (some (.Name y py)) spos.line F.env = pure true ∨ swapsWith (.ListComp elt [⟨target, iter, ifs, 0⟩] scope pos) (some (.Name y py)) spos.line F.env = pure false := by
    unfold swapsWith
    show (pure _ : Sem Bool) = pure true ∨ (pure _ : Sem Bool) = pure false
    generalize (F.env.blockKind == ScopeKind.function && F.env.kindOf y == some NameKind.local && py.line == (Expr.ListComp elt [⟨target, iter, ifs, 0⟩] scope pos).pos.line && !scope.names.any fun x => match x with | (n, k) => n == y && (k == NameKind.local || k == NameKind.cell)) = bb
    cases bb
    · exact .inr rfl
    · exact .inl rfl
  rcases hsw with hsw | hsw
  · rw [exec_Assign_Name_used _ _ _ _ hsw]
    refine wpAny_bind (wpAny_standAt (wpAny_bind ?_))
    show wpAny _ A (do let _ ← comprehension (.ListComp elt [⟨target, iter, ifs, 0⟩] scope pos) scope F.env _ (newList []) false (eval iter F.env) (some (assign (.Name y py) F.env))) _ _ s
    refine wpAny_bind (wpAny_weak (wpAny_comprehension_free (use := some (assign (.Name y py) F.env)) (Q := fun _ s' => PostF X F σ s Q .next s') (E := NoE) rfl hs (closure_ok hok fo) (compOk_kind hok) (compOk_names hok)
      (wpAny_weak (h A s fo ao nr cr) fun xv s₁ p => wpAny_weak p fun it s₂ p => ?_)) fun _ s' hq => ?_)
    rotate_left
    · exact wpAny_pure (wpAny_pure hq)
    obtain ⟨I, gi, ds, need, St, wr, σ₂, rfl, W, st, fr, cr₂, stp, hz, q⟩ := p
    refine comp_block hok W hz fo ao nr cr st fr cr₂ stp q fun D C s' σ' acc hn crf stpf ownf dnf hDb hCb hD0 hC0 hlen hq => ?_
    obtain ⟨m, hn⟩ := hn
    show wpAny _ A (assign (.Name y py) F.env (.ref D)) _ _ s'
    have cr' := ownf.cr crf hDb
    refine PySem.wpAny_assign_Name (wpAny_store_var fo (nr.step cr stpf) cr' hk (.lst D) fun s₁ pn => ?_)
    obtain ⟨nr₁, cr₁, st₁, _⟩ := pn
    obtain ⟨oC, eC, bC⟩ := box_of_ns hn
    have hCown : ¬ F.own C := fun ha => by
      obtain ⟨o, e, bx⟩ := nr.box C ha
      exact hC0 C o e (box_not_store cr e bx) rfl
    have hn₁ : s₁.heap.Ns C m := hn.at' fun o e => st₁.heap C o e (box_not_store cr' eC bC) hCown
    refine ⟨m, hn₁, fun h' hs => ?_⟩
    have t := sameBut_touch hs
    have hw := sameBut_kind hn₁
    have notC : ∀ a o, s.heap.get? a = some o → isBox o → a ≠ C := fun a o e bx => hC0 a o e (box_not_store cr e bx)
    refine ⟨.next, η.put y (.lst D), σ'.put D acc, .next, nr₁.touch t hw ?_ ?_ ?_, cr₁.touch t hw (fun a o e q => absurd (q ▸ e) (by rw [hCb]; exact fun z => nomatch z)), ?_, hq D dnf⟩
    · obtain ⟨m, hn, _⟩ := nr.ns
      obtain ⟨o, e, bx⟩ := box_of_ns hn
      exact notC _ o e bx
    · intro x c hc
      obtain ⟨vo, ic, _⟩ := nr.cells x c hc
      obtain ⟨o, e, bx⟩ := box_of_cell ic
      exact notC _ o e bx
    · intro a ha
      obtain ⟨o, e, bx⟩ := nr.box a ha
      exact notC _ o e bx
    · exact Step.touch ((stpf.withOwn (acc := acc) hD0).lift.trans st₁) t ⟨fun a o e z => hC0 a o e z, fun _ _ _ h => h⟩
  · exact X_assign hk (E_comp hok (fun A s fo ao nr cr => h A s fo ao nr cr) hs) hsw A s fo ao nr cr
end
end Mine

namespace Mine
open PySem PySem.W PySem.W.X PyProof.Rows

section
variable {prog : Program} {w : World} {A : Around} {c : Code} {fs : List Frame} {P : End → Shared → Prop} {s : Shared}

theorem segx_quiet {t : Sem Fin} (h : SegX (model prog w) A c t fs s P) : SegX (model prog w) A c t fs s (fun e s' => e.genState.bare = true ∧ P e s') := fun Γ p hc hΓ => by
  obtain ⟨e, s', hr, hq, hp⟩ := h Γ p hc hΓ
  exact ⟨e, s', hr, hq, End.bare_of_quiet hq, hp⟩
theorem segx_wrap {α : Type} {m : Sem α} {K : α → Sem Fin} {H : Value → Sem Fin} {gd : Bool → Bool} {lv : List Value → List Value} (h : wpAny (model prog w) (A.over c fs) m (fun a s' => SegX (model prog w) A c (K a) fs s' P) NoE s) :
    SegX (model prog w) A c (m.wrap K H gd lv) fs s P := by
  rintro Γ p rfl hΓ
  obtain ⟨e, s', hr, hq⟩ := runs_wrap_of_wp (Φ := fun e s' => e.quiet = true ∧ P e s') K H gd lv m (h (Γ.over fs) p (hΓ.over fs)) (fun a p' s' h' => h' Γ p' rfl hΓ) (fun x p' s' h' => h'.elim)
  exact ⟨e, s', hr, hq⟩
theorem segx_bind {α β : Type} {m : Sem α} {K : α → Sem β} {K' : β → Sem Fin} {H' : Value → Sem Fin} {gd : Bool → Bool} {lv : List Value → List Value} (h : wpAny (model prog w) (A.over c fs) m (fun a s' => SegX (model prog w) A c ((K a).wrap K' H' gd lv) fs s' P) NoE s) :
    SegX (model prog w) A c ((m >>= K).wrap K' H' gd lv) fs s P := by
  rw [Sem.bind_eq_wrap', Sem.wrap_wrap]; exact segx_wrap h
theorem segx_at {p' : Pos} {k : Unit → Sem Fin} (h : SegX (model prog w) A c (k ()) fs s P) : SegX (model prog w) A c (.at p' k) fs s P :=
  segx_wrap (m := standAt p') (K := k) (H := .raise) (gd := id) (lv := id) (wpAny_standAt h)
theorem segx_point {l : List Value} {k : Unit → Sem Fin} (h : SegX (model prog w) A c (k ()) fs s P) : SegX (model prog w) A c (.point l k) fs s P :=
  segx_wrap (m := point) (K := k) (H := .raise) (gd := id) (lv := fun _ => l) (wpAny_point h)
theorem segx_execs {env : Env} {st : Stmt} {rest : List Stmt} {K : Flow → Sem Fin} {H : Value → Sem Fin} {gd : Bool → Bool} {lv : List Value → List Value}
    (h : SegX (model prog w) A c ((exec st env).wrap (fun f => match f with | .next => (execs rest env).wrap K H gd lv | f => K f) H gd lv) fs s P) :
    SegX (model prog w) A c ((execs (st :: rest) env).wrap K H gd lv) fs s P := by rw [execs_cons_wrap]; exact h

theorem wake_wp {α : Type} {Q : α → Shared → Prop} {E : Value → Shared → Prop} {g : Nat} {gs : GenState} {r : Resume} {l : List Value} {k : GenResult → Sem α} {c₀ : Code} {t₀ : Sem Fin} {fs₀ : List Frame} (hg : s.gens[g]? = some gs)
    (hgs : (gs = .fresh c₀ ∧ r = .send .none ∧ t₀ = denote table c₀ ∧ fs₀ = []) ∨ (∃ k₀ l₀ p₀ cl, gs = .suspended k₀ l₀ c₀ p₀ fs₀ cl ∧ t₀ = k₀ r))
    (x : SegX (model prog w) A c₀ t₀ fs₀ (s.setGen g .running) (fun e s₁ => e.genState.bare = true → wpAny (model prog w) A (k e.result) Q E (s₁.setGen g e.genState))) : wpAny (model prog w) A (.resume g r l k) Q E s :=
  fun Γ p hΓ => wake_any α prog w hg hgs (fun Γ => Γ.In A) (fun _ h => h) ((segx_quiet x).mono fun _ _ h Γ p hΓ => h.2 h.1 Γ p hΓ) Γ p hΓ

/-- what the waking of a generator brings -/
theorem next_gen {a : Addr} {g : Nat} {gs : GenState} {c₀ : Code} {t₀ : Sem Fin} {fs₀ : List Frame} {Q : Option Value → Shared → Prop} (hh : A.handled = none) (hl : s.heap.NoLimit) (hroom : A.depth < recursionLimit)
    (hg : s.heap.IsGen a g) (hgs : s.gens[g]? = some gs) (hgo : (gs = .fresh c₀ ∧ t₀ = denote table c₀ ∧ fs₀ = []) ∨ ∃ k₀ l₀ p₀ cl, gs = .suspended k₀ l₀ c₀ p₀ fs₀ cl ∧ t₀ = k₀ (.send .none))
    (x : SegX (model prog w) A.in1 c₀ t₀ fs₀ (s.setGen g .running) (fun e s₁ => e.genState.bare = true → match e with
      | .ret r => r = .ok (.ret .none) ∧ ∀ h', (∀ b o, s₁.heap.get? b = some o → h'.get? b = some o) → Q none { s₁.setGen g .finished with heap := h' }
      | .susp v b l k c p fs => Q (some v) (s₁.setGen g (End.susp v b l k c p fs).genState))) : wpAny (model prog w) A (pyNext (.ref a)) Q NoE s := by
  unfold pyNext
  refine wpAny_bind (wpAny_attempt (wpAny_callSpecial?_slot (name := Str.ofString "__next__") hg.typeIs slot_gen_next
    (wpAny_call_entry slot_gen_next hg.typeIs entry_gen_next ?_ (args_gen_next _))))
  show wpAny _ A.in1 (Builtin.Generator.genWake (.ref a) (.send .none)) _ _ s
  unfold Builtin.Generator.genWake
  refine wpAny_bind (wpAny_holding (wpAny_genNumber hg (wpAny_bind (wpAny_genState hgs ?_))))
  have hgo' : (gs = .fresh c₀ ∧ (Resume.send .none) = .send .none ∧ t₀ = denote table c₀ ∧ fs₀ = []) ∨ (∃ k₀ l₀ p₀ cl, gs = .suspended k₀ l₀ c₀ p₀ fs₀ cl ∧ t₀ = k₀ (.send .none)) := by
    rcases hgo with ⟨h1, h2, h3⟩ | h
    · exact .inl ⟨h1, rfl, h2, h3⟩
    · exact .inr h
  have hgs2 := hgs
  rcases hgo with ⟨rfl, _, _⟩ | ⟨_, _, _, _, rfl, _⟩
  all_goals
    refine wpAny_bind (wpAny_roomToWake hl hroom ?_)
    show wpAny _ A.in1 (.resume g (.send .none) [] _) _ _ s
    refine wake_wp hgs2 hgo' (x.mono fun e s₁ he hb => ?_)
    cases e with
    | ret r =>
      obtain ⟨rfl, hp⟩ := he hb
      show wpAny _ A.in1 (newExc (.type "StopIteration") [] >>= _) _ _ _
      refine wpAny_bind ?_
      simp only [newExc, newTuple]
      refine wpAny_bind (wpAny_newObj_type ?_ (by size_fits))
      refine wpAny_bind (m := firstArgMember _ _) (wpAny_of_eq (a := Value.none) (by first | rfl | (simp only [firstArgMember]; rfl)) ?_)
      refine wpAny_newObj_type ?_ (by size_fits)
      simp only [raiseNew]
      refine wpAny_bind (wpAny_bind (wpAny_handled ?_))
      rw [show A.in1.handled = none from hh]
      refine wpAny_throw ?_
      refine wpAny_bind (wpAny_isInstance (T := "StopIteration") (b := true) ⟨_, Heap.get?_push_size _ rfl, rfl⟩ isSubtype_stop ?_)
      exact wpAny_pure (hp _ fun b o hb => Heap.get?_push_of_some _ (Heap.get?_push_of_some _ hb))
    | susp v b l k c p fs => exact wpAny_pure ⟨v, rfl, wpAny_pure (he hb)⟩
end
end Mine

namespace Mine
open PySem PySem.W PySem.W.X PyProof.Rows

section
variable {X : Ctx} {n : Nat} {F : Fm} {η η' : Names} {s s' s₁ : Shared} {A : Around}

abbrev emp : Store := fun _ => none
theorem Touch.trans {wr : Addr → Prop} {gi : Nat → Prop} (x : Touch wr gi s s₁) (y : Touch wr gi s₁ s') : Touch wr gi s s' :=
  ⟨fun a o n e => y.heap a o n (x.heap a o n e), fun j g n e => y.gens j g n (x.gens j g n e), y.drawn.trans x.drawn, y.os.trans x.os, fun h => y.bare (x.bare h)⟩
theorem Touch.mono {wr wr' : Addr → Prop} {gi gi' : Nat → Prop} (x : Touch wr gi s s₁) (h : ∀ a, wr a → wr' a) (h' : ∀ a, gi a → gi' a) : Touch wr' gi' s s₁ :=
  ⟨fun a o n e => x.heap a o (fun q => n (h a q)) e, fun j g n e => x.gens j g (fun q => n (h' j q)) e, x.drawn, x.os, x.bare⟩
theorem Step.toTouch {own : Addr → Prop} (x : Step own emp emp s s') : Touch own noGen s s' :=
  ⟨fun a o n e => x.heap a o e rfl n, fun j g _ e => x.gens j g e, x.drawn, x.os, x.bare⟩

theorem draws_txt (it : Addr) (x : Str) (t : Tok) (prog : Program) (w : World) (A : Around) (hh : A.handled = none) :
    Draws prog w A it [it] x.cps.size (fun i v => ∃ c u, x.cps[i]? = some c ∧ v = .str ⟨#[c]⟩ u) (fun i h => h.IsStrIter it (strIterType x) x t i) := by
  unfold strIterType
  split
  · exact Draws.strAscii hh it x t
  · exact Draws.strWide hh it x t

/-- the tree of the generator's loop -/
noncomputable def genTarget (p1 p2 p3 : Pos) (k : Nat) : Expr := .Tuple [.Name "pos" p1, .Name "ch" p2] k p3
noncomputable def genBody (b1 b2 : List Stmt) (bs : Str) (q1 q2 q3 q4 q5 q6 q7 q8 q9 q10 q11 : Pos) (kc kt : Nat) : List Stmt :=
  [.If (.Name "escape" q1) b1 [.If (.Compare (.Name "ch" q2) [.Eq] [.Constant (.str bs) kc q3] q4) b2 [.Expr (.Yield (some (.Tuple [.Name "pos" q5, .Name "ch" q6] kt q7)) q8) q9] q10] q11]

structure GenSc (sc : Scope) : Prop where
  pos : isOwnVar sc "pos" = true
  ch : isOwnVar sc "ch" = true
  esc : isOwnVar sc "escape" = true
  addr : isVar sc "addr" = true
  vpos : isVar sc "pos" = true
  vch : isVar sc "ch" = true
  vesc : isVar sc "escape" = true
  co : sc.isCoroutine = false

/-- where the loop of a generator stands -/
structure GLoop (X : Ctx) (F : Fm) (l : List Nat) (e it : Addr) (t : Tok) (i : Nat) (η : Names) (s : Shared) : Prop where
  nr : NR X.b s.heap F η
  esc : η "escape" = some (.bool false)
  enum : ∃ old, IsEnum s.heap e it i old
  iter : s.heap.IsStrIter it (strIterType (S l)) (S l) t i
  ne : e ≠ it
  apart : ¬ F.own e ∧ ¬ F.own it
  nob : X.b.get? e = none ∧ X.b.get? it = none
  cells : ∀ x c, F.env.cells.lookup x = some c → F.own c
  own : ∀ a, F.own a → a = F.env.locals
abbrev gW (F : Fm) (e it : Addr) : Addr → Prop := fun a => F.own a ∨ a = e ∨ a = it

theorem gen_item {l : List Nat} {e it : Addr} {t : Tok} {i c : Nat} {b1 b2 : List Stmt} {bs : Str} {p1 p2 p3 q1 q2 q3 q4 q5 q6 q7 q8 q9 q10 q11 : Pos} {k kc kt : Nat} {fr : Frame} {L : Code} {P : End → Shared → Prop}
    (hL : Code.forLoop (genTarget p1 p2 p3 k) (.ref e) (genBody b1 b2 bs q1 q2 q3 q4 q5 q6 q7 q8 q9 q10 q11 kc kt) [] F.env = L) (hsc : GenSc F.sc) (fo : FmOk X.b F) (hco : F.env.scope.isCoroutine = false) (ao : OkA 3 (A.over L [fr])) (hfr : fr.guarded = false ∧ splitAtGen [fr] = none)
    (g : GLoop X F l e it t i η s) (gcr : CR X.b s.heap emp) (hi : l[i]? = some c) (hc : c ≠ 92) (hbs : bs = S [92])
    (hP : ∀ v lv kk p s', VR X.b s'.heap v (.tup [.int i, .str (S [c])]) → (∀ A s'' P'', SegX (model X.prog X.w) A L (denote table L) [fr] s'' P'' → SegX (model X.prog X.w) A L (kk (.send .none)) [fr] s'' P'') →
      (∃ η', GLoop X F l e it t (i + 1) η' s') → Touch (gW F e it) noGen s s' → P (.susp v false lv kk L p [fr]) s') :
    SegX (model X.prog X.w) A L (denote table L) [fr] s P := by
  have hden : denote table L = (forTurn (genTarget p1 p2 p3 k) (.ref e) (genBody b1 b2 bs q1 q2 q3 q4 q5 q6 q7 q8 q9 q10 q11 kc kt) [] F.env).onRaise (fun x => do noteFrame x F.env; theTreesLotGoes x) := by rw [← hL]; rfl
  obtain ⟨old, he⟩ := g.enum
  have hlt : i < (S l).cps.size := by have := (List.getElem?_eq_some_iff.mp hi).1; simpa using this
  rw [hden, Sem.onRaise_eq_wrap]
  unfold forTurn
  refine segx_bind (wpAny_standAt ?_)
  refine segx_bind (wpAny_onRaise (wpAny_mono (wpAny_pyNext_enum_itemD (E := NoE) (draws_txt it (S l) t _ _ _ ao.1) he g.iter hlt g.ne (by simpa using g.ne) fun x h' tk hP ho hst hT hsz hk => ?_) (fun _ _ h => h) fun _ _ h => h.elim))
  obtain ⟨c', u, hc', rfl⟩ := hP
  have : c' = c := by
    have : l[i]? = some c' := by simpa using hc'
    rw [hi] at this; exact (Option.some.inj this).symm
  subst this
  show SegX _ _ _ (Sem.wrap _ _ _ _ (letOwnedTupleGo _ _ _ >>= _)) _ _ _
  refine segx_bind (wpAny_letOwnedTupleGo_enum (s := { s with heap := h', toks := tk + 1 }) ho fun h₂ he₂ hs₂ => ?_)
  have hs₂ : Heap.SameBut e h' h₂ := hs₂
  have hTlt : e < s.heap.objs.size := Heap.lt_size he
  have t1 : Touch (fun a => a = e ∨ a = it) noGen s { s with heap := h₂, toks := tk + 1 } := ⟨fun a o na ea => hs₂.extBut a o (fun q => na (.inl q)) (hk a o (fun q => na (.inl q)) (fun q => na (.inr q)) ea), fun _ _ _ e => e, rfl, rfl, fun h => h⟩
  have kd : ∀ a, (a = e ∨ a = it) → ∃ o, s.heap.get? a = some o ∧ loopObj o := fun a ha => by
    rcases ha with rfl | rfl
    · exact ⟨_, he, .inr ⟨_, rfl⟩⟩
    · obtain ⟨o, e, _, d⟩ := g.iter
      exact ⟨o, e, .inr ⟨_, d⟩⟩
  have hown : ∀ a, F.own a → ¬ (a = e ∨ a = it) := fun a ha q => by
    rcases q with rfl | rfl
    · exact g.apart.1 ha
    · exact g.apart.2 ha
  have nr₂ : NR X.b h₂ F η := g.nr.touch t1 kd (hown _ fo.ownL) (fun x c hc => hown c (g.cells x c hc)) hown
  have hbase : ∀ a o, X.b.get? a = some o → ¬ (a = e ∨ a = it) := fun a o ea q => by
    rcases q with rfl | rfl
    · rw [g.nob.1] at ea; cases ea
    · rw [g.nob.2] at ea; cases ea
  have cr₂ : CR X.b h₂ emp := gcr.touch t1 kd hbase
  have rT : VR X.b h₂ (.ref s.heap.objs.size) (.tup [.int i, .str (S [c'])]) := .tup (vs := [.int i tk, .str ⟨#[c']⟩ u]) (n := 0) (hs₂.extBut _ _ (Nat.ne_of_gt hTlt) hT) (.cons (.int _ _) (.one (.str _ _)))
  refine segx_bind (wpAny_weak (wpAny_assignNames (X := X) (n := 3) (s := { s with heap := h₂, toks := tk + 1 }) (xs := ["pos", "ch"]) (R := fun _ s' => PostN X F (putAll η ["pos", "ch"] [.int i, .str (S [c'])]) emp { s with heap := h₂, toks := tk + 1 } s') fo ao nr₂ cr₂ rfl (fun x hx => by
    rcases List.mem_cons.mp hx with rfl | hx
    · exact hsc.pos
    · rw [List.mem_singleton.mp hx]; exact hsc.ch) rfl rT fun s' pn => pn) fun _ s₃ pn => ?_)
  obtain ⟨nr₃, cr₃, st₃, _⟩ := pn
  generalize hη : putAll η ["pos", "ch"] [.int i, .str (S [c'])] = η₃ at nr₃
  have e1 : η₃ "escape" = some (.bool false) := by rw [← hη]; exact g.esc
  have e2 : η₃ "pos" = some (.int i) := by rw [← hη]; rfl
  have e3 : η₃ "ch" = some (.str (S [c'])) := by rw [← hη]; rfl
  show SegX _ _ _ (Sem.wrap _ _ _ _ (execs _ F.env >>= _)) _ _ _
  rw [Sem.bind_eq_wrap', Sem.wrap_wrap]
  unfold genBody
  refine segx_execs ?_
  rw [exec_If]
  refine segx_bind (wpAny_standAt ?_)
  have te : ET X 3 F η₃ emp (.Name "escape" q1) (fun t σ => t = false ∧ σ = emp) := T_plain (E_name hsc.vesc e1 ⟨false, rfl, rfl, rfl⟩)
  refine segx_bind (wpAny_weak (te _ _ fo ao nr₃ cr₃) fun b s₄ pb => ?_)
  obtain ⟨_, cr₄, st₄, rfl, rfl⟩ := pb
  have nr₄ := nr₃.step cr₃ st₄
  show SegX _ _ _ (Sem.wrap _ _ _ _ (execs _ F.env)) _ _ _
  refine segx_execs ?_
  rw [exec_If]
  refine segx_bind (wpAny_standAt ?_)
  have te2 : ET X 3 F η₃ emp (.Compare (.Name "ch" q2) [.Eq] [.Constant (.str bs) kc q3] q4) (fun t σ => t = false ∧ σ = emp) := by
    subst hbs
    exact T_cmp (E_name hsc.vch e3 (E_str (C_seq ⟨_, rfl, decide_eq_false (fun q => hc (by injection q)), rfl⟩)))
  refine segx_bind (wpAny_weak (te2 _ _ fo ao nr₄ cr₄) fun b s₅ pb => ?_)
  obtain ⟨_, cr₅, st₅, rfl, rfl⟩ := pb
  have nr₅ := nr₄.step cr₄ st₅
  show SegX _ _ _ (Sem.wrap _ _ _ _ (execs _ F.env)) _ _ _
  refine segx_execs ?_
  rw [exec_Expr F.env _ _ (interactive_no fo) rfl]
  have hy : ∀ v, yieldOut F.env v = yieldValue v := fun v => by simp only [yieldOut, hco, Bool.false_eq_true, if_false]
  show SegX _ _ _ (.at q9 fun _ => Sem.wrap _ _ _ _ ((eval (.Tuple [.Name "pos" q5, .Name "ch" q6] kt q7) F.env >>= fun v => (standAt q8 >>= fun _ => yieldOut F.env v)) >>= fun x =>
    dropValue (.Yield (some (.Tuple [.Name "pos" q5, .Name "ch" q6] kt q7)) q8) q9 x)) _ _ _
  simp only [hy]
  refine segx_at ?_
  rw [Sem.bind_eq_wrap', Sem.bind_eq_wrap', Sem.wrap_wrap, Sem.wrap_wrap]
  have ev : EV X 3 F η₃ emp (.Tuple [.Name "pos" q5, .Name "ch" q6] kt q7) (fun d σ => d = .tup [.int i, .str (S [c'])] ∧ σ = emp) :=
    E_tuple (S_cons (E_name hsc.vpos e2 (S_cons (E_name hsc.vch e3 (S_nil ⟨by show 2 ≤ sizeLine; rw [sizeLine_eq]; decide, rfl, rfl⟩)))))
  refine segx_wrap (wpAny_weak (ev _ _ fo ao nr₅ cr₅) fun v s₆ pv => ?_)
  obtain ⟨_, _, r₆, cr₆, st₆, rfl, rfl⟩ := pv
  have nr₆ := nr₅.step cr₅ st₆
  refine segx_at (s_yield _ _ _ _ _ _ _ _ _ _ hfr.2 (by simp [hfr.1]) fun p => ?_)
  have yy : Step F.own emp emp { s with heap := h₂, toks := tk + 1 } s₆ := ((st₃.trans st₄.lift).trans st₅.lift).trans st₆.lift
  subst hL
  refine hP v _ _ p s₆ r₆ (fun A' s'' P'' h => ?_) ⟨η₃, ?_⟩ ((t1.mono (fun a h => .inr h) fun _ h => h).trans (yy.toTouch.mono (fun a h => .inl h) fun _ h => h))
  · exact s_again _ _ _ _ _ _ s'' _ rfl h
  · have en : IsEnum h₂ e it ((i + 1 : Nat) : Int) (.str ⟨#[c']⟩ u) := by
      have : ((i : Int) + 1) = ((i + 1 : Nat) : Int) := by push_cast; rfl
      rw [← this]
      exact he₂
    refine ⟨nr₆, e1, ⟨_, yy.heap e _ en rfl g.apart.1⟩, ?_, g.ne, g.apart, g.nob, g.cells, g.own⟩
    · obtain ⟨o, eo, ho⟩ := Heap.IsStrIter.extBut hst hs₂.extBut (Ne.symm g.ne)
      exact ⟨o, yy.heap it o eo rfl g.apart.2, ho⟩

theorem NR.keep {b h h' : Heap} (nr : NR b h F η) (hk : ∀ a o, (a = F.env.locals ∨ F.own a ∨ ∃ x, F.env.cells.lookup x = some a) → h.get? a = some o → h'.get? a = some o) (ht : ∀ a o, h.get? a = some o → isTupObj o → h'.get? a = some o) : NR b h' F η where
  ns := by
    obtain ⟨m, hn, hm⟩ := nr.ns
    refine ⟨m, hn.at' fun o e => hk _ o (.inl rfl) e, fun y d hl' hd => ?_⟩
    obtain ⟨v, e, r⟩ := hm y d hl' hd
    exact ⟨v, e, r.mono ht⟩
  cells y c hy := by
    obtain ⟨vo, ⟨o, e, d⟩, r⟩ := nr.cells y c hy
    refine ⟨vo, ⟨o, hk _ _ (.inr (.inr ⟨y, hy⟩)) e, d⟩, fun d hl' hd => ?_⟩
    obtain ⟨v, e, r⟩ := r d hl' hd
    exact ⟨v, e, r.mono ht⟩
  box a ha := by
    obtain ⟨o, e, q⟩ := nr.box a ha
    exact ⟨o, hk a o (.inr (.inl ha)) e, q⟩
theorem GLoop.frame {l : List Nat} {e it : Addr} {t : Tok} {i : Nat} (g : GLoop X F l e it t i η s) (hk : ∀ a o, gW F e it a → s.heap.get? a = some o → s'.heap.get? a = some o) (ht : ∀ a o, s.heap.get? a = some o → isTupObj o → s'.heap.get? a = some o) (hl : F.own F.env.locals) : GLoop X F l e it t i η s' where
  nr := g.nr.keep (fun a o ha e => hk a o (.inl (by
    rcases ha with rfl | ha | ⟨x, hx⟩
    · exact hl
    · exact ha
    · exact g.cells x a hx)) e) ht
  esc := g.esc
  enum := let ⟨old, h⟩ := g.enum; ⟨old, hk _ _ (.inr (.inl rfl)) h⟩
  iter := let ⟨o, h, r⟩ := g.iter; ⟨o, hk _ _ (.inr (.inr rfl)) h, r⟩
  ne := g.ne
  apart := g.apart
  nob := g.nob
  cells := g.cells
  own := g.own

noncomputable def genTail (b3 : List Stmt) (q12 q13 : Pos) : List Stmt := [.If (.Name "escape" q12) b3 [] q13]
theorem gen_done {l : List Nat} {e it : Addr} {t : Tok} {lb b3 : List Stmt} {q12 q13 : Pos} {target : Expr} {L c₁ : Code} {P : End → Shared → Prop} {kF : Result → Sem Fin} {hd : Option Value} {gd' : Bool} {l' : List Value} {p₁ : Pos} {kp : List Value} {K0 : Flow → Sem Fin} {H0 : Value → Sem Fin} {gd : Bool → Bool} {lv : List Value → List Value}
    (hL : Code.forLoop target (.ref e) lb [] F.env = L) (hsc : GenSc F.sc) (fo : FmOk X.b F) (ao : A.handled = none) (ao' : OkA 3 (A.over L [.ret kF hd gd' l' c₁ p₁ kp])) (ao1 : OkA 3 (A.over c₁ []))
    (g : GLoop X F l e it t l.length η s) (gcr : CR X.b s.heap emp) (hk : kF (.ok .next) = (execs (genTail b3 q12 q13) F.env).wrap K0 H0 gd lv) (hK : K0 .next = .pure (.done (.ret .none)))
    (hP : ∀ s', Touch (gW F e it) noGen s s' → P (.ret (.ok (.ret .none))) s') :
    SegX (model X.prog X.w) A L (denote table L) [.ret kF hd gd' l' c₁ p₁ kp] s P := by
  have hden : denote table L = (forTurn target (.ref e) lb [] F.env).onRaise (fun x => do noteFrame x F.env; theTreesLotGoes x) := by rw [← hL]; rfl
  obtain ⟨old, he⟩ := g.enum
  rw [hden, Sem.onRaise_eq_wrap]
  unfold forTurn
  refine segx_bind (wpAny_standAt ?_)
  have hsz : (S l).cps.size = l.length := by simp
  refine segx_bind (wpAny_onRaise (wpAny_mono (wpAny_pyNext_enum_endD (E := NoE) (draws_txt it (S l) t _ _ _ ao'.1) he (hsz.symm ▸ g.iter) fun h' hx => ?_) (fun _ _ h => h) fun _ _ h => h.elim))
  have t1 : Touch (fun a => a = it) noGen s { s with heap := h' } := ⟨fun a o na ea => hx a o na ea, fun _ _ _ e => e, rfl, rfl, fun h => h⟩
  have kd : ∀ a, a = it → ∃ o, s.heap.get? a = some o ∧ loopObj o := fun a ha => by
    subst ha
    obtain ⟨o, e, _, d⟩ := g.iter
    exact ⟨o, e, .inr ⟨_, d⟩⟩
  have hown : ∀ a, F.own a → ¬ a = it := fun a ha q => by subst q; exact g.apart.2 ha
  have nr₂ : NR X.b h' F η := g.nr.touch t1 kd (hown _ fo.ownL) (fun x c hc => hown c (g.cells x c hc)) hown
  have cr₂ : CR X.b h' emp := gcr.touch t1 kd fun a o ea q => by subst q; rw [g.nob.2] at ea; cases ea
  refine s_again _ _ _ _ _ _ _ (.block [] F.env) rfl ?_
  refine s_pop _ _ _ _ _ _ _ (.ok .next) _ rfl _ _ _ _ _ _ _ ?_
  rw [hk]
  unfold genTail
  refine segx_execs ?_
  rw [exec_If]
  refine segx_bind (wpAny_standAt ?_)
  have te : ET X 3 F η emp (.Name "escape" q12) (fun t σ => t = false ∧ σ = emp) := T_plain (E_name hsc.vesc g.esc ⟨false, rfl, rfl, rfl⟩)
  refine segx_bind (wpAny_weak (te _ _ fo ao1 nr₂ cr₂) fun b s₄ pb => ?_)
  obtain ⟨_, cr₄, st₄, rfl, rfl⟩ := pb
  have fin : P (.ret (.ok (.ret .none))) s₄ := hP s₄ ((t1.mono (fun a h => .inr (.inr h)) fun _ h => h).trans (st₄.lift (own := F.own).toTouch.mono (fun a h => .inl h) fun _ h => h))
  show SegX _ _ _ (K0 .next) _ _ _
  rw [hK]
  exact s_end _ _ _ _ _ s₄ (.ok (.ret .none)) _ rfl fin
end
end Mine

namespace Mine
open PySem PySem.W PySem.W.X PyProof.Rows

section
variable {X : Ctx} {n : Nat} {F : Fm} {η η' : Names} {s s' s₁ : Shared} {A : Around}

theorem OkA.over0 {body : List Stmt} {env : Env} (h : OkA (n + 2) A) : OkA n (A.over (.func body env) []) := by
  obtain ⟨h1, h2, h3⟩ := h
  refine ⟨h1, ?_, ?_⟩
  · have : (A.over (.func body env) []).depth = A.depth + 0 + 1 := rfl
    rw [this]; (first | lia | omega)
  · have : (A.over (.func body env) []).units = A.units + 0 + 3 := rfl
    rw [this]; (first | lia | omega)
theorem OkA.over1 {body lb : List Stmt} {target : Expr} {it : Value} {env : Env} {k : Result → Sem Fin} {l l2 : List Value} {p : Pos} (h : OkA (n + 2) A) : OkA n (A.over (.forLoop target it lb [] env) [.ret k none false l (.func body env) p l2]) := by
  obtain ⟨h1, h2, h3⟩ := h
  refine ⟨h1, ?_, ?_⟩
  · have : (A.over (.forLoop target it lb [] env) [.ret k none false l (.func body env) p l2]).depth = A.depth + 1 + 0 := rfl
    rw [this]; (first | lia | omega)
  · have : (A.over (.forLoop target it lb [] env) [.ret k none false l (.func body env) p l2]).units = A.units + 3 + 0 := rfl
    rw [this]; (first | lia | omega)

/-- the frame that waits below the loop -/
noncomputable def GFr (F : Fm) (c₁ : Code) (fr : Frame) : Prop := ∃ kF p b3 q12 q13 K0 H0 gd lv, fr = .ret kF none false [] c₁ p [] ∧ kF (.ok .next) = (execs (genTail b3 q12 q13) F.env).wrap K0 H0 gd lv ∧ K0 .next = .pure (.done (.ret .none))

noncomputable def genFunc (r1 r2 r3 r4 r5 r6 r7 r8 r9 r10 : Pos) (k1 k2 : Nat) (target : Expr) (lb : List Stmt) (b3 : List Stmt) (q12 q13 : Pos) : List Stmt :=
  [.Assign [.Name "pos" r1] (.Constant (.int 0) k1 r2) r3, .Assign [.Name "escape" r4] (.Constant (.bool false) k2 r5) r6, .For target (.Call (.Name "enumerate" r7) [.Name "addr" r8] [] r9) lb [] r10, .If (.Name "escape" q12) b3 [] q13]

theorem gen_start {l : List Nat} {r1 r2 r3 r4 r5 r6 r7 r8 r9 r10 q12 q13 : Pos} {k1 k2 : Nat} {target : Expr} {lb b3 : List Stmt} {P : End → Shared → Prop} (hm : X.mg "enumerate" = none) (hv : X.mb "enumerate" = some (.type "enumerate")) (hg : isGlob F.sc "enumerate" = true)
    (hsc : GenSc F.sc) (fo : FmOk X.b F) (ao : OkA 5 A) (nr : NR X.b s.heap F η) (cr : CR X.b s.heap emp) (ha : η "addr" = some (.str (S l))) (hcells : ∀ x c, F.env.cells.lookup x = some c → F.own c) (hownL : ∀ a, F.own a → a = F.env.locals)
    (hP : ∀ e it t fr η' s', GFr F (.func (genFunc r1 r2 r3 r4 r5 r6 r7 r8 r9 r10 k1 k2 target lb b3 q12 q13) F.env) fr → GLoop X F l e it t 0 η' s' → CR X.b s'.heap emp → Touch F.own noGen s s' → s.heap.get? e = none → s.heap.get? it = none →
      SegX (model X.prog X.w) A (.forLoop target (.ref e) lb [] F.env) (denote table (.forLoop target (.ref e) lb [] F.env)) [fr] s' P) :
    SegX (model X.prog X.w) A (.func (genFunc r1 r2 r3 r4 r5 r6 r7 r8 r9 r10 k1 k2 target lb b3 q12 q13) F.env) (denote table (.func (genFunc r1 r2 r3 r4 r5 r6 r7 r8 r9 r10 k1 k2 target lb b3 q12 q13) F.env)) [] s P := by
  generalize hc : Code.func (genFunc r1 r2 r3 r4 r5 r6 r7 r8 r9 r10 k1 k2 target lb b3 q12 q13) F.env = c₁ at *
  have hden : denote table c₁ = .point [] fun _ => ((execs (genFunc r1 r2 r3 r4 r5 r6 r7 r8 r9 r10 k1 k2 target lb b3 q12 q13) F.env).onRaise (leaving F.env)) >>= fun f => match f with | .ret v => ret v | _ => ret .none := by rw [← hc]; rfl
  have ao0 : OkA 3 (A.over c₁ []) := hc ▸ ao.over0
  rw [hden]
  refine segx_point ?_
  rw [Sem.onRaise_eq_wrap, Sem.bind_eq_wrap', Sem.wrap_wrap]
  unfold genFunc
  refine segx_execs (segx_wrap ?_)
  have x1 : EX X 3 F η emp (.Assign [.Name "pos" r1] (.Constant (.int 0) k1 r2) r3) (fun fl η' σ' => fl = .next ∧ η' = η.put "pos" (.int 0) ∧ σ' = emp) := X_assign hsc.pos (E_int ⟨rfl, rfl, rfl⟩)
  refine wpAny_weak (x1 _ _ fo ao0 nr cr) fun f s₂ pf => ?_
  obtain ⟨_, _, _, rf, nr₂, cr₂, st₂, rfl, rfl, rfl⟩ := pf
  cases rf
  refine segx_execs (segx_wrap ?_)
  have x2 : EX X 3 F (η.put "pos" (.int 0)) emp (.Assign [.Name "escape" r4] (.Constant (.bool false) k2 r5) r6) (fun fl η' σ' => fl = .next ∧ η' = (η.put "pos" (.int 0)).put "escape" (.bool false) ∧ σ' = emp) := X_assign hsc.esc (E_bool ⟨rfl, rfl, rfl⟩)
  refine wpAny_weak (x2 _ _ fo ao0 nr₂ cr₂) fun f s₃ pf => ?_
  obtain ⟨_, _, _, rf, nr₃, cr₃, st₃, rfl, rfl, rfl⟩ := pf
  cases rf
  refine segx_execs ?_
  rw [exec_For]
  refine segx_bind (wpAny_standAt ?_)
  have ea : ((η.put "pos" (.int 0)).put "escape" (.bool false)) "addr" = some (.str (S l)) := ha
  have ee : ((η.put "pos" (.int 0)).put "escape" (.bool false)) "escape" = some (.bool false) := rfl
  generalize (η.put "pos" (.int 0)).put "escape" (.bool false) = η₃ at nr₃ ea ee
  have ev : EVS X 3 F η₃ emp [.Name "addr" r8] (fun ds σ => ds = [.str (S l)] ∧ σ = emp) := S_cons (E_name hsc.addr ea (S_nil ⟨rfl, rfl⟩))
  refine segx_bind (wpAny_callType fo cr₃ hg hm hv rfl (wpAny_weak (ev _ _ _ fo ao0 nr₃ cr₃) fun vs s₄ pv => ?_))
  obtain ⟨_, _, r, cr₄, st₄, rfl, rfl⟩ := pv
  cases r with
  | cons r rs =>
  cases rs
  cases r
  rename_i t
  refine call_enumerate_str fun h' he hi hsz hk => ?_
  refine segx_bind (wpAny_of_eq (rfl : foldedSetIterable _ F.env _ = pure _) ?_)
  refine segx_bind (wpAny_standAt ?_)
  refine segx_bind (wpAny_holding (wpAny_pyIter_enum (s := { s₄ with heap := h' }) he ?_))
  refine s_call _ _ _ _ _ _ _ _ none false [] _ fun p => ?_
  have y : Step F.own emp emp s s₄ := (st₂.trans st₃).trans st₄.lift
  have nr₅ : NR X.b h' F η₃ := (nr₃.step cr₃ st₄).mono (fun a o e _ => hk a o e) fun a o e _ => hk a o e
  have new : ∀ a, s₄.heap.objs.size ≤ a → s.heap.get? a = none ∧ ¬ F.own a ∧ X.b.get? a = none := fun a hge => by
    have hn : s₄.heap.get? a = none := Heap.get?_none_of_le hge
    refine ⟨?_, fun q => ?_, ?_⟩
    · cases e : s.heap.get? a with
      | none => rfl
      | some o => obtain ⟨o', e'⟩ := y.alive e rfl; rw [hn] at e'; cases e'
    · obtain ⟨o, e, _⟩ := (nr₃.step cr₃ st₄).box a q; rw [hn] at e; cases e
    · cases e : X.b.get? a with
      | none => rfl
      | some o => have := cr₄.base a o e; rw [hn] at this; cases this
  have n0 := new s₄.heap.objs.size (Nat.le_refl _)
  have n1 := new (s₄.heap.objs.size + 1) (Nat.le_succ _)
  refine hP (s₄.heap.objs.size + 1) s₄.heap.objs.size t _ η₃ { s₄ with heap := h' } ⟨_, p, b3, q12, q13, _, _, _, _, rfl, rfl, rfl⟩ ⟨nr₅, ee, ⟨_, he⟩, hi, Nat.succ_ne_self _, ⟨n1.2.1, n0.2.1⟩, ⟨n1.2.2, n0.2.2⟩, hcells, hownL⟩ (cr₄.grown hk) ?_ n1.1 n0.1
  exact y.toTouch.trans ⟨fun a o _ e => hk a o e, fun _ _ _ e => e, rfl, rfl, fun h => h⟩
end
end Mine

namespace Mine
open PySem PySem.W PySem.W.X PyProof.Rows

section
variable {X : Ctx} {n : Nat} {F : Fm} {η η' : Names} {σ : Store} {s s' s₁ : Shared} {A : Around}

theorem letGo_gen {prog : Program} {w : World} {E : Value → Shared → Prop} {target : Expr} {I : Addr} {g : Nat} {v : Value} {Q' : Unit → Shared → Prop} {s' : Shared} (hg : s'.heap.IsGen I g) (h : Q' () s') :
    wpAny (model prog w) A (letOwnedTupleGo target (.ref I) v) Q' E s' := by
  obtain ⟨o, nm, qn, ho, hc, hd, _⟩ := hg
  unfold letOwnedTupleGo
  cases target <;> first
    | exact wpAny_pure h
    | (cases v <;> first
        | exact wpAny_pure h
        | (refine wpAny_bind (wpAny_load ho ?_)
           rw [hc, hd]
           exact wpAny_pure h))
theorem allBare_setGen {g : Nat} {x : GenState} (h : AllBare s.gens) (hx : x.bare = true) : AllBare (s.setGen g x).gens := by
  intro y hy
  obtain ⟨i, hi, rfl⟩ := Array.mem_iff_getElem.mp hy
  have hi' : i < s.gens.size := by simpa [Shared.setGen] using hi
  by_cases q : g = i
  · subst q; simp [Shared.setGen]; exact hx
  · have e := (GenOnly.setGen s g x).2 i (Ne.symm q)
    rw [Array.getElem?_eq_getElem hi, Array.getElem?_eq_getElem hi'] at e
    rw [Option.some.inj e]
    exact h _ (Array.getElem_mem hi')
theorem touch_setGen {wr : Addr → Prop} {g : Nat} {x : GenState} (hx : x.bare = true) : Touch wr (· = g) s (s.setGen g x) :=
  ⟨fun _ _ _ e => e, fun j y hj e => by simp [Shared.setGen, Ne.symm hj, e], rfl, rfl, fun h => allBare_setGen h hx⟩

/-- the loop's code -/
abbrev GL (F : Fm) (target : Expr) (lb : List Stmt) (e : Addr) : Code := .forLoop target (.ref e) lb [] F.env
structure GenSt (X : Ctx) (F : Fm) (target : Expr) (lb : List Stmt) (c₁ : Code) (I : Addr) (g : Nat) (l : List Nat) (η₀ : Names) (i : Nat) (wr : Addr → Prop) (s : Shared) : Prop where
  gen : s.heap.IsGen I g
  nob : X.b.get? I = none
  nown : ¬ F.own I
  at_ : (i = 0 ∧ s.gens[g]? = some (.fresh c₁) ∧ (∀ a, wr a ↔ F.own a ∨ a = I) ∧ NR X.b s.heap F η₀) ∨
    ∃ e it t kk lv p cl fr η, s.gens[g]? = some (.suspended kk lv (GL F target lb e) p [fr] cl) ∧ GFr F c₁ fr ∧
      (∀ A s'' P'', SegX (model X.prog X.w) A (GL F target lb e) (denote table (GL F target lb e)) [fr] s'' P'' → SegX (model X.prog X.w) A (GL F target lb e) (kk (.send .none)) [fr] s'' P'') ∧
      GLoop X F l e it t i η s ∧ (∀ a, wr a ↔ gW F e it a ∨ a = I) ∧ e ≠ I ∧ it ≠ I

theorem isGen_loop {I : Addr} {g : Nat} {h : Heap} (x : h.IsGen I g) : ∃ o, h.get? I = some o ∧ loopObj o := by
  obtain ⟨o, nm, qn, ho, _, hd, _⟩ := x
  exact ⟨o, ho, .inr ⟨_, hd⟩⟩
theorem isGen_touch {I : Addr} {g : Nat} {wr : Addr → Prop} {gi : Nat → Prop} (x : s.heap.IsGen I g) (t : Touch wr gi s s') (h : ¬ wr I) : s'.heap.IsGen I g := by
  obtain ⟨o, nm, qn, ho, r⟩ := x
  exact ⟨o, nm, qn, t.heap I o h ho, r⟩

theorem gen_fin {target : Expr} {lb : List Stmt} {c₁ : Code} {I : Addr} {g : Nat} {l : List Nat} {η₀ : Names} {i : Nat} {wr : Addr → Prop} {c : Nat} {e it : Addr} {t : Tok} {fr : Frame} {v : Value} {lv : List Value} {kk : Resume → Sem Fin} {p : Pos} {tg : Expr}
    {R : Value → Shared → Prop} {gs : GenState} (hgs : s.gens[g]? = some gs) (hgen : s.heap.IsGen I g) (nob : X.b.get? I = none) (nown : ¬ F.own I)
    (tch : Touch (gW F e it) noGen (s.setGen g .running) s') (hei : e ≠ I ∧ it ≠ I) (hwr : ∀ a, gW F e it a ∨ a = I → wr a ∨ s.heap.get? a = none) (hfr : GFr F c₁ fr) (rv : VR X.b s'.heap v (.tup [.int i, .str (S [c])]))
    (res : ∀ A s'' P'', SegX (model X.prog X.w) A (GL F target lb e) (denote table (GL F target lb e)) [fr] s'' P'' → SegX (model X.prog X.w) A (GL F target lb e) (kk (.send .none)) [fr] s'' P'') (gl : ∃ η', GLoop X F l e it t (i + 1) η' s')
    (hb : (End.susp v false lv kk (GL F target lb e) p [fr]).genState.bare = true)
    (h : ∀ v s' wr', VR X.b s'.heap v (.tup [.int i, .str (S [c])]) → GenSt X F target lb c₁ I g l η₀ (i + 1) wr' s' → (∀ a, wr' a → wr a ∨ s.heap.get? a = none) → Touch wr (· = g) s s' → R v s') :
    ∃ w, some v = some w ∧ wpAny (model X.prog X.w) A (letOwnedTupleGo tg (.ref I) w) (fun _ s₂ => R w s₂) NoE (s'.setGen g (End.susp v false lv kk (GL F target lb e) p [fr]).genState) := by
  have nw : ¬ gW F e it I := fun q => by
    rcases q with q | q | q
    · exact nown q
    · exact hei.1 q.symm
    · exact hei.2 q.symm
  have gen' : s'.heap.IsGen I g := isGen_touch (s := s.setGen g .running) hgen tch nw
  have gens' : s'.gens[g]? = some .running := tch.gens g _ (fun h => h) (setGen_self hgs)
  obtain ⟨η', gl⟩ := gl
  refine ⟨v, rfl, letGo_gen (s' := s'.setGen g _) gen' (h v _ (fun a => gW F e it a ∨ a = I) rv ⟨gen', nob, nown, .inr ⟨e, it, t, kk, lv, p, _, fr, η', setGen_self gens', hfr, res, ⟨gl.nr, gl.esc, gl.enum, gl.iter, gl.ne, gl.apart, gl.nob, gl.cells, gl.own⟩, fun _ => Iff.rfl, hei⟩⟩ hwr ?_)⟩
  have t1 : Touch wr (· = g) s (s.setGen g .running) := touch_setGen rfl
  have t3 : Touch wr (· = g) s' (s'.setGen g (End.susp v false lv kk (GL F target lb e) p [fr]).genState) := touch_setGen hb
  refine (t1.trans ⟨fun a o na ea => tch.heap a o (fun q => ?_) ea, fun j y _ e => tch.gens j y (fun h => h) e, tch.drawn, tch.os, tch.bare⟩).trans t3
  rcases hwr a (.inl q) with q | q
  · exact na q
  · have ea : s.heap.get? a = some o := ea
    rw [q] at ea; cases ea

/-- a text's signs one by one, with their places -/
noncomputable def signsD (l : List Nat) : List D := l.map fun c => D.str (S [c])
theorem signs_get {l : List Nat} {i : Nat} {d : D} (h : (numberedD (signsD l))[i]? = some d) : ∃ c, l[i]? = some c ∧ d = .tup [.int i, .str (S [c])] := by
  obtain ⟨e, h1, rfl⟩ := numberedD_get h
  unfold signsD at h1
  rw [List.getElem?_map] at h1
  obtain ⟨c, h2, rfl⟩ := Option.map_eq_some_iff.mp h1
  exact ⟨c, h2, rfl⟩

theorem IW.gen {tg : Expr} {l : List Nat} {b1 b2 b3 : List Stmt} {bs : Str} {p1 p2 p3 q1 q2 q3 q4 q5 q6 q7 q8 q9 q10 q11 q12 q13 r1 r2 r3 r4 r5 r6 r7 r8 r9 r10 : Pos} {k kc kt k1 k2 : Nat} {I : Addr} {g : Nat} {η₀ : Names}
    (hm : X.mg "enumerate" = none) (hv : X.mb "enumerate" = some (.type "enumerate")) (hg : isGlob F.sc "enumerate" = true) (hsc : GenSc F.sc) (fo : FmOk X.b F) (hco : F.env.scope.isCoroutine = false) (hcells : ∀ x c, F.env.cells.lookup x = some c → F.own c) (hownL : ∀ a, F.own a → a = F.env.locals)
    (ha : η₀ "addr" = some (.str (S l))) (h92 : 92 ∉ l) (hbs : bs = S [92]) :
    IW X (n + 6) tg I (· = g) (numberedD (signsD l)) (fun _ => True)
      (GenSt X F (genTarget p1 p2 p3 k) (genBody b1 b2 bs q1 q2 q3 q4 q5 q6 q7 q8 q9 q10 q11 kc kt)
        (.func (genFunc r1 r2 r3 r4 r5 r6 r7 r8 r9 r10 k1 k2 (genTarget p1 p2 p3 k) (genBody b1 b2 bs q1 q2 q3 q4 q5 q6 q7 q8 q9 q10 q11 kc kt) b3 q12 q13) F.env) I g l η₀) := by
  generalize hlb : genBody b1 b2 bs q1 q2 q3 q4 q5 q6 q7 q8 q9 q10 q11 kc kt = lb
  generalize hfb : genFunc r1 r2 r3 r4 r5 r6 r7 r8 r9 r10 k1 k2 (genTarget p1 p2 p3 k) lb b3 q12 q13 = fb
  have start : ∀ (A : Around) (s : Shared) (P : End → Shared → Prop), OkA 5 A → NR X.b s.heap F η₀ → CR X.b s.heap emp →
      (∀ e it t fr η' s', GFr F (.func fb F.env) fr → GLoop X F l e it t 0 η' s' → CR X.b s'.heap emp → Touch F.own noGen s s' → s.heap.get? e = none → s.heap.get? it = none →
        SegX (model X.prog X.w) A (GL F (genTarget p1 p2 p3 k) lb e) (denote table (GL F (genTarget p1 p2 p3 k) lb e)) [fr] s' P) →
      SegX (model X.prog X.w) A (.func fb F.env) (denote table (.func fb F.env)) [] s P := fun A s P ao nr cr hP => by
    rw [← hfb] at hP ⊢
    exact gen_start hm hv hg hsc fo ao nr cr ha hcells hownL hP
  have item : ∀ (A : Around) (s : Shared) (P : End → Shared → Prop) (e it : Addr) (t : Tok) (i c : Nat) (fr : Frame) (η : Names), OkA 5 A → GFr F (.func fb F.env) fr → GLoop X F l e it t i η s → CR X.b s.heap emp → l[i]? = some c →
      (∀ v lv kk p s', VR X.b s'.heap v (.tup [.int i, .str (S [c])]) → (∀ A s'' P'', SegX (model X.prog X.w) A (GL F (genTarget p1 p2 p3 k) lb e) (denote table (GL F (genTarget p1 p2 p3 k) lb e)) [fr] s'' P'' → SegX (model X.prog X.w) A (GL F (genTarget p1 p2 p3 k) lb e) (kk (.send .none)) [fr] s'' P'') →
        (∃ η', GLoop X F l e it t (i + 1) η' s') → Touch (gW F e it) noGen s s' → P (.susp v false lv kk (GL F (genTarget p1 p2 p3 k) lb e) p [fr]) s') →
      SegX (model X.prog X.w) A (GL F (genTarget p1 p2 p3 k) lb e) (denote table (GL F (genTarget p1 p2 p3 k) lb e)) [fr] s P := fun A s P e it t i c fr η ao hfr gl cr hi hP => by
    have hc : c ≠ 92 := fun q => h92 (q ▸ List.mem_of_getElem? hi)
    obtain ⟨kF, p, b3', q12', q13', K0, H0, gd, lv, rfl, _, _⟩ := id hfr
    subst hlb
    exact gen_item rfl hsc fo hco ao.over1 ⟨rfl, rfl⟩ gl cr hi hc hbs hP
  have last : ∀ (A : Around) (s : Shared) (P : End → Shared → Prop) (e it : Addr) (t : Tok) (fr : Frame) (η : Names), OkA 5 A → GFr F (.func fb F.env) fr → GLoop X F l e it t l.length η s → CR X.b s.heap emp →
      (∀ s', Touch (gW F e it) noGen s s' → P (.ret (.ok (.ret .none))) s') →
      SegX (model X.prog X.w) A (GL F (genTarget p1 p2 p3 k) lb e) (denote table (GL F (genTarget p1 p2 p3 k) lb e)) [fr] s P := fun A s P e it t fr η ao hfr gl cr hP => by
    obtain ⟨kF, p, b3', q12', q13', K0, H0, gd, lv, rfl, hk, hK⟩ := id hfr
    exact gen_done rfl hsc fo ao.1 ao.over1 ao.over0 gl cr hk hK hP
  clear hfb hlb
  refine ⟨?_, ?_, ?_, ?_, ?_⟩
  · intro i wr s s' st hk ht hgens
    obtain ⟨hgen, nob, nown, st⟩ := st
    have gen' : ∀ (hI : wr I), s'.heap.IsGen I g := fun hI => by obtain ⟨o, nm, qn, ho, r⟩ := hgen; exact ⟨o, nm, qn, hk I o hI ho, r⟩
    rcases st with ⟨hi, hgs, hwr, nr⟩ | ⟨e, it, t, kk, lv, p, cl, fr, η, hgs, hfr, res, gl, hwr, hei⟩
    · refine ⟨gen' ((hwr I).mpr (.inr rfl)), nob, nown, .inl ⟨hi, hgens g _ hgs, hwr, nr.keep (fun a o ha' e => hk a o ((hwr a).mpr (.inl ?_)) e) ht⟩⟩
      rcases ha' with rfl | h | ⟨x, hx⟩
      · exact fo.ownL
      · exact h
      · exact hcells x a hx
    · exact ⟨gen' ((hwr I).mpr (.inr rfl)), nob, nown, .inr ⟨e, it, t, kk, lv, p, cl, fr, η, hgens g _ hgs, hfr, res, gl.frame (fun a o ha' e => hk a o ((hwr a).mpr (.inl ha')) e) ht fo.ownL, hwr, hei⟩⟩
  · intro i wr s a st hwa
    obtain ⟨hgen, nob, nown, st⟩ := st
    have box : NR X.b s.heap F η₀ → F.own a → ∃ o, s.heap.get? a = some o ∧ loopObj o := fun nr h => by
      obtain ⟨o, e, b⟩ := nr.box a h; exact ⟨o, e, .inl b⟩
    rcases st with ⟨hi, hgs, hwr, nr⟩ | ⟨e, it, t, kk, lv, p, cl, fr, η, hgs, hfr, res, gl, hwr, hei⟩
    · rcases (hwr a).mp hwa with h | rfl
      · exact box nr h
      · exact isGen_loop hgen
    · rcases (hwr a).mp hwa with (h | rfl | rfl) | rfl
      · obtain ⟨o, e, b⟩ := gl.nr.box a h; exact ⟨o, e, .inl b⟩
      · obtain ⟨old, h⟩ := gl.enum; exact ⟨_, h, .inr ⟨_, rfl⟩⟩
      · obtain ⟨o, e, _, d⟩ := gl.iter; exact ⟨o, e, .inr ⟨_, d⟩⟩
      · exact isGen_loop hgen
  · intro A i wr s σ d R ao cr _ st hd h
    obtain ⟨c, hi, rfl⟩ := signs_get hd
    have cr0 : CR X.b s.heap emp := cr.drop fun _ _ h => nomatch h
    have ao1 : OkA 5 A.in1 := (ao.le (by (first | lia | omega) : 6 ≤ n + 6)).in1
    obtain ⟨hgen, nob, nown, st⟩ := st
    rcases st with ⟨rfl, hgs, hwr, nr⟩ | ⟨e, it, t, kk, lv, p, cl, fr, η, hgs, hfr, res, gl, hwr, hei⟩
    · refine next_gen ao.1 (X.top.nolimit.keeps cr.base) ao.room hgen hgs (.inl ⟨rfl, rfl, rfl⟩) (start _ _ _ ao1 nr cr0 fun e it t fr η' s₁ hfr gl cr1 tch he hit => item _ _ _ e it t 0 c fr η' ao1 hfr gl cr1 hi fun v lv kk p s₂ rv res gl' tch' hb => ?_)
      have he : s.heap.get? e = none := he
      have hit : s.heap.get? it = none := hit
      have hIe : ∀ a, s.heap.get? a = none → a ≠ I := fun a ha q => by
        subst q; obtain ⟨o, _, _, ho, _⟩ := hgen; rw [ha] at ho; cases ho
      refine gen_fin hgs hgen nob nown ((tch.mono (fun a h => .inl h) fun _ h => h).trans tch') ⟨hIe e he, hIe it hit⟩ (fun a ha => ?_) hfr rv res gl' hb h
      rcases ha with (h | rfl | rfl) | rfl
      · exact .inl ((hwr a).mpr (.inl h))
      · exact .inr he
      · exact .inr hit
      · exact .inl ((hwr a).mpr (.inr rfl))
    · refine next_gen ao.1 (X.top.nolimit.keeps cr.base) ao.room hgen hgs (.inr ⟨_, _, _, _, rfl, rfl⟩) (res _ _ _ (item _ _ _ e it t i c fr η ao1 hfr ⟨gl.nr, gl.esc, gl.enum, gl.iter, gl.ne, gl.apart, gl.nob, gl.cells, gl.own⟩ cr0 hi fun v lv kk' p s₂ rv res' gl' tch' hb => ?_))
      exact gen_fin hgs hgen nob nown tch' hei (fun a ha => .inl ((hwr a).mpr ha)) hfr rv res' gl' hb h
  · intro A wr s σ R ao cr _ st h
    rw [numberedD_length, show (signsD l).length = l.length by simp [signsD]] at st
    have cr0 : CR X.b s.heap emp := cr.drop fun _ _ h => nomatch h
    have ao1 : OkA 5 A.in1 := (ao.le (by (first | lia | omega) : 6 ≤ n + 6)).in1
    obtain ⟨hgen, nob, nown, st⟩ := st
    have fin : ∀ (wr' : Addr → Prop) s₂, (∀ a, wr' a → wr a ∨ s.heap.get? a = none) → Touch wr' noGen (s.setGen g .running) s₂ → ∀ h', (∀ b o, s₂.heap.get? b = some o → h'.get? b = some o) → (none : Option Value) = none ∧ R { s₂.setGen g .finished with heap := h' } := fun wr' s₂ hw tch h' hk => by
      refine ⟨rfl, h _ ?_⟩
      have t1 : Touch wr (· = g) s (s.setGen g .running) := touch_setGen rfl
      have t3 : Touch wr (· = g) s₂ (s₂.setGen g .finished) := touch_setGen rfl
      refine ((t1.trans ⟨fun a o na ea => tch.heap a o (fun q => ?_) ea, fun j y _ e => tch.gens j y (fun h => h) e, tch.drawn, tch.os, tch.bare⟩).trans t3).trans ⟨fun a o _ e => hk a o e, fun _ _ _ e => e, rfl, rfl, fun h => h⟩
      rcases hw a q with q | q
      · exact na q
      · have ea : s.heap.get? a = some o := ea
        rw [q] at ea; cases ea
    rcases st with ⟨hl0, hgs, hwr, nr⟩ | ⟨e, it, t, kk, lv, p, cl, fr, η, hgs, hfr, res, gl, hwr, hei⟩
    · refine next_gen ao.1 (X.top.nolimit.keeps cr.base) ao.room hgen hgs (.inl ⟨rfl, rfl, rfl⟩) (start _ _ _ ao1 nr cr0 fun e it t fr η' s₁ hfr gl cr1 tch he hit => last _ _ _ e it t fr η' ao1 hfr (hl0.symm ▸ gl) cr1 fun s₂ tch' _ => ⟨rfl, ?_⟩)
      refine fin (gW F e it) s₂ (fun a ha => ?_) ((tch.mono (fun a h => .inl h) fun _ h => h).trans tch')
      rcases ha with h | rfl | rfl
      · exact .inl ((hwr a).mpr (.inl h))
      · exact .inr he
      · exact .inr hit
    · refine next_gen ao.1 (X.top.nolimit.keeps cr.base) ao.room hgen hgs (.inr ⟨_, _, _, _, rfl, rfl⟩) (res _ _ _ (last _ _ _ e it t fr η ao1 hfr ⟨gl.nr, gl.esc, gl.enum, gl.iter, gl.ne, gl.apart, gl.nob, gl.cells, gl.own⟩ cr0 fun s₂ tch' _ => ⟨rfl, ?_⟩))
      exact fin (gW F e it) s₂ (fun a ha => .inl ((hwr a).mpr (.inl ha))) tch'
  · intro A i wr s R st h
    exact wpAny_pyIter_gen st.gen h
end
end Mine

namespace Mine
open PySem PySem.W PySem.W.X PyProof.Rows

structure GDefOk (d : DefRec) : Prop where
  bind : ∀ pm cd doc v, bindArgs (Calls.docDef d.name d.params d.body d.scope pm cd doc) ⟨[v], []⟩ = pure [(("addr" : Str), v)]
  kind : d.scope.kind = .function
  co : d.scope.isCoroutine = false
  gen : d.scope.isGenerator = true
  nocell : ∀ y ∈ d.scope.names, y.2 ≠ .cell
  nofree : ∀ y ∈ d.scope.names, y.2 ≠ .free
  addr : d.scope.names.lookup ("addr" : Str) = some NameKind.local
  enum : isGlob d.scope "enumerate" = true
  sc : GenSc d.scope
  body : ∃ b1 b2 b3 bs p1 p2 p3 q1 q2 q3 q4 q5 q6 q7 q8 q9 q10 q11 q12 q13 r1 r2 r3 r4 r5 r6 r7 r8 r9 r10 k kc kt k1 k2, bs = S [92] ∧
    d.body = genFunc r1 r2 r3 r4 r5 r6 r7 r8 r9 r10 k1 k2 (genTarget p1 p2 p3 k) (genBody b1 b2 bs q1 q2 q3 q4 q5 q6 q7 q8 q9 q10 q11 kc kt) b3 q12 q13

section
variable {X : Ctx} {n : Nat} {F : Fm} {η η' : Names} {σ : Store} {s s' s₁ : Shared} {A : Around}

theorem ITR_gen {target e : Expr} {x : Str} {p pos : Pos} {d : DefRec} {Q : List D → (Store → Prop) → Store → Prop} (hd : d ∈ recsOf X.p) (hx : d.name = x) (ok : GDefOk d) (hm : X.mg "enumerate" = none) (hv : X.mb "enumerate" = some (.type "enumerate")) (hg : isGlob F.sc x = true) (hp : plainArgs [e] = true)
    (h : EVS X (n + 6) F η σ [e] fun ds σ₁ => ∃ l, ds = [.str (S l)] ∧ 92 ∉ l ∧ Q (numberedD (signsD l)) (fun _ => True) σ₁) : ITR X (n + 6) F η σ target (.Call (.Name x p) [e] [] pos) Q :=
  fun A s fo ao nr cr => by
    subst hx
    obtain ⟨a, o, pm, code, doc, hma, ho, hdat, hcd⟩ := X.top.fn d hd
    refine Call_Name rfl (wpAny_global fo cr hg hma ?_)
    refine Calls.callWith_function (o := o) (fd := Calls.docDef d.name d.params d.body d.scope pm code doc) (wpAny_evalArgs (fun env => by rw [plainArgs_star hp]; rfl) ?_)
    refine wpAny_weak (h A s pos fo ao nr cr) fun vs s₁ pv => ?_
    obtain ⟨ds, σ₁, r, c, st, l, rfl, h92, q⟩ := pv
    cases r with
    | cons r rs =>
    cases rs
    cases r
    rename_i t
    refine ⟨⟨c.base _ _ ho, hdat⟩, wpAny_call (codeAny_call_generator ao.room (c.base _ _ ho) hdat ok.co ok.gen rfl (hcd.keeps c.base) (wpAny_of_eq (ok.bind _ _ _ _) (wpAny_newFunctionEnv (binds := [(("addr" : Str), Value.str (S l) t)]) ok.nocell (fun y hy => by rw [List.mem_singleton.mp hy]; exact ok.addr) (fun h' hns hsb => ?_) ok.kind)))⟩
    simp only [Option.isSome_none, Bool.false_eq_true, if_false] at hsb
    have hk1 : ∀ b o, s₁.heap.get? b = some o → h'.get? b = some o := fun b o e => hsb.extBut b o (Nat.ne_of_lt (Heap.lt_size e)) (Heap.get?_push_of_some _ e)
    have hsz : h'.objs.size = s₁.heap.objs.size + 1 := by rw [hsb.1, Heap.size_push]
    refine ⟨X.top.nolimit.keeps fun b o e => hk1 b o (c.base b o e), ?_⟩
    show wpAny _ A (pyIter (.ref h'.objs.size)) _ _ ⟨h'.push { cls := .type "generator", data := .fields #[.int s₁.gens.size 0, .str d.name (s₁.toks + 1), .str d.name (s₁.toks + 1 + 1)] }, s₁.gens.push (.fresh (.func d.body (newEnv d.scope s₁.heap.objs.size mainGlobals [] (d.name ++ ".<locals>.") (some a) code none builtinsNs))), s₁.drawn, s₁.toks + 1 + 1 + 1, s₁.os⟩
    generalize hgo : ({ cls := .type "generator", data := .fields #[.int s₁.gens.size 0, .str d.name (s₁.toks + 1), .str d.name (s₁.toks + 1 + 1)] } : Obj) = go
    generalize hH : h'.push go = H
    have hk2 : ∀ b o, h'.get? b = some o → H.get? b = some o := fun b o e => hH ▸ Heap.get?_push_of_some _ e
    have hk3 : ∀ b o, s₁.heap.get? b = some o → H.get? b = some o := fun b o e => hk2 b o (hk1 b o e)
    have isg : H.IsGen h'.objs.size s₁.gens.size := by
      refine ⟨go, .str d.name (s₁.toks + 1), .str d.name (s₁.toks + 1 + 1), ?_, ?_, ?_, ?_⟩
      · rw [← hH, ← hgo]; exact Heap.get?_push_size _ rfl
      · rw [← hgo]
      · rw [← hgo]
      · rw [← hgo]
    let F' : Fm := ⟨d.scope, newEnv d.scope s₁.heap.objs.size mainGlobals [] (d.name ++ ".<locals>.") (some a) code none builtinsNs, (· = s₁.heap.objs.size)⟩
    have fresh : ∀ a, s₁.heap.objs.size ≤ a → s₁.heap.get? a = none := fun a ha => Heap.get?_none_of_le ha
    have nob : ∀ a, s₁.heap.objs.size ≤ a → X.b.get? a = none := fun a ha => by
      cases e : X.b.get? a with
      | none => rfl
      | some o => have := c.base a o e; rw [fresh a ha] at this; cases this
    have fo' : FmOk X.b F' := {
      kind := ok.kind
      glob := rfl
      blt := rfl
      loc := fun x hx => hx
      glo := fun x hx => hx
      cel := fun x hx => absurd rfl (ok.nocell _ (mem_of_lookup hx))
      fre := fun x hx => absurd rfl (ok.nofree _ (mem_of_lookup hx))
      apart := fun x y c hx _ => nomatch hx
      ownL := rfl
      bnew := fun a ha => by subst ha; exact nob _ (Nat.le_refl _)
      celL := fun x c hc => nomatch hc }
    have hns' : H.Ns s₁.heap.objs.size (fun x => ([(("addr" : Str), Value.str (S l) t)] : List (Str × Value)).reverse.lookup x) := hns.keeps hk2
    have nr' : NR X.b H F' (fun x => if x = ("addr" : Str) then some (.str (S l)) else none) := {
      ns := ⟨_, hns', fun x dd _ hx => by
        by_cases q : x = ("addr" : Str)
        · subst q
          have hx : some (D.str (S l)) = some dd := by simpa using hx
          cases hx
          exact ⟨.str (S l) t, rfl, .str _ _⟩
        · have hx : (if x = ("addr" : Str) then some (D.str (S l)) else none) = some dd := hx
          rw [if_neg q] at hx; cases hx⟩
      cells := fun x c hc => nomatch hc
      box := fun a ha => by subst ha; exact box_of_ns hns' }
    obtain ⟨b1, b2, b3, bs, p1, p2, p3, q1, q2, q3, q4, q5, q6, q7, q8, q9, q10, q11, q12, q13, r1, r2, r3, r4, r5, r6, r7, r8, r9, r10, k, kc, kt, k1, k2, hbs, hbody⟩ := ok.body
    have W := IW.gen (X := X) (n := n) (F := F') (tg := target) (l := l) (b1 := b1) (b2 := b2) (b3 := b3) (bs := bs) (p1 := p1) (p2 := p2) (p3 := p3) (q1 := q1) (q2 := q2) (q3 := q3) (q4 := q4) (q5 := q5) (q6 := q6) (q7 := q7) (q8 := q8) (q9 := q9) (q10 := q10) (q11 := q11) (q12 := q12) (q13 := q13)
      (r1 := r1) (r2 := r2) (r3 := r3) (r4 := r4) (r5 := r5) (r6 := r6) (r7 := r7) (r8 := r8) (r9 := r9) (r10 := r10) (k := k) (kc := kc) (kt := kt) (k1 := k1) (k2 := k2) (I := h'.objs.size) (g := s₁.gens.size) (η₀ := fun x => if x = ("addr" : Str) then some (.str (S l)) else none)
      hm hv ok.enum ok.sc fo' ok.co (fun x c hc => nomatch hc) (fun a ha => ha) (if_pos rfl) h92 hbs
    rw [← hbody] at W
    have hI : s₁.heap.objs.size ≤ h'.objs.size := by rw [hsz]; exact Nat.le_succ _
    refine wpAny_pyIter_gen isg ⟨h'.objs.size, (· = s₁.gens.size), numberedD (signsD l), _, _, (fun a => a = s₁.heap.objs.size ∨ a = h'.objs.size), σ₁, rfl, W, ⟨isg, nob _ hI, fun q => ?_, .inl ⟨rfl, by simp [F'], fun _ => Iff.rfl, nr'⟩⟩, ⟨fun b o e z hb => ?_, fun j g e q => ?_⟩, c.grown hk3, st.trans ⟨fun a o e _ _ => hk3 a o e, fun a o e _ _ => ⟨o, hk3 a o e⟩, fun _ _ _ e => e, fun j g e => ?_, rfl, rfl, fun h => h.push rfl⟩, q⟩
    · have q : h'.objs.size = s₁.heap.objs.size := q
      rw [hsz] at q; exact absurd q (Nat.succ_ne_self _)
    · obtain ⟨o', e'⟩ := st.alive e z
      have := Heap.lt_size e'
      rcases hb with rfl | rfl
      · exact absurd this (Nat.lt_irrefl _)
      · exact absurd (Nat.lt_of_lt_of_le this hI) (Nat.lt_irrefl _)
    · have := st.gens j g e
      subst q
      simp at this
    · have hj : j < s₁.gens.size := by
        rcases Nat.lt_or_ge j s₁.gens.size with h | h
        · exact h
        · rw [Array.getElem?_eq_none h] at e; cases e
      rw [Array.getElem?_push_lt hj]
      rw [Array.getElem?_eq_getElem hj] at e
      exact e
end
end Mine

namespace Mine
open PySem PySem.W PyProof.Rows

/-- each c of the text becomes z -/
noncomputable def repl (c : Nat) (z : List Nat) (l : List Nat) : List Nat := l.flatMap fun k => if k = c then z else [k]
theorem repl_append (c : Nat) (z a b : List Nat) : repl c z (a ++ b) = repl c z a ++ repl c z b := by simp [repl]
theorem repl_free {c : Nat} {z l : List Nat} (h : c ∉ l) : repl c z l = l := by
  induction l with
  | nil => rfl
  | cons k r ih =>
    have h1 : ¬ k = c := fun e => h (e ▸ List.mem_cons_self)
    show (if k = c then z else [k]) ++ repl c z r = _
    rw [if_neg h1, ih fun m => h (List.mem_cons_of_mem _ m)]; rfl
theorem repl_one (c : Nat) (z : List Nat) : repl c z [c] = z := by simp [repl]
theorem repl_join (c : Nat) (z : List Nat) : ∀ parts : List Str, (∀ p ∈ parts, c ∉ p.cps.toList) → repl c z (Str.join (S [c]) parts).cps.toList = (Str.join (S z) parts).cps.toList
  | [], _ => rfl
  | [p], h => repl_free (h p (List.mem_singleton.mpr rfl))
  | p :: q :: r, h => by
    have ih := repl_join c z (q :: r) fun a ha => h a (List.mem_cons_of_mem _ ha)
    show repl c z (p ++ S [c] ++ Str.join (S [c]) (q :: r)).cps.toList = (p ++ S z ++ Str.join (S z) (q :: r)).cps.toList
    simp only [Str.cps_append, Array.toList_append]
    rw [repl_append, repl_append, ih, repl_free (h p List.mem_cons_self)]
    show p.cps.toList ++ repl c z [c] ++ _ = _
    rw [repl_one]
theorem replace_repl (c : Nat) (z l : List Nat) : Txt.replace (S l) (S [c]) (S z) = S (repl c z l) := by
  have h : (Txt.replace (S l) (S [c]) (S z)).cps.toList = repl c z l := by
    rw [StrLaws.replace_one, ← repl_join c z _ (StrLaws.split_free _ c), StrLaws.join_split]
  apply Str.ext'
  apply Array.ext'
  simpa using h

section
variable {X : Ctx} {n : Nat} {F : Fm} {η η' : Names} {σ σ₁ : Store} {s s' s₁ : Shared} {A : Around}

theorem put_same {η : Names} {x : Str} {d : D} (h : η x = some d) : η.put x d = η := by
  funext y
  unfold Names.put
  split
  · rename_i e; rw [e, h]
  · rfl

/-- `if 'c' in x: x = x.replace('c', 'z')` -/
theorem X_ifrep {c : Nat} {z l : List Nat} {x cs cs2 zs : Str} {p1 p2 p3 p4 p5 p6 p7 p8 p9 p10 p11 : Pos} {k1 k2 k3 : Nat} {Q : Fl → Names → Store → Prop} (hc : cs = S [c]) (hc2 : cs2 = S [c]) (hz : zs = S z) (hk : isVar F.sc x = true) (ho : isOwnVar F.sc x = true) (hx : η x = some (.str (S l)))
    (hne : z ≠ [c]) (hsz : l.length + (l.length + 1) * z.length ≤ 16777216) (hline : (p5.endLine == p8.line) = true) (h : Q .next (η.put x (.str (S (repl c z l)))) σ) :
    EX X n F η σ (.If (.Compare (.Constant (.str cs) k1 p1) [.In] [.Name x p2] p3) [.Assign [.Name x p4] (.Call (.Attribute (.Name x p6) "replace" p5) [.Constant (.str cs2) k2 p7, .Constant (.str zs) k3 p9] [] p8) p10] [] p11) Q := by
  subst hc; subst hc2; subst hz
  intro A s fo ao nr cr
  refine wpAny_If (wpAny_isTrue_Compare1 (Calls.Constant_str ?_) rfl)
  refine wpAny_with_toks (s := { s with toks := s.toks + 1 }) (n := s.toks + 1) (Nat.le_refl _) ?_
  have ev : EV X n F η σ (.Name x p2) (fun d σ' => d = .str (S l) ∧ σ' = σ) := E_name hk hx ⟨rfl, rfl⟩
  refine wpAny_mono (ev A { s with toks := s.toks + 1 } fo ao nr cr) (fun v s₁ pv htk => ?_) fun _ _ h => h.elim
  obtain ⟨_, _, r, cr₁, st₁, rfl, rfl⟩ := pv
  rename_i σ'
  have st₁' : Step noOwn σ' σ' s s₁ := (Step.grown (h' := s.heap) (tk := s.toks + 1) fun _ _ e => e).trans st₁
  have nr₁ : NR X.b s₁.heap F η := nr.step cr st₁'
  refine wpAny_with_toks htk ?_
  have cmp := C_sin (X := X) (n := n) (σ := σ') (c := c) (l := l) (Q := fun d σ'' => d = .bool (decide (c ∈ l)) ∧ σ'' = σ') ⟨rfl, rfl⟩
  refine wpAny_mono (cmp A s₁ _ v ao cr₁ (.str _ s.toks) r) (fun y s₂ pv htk2 => ?_) fun _ _ h => h.elim
  obtain ⟨_, _, r2, cr₂, st₂, rfl, rfl⟩ := pv
  rename_i σ'
  cases r2
  have nr₂ := nr₁.step cr₁ st₂
  have stt := st₁'.trans st₂
  refine wpAny_truthy_bool ?_
  by_cases hin : c ∈ l
  · rw [if_pos (decide_eq_true hin)]
    refine wpAny_execs_cons (wpAny_Assign_Name ?_ rfl)
    have ev2 : EV X n F η σ' (.Name x p6) (fun d σ'' => d = .str (S l) ∧ σ'' = σ') := E_name hk hx ⟨rfl, rfl⟩
    refine wpAny_Call_method_lateS rfl rfl hline ?_
    refine wpAny_with_toks htk2 (wpAny_mono (ev2 A s₂ fo ao nr₂ cr₂) (fun v s₃ pv htk3 => ?_) fun _ _ h => h.elim)
    obtain ⟨_, _, r3, cr₃, st₃, rfl, rfl⟩ := pv
    rename_i σ'
    cases r3
    rename_i t
    refine ⟨"str", "str.replace", PySem.F.plainAttrs_str, PySem.F.slot_str_replace, PySem.F.type_str_replace, typeIs_str _ _ _, (fun _ e => by cases e), ?_⟩
    refine Calls.callWith_builtin rfl (Calls.evalArgs_plain (Calls.spliced_cons (Calls.Constant_str (k := k2) (pos := p7) (Calls.spliced_cons (Calls.Constant_str (k := k3) (pos := p9) (Calls.spliced_nil ?_))))))
    refine SC.replace (Nat.ne_of_gt (Nat.lt_of_lt_of_le (Nat.succ_pos _) htk3)) (by simp) (by simp) (by
      refine Bool.eq_false_iff.mpr fun q => hne ?_
      exact (S_inj (eq_of_beq q)).symm) (by simp only [S_len]; exact hsz) fun t' tk => ?_
    rw [replace_repl]
    have st₄ : Step noOwn σ' σ' s { s₃ with toks := tk } := (stt.trans st₃).trans (Step.grown (h' := s₃.heap) (tk := tk) fun _ _ e => e)
    refine wpAny_store_var (s := { s₃ with toks := tk }) fo (nr.step cr st₄) cr₃ ho (.str _ t') fun s₅ pn => ?_
    exact wpAny_execs_nil (PostF.named st₄ pn h)
  · rw [if_neg (by rw [decide_eq_false hin]; exact Bool.false_ne_true)]
    rw [repl_free hin, put_same hx] at h
    exact wpAny_execs_nil ⟨.next, η, σ', .next, nr₂, cr₂, stt.lift, h⟩
end
end Mine

namespace Mine
open PySem PySem.W PyProof.Rows

section
variable {X : Ctx} {n : Nat} {F : Fm} {η η' : Names} {σ σ₁ : Store} {s s' s₁ : Shared} {A : Around}

theorem X_try {body : List Stmt} {h₀ : ExceptHandler} {hs : List ExceptHandler} {pos : Pos} {Q : Fl → Names → Store → Prop} (h : EXS X n F η σ body Q) : EX X n F η σ (.Try body (h₀ :: hs) [] [] pos) Q :=
  fun A s fo ao nr cr => wpAny_Try_except (wpAny_mono (h A s fo ao nr cr) (fun f s₁ p => by
    cases f with
    | next => exact wpAny_execs_nil p
    | brk => exact p
    | cont => exact p
    | ret v => exact p) fun _ _ h => h.elim)

/-- a table of texts that the top laid -/
noncomputable def Tab (X : Ctx) (x : Str) (T : List (Str × Int)) : Prop := ∃ a, X.mg x = some (.ref a) ∧ KTD.TextTab X.b a (T.map fun p => (p.1, KTD.Dat.flat (.int p.2)))
noncomputable def tabHas (T : List (Str × Int)) (x : Str) : Bool := (T.lookup x).isSome
theorem inKeys_has {T : List (Str × Int)} {x : Str} : KTD.inKeys x (T.map fun p => (p.1, KTD.Dat.flat (.int p.2))) = tabHas T x := by
  unfold tabHas
  induction T with
  | nil => rfl
  | cons p r ih =>
    obtain ⟨y, k⟩ := p
    show (decide (x = y) || KTD.inKeys x _) = _
    rw [ih, List.lookup_cons]
    by_cases q : x = y
    · subst q; simp
    · have : (x == y) = false := by simpa using q
      rw [this]; simp [q]
theorem eachL_of {h₀ : Heap} {k : Str} {P : Value → Prop} : ∀ {T : List (Str × Int)}, (∀ j, T.lookup k = some j → ∀ t, P (.int j t)) → KTD.EachL h₀ k P (T.map fun p => (p.1, KTD.Dat.flat (.int p.2)))
  | [], _ => trivial
  | [(x, d)], h => by
    refine KTD.eachL_last fun q => ?_
    subst q
    exact fun t => h d (by simp) t
  | (x, d) :: p :: r, h => by
    refine KTD.eachL_ite ?_
    by_cases q : k = x
    · subst q
      rw [if_pos (by simp)]
      exact fun t => h d (by simp) t
    · rw [if_neg (by simp [q])]
      refine eachL_of (T := p :: r) fun j hj t => h j ?_ t
      have : (k == x) = false := by simpa using q
      rw [List.lookup_cons, this]
      exact hj
theorem E_tabin {e : Expr} {t : Str} {p pos : Pos} {T : List (Str × Int)} {Q : Bool → Store → Prop} (hT : Tab X t T) (hg : isGlob F.sc t = true) (h : EV X n F η σ e fun d σ₁ => ∃ x, d = .str x ∧ Q (tabHas T x) σ₁) : ET X n F η σ (.Compare e [.In] [.Name t p] pos) Q :=
  fun A s fo ao nr cr => wpAny_isTrue_Compare1 (wpAny_weak (h A s fo ao nr cr) fun v s₁ pv => by
    obtain ⟨d, σ₁, r, c, st, x, rfl, q⟩ := pv
    cases r
    obtain ⟨a, hm, tt⟩ := hT
    refine wpAny_global fo c hg hm ?_
    refine KTD.in_text ⟨tt, c.base⟩ ?_
    rw [inKeys_has]
    exact wpAny_truthy_bool ⟨σ₁, c, st.trans (Step.grown (h' := s₁.heap) fun _ _ e => e), q⟩) rfl
theorem E_tabget {e : Expr} {t : Str} {p pos : Pos} {T : List (Str × Int)} {Q : D → Store → Prop} (hT : Tab X t T) (hg : isGlob F.sc t = true) (hp : isPlainIdx e = true) (h : EV X n F η σ e fun d σ₁ => ∃ x k, d = .str x ∧ T.lookup x = some k ∧ Q (.int k) σ₁) : EV X n F η σ (.Subscript (.Name t p) e pos) Q :=
  fun A s fo ao nr cr => by
    obtain ⟨a, hm, tt⟩ := hT
    refine Subscript_ (wpAny_global fo cr hg hm (wpAny_weak (h A s fo ao nr cr) fun v s₁ pv => ?_))
    obtain ⟨d, σ₁, r, c, st, x, k, rfl, hk, q⟩ := pv
    cases r
    refine KTD.item_text (h₀ := X.b) ⟨tt, c.base⟩ (by rw [inKeys_has]; unfold tabHas; rw [hk]; rfl) (eachL_of fun j hj t => ?_) (plainIdx_sub hp _ _)
    rw [hk] at hj; cases hj
    exact PostV.after st (PostV.toks _ (.int _ _) c q)
end
end Mine

namespace Mine
open PySem PySem.W PyProof.Rows

section
variable {X : Ctx} {n : Nat} {F : Fm} {η η' : Names} {σ σ₁ : Store} {s s' s₁ : Shared} {A : Around}

theorem E_neg {e : Expr} {pos : Pos} {Q : D → Store → Prop} (h : EV X n F η σ e fun d σ₁ => ∃ i, d = .int i ∧ Q (.int (-i)) σ₁) : EV X n F η σ (.UnaryOp .USub e pos) Q :=
  fun A s fo ao nr cr => UnaryOp_ (wpAny_weak (h A s fo ao nr cr) fun v s₁ pv => by
    obtain ⟨d, σ₁, r, c, st, i, rfl, q⟩ := pv
    cases r
    exact neg_int (PostV.after st (PostV.toks _ (.int _ _) c q)))

/-- lists of ints by their addresses -/
inductive IntLists (σ : Store) : List D → List (List Int) → Prop
  | nil : IntLists σ [] []
  | cons {a : Addr} {ns : List Int} {ds : List D} {r : List (List Int)} : σ a = some (ns.map D.int) → IntLists σ ds r → IntLists σ (.lst a :: ds) (ns :: r)
abbrev dataOf (ns : List Int) : PyData := .list (ns.map PyData.int)
theorem reads_intLists {b : Heap} {h : Heap} (cr : CR b h σ) {ds : List D} {nss : List (List Int)} (il : IntLists σ ds nss) : ∀ {vs : List Value}, VRs b h vs ds → ∃ as, ReadsAll h vs (nss.map dataOf) as := by
  induction il with
  | nil => intro vs r; cases r; exact ⟨[], .nil⟩
  | cons ha _ ih =>
    intro vs r
    cases r with
    | cons r rs =>
      cases r
      obtain ⟨us, m, e, x⟩ := cr.store _ _ ha
      obtain ⟨as, q⟩ := ih rs
      exact ⟨_, .cons (reads_of_ints ⟨_, e, rfl, m, rfl⟩ x.ints_are) q⟩
theorem canLay_dataOf : ∀ nss : List (List Int), PyData.canLayAll0 (nss.map dataOf) = true
  | [] => by simp [PyData.canLayAll0]
  | n :: r => by simp [PyData.canLayAll0, PyData.canLay0, canLayAll0_ints, canLay_dataOf r]
theorem depth_dataOf : ∀ nss : List (List Int), PyData.depthAll (nss.map dataOf) ≤ 2
  | [] => by simp [PyData.depthAll]
  | n :: r => by
    have h1 := depth_dataOf r
    have h2 := W.depthAll_ints n
    simp only [List.map_cons, PyData.depthAll, PyData.depth]
    (first | lia | omega)
theorem shaped_dataOf (nss : List (List Int)) : SeqAt.shaped (.tuple (nss.map dataOf)) = true := by
  have h1 := depth_dataOf nss
  have h2 : PyData.depth (.tuple (nss.map dataOf)) ≤ 64 := by simp only [PyData.depth]; (first | lia | omega)
  show (PyData.canLay0 (.tuple (nss.map dataOf)) && decide (PyData.depth (.tuple (nss.map dataOf)) ≤ 64)) = true
  rw [Bool.and_eq_true]
  exact ⟨by simp only [PyData.canLay0]; exact canLay_dataOf nss, decide_eq_true h2⟩
theorem noMix_dataOf : ∀ ns ms : List (List Int), SeqAt.noMixAll (ns.map dataOf) (ms.map dataOf) = true
  | [], [] => by simp [SeqAt.noMixAll]
  | [], _ :: _ => by simp [SeqAt.noMixAll]
  | _ :: _, [] => by simp [SeqAt.noMixAll]
  | _ :: r, _ :: q => by simp [SeqAt.noMixAll, SeqAt.noMix, noMix_ints, noMix_dataOf r q]
theorem same_dataOf : ∀ ns ms : List (List Int), PySem.Spec.sameAll (ns.map dataOf) (ms.map dataOf) = decide (ns = ms)
  | [], [] => by simp [PySem.Spec.sameAll]
  | [], _ :: _ => by simp [PySem.Spec.sameAll]
  | _ :: _, [] => by simp [PySem.Spec.sameAll]
  | n :: r, k :: q => by
    simp only [List.map_cons, PySem.Spec.sameAll, PySem.Spec.same, same_dataOf r q, same_ints]
    by_cases h : n = k <;> simp [h]
theorem C_tne {ds es : List D} {nss mss : List (List Int)} {Q : D → Store → Prop} (h1 : IntLists σ ds nss) (h2 : IntLists σ es mss) (h : Q (.bool (!decide (nss = mss))) σ) : OP2 X n (compareOp .NotEq) (.tup ds) (.tup es) σ Q := fun _ _ _ _ ao cr r1 r2 => by
  cases r1 with
  | tup e1 x1 =>
  cases r2 with
  | tup e2 x2 =>
  obtain ⟨as, q1⟩ := reads_intLists cr h1 x1
  obtain ⟨bs, q2⟩ := reads_intLists cr h2 x2
  refine ne_dataH_same (.tuple e1 rfl rfl q1) (.tuple e2 rfl rfl q2) (shaped_dataOf _) (shaped_dataOf _) (by have := ao.2.2; (first | lia | omega)) (by simp only [SeqAt.noMix]; exact noMix_dataOf nss mss) ?_
  simp only [PySem.Spec.same]
  rw [same_dataOf]
  exact PostV.here (.bool _) cr h
end
end Mine

namespace Mine
open PySem PySem.W PyProof.Rows

/-! many facts at once -/
inductive C2 (a0 a1 : Prop) : Prop
  | mk : a0 → a1 → C2 a0 a1
inductive C6 (a0 a1 a2 a3 a4 a5 : Prop) : Prop
  | mk : a0 → a1 → a2 → a3 → a4 → a5 → C6 a0 a1 a2 a3 a4 a5
inductive C7 (a0 a1 a2 a3 a4 a5 a6 : Prop) : Prop
  | mk : a0 → a1 → a2 → a3 → a4 → a5 → a6 → C7 a0 a1 a2 a3 a4 a5 a6
inductive C8 (a0 a1 a2 a3 a4 a5 a6 a7 : Prop) : Prop
  | mk : a0 → a1 → a2 → a3 → a4 → a5 → a6 → a7 → C8 a0 a1 a2 a3 a4 a5 a6 a7
inductive C9 (a0 a1 a2 a3 a4 a5 a6 a7 a8 : Prop) : Prop
  | mk : a0 → a1 → a2 → a3 → a4 → a5 → a6 → a7 → a8 → C9 a0 a1 a2 a3 a4 a5 a6 a7 a8
inductive C11 (a0 a1 a2 a3 a4 a5 a6 a7 a8 a9 a10 : Prop) : Prop
  | mk : a0 → a1 → a2 → a3 → a4 → a5 → a6 → a7 → a8 → a9 → a10 → C11 a0 a1 a2 a3 a4 a5 a6 a7 a8 a9 a10
inductive C12 (a0 a1 a2 a3 a4 a5 a6 a7 a8 a9 a10 a11 : Prop) : Prop
  | mk : a0 → a1 → a2 → a3 → a4 → a5 → a6 → a7 → a8 → a9 → a10 → a11 → C12 a0 a1 a2 a3 a4 a5 a6 a7 a8 a9 a10 a11
inductive C14 (a0 a1 a2 a3 a4 a5 a6 a7 a8 a9 a10 a11 a12 a13 : Prop) : Prop
  | mk : a0 → a1 → a2 → a3 → a4 → a5 → a6 → a7 → a8 → a9 → a10 → a11 → a12 → a13 → C14 a0 a1 a2 a3 a4 a5 a6 a7 a8 a9 a10 a11 a12 a13
inductive C16 (a0 a1 a2 a3 a4 a5 a6 a7 a8 a9 a10 a11 a12 a13 a14 a15 : Prop) : Prop
  | mk : a0 → a1 → a2 → a3 → a4 → a5 → a6 → a7 → a8 → a9 → a10 → a11 → a12 → a13 → a14 → a15 → C16 a0 a1 a2 a3 a4 a5 a6 a7 a8 a9 a10 a11 a12 a13 a14 a15
inductive C17 (a0 a1 a2 a3 a4 a5 a6 a7 a8 a9 a10 a11 a12 a13 a14 a15 a16 : Prop) : Prop
  | mk : a0 → a1 → a2 → a3 → a4 → a5 → a6 → a7 → a8 → a9 → a10 → a11 → a12 → a13 → a14 → a15 → a16 → C17 a0 a1 a2 a3 a4 a5 a6 a7 a8 a9 a10 a11 a12 a13 a14 a15 a16
theorem len_succ {l : List Value} {k : Nat} (h : l.length = k + 1) : ∃ a r, l = a :: r ∧ r.length = k := by
  cases l with
  | nil => cases h
  | cons a r => exact ⟨a, r, rfl, Nat.succ.inj h⟩
theorem len1 {l : List Value} (h : l.length = 1) : ∃ a, l = [a] := by
  obtain ⟨a, r, rfl, h1⟩ := len_succ h
  exact ⟨a, by rw [List.length_eq_zero_iff.mp h1]⟩
theorem len2 {l : List Value} (h : l.length = 2) : ∃ a b, l = [a, b] := by
  obtain ⟨a, r, rfl, h1⟩ := len_succ h
  obtain ⟨b, rfl⟩ := len1 h1
  exact ⟨a, b, rfl⟩
theorem len3 {l : List Value} (h : l.length = 3) : ∃ a b c, l = [a, b, c] := by
  obtain ⟨a, r, rfl, h1⟩ := len_succ h
  obtain ⟨b, c, rfl⟩ := len2 h1
  exact ⟨a, b, c, rfl⟩
theorem len4 {l : List Value} (h : l.length = 4) : ∃ a b c d, l = [a, b, c, d] := by
  obtain ⟨a, r, rfl, h1⟩ := len_succ h
  obtain ⟨b, c, d, rfl⟩ := len3 h1
  exact ⟨a, b, c, d, rfl⟩
theorem len5 {l : List Value} (h : l.length = 5) : ∃ a b c d e, l = [a, b, c, d, e] := by
  obtain ⟨a, r, rfl, h1⟩ := len_succ h
  obtain ⟨b, c, d, e, rfl⟩ := len4 h1
  exact ⟨a, b, c, d, e, rfl⟩
theorem len6 {l : List Value} (h : l.length = 6) : ∃ a b c d e f, l = [a, b, c, d, e, f] := by
  obtain ⟨a, r, rfl, h1⟩ := len_succ h
  obtain ⟨b, c, d, e, f, rfl⟩ := len5 h1
  exact ⟨a, b, c, d, e, f, rfl⟩
theorem small_div {x y : Int} (h : y.natAbs < 2 ^ 60) : Builtin.divisionGoesByPylong x y = false := by
  unfold Builtin.divisionGoesByPylong
  dsimp only
  have : (if (y == 0) = true then 0 else y.natAbs.log2 / 30 + 1) ≤ 3 := by
    split
    · (first | lia | omega)
    · rename_i hy
      have hy' : y.natAbs ≠ 0 := by
        intro q
        have : y = 0 := Int.natAbs_eq_zero.mp q
        subst this; simp at hy
      have := (Nat.log2_lt hy').mpr h
      (first | lia | omega)
  rw [Bool.and_eq_false_iff]
  left
  exact decide_eq_false (by (first | lia | omega))

abbrev toInts (l : List Nat) : List Int := l.map fun n : Nat => (n : Int)
abbrev nats (l : List Nat) : List D := (toInts l).map D.int
theorem nats_len (l : List Nat) : (nats l).length = l.length := by simp
theorem nats_get {l : List Nat} {i k : Nat} (h : l[i]? = some k) : (nats l)[i]? = some (.int (k : Nat)) := by
  rw [List.getElem?_map, List.getElem?_map, h]; rfl
theorem nats_app (l m : List Nat) : nats (l ++ m) = nats l ++ nats m := by simp
theorem toInts_inj {l m : List Nat} (h : toInts l = toInts m) : l = m := by
  induction l generalizing m with
  | nil => cases m with
    | nil => rfl
    | cons => cases h
  | cons a r ih => cases m with
    | nil => cases h
    | cons b q =>
      injection h with h1 h2
      rw [ih h2, Int.ofNat.inj h1]
theorem toInts_dec (l m : List Nat) : decide (toInts l = toInts m) = decide (l = m) := by
  by_cases h : l = m
  · subst h; simp
  · rw [decide_eq_false h, decide_eq_false fun q => h (toInts_inj q)]
theorem toInts_mem (k : Nat) (l : List Nat) : decide ((k : Int) ∈ toInts l) = decide (k ∈ l) := by
  by_cases h : k ∈ l
  · rw [decide_eq_true h, decide_eq_true (List.mem_map.mpr ⟨k, h, rfl⟩)]
  · rw [decide_eq_false h, decide_eq_false fun q => h ?_]
    obtain ⟨j, hj, e⟩ := List.mem_map.mp q
    rw [← Int.ofNat.inj e]; exact hj
theorem ne_of_none {σ : Store} {a b : Addr} {ds : List D} (h : σ b = none) (h' : σ a = some ds) : b ≠ a := fun q => by subst q; rw [h] at h'; cases h'


theorem dropLast_getLastD {l : List Nat} (h : l ≠ []) : l = l.dropLast ++ [l.getLastD 0] := by
  have := List.dropLast_concat_getLast h
  rw [List.getLastD_eq_getLast?, List.getLast?_eq_some_getLast h]
  exact this.symm
theorem ups_nats (k : Nat) : ups 0 k = nats (List.range k) := by
  unfold ups nats toInts
  rw [List.map_map]
  refine List.map_congr_left fun i _ => ?_
  show D.int (0 + i) = D.int i
  rw [Int.zero_add]
theorem nats_map (l : List Nat) : nats l = l.map fun n : Nat => D.int n := by
  unfold nats toInts
  rw [List.map_map]; rfl
theorem filterMap_nats {α : Type} (l : List α) (f : α → Option Nat) : (l.filterMap fun k => (f k).map fun j : Nat => D.int j) = nats (l.filterMap f) := by
  rw [nats_map, List.map_filterMap]
section
variable {X : Ctx} {n m : Nat} {F : Fm} {η η' : Names} {σ σ₁ : Store} {Q : D → Store → Prop}
theorem EXS.lock {sts : List Stmt} {Q : Fl → Names → Store → Prop} (h : ∀ Q' : Fl → Names → Store → Prop, (∀ fl η σ, Q fl η σ → Q' fl η σ) → EXS X n F η σ sts Q') : EXS X n F η σ sts Q := h Q fun _ _ _ q => q
theorem ETS_one {c : Expr} {K : Bool → Store → Prop} (h : ET X n F η σ c K) : ETS X n F η σ [c] K := h
theorem CLOOP.fm_aux {α : Type} {target elt : Expr} {ifs : List Expr} {need : Store → Prop} {Q : List D → Store → Prop} (toD : α → D) (f : α → Option D) (G : Names → Store → Prop) : ∀ (l : List α) (acc : List D) (η : Names) (σ : Store),
    (∀ x η σ, x ∈ l → G η σ → need σ ∧ AS F.sc target (toD x) η fun η₁ => ETS X n F η₁ σ ifs fun t σ₁ => if t = true then EV X n F η₁ σ₁ elt fun v σ₂ => f x = some v ∧ G η₁ σ₂ else f x = none ∧ G η₁ σ₁) →
    (∀ η σ, G η σ → need σ ∧ Q (acc ++ l.filterMap f) σ) → G η σ → CLOOP X n F target ifs elt need Q (l.map toD) acc η σ
  | [], acc, η, σ, _, fin, h0 => by
    have := fin η σ h0
    rw [List.filterMap_nil, List.append_nil] at this
    exact this
  | x :: l, acc, η, σ, step, fin, h0 => by
    obtain ⟨hn, ha⟩ := step x η σ List.mem_cons_self h0
    refine ⟨hn, ha.mono fun η₁ he => he.mono fun t σ₁ ht => ?_⟩
    cases t with
    | true =>
      rw [if_pos rfl] at ht ⊢
      refine ht.mono fun v σ₂ q => CLOOP.fm_aux toD f G l (acc ++ [v]) η₁ σ₂ (fun y η σ hy => step y η σ (List.mem_cons_of_mem _ hy)) (fun η σ g => ?_) q.2
      have := fin η σ g
      rw [List.filterMap_cons_some q.1] at this
      rw [List.append_assoc]; exact this
    | false =>
      rw [if_neg Bool.false_ne_true] at ht ⊢
      refine CLOOP.fm_aux toD f G l acc η₁ σ₁ (fun y η σ hy => step y η σ (List.mem_cons_of_mem _ hy)) (fun η σ g => ?_) ht.2
      have := fin η σ g
      rw [List.filterMap_cons_none ht.1] at this
      exact this
/-- a comprehension as a filterMap -/
theorem CLOOP.fm {α : Type} {target elt : Expr} {ifs : List Expr} {need : Store → Prop} {Q : List D → Store → Prop} {ds : List D} (l : List α) (toD : α → D) (f : α → Option D) (G : Names → Store → Prop) (hds : ds = l.map toD) (h0 : G η σ)
    (step : ∀ x η σ, x ∈ l → G η σ → need σ ∧ AS F.sc target (toD x) η fun η₁ => ETS X n F η₁ σ ifs fun t σ₁ => if t = true then EV X n F η₁ σ₁ elt fun v σ₂ => f x = some v ∧ G η₁ σ₂ else f x = none ∧ G η₁ σ₁)
    (fin : ∀ η σ, G η σ → need σ ∧ Q (l.filterMap f) σ) : CLOOP X n F target ifs elt need Q ds [] η σ := by
  subst hds
  exact CLOOP.fm_aux toD f G l [] η σ step (fun η σ g => by rw [List.nil_append]; exact fin η σ g) h0
end
end Mine

namespace Mine
open PySem PySem.W PyProof.Rows

/-! what the walk's functions compute -/
noncomputable def roundGo (row sw : List Nat) : Nat → Nat → List Nat → Option (List Nat)
  | 0, _, _ => none
  | k + 1, place, met => match row[place]? with
    | none => none
    | some pair => match (if pair ∈ sw then ((List.range row.length).filter fun o => decide (row[o]? = some pair) && decide (o ≠ place))[0]? else some place) with
      | none => none
      | some p => if (p + 1) % row.length = 0 then some (met ++ [pair]) else roundGo row sw k ((p + 1) % row.length) (met ++ [pair])
noncomputable def partsOf (met : List Nat) (signs : List (List Nat)) : List (List Nat × Nat) := met.zipIdx.map fun x => (if x.1 ∈ met.take x.2 then [41] else 40 :: signs.getD x.1 [], x.1)
noncomputable def textGo (sides : List Nat) : List (List Nat × Nat) → Nat → List Nat
  | [], h => List.replicate h 34
  | (br, p) :: r, h => (if sides.getD p 0 = h then [] else [34]) ++ (br ++ textGo sides r (sides.getD p 0))
noncomputable def textOf (parts : List (List Nat × Nat)) (sides : List Nat) : List Nat := textGo sides parts 0
theorem mem_zipIdx_get {α : Type} {l : List α} {x : α} {i : Nat} (h : (x, i) ∈ l.zipIdx) : l[i]? = some x := by
  rw [List.mem_zipIdx_iff_getElem?] at h; exact h
structure SgOk (signs : List (List Nat)) : Prop where
  len : ∀ w ∈ signs, w.length ≤ 3
  plain : ∀ w ∈ signs, ∀ c ∈ w, c ≠ 92 ∧ c ≠ 34 ∧ c ≠ 40 ∧ c ≠ 41
theorem textGo_len (B : Nat) (sides : List Nat) : ∀ (ps : List (List Nat × Nat)) (h : Nat), (∀ s ∈ sides, s ≤ 1) → h ≤ 1 → (∀ p ∈ ps, p.1.length ≤ B) → (textGo sides ps h).length ≤ 1 + (B + 1) * ps.length
  | [], h, _, hh, _ => by simp [textGo]; (first | lia | omega)
  | (br, p) :: r, h, hs, hh, hp => by
    have h1 : sides.getD p 0 ≤ 1 := by
      rw [List.getD_eq_getElem?_getD]
      cases q : sides[p]? with
      | none => simp
      | some v => exact hs v (List.mem_of_getElem? q)
    have ih := textGo_len B sides r (sides.getD p 0) hs h1 fun p q => hp p (List.mem_cons_of_mem _ q)
    have := hp _ List.mem_cons_self
    unfold textGo
    simp only [List.length_append, List.length_cons, Nat.mul_add, Nat.mul_one]
    simp only at this
    split <;> simp only [List.length_nil, List.length_cons] <;> (first | lia | omega)
theorem partsOf_len {met : List Nat} {signs : List (List Nat)} (h : SgOk signs) : ∀ p ∈ partsOf met signs, p.1.length ≤ 4 := by
  intro p hp
  unfold partsOf at hp
  obtain ⟨x, hx, rfl⟩ := List.mem_map.mp hp
  dsimp only
  split
  · simp
  · rw [List.getD_eq_getElem?_getD]
    cases q : signs[x.1]? with
    | none => simp
    | some w => have := h.len w (List.mem_of_getElem? q); simp; (first | lia | omega)
theorem partsOf_length (met : List Nat) (signs : List (List Nat)) : (partsOf met signs).length = met.length := by simp [partsOf]
theorem partsOf_snd {met : List Nat} {signs : List (List Nat)} : ∀ p ∈ partsOf met signs, p.2 ∈ met := by
  intro p hp
  unfold partsOf at hp
  obtain ⟨x, hx, rfl⟩ := List.mem_map.mp hp
  exact List.mem_of_getElem? (mem_zipIdx_get hx)
theorem partsOf_no92 {met : List Nat} {signs : List (List Nat)} (h : SgOk signs) : ∀ p ∈ partsOf met signs, 92 ∉ p.1 := by
  intro p hp
  unfold partsOf at hp
  obtain ⟨x, hx, rfl⟩ := List.mem_map.mp hp
  dsimp only
  split
  · simp
  · rw [List.getD_eq_getElem?_getD]
    cases q : signs[x.1]? with
    | none => simp
    | some w =>
      intro hc
      rcases List.mem_cons.mp hc with hc | hc
      · cases hc
      · exact (h.plain w (List.mem_of_getElem? q) 92 hc).1 rfl
theorem textGo_no92 (sides : List Nat) : ∀ (ps : List (List Nat × Nat)) (h : Nat), (∀ p ∈ ps, 92 ∉ p.1) → 92 ∉ textGo sides ps h
  | [], h, _ => by unfold textGo; simp [List.mem_replicate]
  | (br, p) :: r, h, hp => by
    unfold textGo
    have ih := textGo_no92 sides r (sides.getD p 0) fun p q => hp p (List.mem_cons_of_mem _ q)
    have := hp _ List.mem_cons_self
    simp only [List.mem_append, not_or]
    exact ⟨by split <;> simp, this, ih⟩
theorem repl_no {c x : Nat} {z l : List Nat} (hz : x ∉ z) (hl : x ∉ l) : x ∉ repl c z l := by
  unfold repl
  intro h
  obtain ⟨k, hk, hx⟩ := List.mem_flatMap.mp h
  split at hx
  · exact hz hx
  · rw [List.mem_singleton.mp hx] at hl; exact hl hk
/-! the reading of a text -/
noncomputable def widthOf (T : List (Str × Int)) (rest : List Nat) : Option Nat :=
  if tabHas T (S (rest.take 3)) = true then some 3 else if tabHas T (S (rest.take 2)) = true then some 2 else if tabHas T (S (rest.take 1)) = true then some 1 else none
noncomputable def symGo (T : List (Str × Int)) : Nat → List Nat → Nat → Option (List Nat)
  | _, [], _ => some []
  | 0, _ :: _, _ => none
  | k + 1, c :: r, h => if c = 34 then symGo T k r (256 - h) else
    match widthOf T (c :: r) with
    | none => none
    | some w => match T.lookup (S ((c :: r).take w)) with
      | none => none
      | some v => (symGo T k ((c :: r).drop w) h).map ((v.toNat + h) :: ·)
structure RS where
  row : List Nat
  sides : List Nat
  numbers : List Nat
  p0 : List Nat
  p1 : List Nat
noncomputable def RS.open_ (s : RS) (hid : Bool) : RS :=
  ⟨s.row ++ [s.sides.length], s.sides ++ [if hid = true then 1 else 0], s.numbers, if hid = true then s.p0 else s.p0 ++ [s.sides.length], if hid = true then s.p1 ++ [s.sides.length] else s.p1⟩
noncomputable def RS.close_ (s : RS) (hid : Bool) : RS :=
  ⟨s.row ++ [(if hid = true then s.p1 else s.p0).getLastD 0], s.sides, s.numbers, if hid = true then s.p0 else s.p0.dropLast, if hid = true then s.p1.dropLast else s.p1⟩
noncomputable def readGo : List Nat → RS → Option RS
  | [], _ => none
  | x :: r, s => if x = 0 then some s else
    if x % 256 = 7 then readGo r (s.open_ (decide (256 ≤ x)))
    else if x % 256 = 8 then (if (if decide (256 ≤ x) = true then s.p1 else s.p0) = [] then none else readGo r (s.close_ (decide (256 ≤ x))))
    else readGo r ⟨s.row, s.sides, s.numbers ++ [x % 256], s.p0, s.p1⟩
theorem cut_str (l : List Nat) (i w : Nat) : cut l (some (i : Int)) (some ((i : Int) + (w : Int))) = (l.drop i).take w := by
  unfold cut
  have : ((i : Int) + (w : Int)).toNat = i + w := by (first | lia | omega)
  simp [this]
theorem nats_last {l : List Nat} (h : l ≠ []) : nats l = nats l.dropLast ++ [D.int ((l.getLastD 0 : Nat) : Int)] := by
  have e := dropLast_getLastD h
  calc nats l = nats (l.dropLast ++ [l.getLastD 0]) := by rw [← e]
    _ = _ := by rw [nats_app]; rfl
abbrev partsD (ps : List (List Nat × Nat)) : List D := ps.map fun p => .tup [.str (S p.1), .int (p.2 : Nat)]
abbrev strsD (l : List (List Nat)) : List D := l.map fun w => .str (S w)

theorem numbered_nats (met : List Nat) : numberedD (nats met) = met.zipIdx.map fun x => D.tup [.int (x.2 : Nat), .int (x.1 : Nat)] := by
  unfold numberedD nats toInts
  rw [List.mapIdx_eq_zipIdx_map, List.map_map, List.zipIdx_map, List.map_map]
  rfl
theorem cut_nats (l : List Nat) (lo hi : Option Int) : cut (nats l) lo hi = nats (cut l lo hi) := by
  unfold cut
  simp [nats, toInts, List.map_take, List.map_drop]
theorem cut_take (l : List Nat) (i : Nat) : cut l none (some (i : Int)) = l.take i := by
  unfold cut
  simp
theorem filterMap_guard (p : Nat → Bool) (l : List Nat) : l.filterMap (fun o => if p o = true then some (D.int (o : Nat)) else none) = nats (l.filter p) := by
  rw [nats_map]
  induction l with
  | nil => rfl
  | cons x r ih =>
    cases h : p x with
    | true =>
      rw [List.filterMap_cons_some (b := D.int (x : Nat)) (by rw [h]; rfl), List.filter_cons_of_pos h, List.map_cons, ih]
    | false =>
      rw [List.filterMap_cons_none (by rw [h]; rfl), List.filter_cons_of_neg (by simp [h]), ih]
theorem dec_nat (a b : Nat) : decide ((a : Int) = (b : Int)) = decide (a = b) := decide_eq_decide.mpr ⟨fun h => Int.ofNat.inj h, fun h => by rw [h]⟩
theorem dec_ne (a b : Nat) : decide ((a : Int) ≠ (b : Int)) = decide (a ≠ b) := decide_eq_decide.mpr ⟨fun h q => h (by rw [q]), fun h q => h (Int.ofNat.inj q)⟩
theorem dec_nat0 (a : Nat) : decide ((a : Int) = 0) = decide (a = 0) := dec_nat a 0
theorem dec_nat1 (a : Nat) : decide ((a : Int) = 1) = decide (a = 1) := dec_nat a 1
theorem dec_lt (a b : Nat) : decide ((a : Int) < (b : Int)) = decide (a < b) := decide_eq_decide.mpr ⟨fun h => by (first | lia | omega), fun h => by (first | lia | omega)⟩
theorem filterMap_some_eq {α β : Type} (l : List α) (f : α → β) : l.filterMap (fun x => some (f x)) = l.map f := by
  rw [← List.filterMap_eq_map]; rfl
section
variable {X : Ctx} {n m : Nat} {F : Fm} {η η' : Names} {σ σ₁ : Store}
theorem ETS_nil {K : Bool → Store → Prop} (h : K true σ) : ETS X n F η σ [] K := h
end
end Mine

namespace Mine
open PySem PySem.W PyProof.Rows

section
variable {X : Ctx} {n m : Nat} {F : Fm} {η η' : Names} {σ σ₁ : Store}
theorem CLOOP.inv_aux {target elt : Expr} {ifs : List Expr} {need : Store → Prop} {Q : List D → Store → Prop} (all : List D) (J : Nat → List D → Names → Store → Prop) : ∀ (ds : List D) (i : Nat) (acc : List D) (η : Names) (σ : Store), i ≤ all.length → all.drop i = ds → J i acc η σ →
    (∀ i d acc η σ, all[i]? = some d → J i acc η σ → need σ ∧ AS F.sc target d η fun η₁ => ETS X n F η₁ σ ifs fun t σ₁ => if t = true then EV X n F η₁ σ₁ elt fun v σ₂ => J (i + 1) (acc ++ [v]) η₁ σ₂ else J (i + 1) acc η₁ σ₁) →
    (∀ acc η σ, J all.length acc η σ → need σ ∧ Q acc σ) → CLOOP X n F target ifs elt need Q ds acc η σ
  | [], i, acc, η, σ, hle, e, h0, step, fin => by
    have : i = all.length := by
      have := List.drop_eq_nil_iff.mp e; omega
    subst this
    exact fin acc η σ h0
  | d :: ds, i, acc, η, σ, hle, e, h0, step, fin => by
    have hi : i < all.length := by
      refine Nat.lt_of_not_le fun q => ?_
      rw [List.drop_eq_nil_of_le q] at e; cases e
    have hd : all[i]? = some d := by
      rw [List.drop_eq_getElem_cons hi] at e
      injection e with e1 e2
      rw [List.getElem?_eq_getElem hi, e1]
    have hds : all.drop (i + 1) = ds := by
      rw [List.drop_eq_getElem_cons hi] at e
      injection e
    obtain ⟨hn, ha⟩ := step i d acc η σ hd h0
    refine ⟨hn, ha.mono fun η₁ he => he.mono fun t σ₁ ht => ?_⟩
    cases t with
    | true =>
      rw [if_pos rfl] at ht ⊢
      exact ht.mono fun v σ₂ q => CLOOP.inv_aux all J ds (i + 1) (acc ++ [v]) η₁ σ₂ hi hds q step fin
    | false =>
      rw [if_neg Bool.false_ne_true] at ht ⊢
      exact CLOOP.inv_aux all J ds (i + 1) acc η₁ σ₁ hi hds ht step fin
theorem CLOOP.inv {target elt : Expr} {ifs : List Expr} {need : Store → Prop} {Q : List D → Store → Prop} {ds : List D} (J : Nat → List D → Names → Store → Prop) (h0 : J 0 [] η σ)
    (step : ∀ i d acc η σ, ds[i]? = some d → J i acc η σ → need σ ∧ AS F.sc target d η fun η₁ => ETS X n F η₁ σ ifs fun t σ₁ => if t = true then EV X n F η₁ σ₁ elt fun v σ₂ => J (i + 1) (acc ++ [v]) η₁ σ₂ else J (i + 1) acc η₁ σ₁)
    (fin : ∀ acc η σ, J ds.length acc η σ → need σ ∧ Q acc σ) : CLOOP X n F target ifs elt need Q ds [] η σ :=
  CLOOP.inv_aux ds J ds 0 [] η σ (Nat.zero_le _) rfl h0 step fin
end

/-! a table: a list of lists of ints -/
abbrev rowD (n : Nat) (f : Nat → Nat → Int) (i : Nat) : List D := ((List.range n).map fun j => f i j).map D.int
noncomputable def Mat (σ₀ σ : Store) (T : Addr) (n : Nat) (f : Nat → Nat → Int) : Prop :=
  ∃ rs : List Addr, σ T = some (rs.map D.lst) ∧ rs.length = n ∧ rs.Nodup ∧ ∀ i r, rs[i]? = some r → (r ≠ T ∧ σ₀ r = none) ∧ σ r = some (rowD n f i)
abbrev ways2 (l : List Nat) (g : Nat → Int) : List D := (l.map g).map D.int
theorem map_range_getD {β : Type} (l : List Nat) (g : Nat → β) : l.map g = (List.range l.length).map fun j => g (l.getD j 0) := by
  apply List.ext_getElem?
  intro i
  rw [List.getElem?_map, List.getElem?_map]
  by_cases h : i < l.length
  · rw [List.getElem?_range h, List.getElem?_eq_getElem h]
    simp [List.getElem?_eq_getElem h]
  · rw [List.getElem?_eq_none (by omega), List.getElem?_eq_none (by simp; omega)]
    rfl
theorem rowD_len (n : Nat) (f : Nat → Nat → Int) (i : Nat) : (rowD n f i).length = n := by simp
theorem rowD_get {n : Nat} {f : Nat → Nat → Int} {i j : Nat} (h : j < n) : (rowD n f i)[j]? = some (.int (f i j)) := by
  rw [List.getElem?_map, List.getElem?_map, List.getElem?_range h]; rfl
theorem rowD_set {n : Nat} {f : Nat → Nat → Int} {i j : Nat} (v : Int) : (rowD n f i).set j (.int v) = rowD n (fun a b => if a = i ∧ b = j then v else f a b) i := by
  apply List.ext_getElem?
  intro b
  rw [List.getElem?_set]
  by_cases hb : b < n
  · rw [rowD_get hb, rowD_len]
    by_cases q : j = b
    · subst q; rw [if_pos rfl, if_pos hb, rowD_get hb]; simp
    · rw [if_neg q, rowD_get hb, if_neg (fun h => q h.2.symm)]
  · have h1 : (rowD n f i)[b]? = none := List.getElem?_eq_none (by rw [rowD_len]; omega)
    have h2 : (rowD n (fun a b => if a = i ∧ b = j then v else f a b) i)[b]? = none := List.getElem?_eq_none (by rw [rowD_len]; omega)
    rw [h1, h2, rowD_len]
    split
    · rw [if_neg (by omega)]
    · rfl
theorem rowD_congr {n : Nat} {f g : Nat → Nat → Int} {i : Nat} (h : ∀ j, j < n → f i j = g i j) : rowD n f i = rowD n g i := by
  unfold rowD
  congr 1
  exact List.map_congr_left fun j hj => h j (by simpa using hj)
theorem Mat.congr {σ₀ σ : Store} {T : Addr} {n : Nat} {f g : Nat → Nat → Int} (m : Mat σ₀ σ T n f) (h : ∀ i j, i < n → j < n → f i j = g i j) : Mat σ₀ σ T n g := by
  obtain ⟨rs, h1, h2, h3, h4⟩ := m
  refine ⟨rs, h1, h2, h3, fun i r hr => ⟨(h4 i r hr).1, ?_⟩⟩
  rw [(h4 i r hr).2, rowD_congr fun j hj => h i j (by have := (List.getElem?_eq_some_iff.mp hr).1; omega) hj]
theorem nodup_at {α : Type} {l : List α} (h : l.Nodup) {i j : Nat} {a : α} (hi : l[i]? = some a) (hj : l[j]? = some a) : i = j := by
  obtain ⟨i1, i2⟩ := List.getElem?_eq_some_iff.mp hi
  obtain ⟨j1, j2⟩ := List.getElem?_eq_some_iff.mp hj
  have hp := List.pairwise_iff_getElem.mp h
  rcases Nat.lt_trichotomy i j with q | q | q
  · exact absurd (i2.trans j2.symm) (hp i j i1 j1 q)
  · exact q
  · exact absurd (j2.trans i2.symm) (hp j i j1 i1 q)
theorem Mat.row {σ₀ σ : Store} {T : Addr} {n : Nat} {f : Nat → Nat → Int} (m : Mat σ₀ σ T n f) {i : Nat} (hi : i < n) : ∃ r ds, σ T = some ds ∧ ds.length = n ∧ ds[i]? = some (.lst r) ∧ σ r = some (rowD n f i) ∧ σ₀ r = none ∧ r ≠ T ∧
    (∀ j v, Mat σ₀ (σ.put r ((rowD n f i).set j (.int v))) T n fun a b => if a = i ∧ b = j then v else f a b) := by
  obtain ⟨rs, h1, h2, h3, h4⟩ := m
  have hr : rs[i]? = some rs[i] := List.getElem?_eq_getElem (by omega)
  obtain ⟨n1, n2⟩ := h4 i _ hr
  refine ⟨rs[i], _, h1, by simpa using h2, by rw [List.getElem?_map, hr]; rfl, n2, n1.2, n1.1, fun j v => ⟨rs, ?_, h2, h3, fun k r hk => ?_⟩⟩
  · rw [put_ne (Ne.symm n1.1)]; exact h1
  · refine ⟨(h4 k r hk).1, ?_⟩
    by_cases q : r = rs[i]
    · subst q
      have hki : k = i := nodup_at h3 hk hr
      subst hki
      rw [put_at, rowD_set]
    · rw [put_ne q, (h4 k r hk).2]
      refine congrArg some (rowD_congr fun b hb => ?_)
      have : k ≠ i := fun e => q (by subst e; rw [hk] at hr; exact Option.some.inj hr)
      rw [if_neg (fun h => this h.1)]
theorem Mat.base {σ₀ σ₁ σ : Store} {T : Addr} {n : Nat} {f : Nat → Nat → Int} (m : Mat σ₀ σ T n f) (h : ∀ a, σ₀ a = none → σ₁ a = none) : Mat σ₁ σ T n f := by
  obtain ⟨rs, h1, h2, h3, h4⟩ := m
  exact ⟨rs, h1, h2, h3, fun i r hr => ⟨⟨(h4 i r hr).1.1, h _ (h4 i r hr).1.2⟩, (h4 i r hr).2⟩⟩
theorem small_mul {a : Int} (h : a.natAbs < 2 ^ 60) (b : Int) : IntMulOk a b := .of_left (PySem.intBits_le_64 (by omega) (by omega))
theorem small_mul' {b : Int} (h : b.natAbs < 2 ^ 60) (a : Int) : IntMulOk a b := .of_right (PySem.intBits_le_64 (by omega) (by omega))

/-! the determinant -/
noncomputable def elimF (k : Nat) (last : Int) (f : Nat → Nat → Int) : Nat → Nat → Int := fun i j => if k < i then (f i j * f k k - f i k * f k j).fdiv last else f i j
noncomputable def detRun : Nat → Nat → Int → (Nat → Nat → Int) → Int
  | 0, _, last, _ => last
  | m + 1, k, last, f => detRun m (k + 1) (f k k) (elimF k last f)
noncomputable def detOk (n : Nat) : Nat → Nat → Int → (Nat → Nat → Int) → Prop
  | 0, _, _, _ => True
  | m + 1, k, last, f => (k + 1 < n → last ≠ 0 ∧ last.natAbs < 2 ^ 60 ∧ (f k k).natAbs < 2 ^ 60 ∧ ∀ i, k < i → i < n → (f i k).natAbs < 2 ^ 60) ∧ detOk n m (k + 1) (f k k) (elimF k last f)
theorem cut_drop {α : Type} (l : List α) (i : Nat) : cut l (some (i : Int)) none = l.drop i := by
  unfold cut
  simp [List.take_of_length_le]
end Mine

namespace Mine
open PySem PySem.W PyProof.Rows

noncomputable def bitsOf (size bits : Nat) : List Nat := (List.range size).map fun p => bits / 2 ^ p % 2
noncomputable def swOf (size : Nat) (bare sides : List Nat) : List Nat := (List.range size).filter fun p => decide (bare.getD p 0 = sides.getD p 0)
noncomputable def nowOf (bare : List Nat) : List Nat := bare.map fun b => 1 - b
noncomputable def metOf (size : Nat) (row bare sides : List Nat) : List Nat := (roundGo row (swOf size bare sides) 20 0 []).getD []
noncomputable def orderOf (met : List Nat) : List Nat := met.zipIdx.filterMap fun x => if x.1 ∈ met.take x.2 then none else some x.1
noncomputable def idx (p : Nat) : List Nat → Nat
  | [] => 0
  | x :: r => if x = p then 0 else idx p r + 1
noncomputable def accB (size : Nat) (row sides : List Nat) (bits : Nat) : Bool := decide ((bitsOf size bits).sum = sides.count 0) && decide ((metOf size row (bitsOf size bits) sides).length = 2 * size)
noncomputable def prodG (numbers bare : List Nat) : Nat → Nat
  | 0 => 1
  | i + 1 => if bare.getD i 0 = 1 then prodG numbers bare i * numbers.getD i 0 else prodG numbers bare i
noncomputable def totG (size : Nat) (row sides numbers : List Nat) : Nat → Nat
  | 0 => 0
  | b + 1 => if accB size row sides b = true then totG size row sides numbers b + prodG numbers (bitsOf size b) size else totG size row sides numbers b
noncomputable def takG (size : Nat) (row sides : List Nat) : Nat → List Nat
  | 0 => []
  | b + 1 => if accB size row sides b = true then takG size row sides b ++ [b] else takG size row sides b
noncomputable def loneOf (met bare : List Nat) : List Nat := met.filter fun p => decide (bare.getD p 0 = 1) && decide (met.count p = 1)

theorem idx_spec (p : Nat) : ∀ l : List Nat, p ∈ l → l[idx p l]? = some p ∧ ∀ i, i < idx p l → l[i]? ≠ some p
  | [], h => by cases h
  | x :: r, h => by
    unfold idx
    by_cases q : x = p
    · rw [if_pos q, q]; exact ⟨rfl, fun i hi => by (first | lia | omega)⟩
    · rw [if_neg q]
      have hr : p ∈ r := by
        rcases List.mem_cons.mp h with h | h
        · exact absurd h.symm q
        · exact h
      obtain ⟨h1, h2⟩ := idx_spec p r hr
      refine ⟨by simpa using h1, fun i hi => ?_⟩
      cases i with
      | zero => simpa using q
      | succ i => simpa using h2 i (by (first | lia | omega))
theorem mem_order (met : List Nat) : ∀ p ∈ met, p ∈ orderOf met := by
  intro p hp
  obtain ⟨h1, h2⟩ := idx_spec p met hp
  refine List.mem_filterMap.mpr ⟨(p, idx p met), by rw [List.mem_zipIdx_iff_getElem?]; exact h1, ?_⟩
  dsimp only
  rw [if_neg]
  intro h
  obtain ⟨i, hi⟩ := List.mem_iff_getElem?.mp h
  rw [List.getElem?_take] at hi
  split at hi
  · rename_i q; exact h2 i q hi
  · cases hi
theorem bitsOf_len (size bits : Nat) : (bitsOf size bits).length = size := by simp [bitsOf]
theorem bitsOf_le (size bits : Nat) : ∀ b ∈ bitsOf size bits, b ≤ 1 := by
  intro b hb
  obtain ⟨p, _, rfl⟩ := List.mem_map.mp hb
  (first | lia | omega)
theorem bit_int (bits p : Nat) : Builtin.bitAnd ((bits : Int).fdiv (2 ^ ((p : Nat) : Int).toNat)) 1 = ((bits / 2 ^ p % 2 : Nat) : Int) := by
  have h1 : (bits : Int).fdiv (2 ^ ((p : Nat) : Int).toNat) = ((bits / 2 ^ p : Nat) : Int) := by
    rw [Int.toNat_natCast, Int.fdiv_eq_ediv_of_nonneg _ (by exact_mod_cast Nat.zero_le (2 ^ p))]
    push_cast; rfl
  rw [h1, PyProof.Rows.bitAnd_pp (Int.natCast_nonneg _) (by decide), Int.toNat_natCast]
  rw [show (1 : Int).toNat = 1 from rfl, Nat.and_one_is_mod]
theorem count_nats (l : List Nat) (k : Nat) : (toInts l).count (k : Int) = l.count k := by
  induction l with
  | nil => rfl
  | cons x r ih =>
    show ((x : Int) :: toInts r).count (k : Int) = _
    rw [List.count_cons, List.count_cons, ih]
    congr 1
    by_cases h : x = k
    · subst h; simp
    · have h2 : ¬ (x : Int) = (k : Int) := fun q => h (Int.ofNat.inj q)
      simp [h, h2]
theorem sum_nats (l : List Nat) : (toInts l).sum = ((l.sum : Nat) : Int) := by
  induction l with
  | nil => rfl
  | cons x r ih =>
    show ((x : Int) :: toInts r).sum = _
    rw [List.sum_cons, List.sum_cons, ih]; push_cast; rfl
theorem takG_mem {size : Nat} {row sides : List Nat} {b : Nat} : ∀ {n : Nat}, b ∈ takG size row sides n → b < n ∧ accB size row sides b = true
  | 0, h => by cases h
  | n + 1, h => by
    unfold takG at h
    split at h
    · rename_i q
      rcases List.mem_append.mp h with h | h
      · have := takG_mem h; exact ⟨by (first | lia | omega), this.2⟩
      · rw [List.mem_singleton.mp h]; exact ⟨by (first | lia | omega), q⟩
    · have := takG_mem h; exact ⟨by (first | lia | omega), this.2⟩
theorem takG_len (size : Nat) (row sides : List Nat) : ∀ n, (takG size row sides n).length ≤ n
  | 0 => Nat.le_refl _
  | n + 1 => by
    have := takG_len size row sides n
    unfold takG
    split
    · simp; (first | lia | omega)
    · (first | lia | omega)
theorem getD_le {l : List Nat} {m : Nat} (h : ∀ x ∈ l, x ≤ m) (i : Nat) : l.getD i 0 ≤ m := by
  rw [List.getD_eq_getElem?_getD]
  cases q : l[i]? with
  | none => simp
  | some v => exact h v (List.mem_of_getElem? q)
theorem nats_getD {l : List Nat} {i : Nat} (h : i < l.length) : (nats l)[i]? = some (.int ((l.getD i 0 : Nat) : Int)) := by
  have : l[i]? = some l[i] := List.getElem?_eq_getElem h
  rw [List.getD_eq_getElem?_getD, this]
  exact nats_get this
theorem small_sum {l : List Nat} (h : l.sum < 1000000) : SmallSum (toInts l) := by
  refine ⟨fun x hx => ?_, ?_⟩
  · obtain ⟨y, _, rfl⟩ := List.mem_map.mp hx; exact Int.natCast_nonneg _
  · rw [sum_nats]
    (first | lia | omega)
theorem sum_le_len {l : List Nat} {m : Nat} (h : ∀ x ∈ l, x ≤ m) : l.sum ≤ m * l.length := by
  induction l with
  | nil => simp
  | cons x r ih =>
    have h1 := h x List.mem_cons_self
    have h2 := ih fun y hy => h y (List.mem_cons_of_mem _ hy)
    rw [List.sum_cons, List.length_cons, Nat.mul_add]; (first | lia | omega)
section
variable {X : Ctx} {n m : Nat} {F : Fm} {η η' : Names} {σ σ₁ : Store}
theorem C_boolnat {a b : Nat} {Q : D → Store → Prop} (h : Q (.bool (decide (a = b))) σ) : OP2 X n (compareOp .Eq) (.int (a : Nat)) (.int (b : Nat)) σ Q := C_eq (by rw [dec_nat]; exact h)
end

/-! the texts taken, as the walk keeps them -/
noncomputable def Tk (σ : Store) (tk : Addr) (es : List D) (T : Nat → List Nat) (M N : Nat → List Nat) (bs : List Nat) : Prop :=
  es.length = bs.length ∧ ∀ (i : Nat) (b : Nat), bs[i]? = some b → ∃ m w, es[i]? = some (.tup [.str (S (T b)), .lst m, .lst w]) ∧ σ m = some (nats (M b)) ∧ σ w = some (nats (N b)) ∧ m ≠ tk ∧ w ≠ tk
theorem Tk.keep {σ σ' : Store} {tk : Addr} {es : List D} {T M N : Nat → List Nat} {bs : List Nat} (h : Tk σ tk es T M N bs) (hk : ∀ x ds, x ≠ tk → σ x = some ds → σ' x = some ds) : Tk σ' tk es T M N bs :=
  ⟨h.1, fun i b hb => by
    obtain ⟨m, w, h1, h2, h3, h4, h5⟩ := h.2 i b hb
    exact ⟨m, w, h1, hk _ _ h4 h2, hk _ _ h5 h3, h4, h5⟩⟩
theorem Tk.snoc {σ : Store} {tk : Addr} {es : List D} {T M N : Nat → List Nat} {bs : List Nat} (h : Tk σ tk es T M N bs) {b : Nat} {m w : Addr} (h2 : σ m = some (nats (M b))) (h3 : σ w = some (nats (N b))) (h4 : m ≠ tk) (h5 : w ≠ tk) :
    Tk σ tk (es ++ [.tup [.str (S (T b)), .lst m, .lst w]]) T M N (bs ++ [b]) := by
  refine ⟨by simp [h.1], fun i c hc => ?_⟩
  by_cases hi : i < bs.length
  · rw [List.getElem?_append_left hi] at hc
    obtain ⟨m', w', g1, g⟩ := h.2 i c hc
    exact ⟨m', w', by rw [List.getElem?_append_left (by rw [h.1]; exact hi)]; exact g1, g⟩
  · have hl := (List.getElem?_eq_some_iff.mp hc).1
    simp at hl
    have : i = bs.length := by (first | lia | omega)
    subst this
    simp at hc
    subst hc
    exact ⟨m, w, by rw [← h.1]; simp, h2, h3, h4, h5⟩
end Mine

namespace Mine
open PySem PySem.W PyProof.Rows

noncomputable def d_iter_escaped_chars : DefRec := recOf PW.main.body[1]?
noncomputable def d_strip_quoted_realnames : DefRec := recOf PW.main.body[2]?
noncomputable def d_check_parenthesis : DefRec := recOf PW.main.body[3]?
noncomputable def d_ISTERMINAL : DefRec := recOf PW.main.body[56]?
noncomputable def d_ISNONTERMINAL : DefRec := recOf PW.main.body[57]?
noncomputable def d_ISEOF : DefRec := recOf PW.main.body[58]?
noncomputable def d_escape_cdata : DefRec := recOf PW.main.body[61]?
noncomputable def d_escape_attrib : DefRec := recOf PW.main.body[62]?
noncomputable def d_escape_attrib_html : DefRec := recOf PW.main.body[63]?
noncomputable def d_escape_cdata_c14n : DefRec := recOf PW.main.body[64]?
noncomputable def d_escape_attrib_c14n : DefRec := recOf PW.main.body[65]?
noncomputable def d_law_cells : DefRec := recOf PW.main.body[67]?
noncomputable def d_law_sign : DefRec := recOf PW.main.body[68]?
noncomputable def d_law_drawn : DefRec := recOf PW.main.body[69]?
noncomputable def d_law_round : DefRec := recOf PW.main.body[70]?
noncomputable def d_law_parts : DefRec := recOf PW.main.body[71]?
noncomputable def d_law_text : DefRec := recOf PW.main.body[72]?
noncomputable def d_law_as_value : DefRec := recOf PW.main.body[73]?
noncomputable def d_law_as_words : DefRec := recOf PW.main.body[74]?
noncomputable def d_law_read : DefRec := recOf PW.main.body[75]?
noncomputable def d_law_way : DefRec := recOf PW.main.body[76]?
noncomputable def d_law_table : DefRec := recOf PW.main.body[77]?
noncomputable def d_law_determinant : DefRec := recOf PW.main.body[78]?
noncomputable def d_law : DefRec := recOf PW.main.body[79]?
noncomputable def allDefs : List DefRec := [d_iter_escaped_chars, d_strip_quoted_realnames, d_check_parenthesis, d_ISTERMINAL, d_ISNONTERMINAL, d_ISEOF, d_escape_cdata, d_escape_attrib, d_escape_attrib_html, d_escape_cdata_c14n, d_escape_attrib_c14n, d_law_cells, d_law_sign, d_law_drawn, d_law_round, d_law_parts, d_law_text, d_law_as_value, d_law_as_words, d_law_read, d_law_way, d_law_table, d_law_determinant, d_law]

/-- the table of operators, as the text writes it -/
noncomputable def TT : List (Str × Int) := [(S [33], 54), (S [33, 61], 28), (S [37], 24), (S [37, 61], 40), (S [38], 19), (S [38, 61], 41), (S [40], 7), (S [41], 8), (S [42], 16), (S [42, 42], 35), (S [42, 42, 61], 46), (S [42, 61], 38), (S [43], 14), (S [43, 61], 36), (S [44], 12), (S [45], 15), (S [45, 61], 37), (S [45, 62], 51), (S [46], 23), (S [46, 46, 46], 52), (S [47], 17), (S [47, 47], 47), (S [47, 47, 61], 48), (S [47, 61], 39), (S [58], 11), (S [58, 61], 53), (S [59], 13), (S [60], 20), (S [60, 60], 33), (S [60, 60, 61], 44), (S [60, 61], 29), (S [61], 22), (S [61, 61], 27), (S [62], 21), (S [62, 61], 30), (S [62, 62], 34), (S [62, 62, 61], 45), (S [64], 49), (S [64, 61], 50), (S [91], 9), (S [93], 10), (S [94], 32), (S [94, 61], 43), (S [123], 25), (S [124], 18), (S [124, 61], 42), (S [125], 26), (S [126], 31)]

structure Facts (X : Ctx) : Prop where
  fn : ∀ d ∈ allDefs, d ∈ recsOf X.p
  m_len : X.mg "len" = none
  m_sum : X.mg "sum" = none
  m_max : X.mg "max" = none
  m_range : X.mg "range" = none
  m_enum : X.mg "enumerate" = none
  m_list : X.mg "list" = none
  m_set : X.mg "set" = none
  b_len : X.mb "len" = some (.builtin "len")
  b_sum : X.mb "sum" = some (.builtin "sum")
  b_max : X.mb "max" = some (.builtin "max")
  b_range : X.mb "range" = some (.type "range")
  b_enum : X.mb "enumerate" = some (.type "enumerate")
  b_list : X.mb "list" = some (.type "list")
  b_set : X.mb "set" = some (.type "set")
  c_nt : ∃ v, X.mg "NT_OFFSET" = some v ∧ ∀ h', VR X.b h' v (.int 256)
  c_end : ∃ v, X.mg "ENDMARKER" = some v ∧ ∀ h', VR X.b h' v (.int 0)
  tab : Tab X "EXACT_TOKEN_TYPES" TT

section
variable {X : Ctx} {n m : Nat} {F : Fm} {η η' : Names} {σ σ₁ : Store} {Q : D → Store → Prop}
theorem FN.up {name : Str} {ds : List D} (h : FN X n name ds σ Q) (hn : n ≤ m) : FN X m name ds σ Q := fun A s vs a ao => h A s vs a (ao.le hn)
theorem BODY.forget {d : DefRec} {ds : List D} (h : BODY X n d ds σ fun r σ' => ∃ σ₁, (∀ a ds, σ₁ a = some ds → σ' a = some ds) ∧ Q r σ₁) : BODY X n d ds σ Q := ⟨fun env own A s fo ao nr cr =>
  wpAny_weak (h.run env own A s fo ao nr cr) fun f s' p => by
    obtain ⟨fl, η', σ', a, b, c, st, q⟩ := p
    cases a with
    | next => obtain ⟨σ₁, hs, q⟩ := q; exact ⟨.next, η', σ₁, .next, b, c.drop hs, st.drop hs, q⟩
    | brk => obtain ⟨σ₁, hs, q⟩ := q; exact ⟨.brk, η', σ₁, .brk, b, c.drop hs, st.drop hs, q⟩
    | cont => obtain ⟨σ₁, hs, q⟩ := q; exact ⟨.cont, η', σ₁, .cont, b, c.drop hs, st.drop hs, q⟩
    | ret r => obtain ⟨σ₁, hs, q⟩ := q; exact ⟨.ret _, η', σ₁, .ret r, b, c.drop hs, st.drop hs, q⟩⟩
/-- names read by their texts -/
theorem nm {x : Str} {pos : Pos} {d : D} (h : Q d σ) (hη : η x = some d := by rfl) (hk : isVar F.sc x = true := by rfl) : EV X n F η σ (.Name x pos) Q := E_name hk hη h
theorem AS_tup {sc : Scope} {es : List Expr} {k : Nat} {p : Pos} {ds : List D} {η : Names} {K : Names → Prop} (xs : List Str) (hk : K (putAll η xs ds)) (hn : namesOf es = some xs := by rfl) (ho : (xs.all fun x => isOwnVar sc x) = true := by rfl) (hl : ds.length = xs.length := by rfl) : AS sc (.Tuple es k p) (.tup ds) η K :=
  ⟨xs, ds, hn, ho, rfl, hl, hk⟩
theorem AS_name {sc : Scope} {x : Str} {p : Pos} {d : D} {η : Names} {K : Names → Prop} (hk : K (η.put x d)) (ho : isOwnVar sc x = true := by rfl) : AS sc (.Name x p) d η K := ⟨ho, hk⟩
theorem slot_append {o : Expr} {apos pos : Pos} {args : List Expr} (h : EV X n F η σ o fun d σ₁ => kindOk σ₁ "list" d ∧ EVS X n F η σ₁ args fun ds σ₂ => OPN X n (callB "list.append") (d :: ds) σ₂ Q) (hp : plainArgs args = true := by rfl) (hl : decide (args.length < 29) = true := by rfl) (hline : (apos.endLine == pos.line) = true := by rfl)
    (hb : ∀ env, attributeBase o "append" env (eval o env) = eval o env := by intro _; rfl) : EV X n F η σ (.Call (.Attribute o "append" apos) args [] pos) Q :=
  E_meth PySem.F.plainAttrs_list PySem.F.slot_list_append PySem.F.type_list_append hp hl hline h hb
theorem slot_pop {o : Expr} {apos pos : Pos} {args : List Expr} (h : EV X n F η σ o fun d σ₁ => kindOk σ₁ "list" d ∧ EVS X n F η σ₁ args fun ds σ₂ => OPN X n (callB "list.pop") (d :: ds) σ₂ Q) (hp : plainArgs args = true := by rfl) (hl : decide (args.length < 29) = true := by rfl) (hline : (apos.endLine == pos.line) = true := by rfl)
    (hb : ∀ env, attributeBase o "pop" env (eval o env) = eval o env := by intro _; rfl) : EV X n F η σ (.Call (.Attribute o "pop" apos) args [] pos) Q :=
  E_meth PySem.F.plainAttrs_list PySem.F.slot_list_pop PySem.F.type_list_pop hp hl hline h hb
theorem slot_count {o : Expr} {apos pos : Pos} {args : List Expr} (h : EV X n F η σ o fun d σ₁ => kindOk σ₁ "list" d ∧ EVS X n F η σ₁ args fun ds σ₂ => OPN X n (callB "list.count") (d :: ds) σ₂ Q) (hp : plainArgs args = true := by rfl) (hl : decide (args.length < 29) = true := by rfl) (hline : (apos.endLine == pos.line) = true := by rfl)
    (hb : ∀ env, attributeBase o "count" env (eval o env) = eval o env := by intro _; rfl) : EV X n F η σ (.Call (.Attribute o "count" apos) args [] pos) Q :=
  E_meth PySem.F.plainAttrs_list PySem.F.slot_list_count PySem.F.type_list_count hp hl hline h hb
theorem slot_index {o : Expr} {apos pos : Pos} {args : List Expr} (h : EV X n F η σ o fun d σ₁ => kindOk σ₁ "list" d ∧ EVS X n F η σ₁ args fun ds σ₂ => OPN X n (callB "list.index") (d :: ds) σ₂ Q) (hp : plainArgs args = true := by rfl) (hl : decide (args.length < 29) = true := by rfl) (hline : (apos.endLine == pos.line) = true := by rfl)
    (hb : ∀ env, attributeBase o "index" env (eval o env) = eval o env := by intro _; rfl) : EV X n F η σ (.Call (.Attribute o "index" apos) args [] pos) Q :=
  E_meth PySem.F.plainAttrs_list PySem.F.slot_list_index PySem.F.type_list_index hp hl hline h hb
theorem slot_join {o : Expr} {apos pos : Pos} {args : List Expr} (h : EV X n F η σ o fun d σ₁ => kindOk σ₁ "str" d ∧ EVS X n F η σ₁ args fun ds σ₂ => OPN X n (callB "str.join") (d :: ds) σ₂ Q) (hp : plainArgs args = true := by rfl) (hl : decide (args.length < 29) = true := by rfl) (hline : (apos.endLine == pos.line) = true := by rfl)
    (hb : ∀ env, attributeBase o "join" env (eval o env) = eval o env := by intro _; rfl) : EV X n F η σ (.Call (.Attribute o "join" apos) args [] pos) Q :=
  E_meth PySem.F.plainAttrs_str PySem.F.slot_str_join PySem.F.type_str_join hp hl hline h hb
theorem slot_split {o : Expr} {apos pos : Pos} {args : List Expr} (h : EV X n F η σ o fun d σ₁ => kindOk σ₁ "str" d ∧ EVS X n F η σ₁ args fun ds σ₂ => OPN X n (callB "str.split") (d :: ds) σ₂ Q) (hp : plainArgs args = true := by rfl) (hl : decide (args.length < 29) = true := by rfl) (hline : (apos.endLine == pos.line) = true := by rfl)
    (hb : ∀ env, attributeBase o "split" env (eval o env) = eval o env := by intro _; rfl) : EV X n F η σ (.Call (.Attribute o "split" apos) args [] pos) Q :=
  E_meth PySem.F.plainAttrs_str PySem.F.slot_str_split PySem.F.type_str_split hp hl hline h hb
end

theorem ok_ISEOF : DefOk d_ISEOF 1 where
  bind := fun pm cd doc vs h => by obtain ⟨a, rfl⟩ := len1 h; rfl
  len := rfl
  nodup := by decide
  kind := rfl
  co := rfl
  gen := rfl
  args := rfl
  nofree := rfl
theorem ok_ISTERMINAL : DefOk d_ISTERMINAL 1 where
  bind := fun pm cd doc vs h => by obtain ⟨a, rfl⟩ := len1 h; rfl
  len := rfl
  nodup := by decide
  kind := rfl
  co := rfl
  gen := rfl
  args := rfl
  nofree := rfl
theorem ok_ISNONTERMINAL : DefOk d_ISNONTERMINAL 1 where
  bind := fun pm cd doc vs h => by obtain ⟨a, rfl⟩ := len1 h; rfl
  len := rfl
  nodup := by decide
  kind := rfl
  co := rfl
  gen := rfl
  args := rfl
  nofree := rfl

section
variable {X : Ctx} {n m : Nat} {F : Fm} {η η' : Names} {σ σ₁ : Store} {Q : D → Store → Prop}
theorem fn_ISEOF (fx : Facts X) {i : Int} (h : Q (.bool (decide (i = 0))) σ) : FN X 1 "ISEOF" [.int i] σ Q := by
  refine FN_intro (d := d_ISEOF) (fx.fn _ (by simp [allDefs])) ok_ISEOF rfl ⟨fun env own => ?_⟩
  exact X_cons (X_return (E_cmp (nm (E_glob rfl fx.c_end (C_eq h)))))
theorem fn_ISTERMINAL (fx : Facts X) {i : Int} (h : Q (.bool (decide (i < 256))) σ) : FN X 1 "ISTERMINAL" [.int i] σ Q := by
  refine FN_intro (d := d_ISTERMINAL) (fx.fn _ (by simp [allDefs])) ok_ISTERMINAL rfl ⟨fun env own => ?_⟩
  exact X_cons (X_return (E_cmp (nm (E_glob rfl fx.c_nt (C_lt h)))))
theorem fn_ISNONTERMINAL (fx : Facts X) {i : Int} (h : Q (.bool (decide (i ≥ 256))) σ) : FN X 1 "ISNONTERMINAL" [.int i] σ Q := by
  refine FN_intro (d := d_ISNONTERMINAL) (fx.fn _ (by simp [allDefs])) ok_ISNONTERMINAL rfl ⟨fun env own => ?_⟩
  exact X_cons (X_return (E_cmp (nm (E_glob rfl fx.c_nt (C_ge h)))))
end
end Mine

namespace Mine
open PySem PySem.W PyProof.Rows

abbrev zAmp : List Nat := [38, 97, 109, 112, 59]
abbrev zLt : List Nat := [38, 108, 116, 59]
abbrev zGt : List Nat := [38, 103, 116, 59]
abbrev zQuot : List Nat := [38, 113, 117, 111, 116, 59]
noncomputable def escCdata (l : List Nat) : List Nat := repl 62 zGt (repl 60 zLt (repl 38 zAmp l))
noncomputable def escAttrib (l : List Nat) : List Nat := repl 9 [38, 35, 48, 57, 59] (repl 10 [38, 35, 49, 48, 59] (repl 13 [38, 35, 49, 51, 59] (repl 34 zQuot (repl 62 zGt (repl 60 zLt (repl 38 zAmp l))))))
noncomputable def escHtml (l : List Nat) : List Nat := repl 34 zQuot (repl 62 zGt (repl 38 zAmp l))
noncomputable def escCdataC (l : List Nat) : List Nat := repl 13 [38, 35, 120, 68, 59] (repl 62 zGt (repl 60 zLt (repl 38 zAmp l)))
noncomputable def escAttribC (l : List Nat) : List Nat := repl 13 [38, 35, 120, 68, 59] (repl 10 [38, 35, 120, 65, 59] (repl 9 [38, 35, 120, 57, 59] (repl 34 zQuot (repl 60 zLt (repl 38 zAmp l)))))
theorem repl_len (c : Nat) (z : List Nat) (k : Nat) (hk : 1 ≤ k) (hz : z.length ≤ k) (l : List Nat) : (repl c z l).length ≤ l.length * k := by
  induction l with
  | nil => simp [repl]
  | cons x r ih =>
    show ((if x = c then z else [x]) ++ repl c z r).length ≤ _
    rw [List.length_append, List.length_cons, Nat.add_mul]
    split <;> simp <;> (first | lia | omega)

theorem ok_escape_cdata : DefOk d_escape_cdata 1 where
  bind := fun pm cd doc vs h => by obtain ⟨a, rfl⟩ := len1 h; rfl
  len := rfl
  nodup := by decide
  kind := rfl
  co := rfl
  gen := rfl
  args := rfl
  nofree := rfl
theorem ok_escape_attrib : DefOk d_escape_attrib 1 where
  bind := fun pm cd doc vs h => by obtain ⟨a, rfl⟩ := len1 h; rfl
  len := rfl
  nodup := by decide
  kind := rfl
  co := rfl
  gen := rfl
  args := rfl
  nofree := rfl
theorem ok_escape_attrib_html : DefOk d_escape_attrib_html 1 where
  bind := fun pm cd doc vs h => by obtain ⟨a, rfl⟩ := len1 h; rfl
  len := rfl
  nodup := by decide
  kind := rfl
  co := rfl
  gen := rfl
  args := rfl
  nofree := rfl
theorem ok_escape_cdata_c14n : DefOk d_escape_cdata_c14n 1 where
  bind := fun pm cd doc vs h => by obtain ⟨a, rfl⟩ := len1 h; rfl
  len := rfl
  nodup := by decide
  kind := rfl
  co := rfl
  gen := rfl
  args := rfl
  nofree := rfl
theorem ok_escape_attrib_c14n : DefOk d_escape_attrib_c14n 1 where
  bind := fun pm cd doc vs h => by obtain ⟨a, rfl⟩ := len1 h; rfl
  len := rfl
  nodup := by decide
  kind := rfl
  co := rfl
  gen := rfl
  args := rfl
  nofree := rfl

section
variable {X : Ctx} {n m : Nat} {F : Fm} {η η' : Names} {σ σ₁ : Store} {Q : D → Store → Prop}

theorem fn_escape_cdata (fx : Facts X) {l : List Nat} (hz : l.length ≤ 100) (h : Q (.str (S (escCdata l))) σ) : FN X 1 "_escape_cdata" [.str (S l)] σ Q := by
  refine FN_intro (d := d_escape_cdata) (fx.fn _ (by simp [allDefs])) ok_escape_cdata rfl ⟨fun env own => ?_⟩
  have z1 := repl_len 38 zAmp 5 (by (first | lia | omega)) (by decide) l
  have z2 := repl_len 60 zLt 5 (by (first | lia | omega)) (by decide) (repl 38 zAmp l)
  refine X_cons (X_try ?_)
  refine X_cons (X_ifrep (c := 38) (z := zAmp) rfl rfl rfl rfl rfl rfl (by decide) (by simp; (first | lia | omega)) rfl ?_)
  refine X_cons (X_ifrep (c := 60) (z := zLt) rfl rfl rfl rfl rfl rfl (by decide) (by simp; (first | lia | omega)) rfl ?_)
  refine X_cons (X_ifrep (c := 62) (z := zGt) rfl rfl rfl rfl rfl rfl (by decide) (by simp; (first | lia | omega)) rfl ?_)
  exact X_cons (X_return (nm h))
theorem fn_escape_attrib (fx : Facts X) {l : List Nat} (hz : l.length ≤ 100) (h : Q (.str (S (escAttrib l))) σ) : FN X 1 "_escape_attrib" [.str (S l)] σ Q := by
  refine FN_intro (d := d_escape_attrib) (fx.fn _ (by simp [allDefs])) ok_escape_attrib rfl ⟨fun env own => ?_⟩
  have z1 := repl_len 38 zAmp 5 (by (first | lia | omega)) (by decide) l
  have z2 := repl_len 60 zLt 4 (by (first | lia | omega)) (by decide) (repl 38 zAmp l)
  have z3 := repl_len 62 zGt 4 (by (first | lia | omega)) (by decide) (repl 60 zLt (repl 38 zAmp l))
  have z4 := repl_len 34 zQuot 6 (by (first | lia | omega)) (by decide) (repl 62 zGt (repl 60 zLt (repl 38 zAmp l)))
  have z5 := repl_len 13 [38, 35, 49, 51, 59] 5 (by (first | lia | omega)) (by decide) (repl 34 zQuot (repl 62 zGt (repl 60 zLt (repl 38 zAmp l))))
  have z6 := repl_len 10 [38, 35, 49, 48, 59] 5 (by (first | lia | omega)) (by decide) (repl 13 [38, 35, 49, 51, 59] (repl 34 zQuot (repl 62 zGt (repl 60 zLt (repl 38 zAmp l)))))
  refine X_cons (X_try ?_)
  refine X_cons (X_ifrep (c := 38) (z := zAmp) rfl rfl rfl rfl rfl rfl (by decide) (by simp; (first | lia | omega)) rfl ?_)
  refine X_cons (X_ifrep (c := 60) (z := zLt) rfl rfl rfl rfl rfl rfl (by decide) (by simp; (first | lia | omega)) rfl ?_)
  refine X_cons (X_ifrep (c := 62) (z := zGt) rfl rfl rfl rfl rfl rfl (by decide) (by simp; (first | lia | omega)) rfl ?_)
  refine X_cons (X_ifrep (c := 34) (z := zQuot) rfl rfl rfl rfl rfl rfl (by decide) (by simp; (first | lia | omega)) rfl ?_)
  refine X_cons (X_ifrep (c := 13) (z := [38, 35, 49, 51, 59]) rfl rfl rfl rfl rfl rfl (by decide) (by simp; (first | lia | omega)) rfl ?_)
  refine X_cons (X_ifrep (c := 10) (z := [38, 35, 49, 48, 59]) rfl rfl rfl rfl rfl rfl (by decide) (by simp; (first | lia | omega)) rfl ?_)
  refine X_cons (X_ifrep (c := 9) (z := [38, 35, 48, 57, 59]) rfl rfl rfl rfl rfl rfl (by decide) (by simp; (first | lia | omega)) rfl ?_)
  exact X_cons (X_return (nm h))
theorem fn_escape_attrib_html (fx : Facts X) {l : List Nat} (hz : l.length ≤ 100) (h : Q (.str (S (escHtml l))) σ) : FN X 1 "_escape_attrib_html" [.str (S l)] σ Q := by
  refine FN_intro (d := d_escape_attrib_html) (fx.fn _ (by simp [allDefs])) ok_escape_attrib_html rfl ⟨fun env own => ?_⟩
  have z1 := repl_len 38 zAmp 5 (by (first | lia | omega)) (by decide) l
  have z2 := repl_len 62 zGt 5 (by (first | lia | omega)) (by decide) (repl 38 zAmp l)
  refine X_cons (X_try ?_)
  refine X_cons (X_ifrep (c := 38) (z := zAmp) rfl rfl rfl rfl rfl rfl (by decide) (by simp; (first | lia | omega)) rfl ?_)
  refine X_cons (X_ifrep (c := 62) (z := zGt) rfl rfl rfl rfl rfl rfl (by decide) (by simp; (first | lia | omega)) rfl ?_)
  refine X_cons (X_ifrep (c := 34) (z := zQuot) rfl rfl rfl rfl rfl rfl (by decide) (by simp; (first | lia | omega)) rfl ?_)
  exact X_cons (X_return (nm h))
theorem fn_escape_cdata_c14n (fx : Facts X) {l : List Nat} (hz : l.length ≤ 100) (h : Q (.str (S (escCdataC l))) σ) : FN X 1 "_escape_cdata_c14n" [.str (S l)] σ Q := by
  refine FN_intro (d := d_escape_cdata_c14n) (fx.fn _ (by simp [allDefs])) ok_escape_cdata_c14n rfl ⟨fun env own => ?_⟩
  have z1 := repl_len 38 zAmp 5 (by (first | lia | omega)) (by decide) l
  have z2 := repl_len 60 zLt 5 (by (first | lia | omega)) (by decide) (repl 38 zAmp l)
  have z3 := repl_len 62 zGt 5 (by (first | lia | omega)) (by decide) (repl 60 zLt (repl 38 zAmp l))
  refine X_cons (X_try ?_)
  refine X_cons (X_ifrep (c := 38) (z := zAmp) rfl rfl rfl rfl rfl rfl (by decide) (by simp; (first | lia | omega)) rfl ?_)
  refine X_cons (X_ifrep (c := 60) (z := zLt) rfl rfl rfl rfl rfl rfl (by decide) (by simp; (first | lia | omega)) rfl ?_)
  refine X_cons (X_ifrep (c := 62) (z := zGt) rfl rfl rfl rfl rfl rfl (by decide) (by simp; (first | lia | omega)) rfl ?_)
  refine X_cons (X_ifrep (c := 13) (z := [38, 35, 120, 68, 59]) rfl rfl rfl rfl rfl rfl (by decide) (by simp; (first | lia | omega)) rfl ?_)
  exact X_cons (X_return (nm h))
theorem fn_escape_attrib_c14n (fx : Facts X) {l : List Nat} (hz : l.length ≤ 100) (h : Q (.str (S (escAttribC l))) σ) : FN X 1 "_escape_attrib_c14n" [.str (S l)] σ Q := by
  refine FN_intro (d := d_escape_attrib_c14n) (fx.fn _ (by simp [allDefs])) ok_escape_attrib_c14n rfl ⟨fun env own => ?_⟩
  have z1 := repl_len 38 zAmp 5 (by (first | lia | omega)) (by decide) l
  have z2 := repl_len 60 zLt 4 (by (first | lia | omega)) (by decide) (repl 38 zAmp l)
  have z3 := repl_len 34 zQuot 6 (by (first | lia | omega)) (by decide) (repl 60 zLt (repl 38 zAmp l))
  have z4 := repl_len 9 [38, 35, 120, 57, 59] 5 (by (first | lia | omega)) (by decide) (repl 34 zQuot (repl 60 zLt (repl 38 zAmp l)))
  have z5 := repl_len 10 [38, 35, 120, 65, 59] 5 (by (first | lia | omega)) (by decide) (repl 9 [38, 35, 120, 57, 59] (repl 34 zQuot (repl 60 zLt (repl 38 zAmp l))))
  refine X_cons (X_try ?_)
  refine X_cons (X_ifrep (c := 38) (z := zAmp) rfl rfl rfl rfl rfl rfl (by decide) (by simp; (first | lia | omega)) rfl ?_)
  refine X_cons (X_ifrep (c := 60) (z := zLt) rfl rfl rfl rfl rfl rfl (by decide) (by simp; (first | lia | omega)) rfl ?_)
  refine X_cons (X_ifrep (c := 34) (z := zQuot) rfl rfl rfl rfl rfl rfl (by decide) (by simp; (first | lia | omega)) rfl ?_)
  refine X_cons (X_ifrep (c := 9) (z := [38, 35, 120, 57, 59]) rfl rfl rfl rfl rfl rfl (by decide) (by simp; (first | lia | omega)) rfl ?_)
  refine X_cons (X_ifrep (c := 10) (z := [38, 35, 120, 65, 59]) rfl rfl rfl rfl rfl rfl (by decide) (by simp; (first | lia | omega)) rfl ?_)
  refine X_cons (X_ifrep (c := 13) (z := [38, 35, 120, 68, 59]) rfl rfl rfl rfl rfl rfl (by decide) (by simp; (first | lia | omega)) rfl ?_)
  exact X_cons (X_return (nm h))
end
end Mine

namespace Mine
open PySem PySem.W PyProof.Rows

theorem ok_strip_quoted_realnames : DefOk d_strip_quoted_realnames 1 where
  bind := fun pm cd doc vs h => by obtain ⟨a, rfl⟩ := len1 h; rfl
  len := rfl
  nodup := by decide
  kind := rfl
  co := rfl
  gen := rfl
  args := rfl
  nofree := rfl
theorem ok_check_parenthesis : DefOk d_check_parenthesis 1 where
  bind := fun pm cd doc vs h => by obtain ⟨a, rfl⟩ := len1 h; rfl
  len := rfl
  nodup := by decide
  kind := rfl
  co := rfl
  gen := rfl
  args := rfl
  nofree := rfl
theorem gok_iter : GDefOk d_iter_escaped_chars where
  bind := fun _ _ _ _ => rfl
  kind := rfl
  co := rfl
  gen := rfl
  nocell := by decide
  nofree := by decide
  addr := rfl
  enum := rfl
  sc := ⟨rfl, rfl, rfl, rfl, rfl, rfl, rfl, rfl⟩
  body := ⟨_, _, _, _, _, _, _, _, _, _, _, _, _, _, _, _, _, _, _, _, _, _, _, _, _, _, _, _, _, _, _, _, _, _, _, rfl, rfl⟩

/-! what the two functions compute -/
noncomputable def stripGo (l : List Nat) : List Nat → Nat → Nat → Option Nat → List (List Nat) → List Nat
  | [], _, start, _, res => (if start < l.length then res ++ [l.drop start] else res).flatten
  | c :: r, pos, start, op, res =>
    if c = 34 then match op with
      | none => stripGo l r (pos + 1) start (some pos) res
      | some o => stripGo l r (pos + 1) (pos + 1) none (if start ≠ o then res ++ [(l.drop start).take (o - start)] else res)
    else stripGo l r (pos + 1) start op res
noncomputable def strip (l : List Nat) : List Nat := if 34 ∈ l then stripGo l l 0 0 none [] else l
noncomputable def balF : List Nat → Int → Bool
  | [], o => decide (o = 0)
  | c :: r, o => if c = 40 then balF r (o + 1) else if c = 41 then (if o - 1 < 0 then false else balF r (o - 1)) else balF r o
noncomputable def chk (l : List Nat) : Bool := balF (strip l) 0

section
variable {X : Ctx} {n m : Nat} {F : Fm} {η η' : Names} {σ σ₁ : Store} {Q : D → Store → Prop}
noncomputable def optD : Option Nat → D
  | none => .none
  | some i => .int i
theorem line_big : (100000 : Nat) ≤ sizeLine := by rw [sizeLine_eq]; decide

set_option maxHeartbeats 2000000 in
theorem fn_strip (fx : Facts X) {l : List Nat} (h92 : 92 ∉ l) (hz : l.length ≤ 1000) (h : Q (.str (S (strip l))) σ) : FN X 8 "_strip_quoted_realnames" [.str (S l)] σ Q := by
  refine FN_intro (d := d_strip_quoted_realnames) (fx.fn _ (by simp [allDefs])) ok_strip_quoted_realnames rfl (BODY.forget ⟨fun env own => ?_⟩)
  refine X_cons (X_if (T_cmp (E_str (nm (C_snotin (c := 34) (l := l) ⟨_, rfl, ?_⟩)))))
  by_cases hq : 34 ∈ l
  · rw [if_neg (by simp [hq])]
    refine X_nil ?_
    refine X_cons (X_assign rfl (E_int ?_))
    refine X_cons (X_assign rfl (E_none ?_))
    refine X_cons (X_assign rfl (E_list (S_nil ⟨by simp, fun a ha => ?_⟩)))
    have hsz := line_big
    refine X_cons (X_for (ITR_gen (d := d_iter_escaped_chars) (fx.fn _ (by simp [allDefs])) rfl gok_iter fx.m_enum fx.b_enum rfl rfl (S_cons (nm (S_nil ⟨l, rfl, h92, ?_⟩)))))
    obtain ⟨J1, hJ1⟩ : ∃ J : Nat → Names → Store → Prop, ∀ i η σ', J i η σ' ↔ (∃ start op res, C11 (η "addr" = some (.str (S l))) (η "start" = some (.int (start : Nat))) (η "open_pos" = some (optD op)) (η "result" = some (.lst a)) (σ' a = some ((res : List (List Nat)).map fun l => D.str (S l))) ((∀ c ds, σ c = some ds → σ' c = some ds)) (stripGo l (l.drop i) i start op res = strip l) (start ≤ i) ((∀ o, op = some o → start ≤ o ∧ o < i)) ((res.map List.length).sum ≤ start) (res.length ≤ i)) := ⟨_, fun _ _ _ => Iff.rfl⟩
    refine LOOP.inv J1 ?_ ?_ ?_
    · refine (hJ1 _ _ _).mpr ⟨0, none, [], rfl, rfl, rfl, rfl, put_at, put_sub ha, ?_, Nat.le_refl _, (fun _ h => nomatch h), Nat.le_refl _, Nat.le_refl _⟩
      unfold strip; rw [if_pos hq]; rfl
    · rintro i d η σ' hd hj
      obtain ⟨start, op, res, e1, e2, e3, e4, e5, e6, e7, b1, b2, b3, b4⟩ := (hJ1 _ _ _).mp hj
      obtain ⟨c, hi, rfl⟩ := signs_get hd
      have hlt : i < l.length := (List.getElem?_eq_some_iff.mp hi).1
      have hdrop : l.drop i = c :: l.drop (i + 1) := by rw [List.drop_eq_getElem_cons hlt]; congr 1; rw [List.getElem?_eq_getElem hlt] at hi; exact Option.some.inj hi
      rw [hdrop] at e7
      refine ⟨trivial, AS_tup ["pos", "ch"] ?_⟩
      refine EXS.lock fun Q' hQ => ?_
      refine X_cons (X_if (T_cmp (nm (E_str (C_seq (a := [c]) (b := [34]) ⟨_, rfl, ?_⟩)))))
      unfold stripGo at e7
      by_cases hc : c = 34
      · subst hc
        rw [if_pos (by simp)]
        rw [if_pos rfl] at e7
        cases op with
        | none =>
          refine X_cons (X_if (T_cmp (E_name rfl e3 (E_none (C_is_none_none ⟨_, rfl, ?_⟩)))))
          rw [if_pos rfl]
          refine X_cons (X_assign rfl (nm ?_))
          refine X_nil (X_nil (X_nil ?_))
          refine hQ _ _ _ ?_
          exact (hJ1 _ _ _).mpr ⟨start, some i, res, e1, e2, rfl, e4, e5, e6, e7, Nat.le_succ_of_le b1, (fun o h => by cases h; (first | lia | omega)), b3, Nat.le_succ_of_le b4⟩
        | some o =>
          obtain ⟨b5, b6⟩ := b2 o rfl
          refine X_cons (X_if (T_cmp (E_name rfl e3 (E_none (C_is_int_none ⟨_, rfl, ?_⟩)))))
          rw [if_neg Bool.false_ne_true]
          refine X_cons (X_if (T_cmp (E_name rfl e2 (E_name rfl e3 (C_ne ⟨_, rfl, ?_⟩)))))
          dsimp only at e7
          by_cases hne : start = o
          · subst hne
            rw [if_neg (by simp)]
            rw [if_neg (by simp)] at e7
            refine X_nil (X_cons (X_assign rfl (E_bin (E_name rfl rfl (E_int (O_add ?_))))))
            refine X_cons (X_assign rfl (E_none ?_))
            exact X_nil (X_nil (X_nil (hQ _ _ _ ((hJ1 _ _ _).mpr ⟨i + 1, none, res, e1, rfl, rfl, e4, e5, e6, e7, Nat.le_refl _, (fun _ h => nomatch h), by (first | lia | omega), by (first | lia | omega)⟩))))
          · rw [if_pos (by simp; (first | lia | omega))]
            rw [if_pos hne] at e7
            refine X_cons (X_expr (slot_append (E_name rfl e4 ⟨⟨rfl, by rw [e5]; rfl⟩, S_cons (E_slice (E_name rfl e1 (E_name rfl e2 ⟨_, rfl, E_name rfl e3 ⟨_, rfl, L_sliceStr (.some (by (first | lia | omega))) (.some (by (first | lia | omega))) (by (first | lia | omega)) (S_nil (M_append e5 (by simp; (first | lia | omega)) ⟨trivial, ?_⟩))⟩⟩)))⟩)))
            refine X_nil (X_cons (X_assign rfl (E_bin (E_name rfl rfl (E_int (O_add ?_))))))
            refine X_cons (X_assign rfl (E_none ?_))
            have hcut : cut l (some (start : Int)) (some (o : Int)) = (l.drop start).take (o - start) := by simp [cut]
            rw [hcut]
            refine X_nil (X_nil (X_nil (hQ _ _ _ ((hJ1 _ _ _).mpr ⟨i + 1, none, res ++ [(l.drop start).take (o - start)], e1, rfl, rfl, e4, ?_, ?_, e7, Nat.le_refl _, (fun _ h => nomatch h), ?_, ?_⟩))))
            · rw [put_at]; simp
            · intro c ds hc
              have hca : c ≠ a := fun q => by subst q; rw [ha] at hc; cases hc
              rw [put_ne hca]
              exact e6 c ds hc
            · simp; (first | lia | omega)
            · simp; (first | lia | omega)
      · rw [if_neg (by simp [hc])]
        rw [if_neg hc] at e7
        exact X_nil (X_nil (hQ _ _ _ <| (hJ1 _ _ _).mpr ⟨start, op, res, e1, e2, e3, e4, e5, e6, e7, Nat.le_succ_of_le b1, (fun o h => by have := b2 o h; (first | lia | omega)), b3, Nat.le_succ_of_le b4⟩))
    · rintro η σ' hj
      obtain ⟨start, op, res, e1, e2, e3, e4, e5, e6, e7, b1, b2, b3, b4⟩ := (hJ1 _ _ _).mp hj
      have hlen : (numberedD (signsD l)).length = l.length := by rw [numberedD_length]; simp [signsD]
      rw [hlen] at e7 b1 b4
      rw [List.drop_length] at e7
      unfold stripGo at e7
      refine ⟨trivial, X_cons (X_if (T_cmp (E_name rfl e2 (E_call rfl fx.m_len fx.b_len rfl (S_cons (E_name rfl e1 (S_nil (B_lenS (by (first | lia | omega)) (C_lt ⟨_, rfl, ?_⟩)))))))))⟩
      by_cases hs : start < l.length
      · rw [if_pos (by simp; (first | lia | omega))]
        rw [if_pos hs] at e7
        refine X_cons (X_expr (slot_append (E_name rfl e4 ⟨⟨rfl, by rw [e5]; rfl⟩, S_cons (E_slice (E_name rfl e1 (E_name rfl e2 ⟨_, rfl, L_sliceStr (.some (by (first | lia | omega))) .none (by (first | lia | omega)) (S_nil (M_append e5 (by simp; (first | lia | omega)) ⟨trivial, ?_⟩))⟩)))⟩)))
        have hcut : cut l (some (start : Int)) none = l.drop start := by simp [cut, List.take_of_length_le]
        rw [hcut]
        refine X_nil (X_cons (X_return (slot_join (E_str ⟨rfl, S_cons (E_name rfl e4 (S_nil (M_join (ls := res ++ [l.drop start]) ?_ ?_ ?_)))⟩))))
        · rw [put_at]; simp
        · simp; (first | lia | omega)
        · rw [e7]
          refine ⟨σ, fun c ds hc => ?_, h⟩
          have hca : c ≠ a := fun q => by subst q; rw [ha] at hc; cases hc
          rw [put_ne hca]
          exact e6 c ds hc
      · rw [if_neg (by simp; (first | lia | omega))]
        rw [if_neg hs] at e7
        refine X_nil (X_cons (X_return (slot_join (E_str ⟨rfl, S_cons (E_name rfl e4 (S_nil (M_join e5 (by (first | lia | omega)) ?_)))⟩))))
        rw [e7]
        exact ⟨σ, e6, h⟩
  · rw [if_pos (by simp [hq])]
    exact X_cons (X_return (nm ⟨σ, fun _ _ e => e, by unfold strip at h; rw [if_neg hq] at h; exact h⟩))

theorem stripGo_mem (l : List Nat) : ∀ (rest : List Nat) (pos start : Nat) (op : Option Nat) (res : List (List Nat)) (x : Nat), (∀ r ∈ res, ∀ y ∈ r, y ∈ l) → x ∈ stripGo l rest pos start op res → x ∈ l
  | [], pos, start, op, res, x, h, hx => by
    unfold stripGo at hx
    split at hx
    · rw [List.flatten_append, List.mem_append] at hx
      rcases hx with hx | hx
      · obtain ⟨r, hr, hx⟩ := List.mem_flatten.mp hx; exact h r hr x hx
      · simp at hx; exact List.mem_of_mem_drop hx
    · obtain ⟨r, hr, hx⟩ := List.mem_flatten.mp hx; exact h r hr x hx
  | c :: r, pos, start, op, res, x, h, hx => by
    unfold stripGo at hx
    split at hx
    · split at hx
      · exact stripGo_mem l r _ _ _ res x h hx
      · refine stripGo_mem l r _ _ _ _ x (fun q hq y hy => ?_) hx
        split at hq
        · rcases List.mem_append.mp hq with hq | hq
          · exact h q hq y hy
          · rw [List.mem_singleton.mp hq] at hy
            exact List.mem_of_mem_drop (List.mem_of_mem_take hy)
        · exact h q hq y hy
    · exact stripGo_mem l r _ _ _ res x h hx
theorem strip_mem {l : List Nat} {x : Nat} (h : x ∈ strip l) : x ∈ l := by
  unfold strip at h
  split at h
  · exact stripGo_mem l l 0 0 none [] x (fun _ hr => nomatch hr) h
  · exact h

set_option maxHeartbeats 2000000 in
theorem fn_check (fx : Facts X) {l : List Nat} (h92 : 92 ∉ l) (hz : l.length ≤ 1000) (h : Q (.bool (chk l)) σ) : FN X 9 "_check_parenthesis" [.str (S l)] σ Q := by
  refine FN_intro (d := d_check_parenthesis) (fx.fn _ (by simp [allDefs])) ok_check_parenthesis rfl ⟨fun env own => ?_⟩
  refine X_cons (X_assign rfl (E_fn (d := d_strip_quoted_realnames) (fx.fn _ (by simp [allDefs])) rfl rfl rfl (S_cons (nm (S_nil (fn_strip fx h92 hz ?_))))))
  refine X_cons (X_assign rfl (E_int ?_))
  have h92' : 92 ∉ strip l := fun q => h92 (strip_mem q)
  refine X_cons (X_for (ITR_gen (d := d_iter_escaped_chars) (fx.fn _ (by simp [allDefs])) rfl gok_iter fx.m_enum fx.b_enum rfl rfl (S_cons (nm (S_nil ⟨strip l, rfl, h92', ?_⟩)))))
  refine LOOP.inv (fun i η σ' => ∃ o : Int, η "opens" = some (.int o) ∧ σ' = σ ∧ balF ((strip l).drop i) o = chk l) ?_ ?_ ?_
  · exact ⟨0, rfl, rfl, rfl⟩
  · rintro i d η σ' hd ⟨o, e1, rfl, e2⟩
    obtain ⟨c, hi, rfl⟩ := signs_get hd
    have hlt : i < (strip l).length := (List.getElem?_eq_some_iff.mp hi).1
    have hdrop : (strip l).drop i = c :: (strip l).drop (i + 1) := by rw [List.drop_eq_getElem_cons hlt]; congr 1; rw [List.getElem?_eq_getElem hlt] at hi; exact Option.some.inj hi
    rw [hdrop] at e2
    unfold balF at e2
    refine ⟨trivial, AS_tup ["pos", "ch"] ?_⟩
    refine X_cons (X_if (T_cmp (nm (E_str (C_seq (a := [c]) (b := [40]) ⟨_, rfl, ?_⟩)))))
    by_cases h1 : c = 40
    · rw [if_pos (by simp [h1])]
      rw [if_pos h1] at e2
      exact X_cons (X_aug rfl rfl e1 (E_int (O_iadd (X_nil (X_nil ⟨o + 1, rfl, rfl, e2⟩)))))
    · rw [if_neg (by simp [h1])]
      rw [if_neg h1] at e2
      refine X_cons (X_if (T_cmp (nm (E_str (C_seq (a := [c]) (b := [41]) ⟨_, rfl, ?_⟩)))))
      by_cases h2 : c = 41
      · rw [if_pos (by simp [h2])]
        rw [if_pos h2] at e2
        refine X_cons (X_aug rfl rfl e1 (E_int (O_isub ?_)))
        refine X_cons (X_if (T_cmp (E_name rfl rfl (E_int (C_lt ⟨_, rfl, ?_⟩)))))
        by_cases h3 : o - 1 < 0
        · rw [if_pos (by simpa using h3)]
          rw [if_pos h3] at e2
          exact X_cons (X_return (E_bool (e2 ▸ h)))
        · rw [if_neg (by simpa using h3)]
          rw [if_neg h3] at e2
          exact X_nil (X_nil (X_nil (X_nil ⟨o - 1, rfl, rfl, e2⟩)))
      · rw [if_neg (by simp [h2])]
        rw [if_neg h2] at e2
        exact X_nil (X_nil (X_nil ⟨o, e1, rfl, e2⟩))
  · rintro η σ' ⟨o, e1, rfl, e2⟩
    have hlen : (numberedD (signsD (strip l))).length = (strip l).length := by rw [numberedD_length]; simp [signsD]
    rw [hlen, List.drop_length] at e2
    refine ⟨trivial, X_cons (X_return (E_cmp (E_name rfl e1 (E_int (C_eq ?_)))))⟩
    have e3 : decide (o = 0) = chk l := e2
    rw [e3]
    exact h
end
end Mine

namespace Mine
open PySem PySem.W PyProof.Rows

theorem ok_law_cells : DefOk d_law_cells 1 where
  bind := fun pm cd doc vs h => by obtain ⟨a, rfl⟩ := len1 h; rfl
  len := rfl
  nodup := by decide
  kind := rfl
  co := rfl
  gen := rfl
  args := rfl
  nofree := rfl
theorem ok_law_sign : DefOk d_law_sign 1 where
  bind := fun pm cd doc vs h => by obtain ⟨a, rfl⟩ := len1 h; rfl
  len := rfl
  nodup := by decide
  kind := rfl
  co := rfl
  gen := rfl
  args := rfl
  nofree := rfl
theorem ok_law_as_value : DefOk d_law_as_value 2 where
  bind := fun pm cd doc vs h => by obtain ⟨a, b, rfl⟩ := len2 h; rfl
  len := rfl
  nodup := by decide
  kind := rfl
  co := rfl
  gen := rfl
  args := rfl
  nofree := rfl
theorem ok_law_as_words : DefOk d_law_as_words 2 where
  bind := fun pm cd doc vs h => by obtain ⟨a, b, rfl⟩ := len2 h; rfl
  len := rfl
  nodup := by decide
  kind := rfl
  co := rfl
  gen := rfl
  args := rfl
  nofree := rfl

theorem fmod_nat (i k : Nat) : (i : Int).fmod (k : Int) = ((i % k : Nat) : Int) := by
  rw [Int.fmod_eq_emod_of_nonneg _ (Int.natCast_nonneg k)]; rfl
theorem sum_set : ∀ (cs : List Int) (j : Nat) (x : Int) (old : Int), cs[j]? = some old → (cs.set j (old + x)).sum = cs.sum + x
  | [], j, x, old, h => by simp at h
  | c :: r, 0, x, old, h => by simp at h; subst h; simp; (first | lia | omega)
  | c :: r, j + 1, x, old, h => by
    have := sum_set r j x old (by simpa using h)
    simp [this]; (first | lia | omega)
theorem mem_set_ge {cs : List Int} {j : Nat} {v : Int} (h : ∀ x ∈ cs, 0 ≤ x) (hv : 0 ≤ v) : ∀ x ∈ cs.set j v, 0 ≤ x := fun x hx => by
  rcases List.mem_or_eq_of_mem_set hx with h' | h'
  · exact h x h'
  · (first | lia | omega)

section
variable {X : Ctx} {n m : Nat} {F : Fm} {η η' : Names} {σ σ₁ : Store} {Q : D → Store → Prop}
set_option maxHeartbeats 2000000 in
theorem fn_cells (fx : Facts X) {ns : List Int} (hz : ns.length ≤ 1000) (h : ∀ (cs : List Int) (a : Addr), cs.length = 5 → (∀ x ∈ cs, 0 ≤ x) → cs.sum ≤ 100000000 → σ a = none → Q (.lst a) (σ.put a (cs.map D.int))) : FN X 1 "_law_cells" [.ints ns] σ Q := by
  have hbig := line_big
  refine FN_intro (d := d_law_cells) (fx.fn _ (by simp [allDefs])) ok_law_cells rfl (BODY.forget ⟨fun env own => ?_⟩)
  refine X_cons (X_assign rfl (E_list ?_))
  refine S_cons (E_int (S_cons (E_int (S_cons (E_int (S_cons (E_int (S_cons (E_int (S_nil ?_))))))))))
  refine ⟨by simp; (first | lia | omega), fun a ha => ?_⟩
  refine X_cons (X_for (ITR_enum rfl fx.m_enum fx.b_enum rfl (S_cons (E_slice (nm (d := .ints ns) (E_int ⟨_, rfl, L_sliceInts (ns := ns) .none (.some (by decide)) (by (first | lia | omega)) fun b hb => S_nil ⟨b, _, rfl, put_at, ?_⟩⟩))))))
  have hba : b ≠ a := fun q => by subst q; rw [put_at] at hb; cases hb
  have hlen : (numberedD ((cut ns none (some 60)).map D.int)).length ≤ 60 := by rw [numberedD_length]; simp [cut]; (first | lia | omega)
  refine LOOP.inv (fun i η σ' => η "cells" = some (.lst a) ∧ σ' b = some ((cut ns none (some 60)).map D.int) ∧ (∀ c ds, σ c = some ds → σ' c = some ds) ∧ ∃ cs : List Int, σ' a = some (cs.map D.int) ∧ cs.length = 5 ∧ (∀ x ∈ cs, 0 ≤ x) ∧ cs.sum ≤ 138 + i * 1000000) ?_ ?_ ?_
  · refine ⟨rfl, put_at, fun c ds hc => put_sub hb c ds (put_sub ha c ds hc), [86, 0, 6, 9, 37], ?_, rfl, by decide, by decide⟩
    rw [put_ne (Ne.symm hba)]; exact put_at
  · rintro i d η σ' hd ⟨e1, e2, e3, cs, e4, e5, e6, e7⟩
    obtain ⟨e, he, rfl⟩ := numberedD_get hd
    rw [List.getElem?_map] at he
    obtain ⟨v, hv, rfl⟩ := Option.map_eq_some_iff.mp he
    refine ⟨e2, AS_tup ["place", "number"] ?_⟩
    have hj : ((i : Int).fmod 5) = ((i % 5 : Nat) : Int) := fmod_nat i 5
    have hlt : i % 5 < cs.length := by rw [e5]; exact Nat.mod_lt _ (by decide)
    have hold : cs[i % 5]? = some cs[i % 5] := List.getElem?_eq_getElem hlt
    refine X_cons (X_augitem (E_name rfl e1 (E_bin (nm (E_int (O_mod (by decide) ?_))))))
    rw [hj]
    refine ⟨a, _, cs.map D.int, .int cs[i % 5], rfl, rfl, e4, Int.natCast_nonneg _, (by rw [Int.toNat_natCast, List.getElem?_map, hold]; rfl), by simp; (first | lia | omega), ?_⟩
    refine E_bin (nm (E_bin (E_int (E_int (O_pow (by decide) (by decide) (O_mod (by decide) (O_iadd ?_)))))))
    have hp : (10 : Int) ^ (6 : Int).toNat = 1000000 := by decide
    rw [hp]
    have hm0 := Int.fmod_nonneg_of_pos v (show (0 : Int) < 1000000 by decide)
    have hm1 := Int.fmod_lt_of_pos v (show (0 : Int) < 1000000 by decide)
    have hlt' : (((i % 5 : Nat) : Int)).toNat = i % 5 := Int.toNat_natCast _
    refine ⟨_, e4, by simp; (first | lia | omega), by simp; (first | lia | omega), X_nil ⟨e1, ?_, fun c ds hc => ?_, cs.set (i % 5) (cs[i % 5] + v.fmod 1000000), ?_, by simpa using e5, mem_set_ge e6 (by have := e6 _ (List.getElem_mem hlt); (first | lia | omega)), ?_⟩⟩
    · rw [put_ne hba]; exact e2
    · rw [put_ne (fun q => by subst q; rw [ha] at hc; cases hc)]; exact e3 c ds hc
    · rw [put_at, hlt']; simp
    · rw [sum_set _ _ _ _ hold]; push_cast; (first | lia | omega)
  · rintro η σ' ⟨e1, e2, e3, cs, e4, e5, e6, e7⟩
    refine ⟨e2, X_cons (X_return (E_name rfl e1 ⟨σ.put a (cs.map D.int), fun c ds hc => ?_, h cs a e5 e6 (by (first | lia | omega)) ha⟩))⟩
    unfold Store.put at hc
    split at hc
    · rename_i q; cases hc; subst q; exact e4
    · exact e3 c ds hc

noncomputable def SIGNS : List (List Nat) := [[43], [45], [42], [47], [124], [38], [60], [62], [61], [46], [37], [123], [125], [61, 61], [33, 61], [60, 61], [62, 61], [126], [94], [60, 60], [62, 62], [42, 42], [43, 61], [45, 61], [42, 61], [47, 61], [37, 61], [38, 61], [124, 61], [94, 61], [60, 60, 61], [62, 62, 61], [42, 42, 61], [47, 47], [47, 47, 61], [64], [64, 61], [45, 62], [46, 46, 46], [58, 61], [33]]
theorem words_eq : _root_.PySem.wordsOf ("+ - * / | & < > = . % { } == != <= >= ~ ^ << >> ** += -= *= /= %= &= |= ^= <<= >>= **= // //= @ @= -> ... := !" : Str) = SIGNS.map S := by decide +kernel
set_option maxHeartbeats 2000000 in
theorem fn_sign (fx : Facts X) {k : Nat} {w : List Nat} (hk : 14 ≤ k) (hw : SIGNS[k - 14]? = some w) (h : Q (.str (S w)) σ) : FN X 1 "_law_sign" [.int k] σ Q := by
  have hbig := line_big
  refine FN_intro (d := d_law_sign) (fx.fn _ (by simp [allDefs])) ok_law_sign rfl (BODY.forget ⟨fun env own => ?_⟩)
  refine X_cons (X_return (E_sub (slot_split (E_str ⟨rfl, S_nil (M_split (ws := SIGNS.map S) (by decide +kernel) words_eq ?_ ?_ fun a ha => ?_)⟩))))
  · exact Nat.le_trans (by decide +kernel) hbig
  · exact Nat.le_trans (by decide +kernel) hbig
  · refine E_bin (nm ?_)
    refine (E_int (O_sub (I_list rfl put_at (by (first | lia | omega)) (by simp [SIGNS]; (first | lia | omega)) ?_ ⟨σ, put_sub ha, h⟩)))
    have e : ((k : Int) - 14).toNat = k - 14 := by (first | lia | omega)
    rw [e, List.getElem?_map, List.getElem?_map, hw]
    rfl

noncomputable def asValue (l : List Nat) (draw : Nat) : List Nat := if draw % 3 = 0 then escAttrib l else if draw % 3 = 1 then escHtml l else escAttribC l
noncomputable def asWords (l : List Nat) (draw : Nat) : List Nat := if draw % 2 = 0 then escCdata l else escCdataC l
theorem fmod_eq (i k j : Nat) : ((i : Int).fmod (k : Int) = (j : Int)) = (i % k = j) := by
  rw [fmod_nat]; exact propext ⟨fun h => by exact_mod_cast h, fun h => by rw [h]⟩
set_option maxHeartbeats 2000000 in
theorem fn_as_value (fx : Facts X) {l : List Nat} {draw : Nat} (hz : l.length ≤ 100) (h : Q (.str (S (asValue l draw))) σ) : FN X 2 "_law_as_value" [.str (S l), .int draw] σ Q := by
  refine FN_intro (d := d_law_as_value) (fx.fn _ (by simp [allDefs])) ok_law_as_value rfl ⟨fun env own => ?_⟩
  unfold asValue at h
  refine X_cons (X_if (T_cmp (E_bin (nm (E_int (O_mod (by decide) (E_int (C_eq ⟨_, rfl, ?_⟩))))))))
  have e0 : ((draw : Int).fmod 3 = 0) = (draw % 3 = 0) := fmod_eq draw 3 0
  have e1 : ((draw : Int).fmod 3 = 1) = (draw % 3 = 1) := fmod_eq draw 3 1
  by_cases h0 : draw % 3 = 0
  · rw [if_pos (by simp [e0, h0])]
    rw [if_pos h0] at h
    exact X_cons (X_return (E_fn (d := d_escape_attrib) (fx.fn _ (by simp [allDefs])) rfl rfl rfl (S_cons (nm (S_nil (fn_escape_attrib fx hz h))))))
  · rw [if_neg (by simp [e0, h0])]
    rw [if_neg h0] at h
    refine X_nil (X_cons (X_if (T_cmp (E_bin (nm (E_int (O_mod (by decide) (E_int (C_eq ⟨_, rfl, ?_⟩)))))))))
    by_cases h1 : draw % 3 = 1
    · rw [if_pos (by simp [e1, h1])]
      rw [if_pos h1] at h
      exact X_cons (X_return (E_fn (d := d_escape_attrib_html) (fx.fn _ (by simp [allDefs])) rfl rfl rfl (S_cons (nm (S_nil (fn_escape_attrib_html fx hz h))))))
    · rw [if_neg (by simp [e1, h1])]
      rw [if_neg h1] at h
      exact X_nil (X_cons (X_return (E_fn (d := d_escape_attrib_c14n) (fx.fn _ (by simp [allDefs])) rfl rfl rfl (S_cons (nm (S_nil (fn_escape_attrib_c14n fx hz h)))))))
set_option maxHeartbeats 2000000 in
theorem fn_as_words (fx : Facts X) {l : List Nat} {draw : Nat} (hz : l.length ≤ 100) (h : Q (.str (S (asWords l draw))) σ) : FN X 2 "_law_as_words" [.str (S l), .int draw] σ Q := by
  refine FN_intro (d := d_law_as_words) (fx.fn _ (by simp [allDefs])) ok_law_as_words rfl ⟨fun env own => ?_⟩
  unfold asWords at h
  refine X_cons (X_if (T_cmp (E_bin (nm (E_int (O_mod (by decide) (E_int (C_eq ⟨_, rfl, ?_⟩))))))))
  have e0 : ((draw : Int).fmod 2 = 0) = (draw % 2 = 0) := fmod_eq draw 2 0
  by_cases h0 : draw % 2 = 0
  · rw [if_pos (by simp [e0, h0])]
    rw [if_pos h0] at h
    exact X_cons (X_return (E_fn (d := d_escape_cdata) (fx.fn _ (by simp [allDefs])) rfl rfl rfl (S_cons (nm (S_nil (fn_escape_cdata fx hz h))))))
  · rw [if_neg (by simp [e0, h0])]
    rw [if_neg h0] at h
    exact X_nil (X_cons (X_return (E_fn (d := d_escape_cdata_c14n) (fx.fn _ (by simp [allDefs])) rfl rfl rfl (S_cons (nm (S_nil (fn_escape_cdata_c14n fx hz h)))))))
end
end Mine

namespace Mine
open PySem PySem.W PyProof.Rows

theorem ok_law_drawn : DefOk d_law_drawn 2 where
  bind := fun pm cd doc vs h => by obtain ⟨a, b, rfl⟩ := len2 h; rfl
  len := rfl
  nodup := by decide
  kind := rfl
  co := rfl
  gen := rfl
  args := rfl
  nofree := rfl

/-! the drawing as a tree -/
structure St where
  row : List Nat
  sides : List Nat
  w0 : List Nat
  w1 : List Nat
noncomputable def St.moves (size : Nat) (s : St) : List Nat :=
  (if s.sides.length < size then [0, 1] else []) ++ ((if s.w0 = [] then [] else [2]) ++ (if s.w1 = [] then [] else [3]))
noncomputable def St.step (s : St) (mv : Nat) : St :=
  match mv with
  | 0 => ⟨s.row ++ [s.sides.length], s.sides ++ [0], s.w0 ++ [s.sides.length], s.w1⟩
  | 1 => ⟨s.row ++ [s.sides.length], s.sides ++ [1], s.w0, s.w1 ++ [s.sides.length]⟩
  | 2 => ⟨s.row ++ [s.w0.getLastD 0], s.sides, s.w0.dropLast, s.w1⟩
  | _ => ⟨s.row ++ [s.w1.getLastD 0], s.sides, s.w0, s.w1.dropLast⟩
noncomputable def states (size : Nat) : Nat → List St
  | 0 => [⟨[], [], [], []⟩]
  | k + 1 => (states size k).flatMap fun s => (s.moves size).map s.step

section
variable {X : Ctx} {n m : Nat} {F : Fm} {η η' : Names} {σ σ₁ : Store} {Q : D → Store → Prop}
set_option maxHeartbeats 4000000 in
theorem fn_drawn (fx : Facts X) {f size : Nat} (hs : size ≤ 10) (hok : ∀ i, i < 2 * size → ∀ s ∈ states size i, s.moves size ≠ [] ∧ s.row.length ≤ 20 ∧ s.sides.length ≤ 10 ∧ s.w0.length ≤ 10 ∧ s.w1.length ≤ 10)
    (h : ∀ (s : St) (a b : Addr), s ∈ states size (2 * size) → σ a = none → σ b = none → a ≠ b → Q (.tup [.lst a, .lst b]) ((σ.put a (nats s.row)).put b (nats s.sides))) : FN X 1 "_law_drawn" [.int f, .int size] σ Q := by
  have hbig := line_big
  refine FN_intro (d := d_law_drawn) (fx.fn _ (by simp [allDefs])) ok_law_drawn rfl (BODY.forget ⟨fun env own => ?_⟩)
  refine X_cons ?_; refine X_assignTT (xs := ["row", "sides", "waiting"]) ?x1h0 ?x1a1 ?x1h1 ?x1b1 ?x1c1 ?x1d1; (case x1h0 => rfl); (case x1d1 => rfl); (case x1h1 => decide +kernel); (case x1a1 => rfl); (case x1b1 => decide +kernel); refine E_tuple ?_; refine S_cons ?_; refine E_list ?_; refine S_nil ?_; refine ⟨by simp, fun a ha => ?_⟩
  refine S_cons ?_; refine E_list ?_; refine S_nil ?_; refine ⟨by simp, fun b hb => ?_⟩
  refine S_cons ?_; refine E_list ?_; refine S_cons ?_; refine E_list ?_; refine S_nil ?_; refine ⟨by simp, fun c hc => ?_⟩
  refine S_cons ?_; refine E_list ?_; refine S_nil ?_; refine ⟨by simp, fun d hd => ?_⟩
  refine S_nil ?_; refine ⟨by simp; (first | lia | omega), fun e he => ?_⟩; refine S_nil ?_; refine ⟨by simp; (first | lia | omega), _, rfl, rfl, ?_⟩
  have nba := ne_of_none hb put_at
  have k1 : ((σ.put a []).put b []) a = some [] := put_sub hb a _ put_at
  have nca := ne_of_none hc k1
  have ncb := ne_of_none hc (put_at (σ := σ.put a []))
  have k2 : (((σ.put a []).put b []).put c []) a = some [] := put_sub hc a _ k1
  have k3 : (((σ.put a []).put b []).put c []) b = some [] := put_sub hc b _ put_at
  have nda := ne_of_none hd k2
  have ndb := ne_of_none hd k3
  have ndc := ne_of_none hd (put_at (σ := (σ.put a []).put b []))
  have k4 : ((((σ.put a []).put b []).put c []).put d []) a = some [] := put_sub hd a _ k2
  have k5 : ((((σ.put a []).put b []).put c []).put d []) b = some [] := put_sub hd b _ k3
  have k6 : ((((σ.put a []).put b []).put c []).put d []) c = some [] := put_sub hd c _ put_at
  have nea := ne_of_none he k4
  have neb := ne_of_none he k5
  have nec := ne_of_none he k6
  have ned := ne_of_none he (put_at (σ := ((σ.put a []).put b []).put c []))
  have hlen : (ups 0 ((2 * size : Nat) : Int).toNat).length = 2 * size := by rw [ups_length]; (first | lia | omega)
  refine X_cons ?_; refine X_for ?_; refine ITR_range rfl fx.m_range fx.b_range rfl ?_; refine S_cons ?_; refine E_bin ?_; refine E_int ?_; refine nm ?_; refine O_mul (.of_left (by decide)) ?_; refine S_nil ?_; refine ⟨((2 * size : Nat) : Int), by push_cast; rfl, by (first | lia | omega), by (first | lia | omega), ?_⟩
  obtain ⟨J1, hJ1⟩ : ∃ J : Nat → Names → Store → Prop, ∀ i η σ', J i η σ' ↔ (∃ (s : St) (g : Nat), C12 (η "row" = some (.lst a)) (η "sides" = some (.lst b)) (η "waiting" = some (.lst e)) (η "size" = some (.int (size : Nat))) (η "figures" = some (.int (g : Nat))) (s ∈ states size i) (σ' a = some (nats s.row)) (σ' b = some (nats s.sides)) (σ' c = some (nats s.w0)) (σ' d = some (nats s.w1)) (σ' e = some [.lst c, .lst d]) ((∀ x ds, σ x = some ds → σ' x = some ds))) := ⟨_, fun _ _ _ => Iff.rfl⟩
  refine LOOP.inv J1 ?_ ?_ ?_
  · refine (hJ1 _ _ _).mpr ⟨⟨[], [], [], []⟩, f, rfl, rfl, rfl, rfl, rfl, List.mem_singleton.mpr rfl, put_sub he a _ k4, put_sub he b _ k5, put_sub he c _ k6, put_sub he d _ put_at, put_at, fun x ds hx => ?_⟩
    exact put_sub he x _ (put_sub hd x _ (put_sub hc x _ (put_sub hb x _ (put_sub ha x _ hx))))
  · rintro i dd η σ' hdd hj
    obtain ⟨s, g, e1, e2, e3, e4, e5, hst, f1, f2, f3, f4, f5, f6⟩ := (hJ1 _ _ _).mp hj
    obtain ⟨hi, rfl⟩ := ups_get hdd
    have hi : i < 2 * size := by (first | lia | omega)
    obtain ⟨hne, z1, z2, z3, z4⟩ := hok i hi s hst
    refine ⟨trivial, AS_name ?_⟩
    refine EXS.lock fun Q' hQ => ?_
    have hsd : (nats s.sides).length ≤ sizeLine := by rw [nats_len]; (first | lia | omega)
    refine X_cons ?_; refine X_assign rfl ?_; refine EV.mono (Q := fun dd σ2 => ∃ ml, dd = .lst ml ∧ σ2 ml = some (nats (if s.sides.length < size then [0, 1] else [])) ∧ ∀ x ds, σ' x = some ds → σ2 x = some ds) ?_ ?_
    · refine E_ifexp ?_; refine T_cmp ?_; refine E_call rfl fx.m_len fx.b_len rfl ?_; refine S_cons ?_; refine E_name rfl e2 ?_; refine S_nil ?_; refine B_lenL f2 hsd ?_; refine E_name rfl e4 ?_; refine C_lt ?_; refine ⟨_, rfl, ?_⟩
      by_cases q : s.sides.length < size
      · rw [if_pos (by simpa using q), if_pos q]
        exact E_list (S_cons (E_int (S_cons (E_int (S_nil ⟨by simp; (first | lia | omega), fun z hz => ⟨z, rfl, put_at, put_sub hz⟩⟩)))))
      · rw [if_neg (by simpa using q), if_neg q]
        exact E_list (S_nil ⟨by simp, fun z hz => ⟨z, rfl, put_at, put_sub hz⟩⟩)
    rintro _ σ2 ⟨ml, rfl, g1, g2⟩
    refine X_cons ?_; refine X_assign rfl ?_; refine EV.mono (Q := fun dd σ3 => ∃ ml, dd = .lst ml ∧ σ3 ml = some (nats (s.moves size)) ∧ ∀ x ds, σ' x = some ds → σ3 x = some ds) ?_ ?_
    · refine E_bin ?_; refine nm (d := .lst ml) ?_; refine E_comp rfl ?_; refine ITR_tuple ?_; refine E_tuple ?_; refine S_cons ?_; refine E_int ?_; refine S_cons ?_; refine E_int ?_; refine S_nil ?_; refine ⟨by simp; (first | lia | omega), _, rfl, by simp; (first | lia | omega), fun env' own' => ?_⟩
      refine CLOOP.fm [0, 1] (fun k : Nat => D.int k) (fun k => if (if k = 0 then s.w0 else s.w1) = [] then none else some (.int ((2 + k : Nat) : Int))) (fun η σ3 => η "waiting" = some (.lst e) ∧ ∀ x ds, σ2 x = some ds → σ3 x = some ds) rfl ⟨e3, fun _ _ h => h⟩ ?_ ?_
      · rintro k η3 σ3 hk ⟨q1, q2⟩
        refine ⟨trivial, AS_name ?_⟩
        have q3 : σ3 e = some [.lst c, .lst d] := q2 _ _ (g2 _ _ f5)
        have hk : k = 0 ∨ k = 1 := by simpa using hk
        have ⟨ww, hww1, hww2⟩ : ∃ ww, [D.lst c, D.lst d][(k : Int).toNat]? = some (.lst ww) ∧ σ3 ww = some (nats (if k = 0 then s.w0 else s.w1)) := by
          rcases hk with rfl | rfl
          · exact ⟨c, rfl, q2 _ _ (g2 _ _ f3)⟩
          · exact ⟨d, rfl, q2 _ _ (g2 _ _ f4)⟩
        refine ETS_one ?_; refine T_cmp ?_; refine E_sub ?_; refine E_name rfl q1 ?_; refine nm ?_; refine I_list rfl q3 (by (first | lia | omega)) (by simp; (first | lia | omega)) hww1 ?_; refine E_list ?_; refine S_nil ?_; refine ⟨by simp, fun z hz => ?_⟩
        refine C_lne (ns := toInts (if k = 0 then s.w0 else s.w1)) (ms := []) (put_sub hz _ _ hww2) put_at ?_
        refine ⟨_, rfl, ?_⟩
        by_cases hq : (if k = 0 then s.w0 else s.w1) = []
        · rw [hq]
          exact ⟨rfl, q1, fun x ds hx => put_sub hz _ _ (q2 _ _ hx)⟩
        · have : (!decide (toInts (if k = 0 then s.w0 else s.w1) = [])) = true := by simp [toInts, hq]
          rw [if_pos this]
          refine E_bin ?_; refine E_int ?_; refine nm ?_; refine O_add ?_; refine ⟨?_, q1, fun x ds hx => put_sub hz _ _ (q2 _ _ hx)⟩
          rw [if_neg hq]; push_cast; rfl
      · rintro η3 σ3 ⟨q1, q2⟩
        refine ⟨trivial, fun z hz => ?_⟩
        have hmv : nats (if s.sides.length < size then [0, 1] else []) ++ ([0, 1] : List Nat).filterMap (fun k => if (if k = 0 then s.w0 else s.w1) = [] then none else some (D.int ((2 + k : Nat) : Int))) = nats (s.moves size) := by
          unfold St.moves
          by_cases h0 : s.w0 = [] <;> by_cases h1 : s.w1 = [] <;> simp [h0, h1]
        refine O_ladd (put_sub hz _ _ (q2 _ _ g1)) put_at ?_ fun y hy => ⟨y, rfl, ?_, fun x ds hx => put_sub hy _ _ (put_sub hz _ _ (q2 _ _ (g2 _ _ hx)))⟩
        · have h1 : (nats (if s.sides.length < size then [0, 1] else [])).length ≤ 2 := by split <;> simp
          have h2 := List.length_filterMap_le (fun k : Nat => if (if k = 0 then s.w0 else s.w1) = [] then none else some (D.int ((2 + k : Nat) : Int))) [0, 1]
          simp only [List.length_cons, List.length_nil] at h2
          (first | lia | omega)
        · rw [put_at, hmv]
    rintro _ σ3 ⟨mo, rfl, g3, g4⟩
    have hL : 0 < (s.moves size).length := List.length_pos_iff.mpr hne
    have hL4 : (s.moves size).length ≤ 4 := by unfold St.moves; split <;> split <;> split <;> simp
    have hLD : (nats (s.moves size)).length = (s.moves size).length := nats_len _
    obtain ⟨mv, hmv⟩ : ∃ mv, (s.moves size)[g % (s.moves size).length]? = some mv := ⟨_, List.getElem?_eq_getElem (Nat.mod_lt _ hL)⟩
    refine X_cons ?_; refine X_assign rfl ?_; refine E_sub ?_; refine nm ?_; refine E_bin ?_; refine E_name rfl e5 ?_; refine E_call rfl fx.m_len fx.b_len rfl ?_; refine S_cons ?_; refine nm ?_; refine S_nil ?_; refine B_lenL g3 (by (first | lia | omega)) ?_; refine O_mod (by (first | lia | omega)) ?_; refine I_list (d := .int mv) rfl g3 ?_ (by (first | lia | omega)) ?_ ?_
    · exact Int.fmod_nonneg_of_pos _ (by (first | lia | omega))
    · rw [hLD, fmod_nat, Int.toNat_natCast]; exact nats_get hmv
    refine X_cons ?_; refine X_aug rfl rfl e5 ?_; refine E_call rfl fx.m_len fx.b_len rfl ?_; refine S_cons ?_; refine nm ?_; refine S_nil ?_; refine B_lenL g3 (by (first | lia | omega)) ?_; refine O_ifdiv (by (first | lia | omega)) (small_div (by (first | lia | omega))) ?_
    have hg : (g : Int).fdiv ((nats (s.moves size)).length : Nat) = ((g / (s.moves size).length : Nat) : Int) := by
      rw [hLD, Int.fdiv_eq_ediv_of_nonneg _ (Int.natCast_nonneg _)]; rfl
    rw [hg]
    have hmem : mv ∈ s.moves size := List.mem_of_getElem? hmv
    have hnext : s.step mv ∈ states size (i + 1) := List.mem_flatMap.mpr ⟨s, hst, List.mem_map.mpr ⟨mv, hmem, rfl⟩⟩
    have hcase : (mv = 0 ∨ mv = 1) ∨ (mv = 2 ∧ s.w0 ≠ []) ∨ (mv = 3 ∧ s.w1 ≠ []) := by
      unfold St.moves at hmem
      rcases List.mem_append.mp hmem with h | h
      · split at h
        · left; simpa using h
        · cases h
      · rcases List.mem_append.mp h with h | h
        · split at h
          · cases h
          · rename_i q; exact .inr (.inl ⟨by simpa using h, q⟩)
        · split at h
          · cases h
          · rename_i q; exact .inr (.inr ⟨by simpa using h, q⟩)
    have c1 := g4 _ _ f1
    have c2 := g4 _ _ f2
    have c3 := g4 _ _ f3
    have c4 := g4 _ _ f4
    have c5 := g4 _ _ f5
    have lw0 : (nats s.w0).length ≤ sizeLine := by rw [nats_len]; (first | lia | omega)
    have lw1 : (nats s.w1).length ≤ sizeLine := by rw [nats_len]; (first | lia | omega)
    have lrow : (nats s.row).length ≤ sizeLine := by rw [nats_len]; (first | lia | omega)
    have keep : ∀ (σ4 : Store), (∀ x, x ≠ a → x ≠ b → x ≠ c → x ≠ d → σ4 x = σ3 x) → ∀ x ds, σ x = some ds → σ4 x = some ds := fun σ4 hk x ds hx => by
      rw [hk x (fun q => by subst q; rw [ha] at hx; cases hx) ?_ ?_ ?_]
      · exact g4 x ds (f6 x ds hx)
      · intro q; subst q; exact absurd rfl (ne_of_none hb (put_sub ha _ _ hx))
      · intro q; subst q; exact absurd rfl (ne_of_none hc (put_sub hb _ _ (put_sub ha _ _ hx)))
      · intro q; subst q; exact absurd rfl (ne_of_none hd (put_sub hc _ _ (put_sub hb _ _ (put_sub ha _ _ hx))))
    refine X_cons ?_; refine X_if ?_; refine T_cmp ?_; refine nm (d := .int mv) ?_; refine E_int ?_; refine C_lt ?_; refine ⟨_, rfl, ?_⟩
    rcases hcase with hm | ⟨rfl, hw⟩ | ⟨rfl, hw⟩
    · rw [if_pos (by simp; (first | lia | omega))]
      have ⟨ww, w, hww1, hww2, hww3⟩ : ∃ ww w, [D.lst c, D.lst d][(mv : Int).toNat]? = some (.lst ww) ∧ σ3 ww = some (nats w) ∧ (ww = c ∧ w = s.w0 ∨ ww = d ∧ w = s.w1) := by
        rcases hm with rfl | rfl
        · exact ⟨c, s.w0, rfl, c3, .inl ⟨rfl, rfl⟩⟩
        · exact ⟨d, s.w1, rfl, c4, .inr ⟨rfl, rfl⟩⟩
      have nwb : ww ≠ b := by rcases hww3 with ⟨rfl, _⟩ | ⟨rfl, _⟩ <;> assumption
      have nwa : ww ≠ a := by rcases hww3 with ⟨rfl, _⟩ | ⟨rfl, _⟩ <;> assumption
      have nwe : e ≠ ww := by rcases hww3 with ⟨rfl, _⟩ | ⟨rfl, _⟩ <;> assumption
      have lw : w.length ≤ 10 := by rcases hww3 with ⟨_, rfl⟩ | ⟨_, rfl⟩ <;> assumption
      refine X_cons ?_; refine X_expr ?_; refine slot_append ?_; refine E_sub ?_; refine E_name rfl e3 ?_; refine nm (d := .int mv) ?_; refine I_list (d := .lst ww) rfl c5 (by (first | lia | omega)) (by simp; (first | lia | omega)) hww1 ?_; refine ⟨⟨rfl, by rw [hww2]; rfl⟩, ?_⟩; refine S_cons ?_; refine E_call rfl fx.m_len fx.b_len rfl ?_; refine S_cons ?_; refine E_name rfl e2 ?_; refine S_nil ?_; refine B_lenL c2 hsd ?_; refine S_nil ?_; refine M_append hww2 (by rw [nats_len]; (first | lia | omega)) ?_; refine ⟨trivial, ?_⟩
      have k1 : (σ3.put ww (nats w ++ [D.int ↑(nats s.sides).length])) a = some (nats s.row) := by rw [put_ne (Ne.symm nwa)]; exact c1
      have k2 : (σ3.put ww (nats w ++ [D.int ↑(nats s.sides).length])) b = some (nats s.sides) := by rw [put_ne (Ne.symm nwb)]; exact c2
      refine X_cons ?_; refine X_expr ?_; refine slot_append ?_; refine E_name rfl e1 ?_; refine ⟨⟨rfl, by rw [k1]; rfl⟩, ?_⟩; refine S_cons ?_; refine E_call rfl fx.m_len fx.b_len rfl ?_; refine S_cons ?_; refine E_name rfl e2 ?_; refine S_nil ?_; refine B_lenL k2 hsd ?_; refine S_nil ?_; refine M_append k1 lrow ?_; refine ⟨trivial, ?_⟩
      have k3 : ((σ3.put ww (nats w ++ [D.int ↑(nats s.sides).length])).put a (nats s.row ++ [D.int ↑(nats s.sides).length])) b = some (nats s.sides) := by rw [put_ne nba]; exact k2
      refine X_cons ?_; refine X_expr ?_; refine slot_append ?_; refine E_name rfl e2 ?_; refine ⟨⟨rfl, by rw [k3]; rfl⟩, ?_⟩; refine S_cons ?_; refine nm (d := .int mv) ?_; refine S_nil ?_; refine M_append k3 hsd ?_; refine ⟨trivial, ?_⟩
      refine X_nil ?_; refine X_nil ?_
      refine hQ _ _ _ ((hJ1 _ _ _).mpr ?_)
      refine ⟨s.step mv, g / (s.moves size).length, e1, e2, e3, e4, rfl, hnext, ?_, ?_, ?_, ?_, ?_, ?_⟩
      · rw [put_ne (Ne.symm nba), put_at, nats_len]
        rcases hm with rfl | rfl <;> simp [St.step]
      · rw [put_at]
        rcases hm with rfl | rfl <;> simp [St.step]
      · rw [put_ne ncb, put_ne nca]
        rcases hm with rfl | rfl
        · rcases hww3 with ⟨rfl, rfl⟩ | ⟨rfl, rfl⟩
          · rw [put_at, nats_len]; simp [St.step]
          · injection hww1 with q; injection q with q; exact absurd q.symm ndc
        · rcases hww3 with ⟨rfl, rfl⟩ | ⟨rfl, rfl⟩
          · injection hww1 with q; injection q with q; exact absurd q ndc
          · rw [put_ne (Ne.symm ndc)]; exact c3
      · rw [put_ne ndb, put_ne nda]
        rcases hm with rfl | rfl
        · rcases hww3 with ⟨rfl, rfl⟩ | ⟨rfl, rfl⟩
          · rw [put_ne ndc]; exact c4
          · injection hww1 with q; injection q with q; exact absurd q.symm ndc
        · rcases hww3 with ⟨rfl, rfl⟩ | ⟨rfl, rfl⟩
          · injection hww1 with q; injection q with q; exact absurd q ndc
          · rw [put_at, nats_len]; simp [St.step]
      · rw [put_ne neb, put_ne nea, put_ne nwe]; exact c5
      · refine keep _ fun x h1 h2 h3 h4 => ?_
        rw [put_ne h2, put_ne h1, put_ne]
        rcases hww3 with ⟨rfl, _⟩ | ⟨rfl, _⟩ <;> assumption
    · rw [if_neg (by decide)]
      have hsp : nats s.w0 = nats s.w0.dropLast ++ [D.int ((s.w0.getLastD 0 : Nat) : Int)] := by
        rw [← List.map_singleton (f := D.int), ← List.map_singleton (f := fun n : Nat => (n : Int)), ← List.map_append, ← List.map_append]
        rw [← dropLast_getLastD hw]
      rw [hsp] at c3
      refine X_cons ?_; refine X_expr ?_; refine slot_append ?_; refine E_name rfl e1 ?_; refine ⟨⟨rfl, by rw [c1]; rfl⟩, ?_⟩; refine S_cons ?_; refine slot_pop ?_; refine E_sub ?_; refine E_name rfl e3 ?_; refine E_bin ?_; refine nm (d := .int 2) ?_; refine E_int ?_; refine O_sub ?_; refine I_list (d := .lst c) rfl c5 (by decide) (by simp; (first | lia | omega)) rfl ?_; refine ⟨⟨rfl, by rw [c3]; rfl⟩, ?_⟩; refine S_nil ?_
      refine M_pop c3 (by rw [hsp] at lw0; simp at lw0 ⊢; (first | lia | omega)) ?_
      have k1 : (σ3.put c (nats s.w0.dropLast)) a = some (nats s.row) := by rw [put_ne (Ne.symm nca)]; exact c1
      refine S_nil ?_; refine M_append k1 lrow ?_; refine ⟨trivial, ?_⟩; refine X_nil ?_; refine X_nil ?_
      refine hQ _ _ _ ((hJ1 _ _ _).mpr ?_)
      refine ⟨s.step 2, g / (s.moves size).length, e1, e2, e3, e4, rfl, hnext, ?_, ?_, ?_, ?_, ?_, ?_⟩
      · rw [put_at]; simp [St.step]
      · rw [put_ne nba, put_ne (Ne.symm ncb)]; exact c2
      · rw [put_ne nca, put_at]; simp [St.step]
      · rw [put_ne nda, put_ne ndc]; exact c4
      · rw [put_ne nea, put_ne nec]; exact c5
      · refine keep _ fun x h1 h2 h3 h4 => ?_
        rw [put_ne h1, put_ne h3]
    · rw [if_neg (by decide)]
      have hsp : nats s.w1 = nats s.w1.dropLast ++ [D.int ((s.w1.getLastD 0 : Nat) : Int)] := by
        rw [← List.map_singleton (f := D.int), ← List.map_singleton (f := fun n : Nat => (n : Int)), ← List.map_append, ← List.map_append]
        rw [← dropLast_getLastD hw]
      rw [hsp] at c4
      refine X_cons ?_; refine X_expr ?_; refine slot_append ?_; refine E_name rfl e1 ?_; refine ⟨⟨rfl, by rw [c1]; rfl⟩, ?_⟩; refine S_cons ?_; refine slot_pop ?_; refine E_sub ?_; refine E_name rfl e3 ?_; refine E_bin ?_; refine nm (d := .int 3) ?_; refine E_int ?_; refine O_sub ?_; refine I_list (d := .lst d) rfl c5 (by decide) (by simp; (first | lia | omega)) rfl ?_; refine ⟨⟨rfl, by rw [c4]; rfl⟩, ?_⟩; refine S_nil ?_
      refine M_pop c4 (by rw [hsp] at lw1; simp at lw1 ⊢; (first | lia | omega)) ?_
      have k1 : (σ3.put d (nats s.w1.dropLast)) a = some (nats s.row) := by rw [put_ne (Ne.symm nda)]; exact c1
      refine S_nil ?_; refine M_append k1 lrow ?_; refine ⟨trivial, ?_⟩; refine X_nil ?_; refine X_nil ?_
      refine hQ _ _ _ ((hJ1 _ _ _).mpr ?_)
      refine ⟨s.step 3, g / (s.moves size).length, e1, e2, e3, e4, rfl, hnext, ?_, ?_, ?_, ?_, ?_, ?_⟩
      · rw [put_at]; simp [St.step]
      · rw [put_ne nba, put_ne (Ne.symm ndb)]; exact c2
      · rw [put_ne nca, put_ne (Ne.symm ndc)]; exact c3
      · rw [put_ne nda, put_at]; simp [St.step]
      · rw [put_ne nea, put_ne ned]; exact c5
      · refine keep _ fun x h1 h2 h3 h4 => ?_
        rw [put_ne h1, put_ne h4]
  · rintro η σ' hj
    obtain ⟨s, g, e1, e2, e3, e4, e5, hst, f1, f2, f3, f4, f5, f6⟩ := (hJ1 _ _ _).mp hj
    rw [hlen] at hst
    refine ⟨trivial, ?_⟩
    refine X_cons ?_; refine X_return ?_; refine E_tuple ?_; refine S_cons ?_; refine E_name rfl e1 ?_; refine S_cons ?_; refine E_name rfl e2 ?_; refine S_nil ?_; refine ⟨by simp; (first | lia | omega), ?_⟩
    refine ⟨_, ?_, h s a b hst ha ?_ (Ne.symm nba)⟩
    · intro x ds hx
      unfold Store.put at hx
      split at hx
      · rename_i q; cases hx; subst q; exact f2
      · split at hx
        · rename_i q; cases hx; subst q; exact f1
        · exact f6 x ds hx
    · have := hb; rw [put_ne nba] at this; exact this
end
end Mine

namespace Mine
open PySem PySem.W PyProof.Rows

theorem ok_law_round : DefOk d_law_round 2 where
  bind := fun pm cd doc vs h => by obtain ⟨a, b, rfl⟩ := len2 h; rfl
  len := rfl
  nodup := by decide
  kind := rfl
  co := rfl
  gen := rfl
  args := rfl
  nofree := rfl
theorem ok_law_parts : DefOk d_law_parts 2 where
  bind := fun pm cd doc vs h => by obtain ⟨a, b, rfl⟩ := len2 h; rfl
  len := rfl
  nodup := by decide
  kind := rfl
  co := rfl
  gen := rfl
  args := rfl
  nofree := rfl
theorem ok_law_text : DefOk d_law_text 2 where
  bind := fun pm cd doc vs h => by obtain ⟨a, b, rfl⟩ := len2 h; rfl
  len := rfl
  nodup := by decide
  kind := rfl
  co := rfl
  gen := rfl
  args := rfl
  nofree := rfl

section
variable {X : Ctx} {n m : Nat} {F : Fm} {η η' : Names} {σ σ₁ : Store} {Q : D → Store → Prop}
set_option maxHeartbeats 4000000 in
theorem fn_round (fx : Facts X) {a b : Addr} {row sw met : List Nat} {k : Nat} (ha : σ a = some (nats row)) (hb : σ b = some (nats sw)) (hl : row.length ≤ 1000) (hk : k ≤ 1000) (hr : roundGo row sw k 0 [] = some met)
    (h : ∀ c, σ c = none → Q (.lst c) (σ.put c (nats met))) : FN X 1 "_law_round" [.lst a, .lst b] σ Q := by
  have hbig := line_big
  refine FN_intro (d := d_law_round) (fx.fn _ (by simp [allDefs])) ok_law_round rfl (BODY.forget ⟨fun env own => ?_⟩)
  refine X_cons ?_; refine X_assignTT (xs := ["met", "place"]) ?x1h0 ?x1a1 ?x1h1 ?x1b1 ?x1c1 ?x1d1; (case x1h0 => rfl); (case x1d1 => rfl); (case x1h1 => decide +kernel); (case x1a1 => rfl); (case x1b1 => decide +kernel); refine E_tuple ?_; refine S_cons ?_; refine E_list ?_; refine S_nil ?_; refine ⟨by simp, fun c hc => ?_⟩; refine S_cons ?_; refine E_int ?_; refine S_nil ?_; refine ⟨by simp; (first | lia | omega), _, rfl, rfl, ?_⟩
  have rl : (nats row).length ≤ sizeLine := by rw [nats_len]; (first | lia | omega)
  have nca := ne_of_none hc ha
  have ncb := ne_of_none hc hb
  obtain ⟨J1, hJ1⟩ : ∃ J : Nat → Names → Store → Prop, ∀ j η σ', J j η σ' ↔ (∃ (place : Nat) (mt : List Nat), C8 (η "row" = some (.lst a)) (η "switched" = some (.lst b)) (η "met" = some (.lst c)) (η "place" = some (.int (place : Nat))) (σ' c = some (nats mt)) ((∀ x ds, σ x = some ds → σ' x = some ds)) (mt.length + j ≤ 1000) (roundGo row sw j place mt = some met)) := ⟨_, fun _ _ _ => Iff.rfl⟩
  refine X_cons ?_; refine X_while J1 k ?_ ?_
  · exact (hJ1 _ _ _).mpr ⟨0, [], rfl, rfl, rfl, rfl, put_at, put_sub hc, by simpa using hk, hr⟩
  · rintro j η σ' hj
    obtain ⟨place, mt, e1, e2, e3, e4, e5, e6, e7, e8⟩ := (hJ1 _ _ _).mp hj
    cases j with
    | zero => cases e8
    | succ j =>
      unfold roundGo at e8
      have f1 := e6 _ _ ha
      have f2 := e6 _ _ hb
      refine T_plain ?_; refine E_bool ?_; refine ⟨_, rfl, ?_⟩
      rw [if_pos rfl]
      refine EXS.lock fun Q' hQ => ?_
      cases hp : row[place]? with
      | none => rw [hp] at e8; cases e8
      | some pair =>
        rw [hp] at e8
        dsimp only at e8
        refine X_cons ?_; refine X_assign rfl ?_; refine E_sub ?_; refine E_name rfl e1 ?_; refine E_name rfl e4 ?_; refine I_list (d := .int pair) rfl f1 (Int.natCast_nonneg _) rl ?_ ?_
        · rw [Int.toNat_natCast]; exact nats_get hp
        refine X_cons ?_; refine X_expr ?_; refine slot_append ?_; refine E_name rfl e3 ?_; refine ⟨⟨rfl, by rw [e5]; rfl⟩, ?_⟩; refine S_cons ?_; refine nm (d := .int pair) ?_; refine S_nil ?_; refine M_append e5 (by rw [nats_len]; (first | lia | omega)) ?_; refine ⟨trivial, ?_⟩
        have g1 : (σ'.put c (nats mt ++ [D.int (pair : Nat)])) a = some (nats row) := by rw [put_ne (Ne.symm nca)]; exact f1
        have g2 : (σ'.put c (nats mt ++ [D.int (pair : Nat)])) b = some (nats sw) := by rw [put_ne (Ne.symm ncb)]; exact f2
        have g3 : (σ'.put c (nats mt ++ [D.int (pair : Nat)])) c = some (nats (mt ++ [pair])) := by rw [put_at]; simp
        have g4 : ∀ x ds, σ x = some ds → (σ'.put c (nats mt ++ [D.int (pair : Nat)])) x = some ds := fun x ds hx => by
          rw [put_ne (fun q => by subst q; rw [hc] at hx; cases hx)]; exact e6 x ds hx
        generalize (σ'.put c (nats mt ++ [D.int (pair : Nat)])) = σ2 at g1 g2 g3 g4 ⊢
        obtain ⟨p, hp2, e8⟩ : ∃ p, (if pair ∈ sw then ((List.range row.length).filter fun o => decide (row[o]? = some pair) && decide (o ≠ place))[0]? else some place) = some p ∧ (if (p + 1) % row.length = 0 then some (mt ++ [pair]) else roundGo row sw j ((p + 1) % row.length) (mt ++ [pair])) = some met := by
          split at e8
          · cases e8
          · rename_i p hh; exact ⟨p, hh, e8⟩
        refine X_cons ?_; refine EX.mono (Q := fun fl η2 σ3 => fl = .next ∧ η2 "row" = some (.lst a) ∧ η2 "switched" = some (.lst b) ∧ η2 "met" = some (.lst c) ∧ η2 "place" = some (.int (p : Nat)) ∧ σ3 c = some (nats (mt ++ [pair])) ∧ (∀ x ds, σ x = some ds → σ3 x = some ds)) ?_ ?_
        · refine X_if ?_; refine T_cmp ?_; refine nm (d := .int pair) ?_; refine E_name rfl e2 ?_; refine C_lin (ns := toInts sw) g2 ?_; refine ⟨_, rfl, ?_⟩
          rw [toInts_mem]
          by_cases hs : pair ∈ sw
          · rw [if_pos (by simpa using hs)]
            rw [if_pos hs] at hp2
            refine X_cons ?_; refine X_assign rfl ?_; refine E_sub ?_; refine E_comp rfl ?_; refine ITR_range rfl fx.m_range fx.b_range rfl ?_; refine S_cons ?_; refine E_call rfl fx.m_len fx.b_len rfl ?_; refine S_cons ?_; refine E_name rfl e1 ?_; refine S_nil ?_; refine B_lenL g1 rl ?_; refine S_nil ?_; refine ⟨((nats row).length : Nat), rfl, by (first | lia | omega), by rw [nats_len]; (first | lia | omega), by rw [ups_length]; (first | lia | omega), fun env' own' => ?_⟩
            refine CLOOP.fm (List.range row.length) (fun o : Nat => D.int o) (fun o => if (decide (row[o]? = some pair) && decide (o ≠ place)) = true then some (.int (o : Nat)) else none) (fun η2 σ3 => η2 "row" = some (.lst a) ∧ η2 "pair" = some (.int pair) ∧ η2 "place" = some (.int place) ∧ σ3 = σ2) (by rw [Int.toNat_natCast, nats_len, ups_nats, nats_map]) ⟨e1, rfl, e4, rfl⟩ ?_ ?_
            · rintro o η2 σ3 ho ⟨q1, q2, q3, rfl⟩
              have ho : o < row.length := by simpa using ho
              refine ⟨trivial, AS_name ?_⟩
              refine ETS_one ?_; refine T_and ?_; refine T_cmp ?_; refine E_sub ?_; refine E_name rfl q1 ?_; refine nm (d := .int o) ?_; refine I_list (d := .int (row[o] : Nat)) rfl g1 (Int.natCast_nonneg _) rl ?_ ?_
              · rw [Int.toNat_natCast]; exact nats_get (List.getElem?_eq_getElem ho)
              refine E_name rfl q2 ?_; refine C_eq ?_; refine ⟨_, rfl, ?_⟩
              have hdec : decide ((row[o] : Int) = (pair : Int)) = decide (row[o]? = some pair) := by
                rw [List.getElem?_eq_getElem ho, dec_nat]
                exact decide_eq_decide.mpr ⟨fun h => by rw [h], fun h => by injection h⟩
              rw [hdec]
              by_cases hq : row[o]? = some pair
              · rw [decide_eq_true hq, if_pos rfl]
                refine T_cmp ?_; refine nm (d := .int o) ?_; refine E_name rfl q3 ?_; refine C_ne ?_; refine ⟨_, rfl, ?_⟩
                rw [dec_ne]
                by_cases hr : o = place
                · rw [decide_eq_false (by simp [hr])]
                  exact ⟨by simp [hr], q1, q2, q3, rfl⟩
                · rw [decide_eq_true hr]
                  exact nm (d := .int o) ⟨by simp [hr, hq], q1, q2, q3, rfl⟩
              · rw [decide_eq_false hq]
                exact ⟨by simp [hq], q1, q2, q3, rfl⟩
            · rintro η2 σ3 ⟨q1, q2, q3, rfl⟩
              refine ⟨trivial, fun z hz => ?_⟩
              rw [filterMap_guard]
              refine E_int ?_; refine I_list (d := .int p) rfl put_at (Int.natCast_nonneg _) ?_ ?_ ?_
              · rw [nats_len]
                have := List.length_filter_le (fun o => decide (row[o]? = some pair) && decide (o ≠ place)) (List.range row.length)
                rw [List.length_range] at this; (first | lia | omega)
              · exact nats_get hp2
              refine X_nil ?_
              exact ⟨rfl, e1, e2, e3, rfl, put_sub hz _ _ g3, fun x ds hx => put_sub hz _ _ (g4 x ds hx)⟩
          · rw [if_neg (by simpa using hs)]
            rw [if_neg hs] at hp2
            cases hp2
            exact X_nil ⟨rfl, e1, e2, e3, e4, g3, g4⟩
        · rintro fl η2 σ3 ⟨rfl, q1, q2, q3, q4, q5, q6⟩
          have hpos : 0 < row.length := by
            have := (List.getElem?_eq_some_iff.mp hp).1
            (first | lia | omega)
          refine X_cons ?_; refine X_assign rfl ?_; refine E_bin ?_; refine E_bin ?_; refine E_name rfl q4 ?_; refine E_int ?_; refine O_add ?_; refine E_call rfl fx.m_len fx.b_len rfl ?_; refine S_cons ?_; refine E_name rfl q1 ?_; refine S_nil ?_; refine B_lenL (q6 _ _ ha) rl ?_; refine O_mod (by rw [nats_len]; (first | lia | omega)) ?_
          have hmod : ((p : Int) + 1).fmod ((nats row).length : Nat) = (((p + 1) % row.length : Nat) : Int) := by
            rw [nats_len]; exact fmod_nat (p + 1) row.length
          rw [hmod]
          refine X_cons ?_; refine X_if ?_; refine T_cmp ?_; refine nm (d := .int ((p + 1) % row.length : Nat)) ?_; refine E_int ?_; refine C_eq ?_; refine ⟨_, rfl, ?_⟩
          by_cases h0 : (p + 1) % row.length = 0
          · rw [dec_nat0, decide_eq_true h0, if_pos rfl]
            rw [if_pos h0] at e8
            cases e8
            refine X_cons ?_; refine X_return ?_; refine E_name rfl q3 ?_
            refine hQ _ _ _ ?_
            refine ⟨σ.put c (nats (mt ++ [pair])), ?_, h c hc⟩
            intro x ds hx
            unfold Store.put at hx
            split at hx
            · rename_i q; cases hx; subst q; exact q5
            · exact q6 x ds hx
          · rw [dec_nat0, decide_eq_false h0, if_neg Bool.false_ne_true]
            rw [if_neg h0] at e8
            refine X_nil ?_; refine X_nil ?_
            refine hQ _ _ _ ?_
            exact ⟨j, by (first | lia | omega), (hJ1 _ _ _).mpr ⟨(p + 1) % row.length, mt ++ [pair], q1, q2, q3, rfl, q5, q6, by simp; (first | lia | omega), e8⟩⟩

set_option maxHeartbeats 4000000 in
theorem fn_parts (fx : Facts X) {a b : Addr} {met : List Nat} {signs : List (List Nat)} (ha : σ a = some (nats met)) (hb : σ b = some (strsD signs)) (hl : met.length ≤ 1000) (hs : signs.length ≤ 1000) (hlt : ∀ p ∈ met, p < signs.length) (hsz : ∀ w ∈ signs, w.length ≤ 100)
    (h : ∀ c, σ c = none → Q (.lst c) (σ.put c (partsD (partsOf met signs)))) : FN X 1 "_law_parts" [.lst a, .lst b] σ Q := by
  have hbig := line_big
  refine FN_intro (d := d_law_parts) (fx.fn _ (by simp [allDefs])) ok_law_parts rfl (BODY.forget ⟨fun env own => ?_⟩)
  have hml : (nats met).length ≤ sizeLine := by rw [nats_len]; (first | lia | omega)
  refine X_cons ?_; refine X_return ?_; refine E_comp rfl ?_; refine ITR_enum rfl fx.m_enum fx.b_enum rfl ?_; refine S_cons ?_; refine nm (d := .lst a) ?_; refine S_nil ?_; refine ⟨a, _, rfl, ha, by rw [numberedD_length, nats_len]; (first | lia | omega), fun env' own' => ?_⟩
  refine CLOOP.fm met.zipIdx (fun x => D.tup [.int (x.2 : Nat), .int (x.1 : Nat)]) (fun x => some (D.tup [.str (S (if x.1 ∈ met.take x.2 then [41] else 40 :: signs.getD x.1 [])), .int (x.1 : Nat)])) (fun η σ' => η "met" = some (.lst a) ∧ η "signs" = some (.lst b) ∧ ∀ x ds, σ x = some ds → σ' x = some ds) (numbered_nats met) ⟨rfl, rfl, fun _ _ e => e⟩ ?_ ?_
  · rintro ⟨pair, place⟩ η σ' hx ⟨q1, q2, q3⟩
    have hg := mem_zipIdx_get hx
    have hpm : pair ∈ met := List.mem_of_getElem? hg
    have hps := hlt pair hpm
    refine ⟨q3 _ _ ha, AS_tup ["place", "pair"] ?_⟩
    refine ETS_nil ?_
    rw [if_pos rfl]
    refine E_tuple ?_; refine S_cons ?_; refine E_ifexp ?_; refine T_cmp ?_; refine nm (d := .int pair) ?_; refine E_slice ?_; refine E_name rfl q1 ?_; refine nm (d := .int place) ?_; refine ⟨_, rfl, ?_⟩; refine L_slice .none (.some (by (first | lia | omega))) (q3 _ _ ha) hml (fun z hz => ?_)
    rw [cut_nats, cut_take]
    refine C_lin (ns := toInts (met.take place)) put_at ?_; refine ⟨_, rfl, ?_⟩
    rw [toInts_mem]
    dsimp only
    by_cases hin : pair ∈ met.take place
    · rw [if_pos (by simpa using hin), if_pos hin]
      refine E_str ?_; refine S_cons ?_; refine nm (d := .int pair) ?_; refine S_nil ?_
      exact ⟨by simp; (first | lia | omega), rfl, q1, q2, fun x ds hx => put_sub hz _ _ (q3 x ds hx)⟩
    · rw [if_neg (by simpa using hin), if_neg hin]
      have hw : signs[pair]? = some signs[pair] := List.getElem?_eq_getElem hps
      have hwl := hsz _ (List.getElem_mem hps)
      refine E_bin ?_; refine E_str ?_; refine E_sub ?_; refine E_name rfl q2 ?_; refine nm (d := .int pair) ?_; refine I_list (d := .str (S signs[pair])) rfl (put_sub hz _ _ (q3 _ _ hb)) (Int.natCast_nonneg _) (by simp; (first | lia | omega)) ?_ ?_
      · rw [Int.toNat_natCast, List.getElem?_map, hw]; rfl
      refine O_sadd (a := [40]) (by simp; (first | lia | omega)) ?_; refine S_cons ?_; refine nm (d := .int pair) ?_; refine S_nil ?_
      refine ⟨by simp; (first | lia | omega), ?_, q1, q2, fun x ds hx => put_sub hz _ _ (q3 x ds hx)⟩
      rw [List.getD_eq_getElem?_getD, hw]
      rfl
  · rintro η σ' ⟨q1, q2, q3⟩
    refine ⟨q3 _ _ ha, fun c hc => ?_⟩
    have hc0 : σ c = none := by
      cases q : σ c with
      | none => rfl
      | some ds => rw [q3 c ds q] at hc; cases hc
    refine ⟨_, ?_, h c hc0⟩
    intro x ds hx
    unfold Store.put at hx ⊢
    split at hx
    · rename_i q; cases hx; subst q
      rw [if_pos rfl, filterMap_some_eq]
      simp [partsOf]
    · rename_i q; rw [if_neg q]; exact q3 x ds hx

set_option maxHeartbeats 4000000 in
theorem fn_text (fx : Facts X) {a b : Addr} {ps : List (List Nat × Nat)} {sides : List Nat} (ha : σ a = some (partsD ps)) (hb : σ b = some (nats sides)) (hl : ps.length ≤ 100) (hsl : sides.length ≤ 1000) (hlt : ∀ p ∈ ps, p.2 < sides.length) (hs1 : ∀ s ∈ sides, s ≤ 1) (hsz : ∀ p ∈ ps, p.1.length ≤ 101)
    (h : Q (.str (S (textOf ps sides))) σ) : FN X 1 "_law_text" [.lst a, .lst b] σ Q := by
  have hbig := line_big
  refine FN_intro (d := d_law_text) (fx.fn _ (by simp [allDefs])) ok_law_text rfl (BODY.forget ⟨fun env own => ?_⟩)
  have hlen : (textOf ps sides).length ≤ 20000 := by
    have := textGo_len 101 sides ps 0 hs1 (by (first | lia | omega)) hsz
    unfold textOf; (first | lia | omega)
  have rl : (nats sides).length ≤ sizeLine := by rw [nats_len]; (first | lia | omega)
  refine X_cons ?_; refine X_assignTT (xs := ["text", "hidden"]) ?x2h0 ?x2a1 ?x2h1 ?x2b1 ?x2c1 ?x2d1; (case x2h0 => rfl); (case x2d1 => rfl); (case x2h1 => decide +kernel); (case x2a1 => rfl); (case x2b1 => decide +kernel); refine E_tuple ?_; refine S_cons ?_; refine E_str ?_; refine S_cons ?_; refine E_int ?_; refine S_nil ?_; refine ⟨by simp; (first | lia | omega), _, rfl, rfl, ?_⟩
  refine X_cons ?_; refine X_for ?_; refine ITR_list ?_; refine nm (d := .lst a) ?_; refine ⟨a, _, rfl, ha, ?_⟩
  refine LOOP.inv (fun i η σ' => ∃ (acc : List Nat) (hd : Nat), η "sides" = some (.lst b) ∧ η "text" = some (.str (S acc)) ∧ η "hidden" = some (.int (hd : Nat)) ∧ hd ≤ 1 ∧ σ' = σ ∧ acc ++ textGo sides (ps.drop i) hd = textOf ps sides) ?_ ?_ ?_
  · exact ⟨[], 0, rfl, rfl, rfl, by (first | lia | omega), rfl, rfl⟩
  · rintro i d η σ' hd ⟨acc, hh, e1, e2, e3, e4, rfl, e6⟩
    rw [List.getElem?_map] at hd
    obtain ⟨⟨br, p⟩, hg, rfl⟩ := Option.map_eq_some_iff.mp hd
    have hi : i < ps.length := (List.getElem?_eq_some_iff.mp hg).1
    have hdrop : ps.drop i = (br, p) :: ps.drop (i + 1) := by rw [List.drop_eq_getElem_cons hi]; congr 1; rw [List.getElem?_eq_getElem hi] at hg; exact Option.some.inj hg
    have hp : p < sides.length := hlt _ (List.mem_of_getElem? hg)
    have hgs : sides[p]? = some sides[p] := List.getElem?_eq_getElem hp
    have hsp : sides.getD p 0 = sides[p] := by rw [List.getD_eq_getElem?_getD, hgs]; rfl
    have hs1p : sides[p] ≤ 1 := hs1 _ (List.getElem_mem hp)
    rw [hdrop] at e6
    unfold textGo at e6
    rw [hsp] at e6
    have hal : acc.length + (if sides[p] = hh then ([] : List Nat) else [34]).length + br.length ≤ 20000 := by
      rw [← e6] at hlen
      simp only [List.length_append] at hlen
      (first | lia | omega)
    refine ⟨ha, AS_tup ["bracket", "pair"] ?_⟩
    refine X_cons ?_; refine EX.mono (Q := fun fl η2 σ3 => fl = .next ∧ η2 "sides" = some (.lst b) ∧ η2 "bracket" = some (.str (S br)) ∧ η2 "text" = some (.str (S (acc ++ if sides[p] = hh then [] else [34]))) ∧ η2 "hidden" = some (.int (sides[p] : Nat)) ∧ σ3 = σ') ?_ ?_
    · refine X_if ?_; refine T_cmp ?_; refine E_sub ?_; refine E_name rfl e1 ?_; refine nm (d := .int p) ?_; refine I_list (d := .int (sides[p] : Nat)) rfl hb (Int.natCast_nonneg _) rl ?_ ?_
      · rw [Int.toNat_natCast]; exact nats_get hgs
      refine E_name rfl e3 ?_; refine C_ne ?_; refine ⟨_, rfl, ?_⟩
      have hne : ((sides[p] : Int) ≠ (hh : Int)) = (sides[p] ≠ hh) := propext ⟨fun h q => h (by rw [q]), fun h q => h (Int.ofNat.inj q)⟩
      by_cases hq : sides[p] = hh
      · rw [if_neg (by simp [hq])]
        exact X_nil ⟨rfl, e1, rfl, by rw [if_pos hq, List.append_nil]; exact e2, by rw [hq]; exact e3, rfl⟩
      · rw [if_pos (by simp [hne, hq])]
        rw [if_neg hq] at hal
        refine X_cons ?_; refine X_aug rfl rfl e2 ?_; refine E_str ?_; refine O_isadd (b := [34]) (by simp at hal ⊢; (first | lia | omega)) ?_
        refine X_cons ?_; refine X_assign rfl ?_; refine E_sub ?_; refine E_name rfl e1 ?_; refine nm (d := .int p) ?_; refine I_list (d := .int (sides[p] : Nat)) rfl hb (Int.natCast_nonneg _) rl ?_ ?_
        · rw [Int.toNat_natCast]; exact nats_get hgs
        exact X_nil ⟨rfl, e1, rfl, by rw [if_neg hq]; rfl, rfl, rfl⟩
    · rintro fl η2 σ3 ⟨rfl, q1, q2, q3, q4, rfl⟩
      refine X_cons ?_; refine X_aug rfl rfl q3 ?_; refine E_name rfl q2 ?_; refine O_isadd (by simp at hal ⊢; (first | lia | omega)) ?_; refine X_nil ?_
      exact ⟨_, sides[p], q1, rfl, q4, hs1p, rfl, by rw [← e6]; simp⟩
  · rintro η σ' ⟨acc, hh, e1, e2, e3, e4, rfl, e6⟩
    rw [List.length_map, List.drop_length] at e6
    unfold textGo at e6
    have hal : acc.length ≤ 20000 := by
      rw [← e6] at hlen
      simp only [List.length_append] at hlen
      (first | lia | omega)
    refine ⟨ha, ?_⟩
    refine X_cons ?_; refine X_return ?_; refine E_bin ?_; refine E_name rfl e2 ?_; refine E_bin ?_; refine E_str ?_; refine E_name rfl e3 ?_; refine O_smul (c := 34) (by (first | lia | omega)) (by (first | lia | omega)) ?_; refine O_sadd (by simp; (first | lia | omega)) ?_
    rw [Int.toNat_natCast, e6]
    exact ⟨σ', fun _ _ e => e, h⟩
end
end Mine

namespace Mine
open PySem PySem.W PyProof.Rows

theorem ok_law_read : DefOk d_law_read 1 where
  bind := fun pm cd doc vs h => by obtain ⟨a, rfl⟩ := len1 h; rfl
  len := rfl
  nodup := by decide
  kind := rfl
  co := rfl
  gen := rfl
  args := rfl
  nofree := rfl

theorem tt_nonneg {x : Str} {v : Int} (h : TT.lookup x = some v) : 0 ≤ v := by
  have a : TT.all (fun p => decide (0 ≤ p.2)) = true := by decide +kernel
  have := List.all_eq_true.mp a _ (lookup_mem h)
  exact of_decide_eq_true this
theorem width_max {rest : List Nat} {w : Nat} (h : widthOf TT rest = some w) : w ∈ [1, 2, 3].filter (fun k => tabHas TT (S (rest.take k))) ∧ ∀ x ∈ [1, 2, 3].filter (fun k => tabHas TT (S (rest.take k))), x ≤ w := by
  unfold widthOf at h
  simp only [List.mem_filter]
  split at h
  · rename_i q; cases h; exact ⟨⟨by simp, q⟩, fun x hx => by have := hx.1; simp at this; (first | lia | omega)⟩
  · rename_i q3
    split at h
    · rename_i q; cases h
      refine ⟨⟨by simp, q⟩, fun x hx => ?_⟩
      have := hx.1; simp at this
      rcases this with rfl | rfl | rfl
      · (first | lia | omega)
      · (first | lia | omega)
      · exact absurd hx.2 q3
    · rename_i q2
      split at h
      · rename_i q; cases h
        refine ⟨⟨by simp, q⟩, fun x hx => ?_⟩
        have := hx.1; simp at this
        rcases this with rfl | rfl | rfl
        · (first | lia | omega)
        · exact absurd hx.2 q2
        · exact absurd hx.2 q3
      · cases h

section
variable {X : Ctx} {n m : Nat} {F : Fm} {η η' : Names} {σ σ₁ : Store} {Q : D → Store → Prop}
set_option maxHeartbeats 4000000 in
theorem fn_read (fx : Facts X) {text syms : List Nat} {k : Nat} {fin : RS} (hl : text.length ≤ 1000) (hk : k ≤ 1000) (hs : symGo TT k text 0 = some syms) (hsl : syms.length ≤ 1000) (hr : readGo (syms ++ [0]) ⟨[], [], [], [], []⟩ = some fin)
    (h : ∀ x y z σ', σ' x = some (nats fin.row) → σ' y = some (nats fin.sides) → σ' z = some (nats fin.numbers) → (∀ a ds, σ a = some ds → σ' a = some ds) → Q (.tup [.lst x, .lst y, .lst z]) σ') : FN X 2 "_law_read" [.str (S text)] σ Q := by
  have hbig := line_big
  refine FN_intro (d := d_law_read) (fx.fn _ (by simp [allDefs])) ok_law_read rfl ⟨fun env own => ?_⟩
  refine X_cons ?_; refine X_assignTT (xs := ["symbols", "hidden", "place"]) ?x1h0 ?x1a1 ?x1h1 ?x1b1 ?x1c1 ?x1d1; (case x1h0 => rfl); (case x1d1 => rfl); (case x1h1 => decide +kernel); (case x1a1 => rfl); (case x1b1 => decide +kernel); refine E_tuple ?_; refine S_cons ?_; refine E_list ?_; refine S_nil ?_; refine ⟨by simp, fun a ha => ?_⟩; refine S_cons ?_; refine E_int ?_; refine S_cons ?_; refine E_int ?_; refine S_nil ?_; refine ⟨by simp; (first | lia | omega), _, rfl, rfl, ?_⟩
  obtain ⟨J1, hJ1⟩ : ∃ J : Nat → Names → Store → Prop, ∀ j η σ', J j η σ' ↔ (∃ (place hd : Nat) (ss rr : List Nat), C9 (η "text" = some (.str (S text))) (η "symbols" = some (.lst a)) (η "hidden" = some (.int (hd : Nat))) (η "place" = some (.int (place : Nat))) (hd ≤ 256) (σ' a = some (nats ss)) ((∀ x ds, σ x = some ds → σ' x = some ds)) (symGo TT j (text.drop place) hd = some rr) (ss ++ rr = syms)) := ⟨_, fun _ _ _ => Iff.rfl⟩
  refine X_cons ?_; refine X_while J1 k ?_ ?_
  · exact (hJ1 _ _ _).mpr ⟨0, 0, [], syms, rfl, rfl, rfl, rfl, by (first | lia | omega), put_at, put_sub ha, hs, rfl⟩
  · rintro j η σ' hj
    obtain ⟨place, hd, ss, rr, e1, e2, e3, e4, e5, e6, e7, e8, e9⟩ := (hJ1 _ _ _).mp hj
    refine T_cmp ?_; refine E_name rfl e4 ?_; refine E_call rfl fx.m_len fx.b_len rfl ?_; refine S_cons ?_; refine E_name rfl e1 ?_; refine S_nil ?_; refine B_lenS (by (first | lia | omega)) ?_; refine C_lt ?_; refine ⟨_, rfl, ?_⟩
    rw [dec_lt]
    by_cases hp : place < text.length
    · rw [decide_eq_true hp, if_pos rfl]
      refine EXS.lock fun Q' hQ => ?_
      have hg : text[place]? = some text[place] := List.getElem?_eq_getElem hp
      have hdrop : text.drop place = text[place] :: text.drop (place + 1) := List.drop_eq_getElem_cons hp
      cases j with
      | zero => rw [hdrop] at e8; cases e8
      | succ j =>
        rw [hdrop] at e8
        unfold symGo at e8
        refine X_cons ?_; refine X_if ?_; refine T_cmp ?_; refine E_sub ?_; refine E_name rfl e1 ?_; refine E_name rfl e4 ?_; refine I_str (c := text[place]) rfl (Int.natCast_nonneg _) (by (first | lia | omega)) ?_ ?_
        · rw [Int.toNat_natCast]; exact hg
        refine E_str ?_; refine C_seq (a := [text[place]]) (b := [34]) ?_; refine ⟨_, rfl, ?_⟩
        by_cases hq : text[place] = 34
        · rw [if_pos hq] at e8
          rw [if_pos (by simp [hq])]
          refine X_cons ?_; refine X_assign rfl ?_; refine E_bin ?_; refine E_int ?_; refine E_name rfl e3 ?_; refine O_sub ?_; refine X_cons ?_; refine X_aug rfl rfl e4 ?_; refine E_int ?_; refine O_iadd ?_; refine X_nil ?_; refine X_nil ?_
          have h1 : (256 : Int) - (hd : Int) = ((256 - hd : Nat) : Int) := by (first | lia | omega)
          refine hQ _ _ _ ?_
          exact ⟨j, by (first | lia | omega), (hJ1 _ _ _).mpr ⟨place + 1, 256 - hd, ss, rr, e1, e2, by rw [h1]; rfl, rfl, by (first | lia | omega), e6, e7, e8, e9⟩⟩
        · rw [if_neg hq] at e8
          rw [if_neg (by simp [hq])]
          rw [← hdrop] at e8
          cases hw : widthOf TT (text.drop place) with
          | none => rw [hw] at e8; cases e8
          | some w =>
            rw [hw] at e8
            dsimp only at e8
            cases hv : TT.lookup (S ((text.drop place).take w)) with
            | none => rw [hv] at e8; cases e8
            | some v =>
              rw [hv] at e8
              dsimp only at e8
              have hv0 := tt_nonneg hv
              obtain ⟨m1, m2⟩ := width_max hw
              cases hs2 : symGo TT j ((text.drop place).drop w) hd with
              | none => rw [hs2] at e8; cases e8
              | some r2 =>
                rw [hs2] at e8
                have e8 : (v.toNat + hd) :: r2 = rr := by injection e8
                subst e8
                rw [List.drop_drop] at hs2
                refine X_cons ?_; refine X_assign rfl ?_; refine E_call rfl fx.m_max fx.b_max rfl ?_; refine S_cons ?_; refine E_comp rfl ?_; refine ITR_tuple ?_; refine E_tuple ?_; refine S_cons ?_; refine E_int ?_; refine S_cons ?_; refine E_int ?_; refine S_cons ?_; refine E_int ?_; refine S_nil ?_; refine ⟨by simp; (first | lia | omega), _, rfl, by simp; (first | lia | omega), fun env' own' => ?_⟩
                refine CLOOP.fm [1, 2, 3] (fun k : Nat => D.int k) (fun k => if (fun k => tabHas TT (S ((text.drop place).take k))) k = true then some (D.int (k : Nat)) else none) (fun η2 σ2 => η2 "text" = some (.str (S text)) ∧ η2 "place" = some (.int (place : Nat)) ∧ σ2 = σ') rfl ⟨e1, e4, rfl⟩ ?_ ?_
                · rintro x η2 σ2 hx ⟨q1, q2, rfl⟩
                  refine ⟨trivial, AS_name ?_⟩
                  refine ETS_one ?_; refine E_tabin fx.tab rfl ?_; refine E_slice ?_; refine E_name rfl q1 ?_; refine E_name rfl q2 ?_; refine ⟨_, rfl, ?_⟩; refine E_bin ?_; refine E_name rfl q2 ?_; refine nm (d := .int x) ?_; refine O_add ?_; refine ⟨_, rfl, ?_⟩; refine L_sliceStr (.some (by (first | lia | omega))) (.some (by (first | lia | omega))) (by (first | lia | omega)) ?_
                  rw [cut_str]
                  refine ⟨_, rfl, ?_⟩
                  dsimp only
                  by_cases hb : tabHas TT (S ((text.drop place).take x)) = true
                  · rw [if_pos hb]
                    exact nm (d := .int x) ⟨by rw [if_pos hb], q1, q2, rfl⟩
                  · rw [if_neg hb]
                    exact ⟨by rw [if_neg hb], q1, q2, rfl⟩
                · rintro η2 σ2 ⟨q1, q2, rfl⟩
                  refine ⟨trivial, fun z hz => ?_⟩
                  rw [filterMap_guard]
                  refine S_nil ?_; refine B_max (ns := toInts ([1, 2, 3].filter fun k => tabHas TT (S ((text.drop place).take k)))) (M := (w : Nat)) put_at (List.mem_map.mpr ⟨w, m1, rfl⟩) (fun x hx => ?_) ?_
                  · obtain ⟨y, hy, rfl⟩ := List.mem_map.mp hx
                    exact Int.ofNat_le.mpr (m2 y hy)
                  have g6 : (σ2.put z (nats ([1, 2, 3].filter fun k => tabHas TT (S ((text.drop place).take k))))) a = some (nats ss) := put_sub hz _ _ e6
                  have ssl : (nats ss).length ≤ sizeLine := by rw [nats_len]; have := congrArg List.length e9; simp at this; (first | lia | omega)
                  refine X_cons ?_; refine X_expr ?_; refine slot_append ?_; refine E_name rfl e2 ?_; refine ⟨⟨rfl, by rw [g6]; rfl⟩, ?_⟩; refine S_cons ?_; refine E_bin ?_; refine E_tabget fx.tab rfl rfl ?_; refine E_slice ?_; refine E_name rfl e1 ?_; refine E_name rfl e4 ?_; refine ⟨_, rfl, ?_⟩; refine E_bin ?_; refine E_name rfl e4 ?_; refine nm (d := .int w) ?_; refine O_add ?_; refine ⟨_, rfl, ?_⟩; refine L_sliceStr (.some (by (first | lia | omega))) (.some (by (first | lia | omega))) (by (first | lia | omega)) ?_
                  rw [cut_str]
                  refine ⟨_, v, rfl, hv, ?_⟩; refine E_name rfl e3 ?_; refine O_add ?_; refine S_nil ?_; refine M_append g6 ssl ?_; refine ⟨trivial, ?_⟩
                  refine X_cons ?_; refine X_aug rfl rfl e4 ?_; refine nm (d := .int w) ?_; refine O_iadd ?_; refine X_nil ?_; refine X_nil ?_
                  have hvn : v + (hd : Int) = ((v.toNat + hd : Nat) : Int) := by (first | lia | omega)
                  refine hQ _ _ _ ?_
                  refine ⟨j, by (first | lia | omega), (hJ1 _ _ _).mpr ⟨place + w, hd, ss ++ [v.toNat + hd], r2, e1, e2, e3, rfl, e5, ?_, ?_, hs2, by simpa using e9⟩⟩
                  · rw [put_at, hvn]; simp
                  · intro x ds hx
                    have hxa : x ≠ a := fun q => by subst q; rw [ha] at hx; cases hx
                    rw [put_ne hxa]
                    exact put_sub hz _ _ (e7 x ds hx)
    · rw [decide_eq_false hp, if_neg Bool.false_ne_true]
      rw [List.drop_eq_nil_of_le (by (first | lia | omega))] at e8
      have e8 : rr = [] := by cases j <;> (unfold symGo at e8; injection e8 with e8; exact e8.symm)
      subst e8
      rw [List.append_nil] at e9
      subst e9
      have ssl : (nats ss).length ≤ sizeLine := by rw [nats_len]; (first | lia | omega)
      refine X_cons ?_; refine X_expr ?_; refine slot_append ?_; refine E_name rfl e2 ?_; refine ⟨⟨rfl, by rw [e6]; rfl⟩, ?_⟩; refine S_cons ?_; refine E_int ?_; refine S_nil ?_; refine M_append e6 ssl ?_; refine ⟨trivial, ?_⟩
      have g1 : (σ'.put a (nats ss ++ [D.int 0])) a = some (nats (ss ++ [0])) := by rw [put_at, nats_app]; rfl
      have g2 : ∀ x ds, σ x = some ds → (σ'.put a (nats ss ++ [D.int 0])) x = some ds := fun x ds hx => by
        rw [put_ne (fun q => by subst q; rw [ha] at hx; cases hx)]; exact e7 x ds hx
      generalize (σ'.put a (nats ss ++ [D.int 0])) = σ1 at g1 g2 ⊢
      refine X_cons ?_; refine X_assignTT (xs := ["row", "sides", "numbers", "piles", "place"]) ?x2h0 ?x2a1 ?x2h1 ?x2b1 ?x2c1 ?x2d1; (case x2h0 => rfl); (case x2d1 => rfl); (case x2h1 => decide +kernel); (case x2a1 => rfl); (case x2b1 => decide +kernel); refine E_tuple ?_; refine S_cons ?_; refine E_list ?_; refine S_nil ?_; refine ⟨by simp, fun b hb => ?_⟩; refine S_cons ?_; refine E_list ?_; refine S_nil ?_; refine ⟨by simp, fun c hc => ?_⟩; refine S_cons ?_; refine E_list ?_; refine S_nil ?_; refine ⟨by simp, fun d hd => ?_⟩
      refine S_cons ?_; refine E_list ?_; refine S_cons ?_; refine E_list ?_; refine S_nil ?_; refine ⟨by simp, fun p hp => ?_⟩
      refine S_cons ?_; refine E_list ?_; refine S_nil ?_; refine ⟨by simp, fun q hq => ?_⟩; refine S_nil ?_; refine ⟨by simp; (first | lia | omega), fun e he => ?_⟩; refine S_cons ?_; refine E_int ?_; refine S_nil ?_; refine ⟨by simp; (first | lia | omega), _, rfl, rfl, ?_⟩
      have n_b_a : b ≠ a := ne_of_none hb g1
      have k_b_a : (σ1.put b []) a = some (nats (ss ++ [0])) := put_sub hb _ _ g1
      have k_b_b : (σ1.put b []) b = some [] := put_at
      have n_c_a : c ≠ a := ne_of_none hc k_b_a
      have n_c_b : c ≠ b := ne_of_none hc k_b_b
      have k_c_a : ((σ1.put b []).put c []) a = some (nats (ss ++ [0])) := put_sub hc _ _ k_b_a
      have k_c_b : ((σ1.put b []).put c []) b = some [] := put_sub hc _ _ k_b_b
      have k_c_c : ((σ1.put b []).put c []) c = some [] := put_at
      have n_d_a : d ≠ a := ne_of_none hd k_c_a
      have n_d_b : d ≠ b := ne_of_none hd k_c_b
      have n_d_c : d ≠ c := ne_of_none hd k_c_c
      have k_d_a : (((σ1.put b []).put c []).put d []) a = some (nats (ss ++ [0])) := put_sub hd _ _ k_c_a
      have k_d_b : (((σ1.put b []).put c []).put d []) b = some [] := put_sub hd _ _ k_c_b
      have k_d_c : (((σ1.put b []).put c []).put d []) c = some [] := put_sub hd _ _ k_c_c
      have k_d_d : (((σ1.put b []).put c []).put d []) d = some [] := put_at
      have n_p_a : p ≠ a := ne_of_none hp k_d_a
      have n_p_b : p ≠ b := ne_of_none hp k_d_b
      have n_p_c : p ≠ c := ne_of_none hp k_d_c
      have n_p_d : p ≠ d := ne_of_none hp k_d_d
      have k_p_a : ((((σ1.put b []).put c []).put d []).put p []) a = some (nats (ss ++ [0])) := put_sub hp _ _ k_d_a
      have k_p_b : ((((σ1.put b []).put c []).put d []).put p []) b = some [] := put_sub hp _ _ k_d_b
      have k_p_c : ((((σ1.put b []).put c []).put d []).put p []) c = some [] := put_sub hp _ _ k_d_c
      have k_p_d : ((((σ1.put b []).put c []).put d []).put p []) d = some [] := put_sub hp _ _ k_d_d
      have k_p_p : ((((σ1.put b []).put c []).put d []).put p []) p = some [] := put_at
      have n_q_a : q ≠ a := ne_of_none hq k_p_a
      have n_q_b : q ≠ b := ne_of_none hq k_p_b
      have n_q_c : q ≠ c := ne_of_none hq k_p_c
      have n_q_d : q ≠ d := ne_of_none hq k_p_d
      have n_q_p : q ≠ p := ne_of_none hq k_p_p
      have k_q_a : (((((σ1.put b []).put c []).put d []).put p []).put q []) a = some (nats (ss ++ [0])) := put_sub hq _ _ k_p_a
      have k_q_b : (((((σ1.put b []).put c []).put d []).put p []).put q []) b = some [] := put_sub hq _ _ k_p_b
      have k_q_c : (((((σ1.put b []).put c []).put d []).put p []).put q []) c = some [] := put_sub hq _ _ k_p_c
      have k_q_d : (((((σ1.put b []).put c []).put d []).put p []).put q []) d = some [] := put_sub hq _ _ k_p_d
      have k_q_p : (((((σ1.put b []).put c []).put d []).put p []).put q []) p = some [] := put_sub hq _ _ k_p_p
      have k_q_q : (((((σ1.put b []).put c []).put d []).put p []).put q []) q = some [] := put_at
      have n_e_a : e ≠ a := ne_of_none he k_q_a
      have n_e_b : e ≠ b := ne_of_none he k_q_b
      have n_e_c : e ≠ c := ne_of_none he k_q_c
      have n_e_d : e ≠ d := ne_of_none he k_q_d
      have n_e_p : e ≠ p := ne_of_none he k_q_p
      have n_e_q : e ≠ q := ne_of_none he k_q_q
      have k_e_a : ((((((σ1.put b []).put c []).put d []).put p []).put q []).put e [.lst p, .lst q]) a = some (nats (ss ++ [0])) := put_sub he _ _ k_q_a
      have k_e_b : ((((((σ1.put b []).put c []).put d []).put p []).put q []).put e [.lst p, .lst q]) b = some [] := put_sub he _ _ k_q_b
      have k_e_c : ((((((σ1.put b []).put c []).put d []).put p []).put q []).put e [.lst p, .lst q]) c = some [] := put_sub he _ _ k_q_c
      have k_e_d : ((((((σ1.put b []).put c []).put d []).put p []).put q []).put e [.lst p, .lst q]) d = some [] := put_sub he _ _ k_q_d
      have k_e_p : ((((((σ1.put b []).put c []).put d []).put p []).put q []).put e [.lst p, .lst q]) p = some [] := put_sub he _ _ k_q_p
      have k_e_q : ((((((σ1.put b []).put c []).put d []).put p []).put q []).put e [.lst p, .lst q]) q = some [] := put_sub he _ _ k_q_q
      have k_e_e : ((((((σ1.put b []).put c []).put d []).put p []).put q []).put e [.lst p, .lst q]) e = some [.lst p, .lst q] := put_at
      have g3 : ∀ x ds, σ x = some ds → ((((((σ1.put b []).put c []).put d []).put p []).put q []).put e [.lst p, .lst q]) x = some ds := fun x ds hx => put_sub he _ _ (put_sub hq _ _ (put_sub hp _ _ (put_sub hd _ _ (put_sub hc _ _ (put_sub hb _ _ (g2 x ds hx))))))
      generalize ((((((σ1.put b []).put c []).put d []).put p []).put q []).put e [.lst p, .lst q]) = σ2 at k_e_a k_e_b k_e_c k_e_d k_e_p k_e_q k_e_e g3 ⊢
      have keep : ∀ (σ4 σ5 : Store), (∀ x ds, σ x = some ds → σ4 x = some ds) → (∀ x, x ≠ b → x ≠ c → x ≠ d → x ≠ p → x ≠ q → σ5 x = σ4 x) → ∀ x ds, σ x = some ds → σ5 x = some ds := fun σ4 σ5 h4 h5 x ds hx => by
        have o1 := g2 x ds hx
        have o2 := put_sub hb (ds := []) _ _ o1
        have o3 := put_sub hc (ds := []) _ _ o2
        have o4 := put_sub hd (ds := []) _ _ o3
        have o5 := put_sub hp (ds := []) _ _ o4
        rw [h5 x (ne_of_none hb o1).symm (ne_of_none hc o2).symm (ne_of_none hd o3).symm (ne_of_none hp o4).symm (ne_of_none hq o5).symm]
        exact h4 x ds hx
      have fsl : (nats (ss ++ [0])).length ≤ sizeLine := by rw [nats_len]; simp; (first | lia | omega)
      obtain ⟨J2, hJ2⟩ : ∃ J : Nat → Names → Store → Prop, ∀ j η σ', J j η σ' ↔ (∃ (place : Nat) (s : RS), C17 (η "symbols" = some (.lst a)) (η "row" = some (.lst b)) (η "sides" = some (.lst c)) (η "numbers" = some (.lst d)) (η "piles" = some (.lst e)) (η "place" = some (.int (place : Nat))) (σ' a = some (nats (ss ++ [0]))) (σ' b = some (nats s.row)) (σ' c = some (nats s.sides)) (σ' d = some (nats s.numbers)) (σ' p = some (nats s.p0)) (σ' q = some (nats s.p1)) (σ' e = some [.lst p, .lst q]) ((∀ x ds, σ x = some ds → σ' x = some ds)) (place + j = (ss ++ [0]).length) ((s.row.length ≤ place ∧ s.sides.length ≤ place ∧ s.numbers.length ≤ place ∧ s.p0.length ≤ place ∧ s.p1.length ≤ place)) (readGo ((ss ++ [0]).drop place) s = some fin)) := ⟨_, fun _ _ _ => Iff.rfl⟩
      refine X_cons ?_; refine X_while J2 (ss ++ [0]).length ?_ ?_
      · exact (hJ2 _ _ _).mpr ⟨0, ⟨[], [], [], [], []⟩, e2, rfl, rfl, rfl, rfl, rfl, k_e_a, k_e_b, k_e_c, k_e_d, k_e_p, k_e_q, k_e_e, g3, by simp, by simp, hr⟩
      · rintro j η3 σ3 hj2
        obtain ⟨place, s, q1, q2, q3, q4, q5, q6, f1, f2, f3, f4, f5, f6, f7, f8, f9, ⟨l1, l2, l3, l4, l5⟩, f10⟩ := (hJ2 _ _ _).mp hj2
        have hpl : place < (ss ++ [0]).length := by
          refine Nat.lt_of_not_le fun q => ?_
          rw [List.drop_eq_nil_of_le q] at f10
          cases f10
        have hL : (ss ++ [0]).length ≤ 1001 := by simp; (first | lia | omega)
        obtain ⟨x, hx⟩ : ∃ x, (ss ++ [0])[place]? = some x := ⟨_, List.getElem?_eq_getElem hpl⟩
        have hdrop : (ss ++ [0]).drop place = x :: (ss ++ [0]).drop (place + 1) := by rw [List.drop_eq_getElem_cons hpl]; congr 1; rw [List.getElem?_eq_getElem hpl] at hx; exact Option.some.inj hx
        rw [hdrop] at f10
        unfold readGo at f10
        refine T_not ?_; refine T_plain ?_; refine E_fn (d := d_ISEOF) (fx.fn _ (by simp [allDefs])) rfl rfl rfl ?_; refine S_cons ?_; refine E_sub ?_; refine E_name rfl q1 ?_; refine E_name rfl q6 ?_; refine I_list (d := .int x) rfl f1 (Int.natCast_nonneg _) fsl ?_ ?_
        · rw [Int.toNat_natCast]; exact nats_get hx
        refine S_nil ?_; refine FN.up (fn_ISEOF fx ?_) (by (first | lia | omega)); refine ⟨_, rfl, ?_⟩
        rw [dec_nat0]
        by_cases h0 : x = 0
        · rw [if_pos h0] at f10
          injection f10 with f10
          subst f10
          rw [decide_eq_true h0]
          rw [if_neg (c := (!true) = true) (by decide)]
          refine X_cons ?_; refine X_return ?_; refine E_tuple ?_; refine S_cons ?_; refine E_name rfl q2 ?_; refine S_cons ?_; refine E_name rfl q3 ?_; refine S_cons ?_; refine E_name rfl q4 ?_; refine S_nil ?_; refine ⟨by simp; (first | lia | omega), ?_⟩
          exact h b c d σ3 f2 f3 f4 f8
        · rw [if_neg h0] at f10
          rw [decide_eq_false h0]
          rw [if_pos (c := (!false) = true) (by decide)]
          refine EXS.lock fun Q' hQ => ?_
          refine X_cons ?_; refine X_assign rfl ?_; refine E_sub ?_; refine E_name rfl q1 ?_; refine E_name rfl q6 ?_; refine I_list (d := .int x) rfl f1 (Int.natCast_nonneg _) fsl ?_ ?_
          · rw [Int.toNat_natCast]; exact nats_get hx
          obtain ⟨kk, ww, w, hk0, w1, w2, w3⟩ : ∃ (kk : Int) (ww : Addr) (w : List Nat), 0 ≤ kk ∧ [D.lst p, D.lst q][kk.toNat]? = some (.lst ww) ∧ σ3 ww = some (nats w) ∧ ((256 ≤ x ∧ kk = 1 ∧ ww = q ∧ w = s.p1) ∨ (¬ 256 ≤ x ∧ kk = 0 ∧ ww = p ∧ w = s.p0)) := by
            by_cases hh : 256 ≤ x
            · exact ⟨1, q, s.p1, by decide, rfl, f6, .inl ⟨hh, rfl, rfl, rfl⟩⟩
            · exact ⟨0, p, s.p0, by decide, rfl, f5, .inr ⟨hh, rfl, rfl, rfl⟩⟩
          have hge : decide ((x : Int) ≥ 256) = decide (256 ≤ x) := decide_eq_decide.mpr (by (first | lia | omega))
          have hlt : decide ((x : Int) < 256) = decide (x < 256) := decide_eq_decide.mpr (by (first | lia | omega))
          refine X_cons ?_; refine X_assign rfl ?_; refine E_sub ?_; refine E_name rfl q5 ?_; refine EV.mono (Q := fun dd σ4 => dd = .int kk ∧ σ4 = σ3) ?_ ?_
          · refine E_ifexp ?_; refine T_plain ?_; refine E_fn (d := d_ISNONTERMINAL) (fx.fn _ (by simp [allDefs])) rfl rfl rfl ?_; refine S_cons ?_; refine nm (d := .int x) ?_; refine S_nil ?_; refine FN.up (fn_ISNONTERMINAL fx ?_) (by (first | lia | omega)); refine ⟨_, rfl, ?_⟩
            rw [hge]
            rcases w3 with ⟨u1, rfl, -, -⟩ | ⟨u1, rfl, -, -⟩
            · rw [decide_eq_true u1, if_pos rfl]; exact E_int ⟨rfl, rfl⟩
            · rw [decide_eq_false u1, if_neg Bool.false_ne_true]; exact E_int ⟨rfl, rfl⟩
          rintro _ σ4 ⟨rfl, e4⟩
          rw [e4]
          clear e4 σ4
          refine I_list (d := .lst ww) rfl f7 hk0 (by simp; (first | lia | omega)) w1 ?_
          have hm : (x : Int).fmod 256 = ((x % 256 : Nat) : Int) := fmod_nat x 256
          have d7 : decide (((x % 256 : Nat) : Int) = 7) = decide (x % 256 = 7) := dec_nat _ 7
          have d8 : decide (((x % 256 : Nat) : Int) = 8) = decide (x % 256 = 8) := dec_nat _ 8
          have nwb : ww ≠ b := by rcases w3 with ⟨-, -, rfl, -⟩ | ⟨-, -, rfl, -⟩ <;> assumption
          have nwc : ww ≠ c := by rcases w3 with ⟨-, -, rfl, -⟩ | ⟨-, -, rfl, -⟩ <;> assumption
          have nwd : ww ≠ d := by rcases w3 with ⟨-, -, rfl, -⟩ | ⟨-, -, rfl, -⟩ <;> assumption
          have nwa : ww ≠ a := by rcases w3 with ⟨-, -, rfl, -⟩ | ⟨-, -, rfl, -⟩ <;> assumption
          have new : e ≠ ww := by rcases w3 with ⟨-, -, rfl, -⟩ | ⟨-, -, rfl, -⟩ <;> assumption
          have nqp := n_q_p
          have lw : w.length ≤ place := by rcases w3 with ⟨-, -, -, rfl⟩ | ⟨-, -, -, rfl⟩ <;> assumption
          have wl : (nats w).length ≤ sizeLine := by rw [nats_len]; (first | lia | omega)
          have rl : (nats s.row).length ≤ sizeLine := by rw [nats_len]; (first | lia | omega)
          have sl : (nats s.sides).length ≤ sizeLine := by rw [nats_len]; (first | lia | omega)
          have nl : (nats s.numbers).length ≤ sizeLine := by rw [nats_len]; (first | lia | omega)
          obtain ⟨Q1, hQ1⟩ : ∃ J : Fl → Names → Store → Prop, ∀ fl η4 σ4, J fl η4 σ4 ↔ (C2 (fl = .next) (∃ s', C16 (η4 "symbols" = some (.lst a)) (η4 "row" = some (.lst b)) (η4 "sides" = some (.lst c)) (η4 "numbers" = some (.lst d)) (η4 "piles" = some (.lst e)) (η4 "place" = some (.int (place : Nat))) (σ4 a = some (nats (ss ++ [0]))) (σ4 b = some (nats s'.row)) (σ4 c = some (nats s'.sides)) (σ4 d = some (nats s'.numbers)) (σ4 p = some (nats s'.p0)) (σ4 q = some (nats s'.p1)) (σ4 e = some [.lst p, .lst q]) ((∀ x ds, σ x = some ds → σ4 x = some ds)) ((s'.row.length ≤ place + 1 ∧ s'.sides.length ≤ place + 1 ∧ s'.numbers.length ≤ place + 1 ∧ s'.p0.length ≤ place + 1 ∧ s'.p1.length ≤ place + 1)) (readGo ((ss ++ [0]).drop (place + 1)) s' = some fin))) := ⟨_, fun _ _ _ => Iff.rfl⟩
          refine X_cons ?_; refine EX.mono (Q := Q1) ?_ ?_
          · refine X_if ?_; refine T_cmp ?_; refine E_bin ?_; refine nm (d := .int x) ?_; refine E_int ?_; refine O_mod (by decide) ?_
            rw [hm]
            refine E_int ?_; refine C_eq ?_; refine ⟨_, rfl, ?_⟩
            rw [d7]
            by_cases h7 : x % 256 = 7
            · rw [decide_eq_true h7, if_pos rfl]
              rw [if_pos h7] at f10
              refine X_cons ?_; refine X_expr ?_; refine slot_append ?_; refine nm (d := .lst ww) ?_; refine ⟨⟨rfl, by rw [w2]; rfl⟩, ?_⟩; refine S_cons ?_; refine E_call rfl fx.m_len fx.b_len rfl ?_; refine S_cons ?_; refine E_name rfl q3 ?_; refine S_nil ?_; refine B_lenL f3 sl ?_; refine S_nil ?_; refine M_append w2 wl ?_; refine ⟨trivial, ?_⟩
              have u1 : (σ3.put ww (nats w ++ [D.int (nats s.sides).length])) b = some (nats s.row) := by rw [put_ne (Ne.symm nwb)]; exact f2
              have u2 : (σ3.put ww (nats w ++ [D.int (nats s.sides).length])) c = some (nats s.sides) := by rw [put_ne (Ne.symm nwc)]; exact f3
              refine X_cons ?_; refine X_expr ?_; refine slot_append ?_; refine E_name rfl q2 ?_; refine ⟨⟨rfl, by rw [u1]; rfl⟩, ?_⟩; refine S_cons ?_; refine E_call rfl fx.m_len fx.b_len rfl ?_; refine S_cons ?_; refine E_name rfl q3 ?_; refine S_nil ?_; refine B_lenL u2 sl ?_; refine S_nil ?_; refine M_append u1 rl ?_; refine ⟨trivial, ?_⟩
              have u3 : ((σ3.put ww (nats w ++ [D.int (nats s.sides).length])).put b (nats s.row ++ [D.int (nats s.sides).length])) c = some (nats s.sides) := by rw [put_ne n_c_b]; exact u2
              refine X_cons ?_; refine X_expr ?_; refine slot_append ?_; refine E_name rfl q3 ?_; refine ⟨⟨rfl, by rw [u3]; rfl⟩, ?_⟩; refine S_cons ?_; refine EV.mono (Q := fun dd σ4 => dd = .int (if decide (256 ≤ x) = true then 1 else 0 : Nat) ∧ σ4 = ((σ3.put ww (nats w ++ [D.int (nats s.sides).length])).put b (nats s.row ++ [D.int (nats s.sides).length]))) ?_ ?_
              · refine E_ifexp ?_; refine T_plain ?_; refine E_fn (d := d_ISTERMINAL) (fx.fn _ (by simp [allDefs])) rfl rfl rfl ?_; refine S_cons ?_; refine nm (d := .int x) ?_; refine S_nil ?_; refine FN.up (fn_ISTERMINAL fx ?_) (by (first | lia | omega)); refine ⟨_, rfl, ?_⟩
                rw [hlt]
                by_cases hh : 256 ≤ x
                · rw [decide_eq_false (by (first | lia | omega)), if_neg Bool.false_ne_true]; exact E_int ⟨by simp [hh], rfl⟩
                · rw [decide_eq_true (by (first | lia | omega)), if_pos rfl]; exact E_int ⟨by simp [hh], rfl⟩
              rintro _ σ4 ⟨rfl, e4⟩
              rw [e4]
              clear e4 σ4
              refine S_nil ?_; refine M_append u3 sl ?_; refine ⟨trivial, ?_⟩; refine X_nil ?_
              refine (hQ1 _ _ _).mpr ⟨rfl, s.open_ (decide (256 ≤ x)), q1, q2, q3, q4, q5, q6, ?_, ?_, ?_, ?_, ?_, ?_, ?_, ?_, ?_, f10⟩
              · rw [put_ne (Ne.symm n_c_a), put_ne (Ne.symm n_b_a), put_ne (Ne.symm nwa)]; exact f1
              · rw [put_ne (Ne.symm n_c_b), put_at, nats_len]; simp [RS.open_]
              · rw [put_at]; simp [RS.open_]
              · rw [put_ne n_d_c, put_ne n_d_b, put_ne (Ne.symm nwd)]; exact f4
              · rw [put_ne n_p_c, put_ne n_p_b]
                rcases w3 with ⟨u, -, rfl, rfl⟩ | ⟨u, -, rfl, rfl⟩
                · rw [put_ne (Ne.symm nqp), f5]; simp [RS.open_, u]
                · rw [put_at, nats_len]; simp [RS.open_, u]
              · rw [put_ne n_q_c, put_ne n_q_b]
                rcases w3 with ⟨u, -, rfl, rfl⟩ | ⟨u, -, rfl, rfl⟩
                · rw [put_at, nats_len]; simp [RS.open_, u]
                · rw [put_ne nqp, f6]; simp [RS.open_, u]
              · rw [put_ne n_e_c, put_ne n_e_b, put_ne new]; exact f7
              · refine keep σ3 _ f8 fun x y1 y2 y3 y4 y5 => ?_
                rw [put_ne y2, put_ne y1, put_ne]
                rcases w3 with ⟨-, -, rfl, -⟩ | ⟨-, -, rfl, -⟩ <;> assumption
              · refine ⟨by simp [RS.open_]; (first | lia | omega), by simp [RS.open_]; (first | lia | omega), by simp [RS.open_]; (first | lia | omega), ?_, ?_⟩
                · simp only [RS.open_]; split <;> (try simp) <;> (first | lia | omega)
                · simp only [RS.open_]; split <;> (try simp) <;> (first | lia | omega)
            · rw [decide_eq_false h7, if_neg Bool.false_ne_true]
              rw [if_neg h7] at f10
              refine X_cons ?_; refine X_if ?_; refine T_cmp ?_; refine E_bin ?_; refine nm (d := .int x) ?_; refine E_int ?_; refine O_mod (by decide) ?_
              rw [hm]
              refine E_int ?_; refine C_eq ?_; refine ⟨_, rfl, ?_⟩
              rw [d8]
              by_cases h8 : x % 256 = 8
              · rw [decide_eq_true h8, if_pos rfl]
                rw [if_pos h8] at f10
                have hwe : (if decide (256 ≤ x) = true then s.p1 else s.p0) = w := by
                  rcases w3 with ⟨u, -, -, rfl⟩ | ⟨u, -, -, rfl⟩ <;> simp [u]
                have hcl : s.close_ (decide (256 ≤ x)) = ⟨s.row ++ [w.getLastD 0], s.sides, s.numbers, if decide (256 ≤ x) = true then s.p0 else s.p0.dropLast, if decide (256 ≤ x) = true then s.p1.dropLast else s.p1⟩ := by
                  unfold RS.close_; rw [hwe]
                rw [hwe] at f10
                by_cases hwn : w = []
                · rw [if_pos hwn] at f10; cases f10
                rw [if_neg hwn, hcl] at f10
                rw [nats_last hwn] at w2
                have wl2 : (nats w.dropLast).length < sizeLine := by rw [nats_len]; simp; (first | lia | omega)
                refine X_cons ?_; refine X_expr ?_; refine slot_append ?_; refine E_name rfl q2 ?_; refine ⟨⟨rfl, by rw [f2]; rfl⟩, ?_⟩; refine S_cons ?_; refine slot_pop ?_; refine nm (d := .lst ww) ?_; refine ⟨⟨rfl, by rw [w2]; rfl⟩, ?_⟩; refine S_nil ?_; refine M_pop w2 wl2 ?_
                have u1 : (σ3.put ww (nats w.dropLast)) b = some (nats s.row) := by rw [put_ne (Ne.symm nwb)]; exact f2
                refine S_nil ?_; refine M_append u1 rl ?_; refine ⟨trivial, ?_⟩; refine X_nil ?_; refine X_nil ?_
                refine (hQ1 _ _ _).mpr ⟨rfl, _, q1, q2, q3, q4, q5, q6, ?_, ?_, ?_, ?_, ?_, ?_, ?_, ?_, ?_, f10⟩
                · rw [put_ne (Ne.symm n_b_a), put_ne (Ne.symm nwa)]; exact f1
                · rw [put_at]; simp
                · rw [put_ne n_c_b, put_ne (Ne.symm nwc)]; exact f3
                · rw [put_ne n_d_b, put_ne (Ne.symm nwd)]; exact f4
                · rw [put_ne n_p_b]
                  rcases w3 with ⟨u, -, rfl, rfl⟩ | ⟨u, -, rfl, rfl⟩
                  · rw [put_ne (Ne.symm nqp), f5]; simp [u]
                  · rw [put_at]; simp [u]
                · rw [put_ne n_q_b]
                  rcases w3 with ⟨u, -, rfl, rfl⟩ | ⟨u, -, rfl, rfl⟩
                  · rw [put_at]; simp [u]
                  · rw [put_ne nqp, f6]; simp [u]
                · rw [put_ne n_e_b, put_ne new]; exact f7
                · refine keep σ3 _ f8 fun x y1 y2 y3 y4 y5 => ?_
                  rw [put_ne y1, put_ne]
                  rcases w3 with ⟨-, -, rfl, -⟩ | ⟨-, -, rfl, -⟩ <;> assumption
                · refine ⟨by simp; (first | lia | omega), by simp; (first | lia | omega), by simp; (first | lia | omega), ?_, ?_⟩
                  · dsimp only; split <;> (try simp) <;> (first | lia | omega)
                  · dsimp only; split <;> (try simp) <;> (first | lia | omega)
              · rw [decide_eq_false h8, if_neg Bool.false_ne_true]
                rw [if_neg h8] at f10
                refine X_cons ?_; refine X_expr ?_; refine slot_append ?_; refine E_name rfl q4 ?_; refine ⟨⟨rfl, by rw [f4]; rfl⟩, ?_⟩; refine S_cons ?_; refine E_bin ?_; refine nm (d := .int x) ?_; refine E_int ?_; refine O_mod (by decide) ?_
                rw [hm]
                refine S_nil ?_; refine M_append f4 nl ?_; refine ⟨trivial, ?_⟩; refine X_nil ?_; refine X_nil ?_
                refine (hQ1 _ _ _).mpr ⟨rfl, _, q1, q2, q3, q4, q5, q6, ?_, ?_, ?_, ?_, ?_, ?_, ?_, ?_, ?_, f10⟩
                · rw [put_ne (Ne.symm n_d_a)]; exact f1
                · rw [put_ne (Ne.symm n_d_b)]; exact f2
                · rw [put_ne (Ne.symm n_d_c)]; exact f3
                · rw [put_at]; simp
                · rw [put_ne n_p_d]; exact f5
                · rw [put_ne n_q_d]; exact f6
                · rw [put_ne n_e_d]; exact f7
                · exact keep σ3 _ f8 fun x y1 y2 y3 y4 y5 => by rw [put_ne y3]
                · refine ⟨by simp; (first | lia | omega), by simp; (first | lia | omega), by simp; (first | lia | omega), by simp; (first | lia | omega), by simp; (first | lia | omega)⟩
          · rintro fl η4 σ4 hq1
            obtain ⟨rfl, s', q1, q2, q3, q4, q5, q6, f1, f2, f3, f4, f5, f6, f7, f8, ll, f10⟩ := (hQ1 _ _ _).mp hq1
            refine X_cons ?_; refine X_aug rfl rfl q6 ?_; refine E_int ?_; refine O_iadd ?_; refine X_nil ?_
            refine hQ _ _ _ ?_
            exact ⟨j - 1, by (first | lia | omega), (hJ2 _ _ _).mpr ⟨place + 1, s', q1, q2, q3, q4, q5, rfl, f1, f2, f3, f4, f5, f6, f7, f8, by (first | lia | omega), ll, f10⟩⟩
end
end Mine

namespace Mine
open PySem PySem.W PyProof.Rows

theorem escCdata_app (a b : List Nat) : escCdata (a ++ b) = escCdata a ++ escCdata b := by simp only [escCdata, repl_append]
theorem escAttrib_app (a b : List Nat) : escAttrib (a ++ b) = escAttrib a ++ escAttrib b := by simp only [escAttrib, repl_append]
theorem escHtml_app (a b : List Nat) : escHtml (a ++ b) = escHtml a ++ escHtml b := by simp only [escHtml, repl_append]
theorem escCdataC_app (a b : List Nat) : escCdataC (a ++ b) = escCdataC a ++ escCdataC b := by simp only [escCdataC, repl_append]
theorem escAttribC_app (a b : List Nat) : escAttribC (a ++ b) = escAttribC a ++ escAttribC b := by simp only [escAttribC, repl_append]
theorem esc_len {f : List Nat → List Nat} (h0 : f [] = []) (ha : ∀ a b, f (a ++ b) = f a ++ f b) (h1 : ∀ x, (f [x]).length ≤ 6) : ∀ l, (f l).length ≤ 6 * l.length
  | [] => by rw [h0]; simp
  | x :: r => by
    have ih := esc_len h0 ha h1 r
    have := h1 x
    rw [show x :: r = [x] ++ r from rfl, ha, List.length_append, List.length_append]
    simp only [List.length_singleton]
    (first | lia | omega)
theorem asValue_len (l : List Nat) (d : Nat) : (asValue l d).length ≤ 6 * l.length := by
  unfold asValue
  split
  · refine esc_len rfl escAttrib_app (fun x => ?_) l
    by_cases h1 : x = 38
    · subst h1; decide
    by_cases h2 : x = 60
    · subst h2; decide
    by_cases h3 : x = 62
    · subst h3; decide
    by_cases h4 : x = 34
    · subst h4; decide
    by_cases h5 : x = 13
    · subst h5; decide
    by_cases h6 : x = 10
    · subst h6; decide
    by_cases h7 : x = 9
    · subst h7; decide
    unfold escAttrib
    rw [repl_free (c := 38) (by simp; (first | lia | omega)), repl_free (c := 60) (by simp; (first | lia | omega)), repl_free (c := 62) (by simp; (first | lia | omega)), repl_free (c := 34) (by simp; (first | lia | omega)), repl_free (c := 13) (by simp; (first | lia | omega)), repl_free (c := 10) (by simp; (first | lia | omega)), repl_free (c := 9) (by simp; (first | lia | omega))]
    simp
  · split
    · refine esc_len rfl escHtml_app (fun x => ?_) l
      by_cases h1 : x = 38
      · subst h1; decide
      by_cases h3 : x = 62
      · subst h3; decide
      by_cases h4 : x = 34
      · subst h4; decide
      unfold escHtml
      rw [repl_free (c := 38) (by simp; (first | lia | omega)), repl_free (c := 62) (by simp; (first | lia | omega)), repl_free (c := 34) (by simp; (first | lia | omega))]
      simp
    · refine esc_len rfl escAttribC_app (fun x => ?_) l
      by_cases h1 : x = 38
      · subst h1; decide
      by_cases h2 : x = 60
      · subst h2; decide
      by_cases h4 : x = 34
      · subst h4; decide
      by_cases h5 : x = 13
      · subst h5; decide
      by_cases h6 : x = 10
      · subst h6; decide
      by_cases h7 : x = 9
      · subst h7; decide
      unfold escAttribC
      rw [repl_free (c := 38) (by simp; (first | lia | omega)), repl_free (c := 60) (by simp; (first | lia | omega)), repl_free (c := 34) (by simp; (first | lia | omega)), repl_free (c := 9) (by simp; (first | lia | omega)), repl_free (c := 10) (by simp; (first | lia | omega)), repl_free (c := 13) (by simp; (first | lia | omega))]
      simp
theorem asWords_len (l : List Nat) (d : Nat) : (asWords l d).length ≤ 6 * l.length := by
  unfold asWords
  split
  · refine esc_len rfl escCdata_app (fun x => ?_) l
    by_cases h1 : x = 38
    · subst h1; decide
    by_cases h2 : x = 60
    · subst h2; decide
    by_cases h3 : x = 62
    · subst h3; decide
    unfold escCdata
    rw [repl_free (c := 38) (by simp; (first | lia | omega)), repl_free (c := 60) (by simp; (first | lia | omega)), repl_free (c := 62) (by simp; (first | lia | omega))]
    simp
  · refine esc_len rfl escCdataC_app (fun x => ?_) l
    by_cases h1 : x = 38
    · subst h1; decide
    by_cases h2 : x = 60
    · subst h2; decide
    by_cases h3 : x = 62
    · subst h3; decide
    by_cases h5 : x = 13
    · subst h5; decide
    unfold escCdataC
    rw [repl_free (c := 38) (by simp; (first | lia | omega)), repl_free (c := 60) (by simp; (first | lia | omega)), repl_free (c := 62) (by simp; (first | lia | omega)), repl_free (c := 13) (by simp; (first | lia | omega))]
    simp
theorem asValue_92 {l : List Nat} (h : 92 ∉ l) (d : Nat) : 92 ∉ asValue l d := by
  unfold asValue
  split
  · unfold escAttrib
    exact repl_no (by decide) (repl_no (by decide) (repl_no (by decide) (repl_no (by decide) (repl_no (by decide) (repl_no (by decide) (repl_no (by decide) h))))))
  · split
    · unfold escHtml
      exact repl_no (by decide) (repl_no (by decide) (repl_no (by decide) h))
    · unfold escAttribC
      exact repl_no (by decide) (repl_no (by decide) (repl_no (by decide) (repl_no (by decide) (repl_no (by decide) (repl_no (by decide) h)))))
theorem asWords_92 {l : List Nat} (h : 92 ∉ l) (d : Nat) : 92 ∉ asWords l d := by
  unfold asWords
  split
  · unfold escCdata
    exact repl_no (by decide) (repl_no (by decide) (repl_no (by decide) h))
  · unfold escCdataC
    exact repl_no (by decide) (repl_no (by decide) (repl_no (by decide) (repl_no (by decide) h)))

section
variable {X : Ctx} {n m : Nat} {F : Fm} {η η' : Names} {σ σ₁ : Store} {Q : D → Store → Prop}
/-- `_check_parenthesis(_law_as_value(e, d))` -/
theorem E_chkV (fx : Facts X) {e d : Expr} {p1 p2 p3 p4 : Pos} (hg1 : isGlob F.sc "_check_parenthesis" = true) (hg2 : isGlob F.sc "_law_as_value" = true) (hp : plainArgs [e, d] = true) (hn : 9 ≤ n)
    (h : EVS X n F η σ [e, d] fun ds σ₁ => ∃ (l : List Nat) (draw : Nat), ds = [.str (S l), .int draw] ∧ 92 ∉ l ∧ l.length ≤ 100 ∧ Q (.bool (chk (asValue l draw))) σ₁) :
    EV X n F η σ (.Call (.Name "_check_parenthesis" p1) [.Call (.Name "_law_as_value" p2) [e, d] [] p3] [] p4) Q := by
  refine E_fn (d := d_check_parenthesis) (fx.fn _ (by simp [allDefs])) rfl hg1 rfl ?_
  refine S_cons ?_ (fun _ => rfl)
  refine E_fn (d := d_law_as_value) (fx.fn _ (by simp [allDefs])) rfl hg2 hp ?_
  intro A s pos fo ao nr cr
  refine wpAny_weak (h A s pos fo ao nr cr) fun vs s' p => ?_
  obtain ⟨ds, σ', r, c, st, l, draw, rfl, h92, hl, q⟩ := p
  refine ⟨_, σ', r, c, st, FN.up (fn_as_value fx hl ?_) (by (first | lia | omega))⟩
  refine S_nil (FN.up (fn_check fx (asValue_92 h92 draw) ?_ q) hn)
  have := asValue_len l draw
  (first | lia | omega)
theorem E_chkW (fx : Facts X) {e d : Expr} {p1 p2 p3 p4 : Pos} (hg1 : isGlob F.sc "_check_parenthesis" = true) (hg2 : isGlob F.sc "_law_as_words" = true) (hp : plainArgs [e, d] = true) (hn : 9 ≤ n)
    (h : EVS X n F η σ [e, d] fun ds σ₁ => ∃ (l : List Nat) (draw : Nat), ds = [.str (S l), .int draw] ∧ 92 ∉ l ∧ l.length ≤ 100 ∧ Q (.bool (chk (asWords l draw))) σ₁) :
    EV X n F η σ (.Call (.Name "_check_parenthesis" p1) [.Call (.Name "_law_as_words" p2) [e, d] [] p3] [] p4) Q := by
  refine E_fn (d := d_check_parenthesis) (fx.fn _ (by simp [allDefs])) rfl hg1 rfl ?_
  refine S_cons ?_ (fun _ => rfl)
  refine E_fn (d := d_law_as_words) (fx.fn _ (by simp [allDefs])) rfl hg2 hp ?_
  intro A s pos fo ao nr cr
  refine wpAny_weak (h A s pos fo ao nr cr) fun vs s' p => ?_
  obtain ⟨ds, σ', r, c, st, l, draw, rfl, h92, hl, q⟩ := p
  refine ⟨_, σ', r, c, st, FN.up (fn_as_words fx hl ?_) (by (first | lia | omega))⟩
  refine S_nil (FN.up (fn_check fx (asWords_92 h92 draw) ?_ q) hn)
  have := asWords_len l draw
  (first | lia | omega)
end
end Mine

namespace Mine
open PySem PySem.W PyProof.Rows

theorem ok_law_way : DefOk d_law_way 6 where
  bind := fun pm cd doc vs h => by obtain ⟨a, b, c, d, e, f, rfl⟩ := len6 h; rfl
  len := rfl
  nodup := by decide
  kind := rfl
  co := rfl
  gen := rfl
  args := rfl
  nofree := rfl
theorem ok_law_table : DefOk d_law_table 5 where
  bind := fun pm cd doc vs h => by obtain ⟨a, b, c, d, e, rfl⟩ := len5 h; rfl
  len := rfl
  nodup := by decide
  kind := rfl
  co := rfl
  gen := rfl
  args := rfl
  nofree := rfl
theorem ok_law_determinant : DefOk d_law_determinant 1 where
  bind := fun pm cd doc vs h => by obtain ⟨a, rfl⟩ := len1 h; rfl
  len := rfl
  nodup := by decide
  kind := rfl
  co := rfl
  gen := rfl
  args := rfl
  nofree := rfl

noncomputable def midOf (met now : List Nat) (signs : List (List Nat)) (one other : Nat) : List Nat :=
  textOf (((partsOf (met.filter fun p => decide (p ∈ [one, other])) signs).drop 1).take 2) now
noncomputable def wayOf (met now : List Nat) (signs : List (List Nat)) (draw one other : Nat) : Int :=
  if (chk (asWords (midOf met now signs one other) draw) || !chk (asValue (midOf met now signs one other) draw)) = true then 0
  else if chk (asWords (40 :: midOf met now signs one other) draw) = true then 1 else -1
structure MetOk (met now : List Nat) (signs : List (List Nat)) : Prop where
  ml : met.length ≤ 16
  nl : now.length ≤ 8
  sl : signs.length = now.length
  lt : ∀ p ∈ met, p < now.length
  now1 : ∀ s ∈ now, s ≤ 1
  sg : SgOk signs
theorem midOf_len {met now : List Nat} {signs : List (List Nat)} (ok : MetOk met now signs) (one other : Nat) : (midOf met now signs one other).length ≤ 90 := by
  unfold midOf textOf
  have := textGo_len 4 now (((partsOf (met.filter fun p => decide (p ∈ [one, other])) signs).drop 1).take 2) 0 ok.now1 (by (first | lia | omega)) fun p hp => partsOf_len ok.sg p (List.mem_of_mem_drop (List.mem_of_mem_take hp))
  have h2 : (((partsOf (met.filter fun p => decide (p ∈ [one, other])) signs).drop 1).take 2).length ≤ 2 := by rw [List.length_take]; (first | lia | omega)
  (first | lia | omega)
theorem midOf_92 {met now : List Nat} {signs : List (List Nat)} (ok : MetOk met now signs) (one other : Nat) : 92 ∉ midOf met now signs one other :=
  textGo_no92 now _ 0 fun p hp => partsOf_no92 ok.sg p (List.mem_of_mem_drop (List.mem_of_mem_take hp))

section
variable {X : Ctx} {n m : Nat} {F : Fm} {η η' : Names} {σ σ₁ : Store} {Q : D → Store → Prop}
set_option maxHeartbeats 4000000 in
theorem fn_way (fx : Facts X) {a b c : Addr} {met now : List Nat} {signs : List (List Nat)} {one other draw : Nat} (ok : MetOk met now signs) (ha : σ a = some (nats met)) (hb : σ b = some (nats now)) (hc : σ c = some (strsD signs))
    (h : Q (.int (wayOf met now signs draw one other)) σ) : FN X 10 "_law_way" [.lst a, .lst b, .lst c, .int one, .int other, .int draw] σ Q := by
  have hbig := line_big
  refine FN_intro (d := d_law_way) (fx.fn _ (by simp [allDefs])) ok_law_way rfl (BODY.forget ⟨fun env own => ?_⟩)
  have hml := ok.ml
  have hnl := ok.nl
  refine X_cons ?_; refine X_assign rfl ?_; refine E_fn (d := d_law_parts) (fx.fn _ (by simp [allDefs])) rfl rfl rfl ?_; refine S_cons ?_; refine E_comp rfl ?_; refine ITR_list ?_; refine nm (d := .lst a) ?_; refine ⟨a, _, rfl, ha, by rw [nats_len]; (first | lia | omega), fun env' own' => ?_⟩
  refine CLOOP.fm met (fun p : Nat => D.int p) (fun p => if (fun p => decide (p ∈ [one, other])) p = true then some (D.int (p : Nat)) else none) (fun η2 σ2 => η2 "one" = some (.int one) ∧ η2 "other" = some (.int other) ∧ σ2 = σ) (nats_map met) ⟨rfl, rfl, rfl⟩ ?_ ?_
  · rintro p η2 σ2 hp ⟨q1, q2, rfl⟩
    refine ⟨ha, AS_name ?_⟩
    refine ETS_one ?_; refine T_cmp ?_; refine nm (d := .int p) ?_; refine E_tuple ?_; refine S_cons ?_; refine E_name rfl q1 ?_; refine S_cons ?_; refine E_name rfl q2 ?_; refine S_nil ?_; refine ⟨by simp; (first | lia | omega), ?_⟩; refine C_tin (ns := toInts [one, other]) ?_; refine ⟨_, rfl, ?_⟩
    rw [toInts_mem]
    by_cases hm : decide (p ∈ [one, other]) = true
    · rw [if_pos hm]
      exact nm (d := .int p) ⟨by dsimp only; rw [if_pos hm], q1, q2, rfl⟩
    · rw [if_neg hm]
      exact ⟨by dsimp only; rw [if_neg hm], q1, q2, rfl⟩
  · rintro η2 σ2 ⟨q1, q2, rfl⟩
    refine ⟨ha, fun z hz => ?_⟩
    rw [filterMap_guard]
    have hfl := List.length_filter_le (fun p => decide (p ∈ [one, other])) met
    have hfm : ∀ p ∈ met.filter (fun p => decide (p ∈ [one, other])), p < signs.length := fun p hp => by rw [ok.sl]; exact ok.lt p ((List.mem_filter.mp hp).1)
    refine S_cons ?_; refine nm (d := .lst c) ?_; refine S_nil ?_; refine FN.up (fn_parts fx put_at (put_sub hz _ _ hc) (by (first | lia | omega)) (by rw [ok.sl]; (first | lia | omega)) hfm (fun w hw => by have := ok.sg.len w hw; (first | lia | omega)) fun y hy => ?_) (by (first | lia | omega))
    have hml2 := midOf_len ok one other
    have h92 := midOf_92 ok one other
    generalize hps : partsOf (met.filter fun p => decide (p ∈ [one, other])) signs = ps at hy ⊢
    have hpl : ps.length ≤ 16 := by rw [← hps, partsOf_length]; (first | lia | omega)
    have hp4 : ∀ p ∈ ps, p.1.length ≤ 4 := by rw [← hps]; exact partsOf_len ok.sg
    have hp2 : ∀ p ∈ ps, p.2 < now.length := by rw [← hps]; exact fun p hp => ok.lt p.2 ((List.mem_filter.mp (partsOf_snd p hp)).1)
    have hmid : midOf met now signs one other = textOf ((ps.drop 1).take 2) now := by unfold midOf; rw [hps]
    refine X_cons ?_; refine X_assign rfl ?_; refine E_fn (d := d_law_text) (fx.fn _ (by simp [allDefs])) rfl rfl rfl ?_; refine S_cons ?_; refine E_slice ?_; refine nm (d := .lst y) ?_; refine E_int ?_; refine ⟨1, rfl, ?_⟩; refine E_int ?_; refine ⟨3, rfl, ?_⟩; refine L_slice (.some (by decide)) (.some (by decide)) put_at (by rw [List.length_map]; (first | lia | omega)) (fun x hx => ?_)
    have hcut : cut (partsD ps) (some 1) (some 3) = partsD ((ps.drop 1).take 2) := by unfold cut; simp [List.map_take, List.map_drop]
    rw [hcut]
    refine S_cons ?_; refine nm (d := .lst b) ?_; refine S_nil ?_; refine FN.up (fn_text fx put_at (put_sub hx _ _ (put_sub hy _ _ (put_sub hz _ _ hb))) ?_ (by (first | lia | omega)) (fun p hp => hp2 p (List.mem_of_mem_drop (List.mem_of_mem_take hp))) ok.now1 (fun p hp => ?_) ?_) (by (first | lia | omega))
    · rw [List.length_take]; (first | lia | omega)
    · have := hp4 p (List.mem_of_mem_drop (List.mem_of_mem_take hp)); (first | lia | omega)
    rw [← hmid]
    unfold wayOf at h
    generalize midOf met now signs one other = mid at h hml2 h92 ⊢
    have fin : ∀ v : Int, Q (.int v) σ2 → Q (.int v) σ2 := fun _ h => h
    refine X_cons ?_; refine X_if ?_; refine T_or ?_; refine T_plain ?_; refine E_chkW fx rfl rfl rfl (by (first | lia | omega)) ?_; refine S_cons ?_; refine nm (d := .str (S mid)) ?_; refine S_cons ?_; refine nm (d := .int draw) ?_; refine S_nil ?_; refine ⟨mid, draw, rfl, h92, by (first | lia | omega), _, rfl, ?_⟩
    by_cases h1 : chk (asWords mid draw) = true
    · rw [h1, if_pos rfl, if_pos rfl]
      rw [h1] at h
      refine X_cons ?_; refine X_return ?_; refine E_int ?_
      exact ⟨σ2, fun x' ds hx' => put_sub hx _ _ (put_sub hy _ _ (put_sub hz _ _ hx')), h⟩
    · rw [if_neg h1]
      rw [Bool.not_eq_true] at h1
      rw [h1, Bool.false_or] at h
      refine T_not ?_; refine T_plain ?_; refine E_chkV fx rfl rfl rfl (by (first | lia | omega)) ?_; refine S_cons ?_; refine nm (d := .str (S mid)) ?_; refine S_cons ?_; refine nm (d := .int draw) ?_; refine S_nil ?_; refine ⟨mid, draw, rfl, h92, by (first | lia | omega), _, rfl, ?_⟩
      by_cases h2 : (!chk (asValue mid draw)) = true
      · rw [if_pos h2]
        rw [if_pos h2] at h
        refine X_cons ?_; refine X_return ?_; refine E_int ?_
        exact ⟨σ2, fun x' ds hx' => put_sub hx _ _ (put_sub hy _ _ (put_sub hz _ _ hx')), h⟩
      · rw [if_neg h2]
        rw [if_neg h2] at h
        refine X_nil ?_; refine X_cons ?_; refine X_return ?_; refine E_ifexp ?_; refine T_plain ?_; refine E_chkW fx rfl rfl rfl (by (first | lia | omega)) ?_; refine S_cons ?_; refine E_bin ?_; refine E_str ?_; refine nm (d := .str (S mid)) ?_; refine O_sadd (a := [40]) (by simp; (first | lia | omega)) ?_; refine S_cons ?_; refine nm (d := .int draw) ?_; refine S_nil ?_; refine ⟨40 :: mid, draw, rfl, by simp [h92], by simp; (first | lia | omega), _, rfl, ?_⟩
        by_cases h3 : chk (asWords (40 :: mid) draw) = true
        · rw [if_pos h3]
          rw [if_pos h3] at h
          exact E_int ⟨σ2, fun x' ds hx' => put_sub hx _ _ (put_sub hy _ _ (put_sub hz _ _ hx')), h⟩
        · rw [if_neg h3]
          rw [if_neg h3] at h
          exact E_neg (E_int ⟨_, rfl, σ2, fun x' ds hx' => put_sub hx _ _ (put_sub hy _ _ (put_sub hz _ _ hx')), h⟩)

noncomputable def bareOf (now : List Nat) : List Nat := (List.range now.length).filter fun o => decide (now[o]? = some 0)
noncomputable def waysF (met now : List Nat) (signs : List (List Nat)) (draw pair k : Nat) : Int := wayOf met now signs draw ((bareOf now).getD k 0) pair
noncomputable def tabF (met now : List Nat) (signs : List (List Nat)) (numbers : List Nat) (draw : Nat) : Nat → Nat → Nat → Int
  | 0 => fun k j => if (bareOf now).getD k 0 = (bareOf now).getD j 0 then ((numbers.getD ((bareOf now).getD k 0) 0 : Nat) : Int) else 0
  | i + 1 => fun k j => if now.getD i 0 = 1 then tabF met now signs numbers draw i k j + (numbers.getD i 0 : Nat) * waysF met now signs draw i k * waysF met now signs draw i j else tabF met now signs numbers draw i k j
theorem wayOf_small (met now : List Nat) (signs : List (List Nat)) (draw one other : Nat) : (wayOf met now signs draw one other).natAbs ≤ 1 := by
  unfold wayOf
  split
  · decide
  · split <;> decide
theorem bareOf_lt {now : List Nat} {p : Nat} (h : p ∈ bareOf now) : p < now.length := by
  have := (List.mem_filter.mp h).1; simpa using this

set_option maxHeartbeats 4000000 in
theorem fn_table (fx : Facts X) {a b c d : Addr} {met now numbers : List Nat} {signs : List (List Nat)} {draw : Nat} (ok : MetOk met now signs) (hnl : numbers.length = now.length) (hn : ∀ x ∈ numbers, x ≤ 100) (ha : σ a = some (nats met)) (hb : σ b = some (nats now)) (hc : σ c = some (strsD signs)) (hd : σ d = some (nats numbers))
    (h : ∀ T σ', Mat σ σ' T (bareOf now).length (tabF met now signs numbers draw now.length) → (∀ x ds, σ x = some ds → σ' x = some ds) → Q (.lst T) σ') : FN X 11 "_law_table" [.lst a, .lst b, .lst c, .lst d, .int draw] σ Q := by
  have hbig := line_big
  refine FN_intro (d := d_law_table) (fx.fn _ (by simp [allDefs])) ok_law_table rfl ⟨fun env own => ?_⟩
  have hnl8 := ok.nl
  have nowl : (nats now).length ≤ sizeLine := by rw [nats_len]; (first | lia | omega)
  have numl : (nats numbers).length ≤ sizeLine := by rw [nats_len]; (first | lia | omega)
  have hbl : (bareOf now).length ≤ 8 := by
    have := List.length_filter_le (fun o => decide (now[o]? = some 0)) (List.range now.length)
    rw [List.length_range] at this
    unfold bareOf; (first | lia | omega)
  refine X_cons ?_; refine X_assign_comp rfl rfl ?_; refine ITR_range rfl fx.m_range fx.b_range rfl ?_; refine S_cons ?_; refine E_call rfl fx.m_len fx.b_len rfl ?_; refine S_cons ?_; refine nm (d := .lst b) ?_; refine S_nil ?_; refine B_lenL hb nowl ?_; refine S_nil ?_; refine ⟨((nats now).length : Nat), rfl, by (first | lia | omega), by rw [nats_len]; (first | lia | omega), by rw [ups_length]; (first | lia | omega), fun env' own' => ?_⟩
  refine CLOOP.fm (List.range now.length) (fun o : Nat => D.int o) (fun o => if (fun o => decide (now[o]? = some 0)) o = true then some (.int (o : Nat)) else none) (fun η2 σ2 => η2 "now" = some (.lst b) ∧ σ2 = σ) (by rw [Int.toNat_natCast, nats_len, ups_nats, nats_map]) ⟨rfl, rfl⟩ ?_ ?_
  · rintro o η2 σ2 ho ⟨q1, rfl⟩
    have ho : o < now.length := by simpa using ho
    have hget : now[o]? = some now[o] := List.getElem?_eq_getElem ho
    refine ⟨trivial, AS_name ?_⟩
    refine ETS_one ?_; refine T_cmp ?_; refine E_sub ?_; refine E_name rfl q1 ?_; refine nm (d := .int o) ?_; refine I_list (d := .int (now[o] : Nat)) rfl hb (Int.natCast_nonneg _) nowl ?_ ?_
    · rw [Int.toNat_natCast]; exact nats_get hget
    refine E_int ?_; refine C_eq ?_; refine ⟨_, rfl, ?_⟩
    have hdec : decide (((now[o] : Nat) : Int) = 0) = decide (now[o]? = some 0) := by
      rw [hget, dec_nat0]
      exact decide_eq_decide.mpr ⟨fun h => by rw [h], fun h => by injection h⟩
    rw [hdec]
    by_cases hq : decide (now[o]? = some 0) = true
    · rw [if_pos hq]
      exact nm (d := .int o) ⟨by dsimp only; rw [if_pos hq], q1, rfl⟩
    · rw [if_neg hq]
      exact ⟨by dsimp only; rw [if_neg hq], q1, rfl⟩
  rintro η2 σ2 ⟨q1, rfl⟩
  refine ⟨trivial, fun z hz => ?_⟩
  rw [filterMap_guard]
  show EXS X 10 _ _ (σ2.put z (nats (bareOf now))) _ _
  have ha := put_sub (ds := nats (bareOf now)) hz _ _ ha
  have hb := put_sub (ds := nats (bareOf now)) hz _ _ hb
  have hc := put_sub (ds := nats (bareOf now)) hz _ _ hc
  have hd := put_sub (ds := nats (bareOf now)) hz _ _ hd
  have hzz : (σ2.put z (nats (bareOf now))) z = some (nats (bareOf now)) := put_at
  have hsub := put_sub (ds := nats (bareOf now)) hz
  generalize (σ2.put z (nats (bareOf now))) = σ0 at ha hb hc hd hzz hsub ⊢
  have bl : (nats (bareOf now)).length ≤ sizeLine := by rw [nats_len]; (first | lia | omega)
  have numget : ∀ p, p < now.length → (nats numbers)[p]? = some (.int ((numbers.getD p 0 : Nat) : Int)) := fun p hp => by
    have : numbers[p]? = some numbers[p] := List.getElem?_eq_getElem (by (first | lia | omega))
    rw [List.getD_eq_getElem?_getD, this]
    exact nats_get this
  have numsmall : ∀ p, numbers.getD p 0 ≤ 100 := fun p => by
    rw [List.getD_eq_getElem?_getD]
    cases q : numbers[p]? with
    | none => simp
    | some v => exact hn v (List.mem_of_getElem? q)
  refine X_cons ?_; refine X_assign_comp rfl rfl ?_; refine ITR_list ?_; refine nm (d := .lst z) ?_; refine ⟨z, _, rfl, hzz, bl, fun env' own' => ?_⟩
  refine CLOOP.inv (fun i acc η2 σ2 => η2 "numbers" = some (.lst d) ∧ η2 "bare" = some (.lst z) ∧ (∀ x ds, σ0 x = some ds → σ2 x = some ds) ∧ ∃ rs : List Addr, acc = rs.map D.lst ∧ rs.length = i ∧ rs.Nodup ∧ ∀ j r, rs[j]? = some r → σ0 r = none ∧ σ2 r = some (rowD (bareOf now).length (tabF met now signs numbers draw 0) j)) ⟨rfl, rfl, fun _ _ h => h, [], rfl, rfl, List.nodup_nil, fun j r hr => by cases hr⟩ ?_ ?_
  · rintro i dd acc η2 σ3 hdd ⟨q1, q2, q3, rs, rfl, r2, r3, r4⟩
    rw [nats_map, List.getElem?_map] at hdd
    obtain ⟨p, hp, rfl⟩ := Option.map_eq_some_iff.mp hdd
    have hplt := bareOf_lt (List.mem_of_getElem? hp)
    have hpd : (bareOf now).getD i 0 = p := by rw [List.getD_eq_getElem?_getD, hp]; rfl
    refine ⟨q3 _ _ hzz, AS_name ?_⟩
    refine ETS_nil ?_
    rw [if_pos rfl]
    refine E_comp rfl ?_; refine ITR_list ?_; refine E_name rfl q2 ?_; refine ⟨z, _, rfl, q3 _ _ hzz, bl, fun env2 own2 => ?_⟩
    refine CLOOP.fm (bareOf now) (fun o : Nat => D.int o) (fun o => some (.int (if p = o then ((numbers.getD p 0 : Nat) : Int) else 0))) (fun η4 σ4 => η4 "numbers" = some (.lst d) ∧ η4 "pair" = some (.int p) ∧ σ4 = σ3) (nats_map _) ⟨q1, rfl, rfl⟩ ?_ ?_
    · rintro o η4 σ4 ho ⟨u1, u2, rfl⟩
      refine ⟨q3 _ _ hzz, AS_name ?_⟩
      refine ETS_nil ?_
      rw [if_pos rfl]
      refine E_ifexp ?_; refine T_cmp ?_; refine E_name rfl u2 ?_; refine nm (d := .int o) ?_; refine C_eq ?_; refine ⟨_, rfl, ?_⟩
      rw [dec_nat]
      by_cases hpo : p = o
      · rw [decide_eq_true hpo, if_pos rfl]
        refine E_sub ?_; refine E_name rfl u1 ?_; refine E_name rfl u2 ?_; refine I_list (d := .int (numbers.getD p 0 : Nat)) rfl (q3 _ _ hd) (Int.natCast_nonneg _) numl ?_ ?_
        · rw [Int.toNat_natCast]; exact numget p hplt
        exact ⟨by rw [if_pos hpo], u1, u2, rfl⟩
      · rw [decide_eq_false hpo, if_neg Bool.false_ne_true]
        exact E_int ⟨by rw [if_neg hpo], u1, u2, rfl⟩
    · rintro η4 σ4 ⟨u1, u2, rfl⟩
      refine ⟨q3 _ _ hzz, fun y hy => ?_⟩
      have hrow : (bareOf now).filterMap (fun o => some (D.int (if p = o then ((numbers.getD p 0 : Nat) : Int) else 0))) = rowD (bareOf now).length (tabF met now signs numbers draw 0) i := by
        rw [filterMap_some_eq, map_range_getD]
        unfold rowD
        rw [List.map_map]
        refine List.map_congr_left fun j _ => ?_
        show D.int _ = D.int _
        unfold tabF
        rw [hpd]
      rw [hrow]
      have hy0 : σ0 y = none := by
        cases q : σ0 y with
        | none => rfl
        | some ds => rw [q3 y ds q] at hy; cases hy
      refine ⟨q1, q2, fun x ds hx => put_sub hy _ _ (q3 x ds hx), rs ++ [y], by simp, by simp [r2], ?_, ?_⟩
      · rw [List.nodup_append]
        refine ⟨r3, by simp, fun x hx w hw => ?_⟩
        rw [List.mem_singleton.mp hw]
        obtain ⟨j, hj⟩ := List.mem_iff_getElem?.mp hx
        intro e
        subst e
        rw [(r4 j _ hj).2] at hy; cases hy
      · intro j r hr
        by_cases hji : j < rs.length
        · rw [List.getElem?_append_left hji] at hr
          exact ⟨(r4 j r hr).1, put_sub hy _ _ (r4 j r hr).2⟩
        · have hlen := (List.getElem?_eq_some_iff.mp hr).1
          simp at hlen
          have : j = rs.length := by (first | lia | omega)
          subst this
          simp at hr
          subst hr
          exact ⟨hy0, by rw [put_at, r2]⟩
  rintro acc η2 σ3 ⟨q1, q2, q3, rs, rfl, r2, r3, r4⟩
  rw [nats_len] at r2
  refine ⟨q3 _ _ hzz, fun T hT => ?_⟩
  have hM : Mat σ0 (σ3.put T (rs.map D.lst)) T (bareOf now).length (tabF met now signs numbers draw 0) :=
    ⟨rs, put_at, r2, r3, fun i r hr => ⟨⟨fun e => (by subst e; rw [(r4 i _ hr).2] at hT; cases hT), (r4 i r hr).1⟩, put_sub hT _ _ (r4 i r hr).2⟩⟩
  have hS : ∀ x ds, σ0 x = some ds → (σ3.put T (rs.map D.lst)) x = some ds := fun x ds hx => put_sub hT _ _ (q3 x ds hx)
  generalize (σ3.put T (rs.map D.lst)) = σ4 at hM hS ⊢
  refine X_cons ?_; refine X_for ?_; refine ITR_range rfl fx.m_range fx.b_range rfl ?_; refine S_cons ?_; refine E_call rfl fx.m_len fx.b_len rfl ?_; refine S_cons ?_; refine nm (d := .lst b) ?_; refine S_nil ?_; refine B_lenL (hS _ _ hb) nowl ?_; refine S_nil ?_; refine ⟨((nats now).length : Nat), rfl, by (first | lia | omega), by rw [nats_len]; (first | lia | omega), ?_⟩
  obtain ⟨J1, hJ1⟩ : ∃ J : Nat → Names → Store → Prop, ∀ i η σ', J i η σ' ↔ (C9 (η "met" = some (.lst a)) (η "now" = some (.lst b)) (η "signs" = some (.lst c)) (η "numbers" = some (.lst d)) (η "draw" = some (.int draw)) (η "bare" = some (.lst z)) (η "table" = some (.lst T)) ((∀ x ds, σ0 x = some ds → σ' x = some ds)) (Mat σ0 σ' T (bareOf now).length (tabF met now signs numbers draw i))) := ⟨_, fun _ _ _ => Iff.rfl⟩
  refine LOOP.inv J1 ?_ ?_ ?_
  · exact (hJ1 _ _ _).mpr ⟨rfl, rfl, rfl, rfl, rfl, rfl, rfl, hS, hM⟩
  · rintro i dd η σ' hdd hj
    obtain ⟨e1, e2, e3, e4, e5, e6, e7, e8, e9⟩ := (hJ1 _ _ _).mp hj
    obtain ⟨hi, rfl⟩ := ups_get hdd
    have hi : i < now.length := by rw [Int.toNat_natCast, nats_len] at hi; exact hi
    refine ⟨trivial, AS_name ?_⟩
    rw [Int.zero_add]
    refine EXS.lock fun Q' hQ => ?_
    have hget : now[i]? = some now[i] := List.getElem?_eq_getElem hi
    have hgd : now.getD i 0 = now[i] := by rw [List.getD_eq_getElem?_getD, hget]; rfl
    refine X_cons ?_; refine X_if ?_; refine T_cmp ?_; refine E_sub ?_; refine E_name rfl e2 ?_; refine nm (d := .int i) ?_; refine I_list (d := .int (now[i] : Nat)) rfl (e8 _ _ hb) (Int.natCast_nonneg _) nowl ?_ ?_
    · rw [Int.toNat_natCast]; exact nats_get hget
    refine E_int ?_; refine C_eq ?_; refine ⟨_, rfl, ?_⟩
    rw [dec_nat1]
    by_cases h1 : now[i] = 1
    · rw [decide_eq_true h1, if_pos rfl]
      refine X_cons ?_; refine X_assign_comp rfl rfl ?_; refine ITR_list ?_; refine E_name rfl e6 ?_; refine ⟨z, _, rfl, e8 _ _ hzz, bl, fun env' own' => ?_⟩
      refine CLOOP.fm (bareOf now) (fun o : Nat => D.int o) (fun o => some (.int (wayOf met now signs draw o i))) (fun η4 σ4 => η4 "met" = some (.lst a) ∧ η4 "now" = some (.lst b) ∧ η4 "signs" = some (.lst c) ∧ η4 "pair" = some (.int i) ∧ η4 "draw" = some (.int draw) ∧ σ4 = σ') (nats_map _) ⟨e1, e2, e3, rfl, e5, rfl⟩ ?_ ?_
      · rintro o η4 σ4 ho ⟨u1, u2, u3, u4, u5, rfl⟩
        refine ⟨e8 _ _ hzz, AS_name ?_⟩
        refine ETS_nil ?_
        rw [if_pos rfl]
        refine E_fn (d := d_law_way) (fx.fn _ (by simp [allDefs])) rfl rfl rfl ?_; refine S_cons ?_; refine E_name rfl u1 ?_; refine S_cons ?_; refine E_name rfl u2 ?_; refine S_cons ?_; refine E_name rfl u3 ?_; refine S_cons ?_; refine nm (d := .int o) ?_; refine S_cons ?_; refine E_name rfl u4 ?_; refine S_cons ?_; refine E_name rfl u5 ?_; refine S_nil ?_
        exact fn_way fx ok (e8 _ _ ha) (e8 _ _ hb) (e8 _ _ hc) ⟨rfl, u1, u2, u3, u4, u5, rfl⟩
      rintro η4 σ4 ⟨u1, u2, u3, u4, u5, rfl⟩
      refine ⟨e8 _ _ hzz, fun w hw => ?_⟩
      have hwl : (bareOf now).filterMap (fun o => some (D.int (wayOf met now signs draw o i))) = ((List.range (bareOf now).length).map fun k => waysF met now signs draw i k).map D.int := by
        rw [filterMap_some_eq, map_range_getD, List.map_map]
        rfl
      rw [hwl]
      have wl : (((List.range (bareOf now).length).map fun k => waysF met now signs draw i k).map D.int).length ≤ sizeLine := by simp; (first | lia | omega)
      have wget : ∀ k, k < (bareOf now).length → (((List.range (bareOf now).length).map fun k => waysF met now signs draw i k).map D.int)[k]? = some (.int (waysF met now signs draw i k)) := fun k hk => by
        rw [List.getElem?_map, List.getElem?_map, List.getElem?_range hk]; rfl
      have wsm : ∀ k, (waysF met now signs draw i k).natAbs ≤ 1 := fun k => wayOf_small ..
      have hw0 : σ0 w = none := by
        cases q : σ0 w with
        | none => rfl
        | some ds => rw [e8 w ds q] at hw; cases hw
      have hM2 : Mat (σ0.put w (((List.range (bareOf now).length).map fun k => waysF met now signs draw i k).map D.int)) (σ4.put w (((List.range (bareOf now).length).map fun k => waysF met now signs draw i k).map D.int)) T (bareOf now).length (tabF met now signs numbers draw i) := by
        obtain ⟨rs, h1, h2, h3, h4⟩ := e9
        refine ⟨rs, put_sub hw _ _ h1, h2, h3, fun k r hr => ⟨⟨(h4 k r hr).1.1, ?_⟩, put_sub hw _ _ (h4 k r hr).2⟩⟩
        rw [put_ne (fun e => by subst e; rw [(h4 k _ hr).2] at hw; cases hw)]
        exact (h4 k r hr).1.2
      have hS2 : ∀ x ds, (σ0.put w (((List.range (bareOf now).length).map fun k => waysF met now signs draw i k).map D.int)) x = some ds → (σ4.put w (((List.range (bareOf now).length).map fun k => waysF met now signs draw i k).map D.int)) x = some ds := fun x ds hx => by
        unfold Store.put at hx ⊢
        split at hx
        · rename_i q; rw [if_pos q]; exact hx
        · rename_i q; rw [if_neg q]; exact e8 x ds hx
      have hk0 : ∀ x ds, σ0 x = some ds → (σ0.put w (((List.range (bareOf now).length).map fun k => waysF met now signs draw i k).map D.int)) x = some ds := put_sub hw0
      have hww : (σ0.put w (((List.range (bareOf now).length).map fun k => waysF met now signs draw i k).map D.int)) w = some (((List.range (bareOf now).length).map fun k => waysF met now signs draw i k).map D.int) := put_at
      generalize (σ0.put w (((List.range (bareOf now).length).map fun k => waysF met now signs draw i k).map D.int)) = σ6 at hM2 hS2 hk0 hww
      generalize (σ4.put w (((List.range (bareOf now).length).map fun k => waysF met now signs draw i k).map D.int)) = σ5 at hM2 hS2 ⊢
      refine X_cons ?_; refine X_for ?_; refine ITR_range rfl fx.m_range fx.b_range rfl ?_; refine S_cons ?_; refine E_call rfl fx.m_len fx.b_len rfl ?_; refine S_cons ?_; refine E_name rfl e6 ?_; refine S_nil ?_; refine B_lenL (hS2 _ _ (hk0 _ _ hzz)) bl ?_; refine S_nil ?_; refine ⟨((nats (bareOf now)).length : Nat), rfl, by (first | lia | omega), by rw [nats_len]; (first | lia | omega), ?_⟩
      obtain ⟨J2, hJ2⟩ : ∃ J : Nat → Names → Store → Prop, ∀ k η σ', J k η σ' ↔ (C11 (η "met" = some (.lst a)) (η "now" = some (.lst b)) (η "signs" = some (.lst c)) (η "numbers" = some (.lst d)) (η "draw" = some (.int draw)) (η "bare" = some (.lst z)) (η "table" = some (.lst T)) (η "pair" = some (.int i)) (η "ways" = some (.lst w)) ((∀ x ds, σ6 x = some ds → σ' x = some ds)) (Mat σ6 σ' T (bareOf now).length (fun k' j => if k' < k then tabF met now signs numbers draw (i + 1) k' j else tabF met now signs numbers draw i k' j))) := ⟨_, fun _ _ _ => Iff.rfl⟩
      refine LOOP.inv J2 ?_ ?_ ?_
      · exact (hJ2 _ _ _).mpr ⟨e1, e2, e3, e4, e5, e6, e7, rfl, rfl, hS2, hM2.congr fun k j _ _ => by rw [if_neg (Nat.not_lt_zero k)]⟩
      · rintro k dk η σ' hdk hj2
        obtain ⟨e1, e2, e3, e4, e5, e6, e7, e7a, e7b, e8, e9⟩ := (hJ2 _ _ _).mp hj2
        obtain ⟨hk, rfl⟩ := ups_get hdk
        have hk : k < (bareOf now).length := by rw [Int.toNat_natCast, nats_len] at hk; exact hk
        refine ⟨trivial, AS_name ?_⟩
        rw [Int.zero_add]
        refine EXS.lock fun Q2 hQ2 => ?_
        refine X_cons ?_; refine X_for ?_; refine ITR_range rfl fx.m_range fx.b_range rfl ?_; refine S_cons ?_; refine E_call rfl fx.m_len fx.b_len rfl ?_; refine S_cons ?_; refine E_name rfl e6 ?_; refine S_nil ?_; refine B_lenL (e8 _ _ (hk0 _ _ hzz)) bl ?_; refine S_nil ?_; refine ⟨((nats (bareOf now)).length : Nat), rfl, by (first | lia | omega), by rw [nats_len]; (first | lia | omega), ?_⟩
        obtain ⟨J3, hJ3⟩ : ∃ J : Nat → Names → Store → Prop, ∀ l η σ', J l η σ' ↔ (C12 (η "met" = some (.lst a)) (η "now" = some (.lst b)) (η "signs" = some (.lst c)) (η "numbers" = some (.lst d)) (η "draw" = some (.int draw)) (η "bare" = some (.lst z)) (η "table" = some (.lst T)) (η "pair" = some (.int i)) (η "ways" = some (.lst w)) (η "k" = some (.int k)) ((∀ x ds, σ6 x = some ds → σ' x = some ds)) (Mat σ6 σ' T (bareOf now).length (fun k' j => if k' < k ∨ (k' = k ∧ j < l) then tabF met now signs numbers draw (i + 1) k' j else tabF met now signs numbers draw i k' j))) := ⟨_, fun _ _ _ => Iff.rfl⟩
        refine LOOP.inv J3 ?_ ?_ ?_
        · exact (hJ3 _ _ _).mpr ⟨e1, e2, e3, e4, e5, e6, e7, e7a, e7b, rfl, e8, e9.congr fun k' j _ _ => by
            by_cases q : k' < k
            · rw [if_pos q, if_pos (.inl q)]
            · rw [if_neg q, if_neg (by (first | lia | omega))]⟩
        · rintro l dl η σ' hdl hj3
          obtain ⟨e1, e2, e3, e4, e5, e6, e7, e7a, e7b, e7c, e8, e9⟩ := (hJ3 _ _ _).mp hj3
          obtain ⟨hl, rfl⟩ := ups_get hdl
          have hl : l < (bareOf now).length := by rw [Int.toNat_natCast, nats_len] at hl; exact hl
          refine ⟨trivial, AS_name ?_⟩
          rw [Int.zero_add]
          refine EXS.lock fun Q3 hQ3 => ?_
          obtain ⟨r, ds, m1, m2, m3, m4, m5, -, m6⟩ := e9.row hk
          refine X_cons ?_; refine X_augitem ?_; refine E_sub ?_; refine E_name rfl e7 ?_; refine E_name rfl e7c ?_; refine I_list (d := .lst r) rfl m1 (Int.natCast_nonneg _) (by (first | lia | omega)) (by rw [Int.toNat_natCast]; exact m3) ?_; refine nm (d := .int l) ?_
          refine ⟨r, (l : Int), _, .int (tabF met now signs numbers draw i k l), rfl, rfl, m4, Int.natCast_nonneg _, ?_, by rw [rowD_len]; (first | lia | omega), ?_⟩
          · rw [Int.toNat_natCast, rowD_get hl, if_neg (by (first | lia | omega))]
          refine E_bin ?_; refine E_bin ?_; refine E_sub ?_; refine E_name rfl e4 ?_; refine E_name rfl e7a ?_; refine I_list (d := .int (numbers.getD i 0 : Nat)) rfl (e8 _ _ (hk0 _ _ hd)) (Int.natCast_nonneg _) numl (by rw [Int.toNat_natCast]; exact numget i hi) ?_
          refine E_sub ?_; refine E_name rfl e7b ?_; refine E_name rfl e7c ?_; refine I_list (d := .int (waysF met now signs draw i k)) rfl (e8 _ _ hww) (Int.natCast_nonneg _) wl (by rw [Int.toNat_natCast]; exact wget k hk) ?_
          refine O_mul (small_mul (by have := numsmall i; (first | lia | omega)) _) ?_
          refine E_sub ?_; refine E_name rfl e7b ?_; refine nm (d := .int l) ?_; refine I_list (d := .int (waysF met now signs draw i l)) rfl (e8 _ _ hww) (Int.natCast_nonneg _) wl (by rw [Int.toNat_natCast]; exact wget l hl) ?_
          refine O_mul (small_mul' (by have := wsm l; (first | lia | omega)) _) ?_; refine O_iadd ?_
          refine ⟨_, m4, by rw [rowD_len]; (first | lia | omega), by rw [rowD_len]; (first | lia | omega), X_nil (hQ3 _ _ _ ((hJ3 _ _ _).mpr ⟨e1, e2, e3, e4, e5, e6, e7, e7a, e7b, e7c, ?_, ?_⟩))⟩
          · intro x ds hx
            rw [put_ne (fun e => by subst e; rw [m5] at hx; cases hx)]
            exact e8 x ds hx
          · rw [Int.toNat_natCast]
            refine (m6 l _).congr fun k' j hk' hj => ?_
            by_cases q : k' = k ∧ j = l
            · obtain ⟨rfl, rfl⟩ := q
              rw [if_pos ⟨rfl, rfl⟩, if_pos (by (first | lia | omega))]
              show _ = if now.getD i 0 = 1 then _ else _
              rw [if_pos (by rw [hgd]; exact h1)]
            · rw [if_neg q]
              by_cases q2 : k' < k ∨ (k' = k ∧ j < l)
              · rw [if_pos q2, if_pos (by (first | lia | omega))]
              · rw [if_neg q2, if_neg (by (first | lia | omega))]
        · rintro η σ' hj3
          obtain ⟨e1, e2, e3, e4, e5, e6, e7, e7a, e7b, e7c, e8, e9⟩ := (hJ3 _ _ _).mp hj3
          refine ⟨trivial, X_nil (hQ2 _ _ _ ((hJ2 _ _ _).mpr ⟨e1, e2, e3, e4, e5, e6, e7, e7a, e7b, e8, e9.congr fun k' j hk' hj => ?_⟩))⟩
          rw [ups_length, Int.toNat_natCast, nats_len]
          by_cases q : k' < k + 1
          · rw [if_pos q, if_pos (by (first | lia | omega))]
          · rw [if_neg q, if_neg (by (first | lia | omega))]
      · rintro η σ' hj2
        obtain ⟨e1, e2, e3, e4, e5, e6, e7, e7a, e7b, e8, e9⟩ := (hJ2 _ _ _).mp hj2
        refine ⟨trivial, X_nil (X_nil (hQ _ _ _ ((hJ1 _ _ _).mpr ⟨e1, e2, e3, e4, e5, e6, e7, fun x ds hx => e8 _ _ (hk0 _ _ hx), (e9.congr fun k' j hk' hj => ?_).base fun x hx => ?_⟩)))⟩
        · rw [ups_length, Int.toNat_natCast, nats_len, if_pos hk']
        · cases q : σ0 x with
          | none => rfl
          | some ds => rw [hk0 _ _ q] at hx; cases hx
    · rw [decide_eq_false h1, if_neg Bool.false_ne_true]
      refine X_nil (X_nil (hQ _ _ _ ((hJ1 _ _ _).mpr ⟨e1, e2, e3, e4, e5, e6, e7, e8, e9.congr fun k j _ _ => ?_⟩)))
      show _ = if now.getD i 0 = 1 then _ else _
      rw [if_neg (by rw [hgd]; exact h1)]
  · rintro η σ' hj
    obtain ⟨e1, e2, e3, e4, e5, e6, e7, e8, e9⟩ := (hJ1 _ _ _).mp hj
    rw [ups_length, Int.toNat_natCast, nats_len] at e9
    refine ⟨trivial, ?_⟩
    refine X_cons ?_; refine X_return ?_; refine E_name rfl e7 ?_
    exact h T σ' (e9.base fun x hx => by
      cases q : σ2 x with
      | none => rfl
      | some ds => rw [hsub _ _ q] at hx; cases hx) fun x ds hx => e8 _ _ (hsub _ _ hx)
end
end Mine

namespace Mine
open PySem PySem.W PyProof.Rows

section
variable {X : Ctx} {n m : Nat} {F : Fm} {η η' : Names} {σ σ₁ : Store} {Q : D → Store → Prop}
set_option maxHeartbeats 4000000 in
theorem fn_det (fx : Facts X) {T : Addr} {k : Nat} {f : Nat → Nat → Int} (hk10 : k ≤ 10) (hM : Mat emp σ T k f) (hok : detOk k k 0 1 f) (h : ∀ σ', Q (.int (detRun k 0 1 f)) σ') : FN X 1 "_law_determinant" [.lst T] σ Q := by
  have hbig := line_big
  refine FN_intro (d := d_law_determinant) (fx.fn _ (by simp [allDefs])) ok_law_determinant rfl ⟨fun env own => ?_⟩
  have ⟨ds0, hT0, hl0⟩ : ∃ ds, σ T = some ds ∧ ds.length = k := by
    obtain ⟨rs, h1, h2, _⟩ := hM
    exact ⟨_, h1, by simpa using h2⟩
  have dl : ds0.length ≤ sizeLine := by (first | lia | omega)
  refine X_cons ?_; refine X_assign rfl ?_; refine E_int ?_; refine X_cons ?_; refine X_for ?_; refine ITR_range rfl fx.m_range fx.b_range rfl ?_; refine S_cons ?_; refine E_call rfl fx.m_len fx.b_len rfl ?_; refine S_cons ?_; refine nm (d := .lst T) ?_; refine S_nil ?_; refine B_lenL hT0 dl ?_; refine S_nil ?_; refine ⟨(ds0.length : Nat), rfl, by (first | lia | omega), by (first | lia | omega), ?_⟩
  obtain ⟨J1, hJ1⟩ : ∃ J : Nat → Names → Store → Prop, ∀ i η σ', J i η σ' ↔ (∃ (last : Int) (g : Nat → Nat → Int), C7 (i ≤ k) (η "table" = some (.lst T)) (η "last" = some (.int last)) (σ' T = some ds0) (Mat emp σ' T k g) (detOk k (k - i) i last g) (detRun (k - i) i last g = detRun k 0 1 f)) := ⟨_, fun _ _ _ => Iff.rfl⟩
  refine LOOP.inv J1 ?_ ?_ ?_
  · exact (hJ1 _ _ _).mpr ⟨1, f, by (first | lia | omega), rfl, rfl, hT0, hM, hok, rfl⟩
  · rintro i dd η σ' hdd hj
    obtain ⟨last, g, l1, e1, e2, e3, e4, e5, e6⟩ := (hJ1 _ _ _).mp hj
    obtain ⟨hi, rfl⟩ := ups_get hdd
    have hi : i < k := by rw [Int.toNat_natCast] at hi; (first | lia | omega)
    refine ⟨trivial, AS_name ?_⟩
    rw [Int.zero_add]
    refine EXS.lock fun Q' hQ => ?_
    rw [show k - i = (k - (i + 1)) + 1 by (first | lia | omega)] at e5 e6
    obtain ⟨o1, o2⟩ := e5
    have e6 : detRun (k - (i + 1)) (i + 1) (g i i) (elimF i last g) = detRun k 0 1 f := e6
    obtain ⟨rk, dsk, m1, m2, m3, m4, -, -, -⟩ := e4.row hi
    rw [e3] at m1
    cases m1
    refine X_cons ?_; refine X_assign rfl ?_; refine E_sub ?_; refine E_sub ?_; refine E_name rfl e1 ?_; refine nm (d := .int i) ?_; refine I_list (d := .lst rk) rfl e3 (Int.natCast_nonneg _) dl (by rw [Int.toNat_natCast]; exact m3) ?_; refine nm (d := .int i) ?_; refine I_list (d := .int (g i i)) rfl m4 (Int.natCast_nonneg _) (by rw [rowD_len]; (first | lia | omega)) (by rw [Int.toNat_natCast]; exact rowD_get hi) ?_
    refine X_cons ?_; refine X_for ?_; refine ITR_list ?_; refine E_slice ?_; refine E_name rfl e1 ?_; refine E_bin ?_; refine nm (d := .int i) ?_; refine E_int ?_; refine O_add ?_; refine ⟨_, rfl, ?_⟩; refine L_slice (.some (by (first | lia | omega))) .none e3 dl (fun y hy => ?_)
    rw [show (i : Int) + 1 = ((i + 1 : Nat) : Int) by (first | lia | omega), cut_drop]
    refine ⟨y, _, rfl, put_at, ?_⟩
    have q1 : (σ'.put y (ds0.drop (i + 1))) T = some ds0 := put_sub hy _ _ e3
    have q2 : Mat (emp.put y (ds0.drop (i + 1))) (σ'.put y (ds0.drop (i + 1))) T k g := by
      obtain ⟨rs, h1, h2, h3, h4⟩ := e4
      refine ⟨rs, put_sub hy _ _ h1, h2, h3, fun k r hr => ⟨⟨(h4 k r hr).1.1, ?_⟩, put_sub hy _ _ (h4 k r hr).2⟩⟩
      rw [put_ne (fun e => by subst e; rw [(h4 k _ hr).2] at hy; cases hy)]
    have q3 : (σ'.put y (ds0.drop (i + 1))) y = some (ds0.drop (i + 1)) := put_at
    have q4 : (emp.put y (ds0.drop (i + 1))) y = some (ds0.drop (i + 1)) := put_at
    generalize (emp.put y (ds0.drop (i + 1))) = σ0 at q2 q4
    generalize (σ'.put y (ds0.drop (i + 1))) = σ1 at q1 q2 q3 ⊢
    obtain ⟨J2, hJ2⟩ : ∃ J : Nat → Names → Store → Prop, ∀ li η σ', J li η σ' ↔ (C7 (η "table" = some (.lst T)) (η "last" = some (.int last)) (η "k" = some (.int i)) (η "pivot" = some (.int (g i i))) (σ' T = some ds0) (σ' y = some (ds0.drop (i + 1))) (Mat σ0 σ' T k (fun a b => if a < i + 1 + li then elimF i last g a b else g a b))) := ⟨_, fun _ _ _ => Iff.rfl⟩
    refine LOOP.inv J2 ?_ ?_ ?_
    · exact (hJ2 _ _ _).mpr ⟨e1, e2, rfl, rfl, q1, q3, q2.congr fun a b _ _ => by
        split
        · unfold elimF; rw [if_neg (by (first | lia | omega))]
        · rfl⟩
    · rintro li dl' η σ' hdl hj2
      obtain ⟨e1, e2, e2a, e2b, e3, e3a, e4⟩ := (hJ2 _ _ _).mp hj2
      rw [List.getElem?_drop] at hdl
      have hli : i + 1 + li < k := by have := (List.getElem?_eq_some_iff.mp hdl).1; (first | lia | omega)
      obtain ⟨r, dsr, m1, m2, m3, m4, m5, m6, m7⟩ := e4.row hli
      rw [e3] at m1
      cases m1
      rw [hdl] at m3
      cases m3
      have ry : r ≠ y := fun e => by subst e; rw [q4] at m5; cases m5
      obtain ⟨z1, z2, z3, z4⟩ := o1 (by (first | lia | omega))
      refine ⟨e3a, AS_name ?_⟩
      refine EXS.lock fun Q2 hQ2 => ?_
      refine X_cons ?_; refine X_assign rfl ?_; refine E_sub ?_; refine nm (d := .lst r) ?_; refine E_name rfl e2a ?_; refine I_list (d := .int (g (i + 1 + li) i)) rfl m4 (Int.natCast_nonneg _) (by rw [rowD_len]; (first | lia | omega)) (by rw [Int.toNat_natCast, rowD_get hi, if_neg (by (first | lia | omega))]) ?_
      refine X_cons ?_; refine X_for ?_; refine ITR_range rfl fx.m_range fx.b_range rfl ?_; refine S_cons ?_; refine E_call rfl fx.m_len fx.b_len rfl ?_; refine S_cons ?_; refine E_name rfl e1 ?_; refine S_nil ?_; refine B_lenL e3 dl ?_; refine S_nil ?_; refine ⟨(ds0.length : Nat), rfl, by (first | lia | omega), by (first | lia | omega), ?_⟩
      obtain ⟨J3, hJ3⟩ : ∃ J : Nat → Names → Store → Prop, ∀ j η σ', J j η σ' ↔ (C9 (η "table" = some (.lst T)) (η "last" = some (.int last)) (η "k" = some (.int i)) (η "pivot" = some (.int (g i i))) (η "head" = some (.int (g (i + 1 + li) i))) (η "line" = some (.lst r)) (σ' T = some ds0) (σ' y = some (ds0.drop (i + 1))) (Mat σ0 σ' T k (fun a b => if a < i + 1 + li ∨ (a = i + 1 + li ∧ b < j) then elimF i last g a b else g a b))) := ⟨_, fun _ _ _ => Iff.rfl⟩
      refine LOOP.inv J3 ?_ ?_ ?_
      · exact (hJ3 _ _ _).mpr ⟨e1, e2, e2a, e2b, rfl, rfl, e3, e3a, e4.congr fun a b _ _ => by
          by_cases q : a < i + 1 + li
          · rw [if_pos q, if_pos (.inl q)]
          · rw [if_neg q, if_neg (by (first | lia | omega))]⟩
      · rintro j dj η σ' hdj hj3
        obtain ⟨e1, e2, e2a, e2b, e2c, e2d, e3, e3a, e4⟩ := (hJ3 _ _ _).mp hj3
        obtain ⟨hj, rfl⟩ := ups_get hdj
        have hj : j < k := by rw [Int.toNat_natCast] at hj; (first | lia | omega)
        refine ⟨trivial, AS_name ?_⟩
        rw [Int.zero_add]
        refine EXS.lock fun Q3 hQ3 => ?_
        obtain ⟨r', dsr, m1, m2, m3, m4, m5, m6, m7⟩ := e4.row hli
        rw [e3] at m1
        cases m1
        rw [hdl] at m3
        cases m3
        obtain ⟨rk, dsk, n1, n2, n3, n4, -, -, -⟩ := e4.row hi
        rw [e3] at n1
        cases n1
        refine X_cons ?_; refine X_setitem ?_; refine E_bin ?_; refine E_bin ?_; refine E_bin ?_; refine E_sub ?_; refine E_name rfl e2d ?_; refine nm (d := .int j) ?_; refine I_list (d := .int (g (i + 1 + li) j)) rfl m4 (Int.natCast_nonneg _) (by rw [rowD_len]; (first | lia | omega)) (by rw [Int.toNat_natCast, rowD_get hj, if_neg (by (first | lia | omega))]) ?_
        refine E_name rfl e2b ?_; refine O_mul (small_mul' z3 _) ?_
        refine E_bin ?_; refine E_name rfl e2c ?_; refine E_sub ?_; refine E_sub ?_; refine E_name rfl e1 ?_; refine E_name rfl e2a ?_; refine I_list (d := .lst rk) rfl e3 (Int.natCast_nonneg _) dl (by rw [Int.toNat_natCast]; exact n3) ?_; refine nm (d := .int j) ?_; refine I_list (d := .int (g i j)) rfl n4 (Int.natCast_nonneg _) (by rw [rowD_len]; (first | lia | omega)) (by rw [Int.toNat_natCast, rowD_get hj, if_pos (by (first | lia | omega))]; unfold elimF; rw [if_neg (by (first | lia | omega))]) ?_
        refine O_mul (small_mul (z4 _ (by (first | lia | omega)) hli) _) ?_; refine O_sub ?_; refine E_name rfl e2 ?_; refine O_fdiv z1 (small_div z2) ?_; refine E_name rfl e2d ?_; refine nm (d := .int j) ?_
        refine ⟨r, (j : Int), _, rfl, rfl, m4, Int.natCast_nonneg _, by rw [rowD_len]; (first | lia | omega), by rw [rowD_len]; (first | lia | omega), X_nil (hQ3 _ _ _ <| (hJ3 _ _ _).mpr ⟨e1, e2, e2a, e2b, e2c, e2d, by rw [put_ne (Ne.symm m6)]; exact e3, by rw [put_ne (Ne.symm ry)]; exact e3a, ?_⟩)⟩
        rw [Int.toNat_natCast]
        refine (m7 j _).congr fun a b ha hb => ?_
        by_cases q : a = i + 1 + li ∧ b = j
        · obtain ⟨rfl, rfl⟩ := q
          rw [if_pos ⟨rfl, rfl⟩, if_pos (by (first | lia | omega))]
          unfold elimF
          rw [if_pos (by (first | lia | omega))]
        · rw [if_neg q]
          by_cases q2 : a < i + 1 + li ∨ (a = i + 1 + li ∧ b < j)
          · rw [if_pos q2, if_pos (by (first | lia | omega))]
          · rw [if_neg q2, if_neg (by (first | lia | omega))]
      · rintro η σ' hj3
        obtain ⟨e1, e2, e2a, e2b, e2c, e2d, e3, e3a, e4⟩ := (hJ3 _ _ _).mp hj3
        refine ⟨trivial, X_nil (hQ2 _ _ _ ((hJ2 _ _ _).mpr ⟨e1, e2, e2a, e2b, e3, e3a, e4.congr fun a b ha hb => ?_⟩))⟩
        rw [ups_length, Int.toNat_natCast]
        by_cases q : a < i + 1 + (li + 1)
        · rw [if_pos q, if_pos (by (first | lia | omega))]
        · rw [if_neg q, if_neg (by (first | lia | omega))]
    · rintro η σ' hj2
      obtain ⟨e1, e2, e2a, e2b, e3, e3a, e4⟩ := (hJ2 _ _ _).mp hj2
      refine ⟨e3a, ?_⟩
      refine X_cons ?_; refine X_assign rfl ?_; refine E_name rfl e2b ?_; refine X_nil ?_
      refine hQ _ _ _ ((hJ1 _ _ _).mpr ?_)
      refine ⟨g i i, elimF i last g, by (first | lia | omega), e1, rfl, e3, (e4.base fun _ _ => rfl).congr fun a b ha hb => ?_, o2, e6⟩
      rw [List.length_drop, if_pos (by (first | lia | omega))]
  · rintro η σ' hj
    obtain ⟨last, g, l1, e1, e2, e3, e4, e5, e6⟩ := (hJ1 _ _ _).mp hj
    rw [ups_length, Int.toNat_natCast, hl0, Nat.sub_self] at e6
    have e6 : last = detRun k 0 1 f := e6
    refine ⟨trivial, ?_⟩
    refine X_cons ?_; refine X_return ?_; refine E_name rfl e2 ?_
    rw [e6]
    exact h σ'
end
end Mine

namespace Mine
open PySem PySem.W PyProof.Rows

theorem ok_law : DefOk d_law 1 where
  bind := fun pm cd doc vs h => by obtain ⟨a, rfl⟩ := len1 h; rfl
  len := rfl
  nodup := by decide
  kind := rfl
  co := rfl
  gen := rfl
  args := rfl
  nofree := rfl

noncomputable def signsOf (numbers : List Nat) : List (List Nat) := numbers.map fun k => SIGNS.getD (k - 14) []
noncomputable def textB (size : Nat) (row sides numbers : List Nat) (b : Nat) : List Nat := textOf (partsOf (metOf size row (bitsOf size b) sides) (signsOf numbers)) (nowOf (bitsOf size b))

structure TurnOk (size : Nat) (row sides numbers : List Nat) (draw bits : Nat) : Prop where
  met : roundGo row (swOf size (bitsOf size bits) sides) 20 0 [] = some (metOf size row (bitsOf size bits) sides)
  len : (metOf size row (bitsOf size bits) sides).length ≤ 16
  lt : ∀ p ∈ metOf size row (bitsOf size bits) sides, p < size
  told : chk (asValue (textB size row sides numbers bits) draw) = decide ((metOf size row (bitsOf size bits) sides).length = 2 * size)
  words : chk (asWords (textB size row sides numbers bits) draw) = decide (loneOf (metOf size row (bitsOf size bits) sides) (bitsOf size bits) = [])
structure FinOk (size : Nat) (row sides numbers : List Nat) (draw b : Nat) : Prop where
  read : ∃ syms fin, symGo TT 200 (textB size row sides numbers b) 0 = some syms ∧ syms.length ≤ 1000 ∧ readGo (syms ++ [0]) ⟨[], [], [], [], []⟩ = some fin ∧
    fin.row = (metOf size row (bitsOf size b) sides).map (fun p => idx p (orderOf (metOf size row (bitsOf size b) sides))) ∧
    fin.sides = (orderOf (metOf size row (bitsOf size b) sides)).map (fun p => (nowOf (bitsOf size b)).getD p 0) ∧
    fin.numbers = (orderOf (metOf size row (bitsOf size b) sides)).map (fun p => numbers.getD p 0)
  det : detOk (bareOf (nowOf (bitsOf size b))).length (bareOf (nowOf (bitsOf size b))).length 0 1 (tabF (metOf size row (bitsOf size b) sides) (nowOf (bitsOf size b)) (signsOf numbers) numbers draw size)
  weigh : detRun (bareOf (nowOf (bitsOf size b))).length 0 1 (tabF (metOf size row (bitsOf size b) sides) (nowOf (bitsOf size b)) (signsOf numbers) numbers draw size) = ((totG size row sides numbers (2 ^ size) : Nat) : Int)
structure LawOk (size : Nat) (row sides numbers : List Nat) (draw : Nat) : Prop where
  rl : row.length ≤ 16
  sl : sides.length = size
  s1 : ∀ s ∈ sides, s ≤ 1
  turn : ∀ bits, bits < 2 ^ size → (bitsOf size bits).sum = sides.count 0 → TurnOk size row sides numbers draw bits
  ne : takG size row sides (2 ^ size) ≠ []
  fin : ∀ b ∈ takG size row sides (2 ^ size), FinOk size row sides numbers draw b

theorem signs_some {k : Nat} (h1 : 14 ≤ k) (h2 : k ≤ 54) : ∃ w, SIGNS[k - 14]? = some w ∧ SIGNS.getD (k - 14) [] = w := by
  have : k - 14 < SIGNS.length := by have : SIGNS.length = 41 := rfl; (first | lia | omega)
  refine ⟨SIGNS[k - 14], List.getElem?_eq_getElem this, ?_⟩
  rw [List.getD_eq_getElem?_getD, List.getElem?_eq_getElem this]; rfl
theorem signs_ok {w : List Nat} (h : w ∈ SIGNS) : w.length ≤ 3 ∧ ∀ c ∈ w, c ≠ 92 ∧ c ≠ 34 ∧ c ≠ 40 ∧ c ≠ 41 := by
  have a : ∀ w ∈ SIGNS, w.length ≤ 3 ∧ ∀ c ∈ w, c ≠ 92 ∧ c ≠ 34 ∧ c ≠ 40 ∧ c ≠ 41 := by decide
  exact a w h
theorem sgOk {numbers : List Nat} (h : ∀ k ∈ numbers, 14 ≤ k ∧ k ≤ 54) : SgOk (signsOf numbers) := by
  have key : ∀ w ∈ signsOf numbers, w ∈ SIGNS := by
    intro w hw
    obtain ⟨k, hk, rfl⟩ := List.mem_map.mp hw
    obtain ⟨w, h1, h2⟩ := signs_some (h k hk).1 (h k hk).2
    rw [h2]; exact List.mem_of_getElem? h1
  exact ⟨fun w hw => (signs_ok (key w hw)).1, fun w hw => (signs_ok (key w hw)).2⟩
theorem nowOf_len (bare : List Nat) : (nowOf bare).length = bare.length := by simp [nowOf]
theorem nowOf_le (bare : List Nat) : ∀ s ∈ nowOf bare, s ≤ 1 := by
  intro s hs
  obtain ⟨b, _, rfl⟩ := List.mem_map.mp hs
  (first | lia | omega)

section
variable {X : Ctx} {n m : Nat} {F : Fm} {η η' : Names} {σ σ₁ : Store} {Q : D → Store → Prop}
set_option maxHeartbeats 8000000 in
theorem law_turn (fx : Facts X) {R S_ C G K : Addr} {size draw : Nat} {row sides numbers : List Nat} (hs : size ≤ 4) (lo : LawOk size row sides numbers draw) (hnum : ∀ k ∈ numbers, 14 ≤ k ∧ k ≤ 54) (hnl : numbers.length = size)
    (hR : σ R = some (nats row)) (hS : σ S_ = some (nats sides)) (hC : σ C = some (nats numbers)) (hG : σ G = some (strsD (signsOf numbers))) {env : Env} {own : Addr → Prop}
    (e1 : η "size" = some (.int size)) (e2 : η "draw" = some (.int draw)) (e3 : η "row" = some (.lst R)) (e4 : η "sides" = some (.lst S_)) (e5 : η "numbers" = some (.lst C)) (e6 : η "signs" = some (.lst G)) (e7 : η "total" = some (.int 0)) (e8 : η "taken" = some (.lst K)) (hK : σ K = none) :
    EXS X 12 ⟨d_law.scope, env, own⟩ η (σ.put K []) (d_law.body.drop 7) fun fl _ _ => fl = .ret (.bool true) := by
  have hbig := line_big
  have hslen := lo.sl
  have hsl2 : (signsOf numbers).length = size := by simp [signsOf, hnl]
  have hp16 : 2 ^ size ≤ 16 := by
    have : size = 0 ∨ size = 1 ∨ size = 2 ∨ size = 3 ∨ size = 4 := by (first | lia | omega)
    rcases this with rfl | rfl | rfl | rfl | rfl <;> decide
  have hpw : ((Builtin.Int.intBits 2 : Nat) : Int) * ((size : Nat) : Int) ≤ 2 ^ 27 := by
    have : Builtin.Int.intBits 2 = 2 := by decide
    rw [this]; (first | lia | omega)
  have rl : (nats row).length ≤ sizeLine := by rw [nats_len]; have := lo.rl; (first | lia | omega)
  have sl : (nats sides).length ≤ sizeLine := by rw [nats_len]; (first | lia | omega)
  have nl : (nats numbers).length ≤ sizeLine := by rw [nats_len]; (first | lia | omega)
  have hkR : K ≠ R := ne_of_none hK hR
  refine X_cons ?_; refine X_for ?_; refine ITR_range rfl fx.m_range fx.b_range rfl ?_; refine S_cons ?_; refine E_bin ?_; refine E_int ?_; refine E_name rfl e1 ?_; refine O_pow (Int.natCast_nonneg _) hpw ?_; refine S_nil ?_; refine ⟨((2 ^ size : Nat) : Int), by rw [Int.toNat_natCast]; push_cast; rfl, Int.le_trans (by decide) (Int.natCast_nonneg _), Int.le_trans (Int.ofNat_le.mpr hp16) (by decide), ?_⟩
  obtain ⟨J, hJ⟩ : ∃ J : Nat → Names → Store → Prop, ∀ b η σ', J b η σ' ↔ (∃ es : List D, C11 (η "size" = some (.int size)) (η "draw" = some (.int draw)) (η "row" = some (.lst R)) (η "sides" = some (.lst S_)) (η "numbers" = some (.lst C)) (η "signs" = some (.lst G)) (η "total" = some (.int (totG size row sides numbers b : Nat))) (η "taken" = some (.lst K)) ((∀ x ds, σ x = some ds → σ' x = some ds)) (σ' K = some es) (Tk σ' K es (textB size row sides numbers) (fun b => metOf size row (bitsOf size b) sides) (fun b => nowOf (bitsOf size b)) (takG size row sides b))) := ⟨_, fun _ _ _ => Iff.rfl⟩
  refine LOOP.inv J ?_ ?_ ?_
  · exact (hJ _ _ _).mpr ⟨[], e1, e2, e3, e4, e5, e6, e7, e8, put_sub hK, put_at, rfl, fun i b hb => by cases hb⟩
  · clear e1 e2 e3 e4 e5 e6 e7 e8
    rintro b dd η σ' hdd hj
    obtain ⟨es, e1, e2, e3, e4, e5, e6, e7, e8, e9, e10, e11⟩ := (hJ _ _ _).mp hj
    obtain ⟨hb, rfl⟩ := ups_get hdd
    have hb : b < 2 ^ size := by rw [Int.toNat_natCast] at hb; exact hb
    refine ⟨trivial, AS_name ?_⟩
    rw [Int.zero_add]
    refine EXS.lock fun Q' hQ => ?_
    have hR1 := e9 _ _ hR
    have hS1 := e9 _ _ hS
    have hC1 := e9 _ _ hC
    have hG1 := e9 _ _ hG
    have hbits : (List.range size).filterMap (fun p => some (D.int ((b / 2 ^ p % 2 : Nat) : Int))) = nats (bitsOf size b) := by
      rw [filterMap_some_eq, nats_map]; unfold bitsOf; rw [List.map_map]; rfl
    refine X_cons ?_; refine X_assign_comp rfl rfl ?_; refine ITR_range rfl fx.m_range fx.b_range rfl ?_; refine S_cons ?_; refine E_name rfl e1 ?_; refine S_nil ?_; refine ⟨(size : Nat), rfl, by (first | lia | omega), by (first | lia | omega), by rw [ups_length]; (first | lia | omega), fun env' own' => ?_⟩
    refine CLOOP.fm (List.range size) (fun p : Nat => D.int p) (fun p => some (D.int ((b / 2 ^ p % 2 : Nat) : Int))) (fun η2 σ2 => η2 "bits" = some (.int b) ∧ σ2 = σ') (by rw [Int.toNat_natCast, ups_nats, nats_map]) ⟨rfl, rfl⟩ ?_ ?_
    · rintro p η2 σ2 hp ⟨u1, rfl⟩
      refine ⟨trivial, AS_name ?_⟩
      refine ETS_nil ?_
      rw [if_pos rfl]
      refine E_bin ?_; refine E_bin ?_; refine E_name rfl u1 ?_; refine nm (d := .int p) ?_; refine O_shr (Int.natCast_nonneg _) ?_; refine E_int ?_; refine O_and ?_
      exact ⟨by rw [bit_int], u1, rfl⟩
    rintro η2 σ2 ⟨u1, rfl⟩
    refine ⟨trivial, fun B hB => ?_⟩
    rw [hbits]
    have hBK : B ≠ K := ne_of_none hB e10
    have hblen := bitsOf_len size b
    have hble := bitsOf_le size b
    have turn := lo.turn b hb
    have hacc : accB size row sides b = (decide ((bitsOf size b).sum = sides.count 0) && decide ((metOf size row (bitsOf size b) sides).length = 2 * size)) := rfl
    have hTb : textB size row sides numbers b = textOf (partsOf (metOf size row (bitsOf size b) sides) (signsOf numbers)) (nowOf (bitsOf size b)) := rfl
    have hnl1 : (nowOf (bitsOf size b)).length = size := by rw [nowOf_len, hblen]
    have hnle := nowOf_le (bitsOf size b)
    have hNb : nowOf (bitsOf size b) = (bitsOf size b).map fun x => 1 - x := rfl
    have tot1 : totG size row sides numbers (b + 1) = if accB size row sides b = true then totG size row sides numbers b + prodG numbers (bitsOf size b) size else totG size row sides numbers b := rfl
    have tak1 : takG size row sides (b + 1) = if accB size row sides b = true then takG size row sides b ++ [b] else takG size row sides b := rfl
    have g1 := put_sub (ds := nats (bitsOf size b)) hB _ _ hR1
    have g2 := put_sub (ds := nats (bitsOf size b)) hB _ _ hS1
    have g3 := put_sub (ds := nats (bitsOf size b)) hB _ _ hC1
    have g4 := put_sub (ds := nats (bitsOf size b)) hB _ _ hG1
    have g5 := put_sub (ds := nats (bitsOf size b)) hB _ _ e10
    have g6 : (σ2.put B (nats (bitsOf size b))) B = some (nats (bitsOf size b)) := put_at
    have g7 := put_sub (ds := nats (bitsOf size b)) hB
    generalize (σ2.put B (nats (bitsOf size b))) = σ3 at g1 g2 g3 g4 g5 g6 g7 ⊢
    have hk0 : (toInts sides).count (0 : Int) = sides.count 0 := count_nats sides 0
    have hbsum := sum_le_len hble
    refine X_cons ?_; refine X_if ?_; refine T_cmp ?_; refine E_call rfl fx.m_sum fx.b_sum rfl ?_; refine S_cons ?_; refine nm (d := .lst B) ?_; refine S_nil ?_; refine B_sum (ns := toInts (bitsOf size b)) g6 (small_sum (by (first | lia | omega))) ?_; refine slot_count ?_; refine E_name rfl e4 ?_; refine ⟨⟨rfl, by rw [g2]; rfl⟩, ?_⟩; refine S_cons ?_; refine E_int ?_; refine S_nil ?_; refine M_count (ns := toInts sides) g2 ?_
    rw [sum_nats, hk0]
    refine C_boolnat ?_; refine ⟨_, rfl, ?_⟩
    by_cases hq : (bitsOf size b).sum = sides.count 0
    · rw [decide_eq_true hq, if_pos rfl]
      rw [decide_eq_true hq, Bool.true_and] at hacc
      have tn := turn hq
      obtain ⟨t1, t2, t3, t4, t5⟩ := tn
      rw [hTb] at t4 t5
      have hsg := sgOk hnum
      have htl : (textOf (partsOf (metOf size row (bitsOf size b) sides) (signsOf numbers)) (nowOf (bitsOf size b))).length ≤ 100 := by
        unfold textOf
        have := textGo_len 4 (nowOf (bitsOf size b)) (partsOf (metOf size row (bitsOf size b) sides) (signsOf numbers)) 0 hnle (by (first | lia | omega)) (partsOf_len hsg)
        rw [partsOf_length] at this; (first | lia | omega)
      have ht92 : 92 ∉ textOf (partsOf (metOf size row (bitsOf size b) sides) (signsOf numbers)) (nowOf (bitsOf size b)) := textGo_no92 _ _ 0 (partsOf_no92 hsg)
      generalize hmet : metOf size row (bitsOf size b) sides = met at *
      generalize hbare : bitsOf size b = bare at *
      refine X_cons ?_; refine X_assign rfl ?_; refine E_fn (d := d_law_round) (fx.fn _ (by simp [allDefs])) rfl rfl rfl ?_; refine S_cons ?_; refine E_name rfl e3 ?_; refine S_cons ?_; refine E_comp rfl ?_; refine ITR_range rfl fx.m_range fx.b_range rfl ?_; refine S_cons ?_; refine E_name rfl e1 ?_; refine S_nil ?_; refine ⟨(size : Nat), rfl, by (first | lia | omega), by (first | lia | omega), by rw [ups_length]; (first | lia | omega), fun env' own' => ?_⟩
      refine CLOOP.fm (List.range size) (fun p : Nat => D.int p) (fun p => if (fun p => decide (bare.getD p 0 = sides.getD p 0)) p = true then some (D.int (p : Nat)) else none) (fun η2 σ2 => η2 "bare" = some (.lst B) ∧ η2 "sides" = some (.lst S_) ∧ σ2 = σ3) (by rw [Int.toNat_natCast, ups_nats, nats_map]) ⟨rfl, e4, rfl⟩ ?_ ?_
      · rintro p η2 σ2 hp ⟨u1, u2, rfl⟩
        have hp : p < size := by simpa using hp
        refine ⟨trivial, AS_name ?_⟩
        refine ETS_one ?_; refine T_cmp ?_; refine E_sub ?_; refine E_name rfl u1 ?_; refine nm (d := .int p) ?_; refine I_list (d := .int (bare.getD p 0 : Nat)) rfl g6 (Int.natCast_nonneg _) (by rw [nats_len]; (first | lia | omega)) (by rw [Int.toNat_natCast]; exact nats_getD (by (first | lia | omega))) ?_
        refine E_sub ?_; refine E_name rfl u2 ?_; refine nm (d := .int p) ?_; refine I_list (d := .int (sides.getD p 0 : Nat)) rfl g2 (Int.natCast_nonneg _) sl (by rw [Int.toNat_natCast]; exact nats_getD (by (first | lia | omega))) ?_; refine C_boolnat ?_; refine ⟨_, rfl, ?_⟩
        by_cases hd : decide (bare.getD p 0 = sides.getD p 0) = true
        · rw [if_pos hd]
          exact nm (d := .int p) ⟨by dsimp only; rw [if_pos hd], u1, u2, rfl⟩
        · rw [if_neg hd]
          exact ⟨by dsimp only; rw [if_neg hd], u1, u2, rfl⟩
      rintro η2 σ2 ⟨-, -, rfl⟩
      refine ⟨trivial, fun z hz => ?_⟩
      rw [filterMap_guard]
      refine S_nil ?_; refine FN.up (fn_round fx (k := 20) (sw := swOf size bare sides) (put_sub hz _ _ g1) put_at (by have := lo.rl; (first | lia | omega)) (by (first | lia | omega)) t1 fun m hm => ?_) (by (first | lia | omega))
      have hm : (σ2.put z (nats (swOf size bare sides))) m = none := hm
      have hmK : m ≠ K := ne_of_none hm (put_sub hz _ _ g5)
      have f1 := put_sub (ds := nats met) hm _ _ (put_sub (ds := nats (swOf size bare sides)) hz _ _ g1)
      have f2 := put_sub (ds := nats met) hm _ _ (put_sub (ds := nats (swOf size bare sides)) hz _ _ g2)
      have f3 := put_sub (ds := nats met) hm _ _ (put_sub (ds := nats (swOf size bare sides)) hz _ _ g3)
      have f4 := put_sub (ds := nats met) hm _ _ (put_sub (ds := nats (swOf size bare sides)) hz _ _ g4)
      have f5 := put_sub (ds := nats met) hm _ _ (put_sub (ds := nats (swOf size bare sides)) hz _ _ g5)
      have f6 := put_sub (ds := nats met) hm _ _ (put_sub (ds := nats (swOf size bare sides)) hz _ _ g6)
      have f7 : ∀ x ds, σ2 x = some ds → ((σ2.put z (nats (swOf size bare sides))).put m (nats met)) x = some ds := fun x ds hx => put_sub hm _ _ (put_sub hz _ _ hx)
      have f8 : ((σ2.put z (nats (swOf size bare sides))).put m (nats met)) m = some (nats met) := put_at
      change EXS X 12 _ _ ((σ2.put z (nats (swOf size bare sides))).put m (nats met)) _ _
      generalize ((σ2.put z (nats (swOf size bare sides))).put m (nats met)) = σ4 at f1 f2 f3 f4 f5 f6 f7 f8 ⊢
      have bl : (nats bare).length ≤ sizeLine := by rw [nats_len]; (first | lia | omega)
      have ml : (nats met).length ≤ sizeLine := by rw [nats_len]; (first | lia | omega)
      refine X_cons ?_; refine X_assign_comp rfl rfl ?_; refine ITR_list ?_; refine nm (d := .lst B) ?_; refine ⟨B, _, rfl, f6, bl, fun env' own' => ?_⟩
      refine CLOOP.fm bare (fun x : Nat => D.int x) (fun x => some (D.int ((1 - x : Nat) : Int))) (fun η2 σ2 => σ2 = σ4) (nats_map _) rfl ?_ ?_
      · rintro x η2 σ5 hx rfl
        have := hble x hx
        refine ⟨f6, AS_name ?_⟩
        refine ETS_nil ?_
        rw [if_pos rfl]
        refine E_bin ?_; refine E_int ?_; refine nm (d := .int x) ?_; refine O_sub ?_
        exact ⟨by rw [show (1 : Int) - (x : Int) = ((1 - x : Nat) : Int) by (first | lia | omega)], rfl⟩
      rintro η2 σ5 rfl
      refine ⟨f6, fun w hw => ?_⟩
      have hnw : bare.filterMap (fun x => some (D.int ((1 - x : Nat) : Int))) = nats (nowOf bare) := by
        rw [filterMap_some_eq, nats_map]; unfold nowOf; rw [List.map_map]; rfl
      rw [hnw]
      have hwK : w ≠ K := ne_of_none hw f5
      have a1 := put_sub (ds := nats (nowOf bare)) hw _ _ f1
      have a2 := put_sub (ds := nats (nowOf bare)) hw _ _ f2
      have a3 := put_sub (ds := nats (nowOf bare)) hw _ _ f3
      have a4 := put_sub (ds := nats (nowOf bare)) hw _ _ f4
      have a5 := put_sub (ds := nats (nowOf bare)) hw _ _ f5
      have a6 := put_sub (ds := nats (nowOf bare)) hw _ _ f6
      have a7 : ∀ x ds, σ2 x = some ds → (σ5.put w (nats (nowOf bare))) x = some ds := fun x ds hx => put_sub hw _ _ (f7 x ds hx)
      have a8 := put_sub (ds := nats (nowOf bare)) hw _ _ f8
      have a9 : (σ5.put w (nats (nowOf bare))) w = some (nats (nowOf bare)) := put_at
      generalize (σ5.put w (nats (nowOf bare))) = σ6 at a1 a2 a3 a4 a5 a6 a7 a8 a9 ⊢
      refine X_cons ?_; refine X_assign rfl ?_; refine E_fn (d := d_law_text) (fx.fn _ (by simp [allDefs])) rfl rfl rfl ?_; refine S_cons ?_; refine E_fn (d := d_law_parts) (fx.fn _ (by simp [allDefs])) rfl rfl rfl ?_; refine S_cons ?_; refine nm (d := .lst m) ?_; refine S_cons ?_; refine E_name rfl e6 ?_; refine S_nil ?_
      refine FN.up (fn_parts fx a8 a4 (by (first | lia | omega)) (by (first | lia | omega)) (fun p hp => by rw [hsl2]; exact t3 p hp) (fun v hv => by have := hsg.len v hv; (first | lia | omega)) fun y hy => ?_) (by (first | lia | omega))
      refine S_cons ?_; refine nm (d := .lst w) ?_; refine S_nil ?_
      refine FN.up (fn_text fx put_at (put_sub hy _ _ a9) (by rw [partsOf_length]; (first | lia | omega)) (by (first | lia | omega)) (fun p hp => by rw [hnl1]; exact t3 _ (partsOf_snd p hp)) hnle (fun p hp => by have := partsOf_len hsg p hp; (first | lia | omega)) ?_) (by (first | lia | omega))
      have a1 := put_sub (ds := partsD (partsOf met (signsOf numbers))) hy _ _ a1
      have a2 := put_sub (ds := partsD (partsOf met (signsOf numbers))) hy _ _ a2
      have a3 := put_sub (ds := partsD (partsOf met (signsOf numbers))) hy _ _ a3
      have a4 := put_sub (ds := partsD (partsOf met (signsOf numbers))) hy _ _ a4
      have a5 := put_sub (ds := partsD (partsOf met (signsOf numbers))) hy _ _ a5
      have a6 := put_sub (ds := partsD (partsOf met (signsOf numbers))) hy _ _ a6
      have a8 := put_sub (ds := partsD (partsOf met (signsOf numbers))) hy _ _ a8
      have a9 := put_sub (ds := partsD (partsOf met (signsOf numbers))) hy _ _ a9
      have a7 : ∀ x ds, σ2 x = some ds → (σ6.put y (partsD (partsOf met (signsOf numbers)))) x = some ds := fun x ds hx => put_sub hy _ _ (a7 x ds hx)
      generalize (σ6.put y (partsD (partsOf met (signsOf numbers)))) = σ7 at a1 a2 a3 a4 a5 a6 a7 a8 a9 ⊢
      generalize hT : textOf (partsOf met (signsOf numbers)) (nowOf bare) = text at *
      refine X_cons ?_; refine X_assign rfl ?_; refine E_chkV fx rfl rfl rfl (by (first | lia | omega)) ?_; refine S_cons ?_; refine nm (d := .str (S text)) ?_; refine S_cons ?_; refine E_name rfl e2 ?_; refine S_nil ?_; refine ⟨text, draw, rfl, ht92, htl, ?_⟩
      rw [t4]
      have hlen2 : decide ((((nats met).length : Nat) : Int) = 2 * ((size : Nat) : Int)) = decide (met.length = 2 * size) := decide_eq_decide.mpr (by rw [nats_len]; (first | lia | omega))
      refine X_cons ?_; refine X_if ?_; refine T_cmp ?_; refine nm (d := .bool (decide (met.length = 2 * size))) ?_; refine E_cmp ?_; refine E_call rfl fx.m_len fx.b_len rfl ?_; refine S_cons ?_; refine nm (d := .lst m) ?_; refine S_nil ?_; refine B_lenL a8 ml ?_; refine E_bin ?_; refine E_int ?_; refine E_name rfl e1 ?_; refine O_mul (.of_left (by decide)) ?_; refine C_eq ?_; refine C_isnot_bool ?_; refine ⟨_, rfl, ?_⟩
      rw [hlen2, decide_eq_false (by simp), if_neg Bool.false_ne_true]
      refine X_nil ?_; refine X_cons ?_; refine X_assign_comp rfl rfl ?_; refine ITR_list ?_; refine nm (d := .lst m) ?_; refine ⟨m, _, rfl, a8, ml, fun env' own' => ?_⟩
      refine CLOOP.fm met (fun p : Nat => D.int p) (fun p => if (fun p => decide (bare.getD p 0 = 1) && decide (met.count p = 1)) p = true then some (D.int (p : Nat)) else none) (fun η2 σ2 => η2 "bare" = some (.lst B) ∧ η2 "met" = some (.lst m) ∧ σ2 = σ7) (nats_map _) ⟨rfl, rfl, rfl⟩ ?_ ?_
      · rintro p η2 σ8 hp ⟨u1, u2, rfl⟩
        have hps := t3 p hp
        refine ⟨a8, AS_name ?_⟩
        refine ETS_one ?_; refine T_and ?_; refine T_cmp ?_; refine E_sub ?_; refine E_name rfl u1 ?_; refine nm (d := .int p) ?_; refine I_list (d := .int (bare.getD p 0 : Nat)) rfl a6 (Int.natCast_nonneg _) bl (by rw [Int.toNat_natCast]; exact nats_getD (by (first | lia | omega))) ?_; refine E_int ?_; refine C_eq ?_; refine ⟨_, rfl, ?_⟩
        rw [dec_nat1]
        by_cases h1 : bare.getD p 0 = 1
        · rw [decide_eq_true h1, if_pos rfl]
          refine T_cmp ?_; refine slot_count ?_; refine E_name rfl u2 ?_; refine ⟨⟨rfl, by rw [a8]; rfl⟩, ?_⟩; refine S_cons ?_; refine nm (d := .int p) ?_; refine S_nil ?_; refine M_count (ns := toInts met) a8 ?_
          rw [count_nats]
          refine E_int ?_; refine C_eq ?_; refine ⟨_, rfl, ?_⟩
          rw [dec_nat1]
          by_cases h2 : met.count p = 1
          · rw [decide_eq_true h2, if_pos rfl]
            exact nm (d := .int p) ⟨if_pos (by show (decide _ && decide _) = true; rw [decide_eq_true h1, decide_eq_true h2]; rfl), u1, u2, rfl⟩
          · rw [decide_eq_false h2, if_neg Bool.false_ne_true]
            exact ⟨if_neg (by show ¬ ((decide _ && decide _) = true); rw [decide_eq_false h2, Bool.and_false]; exact Bool.false_ne_true), u1, u2, rfl⟩
        · rw [decide_eq_false h1, if_neg Bool.false_ne_true]
          dsimp only
          rw [if_neg Bool.false_ne_true]
          exact ⟨if_neg (by show ¬ ((decide _ && decide _) = true); rw [decide_eq_false h1, Bool.false_and]; exact Bool.false_ne_true), u1, u2, rfl⟩
      rintro η2 σ8 ⟨-, -, rfl⟩
      refine ⟨a8, fun o ho => ?_⟩
      rw [filterMap_guard]
      have hlo : (met.filter fun p => decide (bare.getD p 0 = 1) && decide (met.count p = 1)) = loneOf met bare := rfl
      rw [hlo]
      have a3 := put_sub (ds := nats (loneOf met bare)) ho _ _ a3
      have a5 := put_sub (ds := nats (loneOf met bare)) ho _ _ a5
      have a6 := put_sub (ds := nats (loneOf met bare)) ho _ _ a6
      have a8 := put_sub (ds := nats (loneOf met bare)) ho _ _ a8
      have a9 := put_sub (ds := nats (loneOf met bare)) ho _ _ a9
      have a7 : ∀ x ds, σ2 x = some ds → (σ8.put o (nats (loneOf met bare))) x = some ds := fun x ds hx => put_sub ho _ _ (a7 x ds hx)
      have a10 : (σ8.put o (nats (loneOf met bare))) o = some (nats (loneOf met bare)) := put_at
      generalize (σ8.put o (nats (loneOf met bare))) = σ9 at a3 a5 a6 a7 a8 a9 a10 ⊢
      refine X_cons ?_; refine X_if ?_; refine T_cmp ?_; refine E_chkW fx rfl rfl rfl (by (first | lia | omega)) ?_; refine S_cons ?_; refine nm (d := .str (S text)) ?_; refine S_cons ?_; refine E_name rfl e2 ?_; refine S_nil ?_; refine ⟨text, draw, rfl, ht92, htl, ?_⟩; refine E_cmp ?_; refine nm (d := .lst o) ?_; refine E_list ?_; refine S_nil ?_; refine ⟨by simp, fun q hq0 => ?_⟩
      refine C_leq (ns := toInts (loneOf met bare)) (ms := []) (put_sub hq0 _ _ a10) put_at ?_; refine C_isnot_bool ?_; refine ⟨_, rfl, ?_⟩
      have hd0 : decide (toInts (loneOf met bare) = []) = decide (loneOf met bare = []) := toInts_dec (loneOf met bare) []
      rw [hd0, t5, decide_eq_false (by simp), if_neg Bool.false_ne_true]
      have a3 := put_sub (ds := []) hq0 _ _ a3
      have a5 := put_sub (ds := []) hq0 _ _ a5
      have a6 := put_sub (ds := []) hq0 _ _ a6
      have a8 := put_sub (ds := []) hq0 _ _ a8
      have a9 := put_sub (ds := []) hq0 _ _ a9
      have a7 : ∀ x ds, σ2 x = some ds → (σ9.put q []) x = some ds := fun x ds hx => put_sub hq0 _ _ (a7 x ds hx)
      change EXS X 12 _ _ (σ9.put q []) _ _
      generalize (σ9.put q []) = σ10 at a3 a5 a6 a7 a8 a9 ⊢
      refine X_nil ?_; refine X_cons ?_; refine X_if ?_; refine T_plain ?_; refine nm (d := .bool (decide (met.length = 2 * size))) ?_; refine ⟨_, rfl, ?_⟩
      by_cases hml : met.length = 2 * size
      · rw [decide_eq_true hml, if_pos rfl]
        rw [decide_eq_true hml] at hacc
        rw [if_pos hacc] at tot1 tak1
        refine X_cons ?_; refine X_assign rfl ?_; refine E_int ?_; refine X_cons ?_; refine X_for ?_; refine ITR_range rfl fx.m_range fx.b_range rfl ?_; refine S_cons ?_; refine E_name rfl e1 ?_; refine S_nil ?_; refine ⟨(size : Nat), rfl, by (first | lia | omega), by (first | lia | omega), ?_⟩
        obtain ⟨J2, hJ2⟩ : ∃ J : Nat → Names → Store → Prop, ∀ i η2 σ', J i η2 σ' ↔ (C14 (η2 "size" = some (.int size)) (η2 "draw" = some (.int draw)) (η2 "row" = some (.lst R)) (η2 "sides" = some (.lst S_)) (η2 "numbers" = some (.lst C)) (η2 "signs" = some (.lst G)) (η2 "total" = some (.int (totG size row sides numbers b : Nat))) (η2 "taken" = some (.lst K)) (η2 "bare" = some (.lst B)) (η2 "text" = some (.str (S text))) (η2 "met" = some (.lst m)) (η2 "now" = some (.lst w)) (η2 "product" = some (.int (prodG numbers bare i : Nat))) (σ' = σ10)) := ⟨_, fun _ _ _ => Iff.rfl⟩
        refine LOOP.inv J2 ?_ ?_ ?_
        · exact (hJ2 _ _ _).mpr ⟨e1, e2, e3, e4, e5, e6, e7, e8, rfl, rfl, rfl, rfl, rfl, rfl⟩
        · rintro i di η2 σ11 hdi hj2
          obtain ⟨u1, u2, u3, u4, u5, u6, u7, u8, u9, u10, u11, u12, u13, rfl⟩ := (hJ2 _ _ _).mp hj2
          obtain ⟨hi, rfl⟩ := ups_get hdi
          have hi : i < size := by rw [Int.toNat_natCast] at hi; exact hi
          refine ⟨trivial, AS_name ?_⟩
          rw [Int.zero_add]
          refine X_cons ?_; refine X_if ?_; refine T_cmp ?_; refine E_sub ?_; refine E_name rfl u9 ?_; refine nm (d := .int i) ?_; refine I_list (d := .int (bare.getD i 0 : Nat)) rfl a6 (Int.natCast_nonneg _) bl (by rw [Int.toNat_natCast]; exact nats_getD (by (first | lia | omega))) ?_; refine E_int ?_; refine C_eq ?_; refine ⟨_, rfl, ?_⟩
          rw [dec_nat1]
          have hpr : prodG numbers bare (i + 1) = if bare.getD i 0 = 1 then prodG numbers bare i * numbers.getD i 0 else prodG numbers bare i := rfl
          by_cases h1 : bare.getD i 0 = 1
          · rw [decide_eq_true h1, if_pos rfl]
            rw [if_pos h1] at hpr
            have hn54 : numbers.getD i 0 ≤ 54 := getD_le (fun x hx => (hnum x hx).2) i
            refine X_cons ?_; refine X_aug rfl rfl u13 ?_; refine E_sub ?_; refine E_name rfl u5 ?_; refine nm (d := .int i) ?_; refine I_list (d := .int (numbers.getD i 0 : Nat)) rfl a3 (Int.natCast_nonneg _) nl (by rw [Int.toNat_natCast]; exact nats_getD (by (first | lia | omega))) ?_; refine O_imul (small_mul' (by (first | lia | omega)) _) ?_
            exact X_nil (X_nil ((hJ2 _ _ _).mpr ⟨u1, u2, u3, u4, u5, u6, u7, u8, u9, u10, u11, u12, by rw [hpr]; push_cast; rfl, rfl⟩))
          · rw [decide_eq_false h1, if_neg Bool.false_ne_true]
            rw [if_neg h1] at hpr
            exact X_nil (X_nil ((hJ2 _ _ _).mpr ⟨u1, u2, u3, u4, u5, u6, u7, u8, u9, u10, u11, u12, by rw [hpr]; exact u13, rfl⟩))
        · rintro η2 σ11 hj2
          obtain ⟨u1, u2, u3, u4, u5, u6, u7, u8, u9, u10, u11, u12, u13, rfl⟩ := (hJ2 _ _ _).mp hj2
          rw [ups_length, Int.toNat_natCast] at u13
          have tkl := takG_len size row sides b
          have esl : es.length ≤ sizeLine := by rw [e11.1]; (first | lia | omega)
          refine ⟨trivial, ?_⟩
          refine X_cons ?_; refine X_aug rfl rfl u7 ?_; refine E_name rfl u13 ?_; refine O_iadd ?_
          refine X_cons ?_; refine X_expr ?_; refine slot_append ?_; refine E_name rfl u8 ?_; refine ⟨⟨rfl, by rw [a5]; rfl⟩, ?_⟩; refine S_cons ?_; refine E_tuple ?_; refine S_cons ?_; refine E_name rfl u10 ?_; refine S_cons ?_; refine E_name rfl u11 ?_; refine S_cons ?_; refine E_name rfl u12 ?_; refine S_nil ?_; refine ⟨by simp; (first | lia | omega), ?_⟩; refine S_nil ?_; refine M_append a5 esl ?_; refine ⟨trivial, ?_⟩
          refine X_nil ?_; refine X_nil ?_; refine X_nil ?_
          refine hQ _ _ _ ((hJ _ _ _).mpr ?_)
          refine ⟨_, u1, u2, u3, u4, u5, u6, by rw [tot1]; push_cast; rfl, u8, fun x ds hx => ?_, put_at, ?_⟩
          · rw [put_ne (fun e => by subst e; rw [hK] at hx; cases hx)]
            exact a7 _ _ (g7 _ _ (e9 _ _ hx))
          · rw [tak1, ← hTb]
            refine Tk.snoc (e11.keep fun x ds hx1 hx2 => ?_) ?_ ?_ hmK hwK
            · rw [put_ne hx1]; exact a7 _ _ (g7 _ _ hx2)
            · rw [put_ne hmK, hbare, hmet]; exact a8
            · rw [put_ne hwK, hbare]; exact a9
      · rw [decide_eq_false hml, if_neg Bool.false_ne_true]
        rw [decide_eq_false hml] at hacc
        rw [if_neg (by rw [hacc]; exact Bool.false_ne_true)] at tot1 tak1
        refine X_nil ?_; refine X_nil ?_; refine X_nil ?_
        refine hQ _ _ _ ((hJ _ _ _).mpr ?_)
        refine ⟨es, e1, e2, e3, e4, e5, e6, by rw [tot1]; exact e7, e8, fun x ds hx => a7 _ _ (g7 _ _ (e9 _ _ hx)), a5, ?_⟩
        rw [tak1]
        exact e11.keep fun x ds hx1 hx2 => a7 _ _ (g7 _ _ hx2)
    · rw [decide_eq_false hq, if_neg Bool.false_ne_true]
      rw [decide_eq_false hq, Bool.false_and] at hacc
      rw [if_neg (by rw [hacc]; exact Bool.false_ne_true)] at tot1 tak1
      refine X_nil ?_; refine X_nil ?_
      refine hQ _ _ _ ((hJ _ _ _).mpr ?_)
      refine ⟨es, e1, e2, e3, e4, e5, e6, by rw [tot1]; exact e7, e8, fun x ds hx => g7 _ _ (e9 _ _ hx), g5, ?_⟩
      rw [tak1]
      exact e11.keep fun x ds hx1 hx2 => g7 _ _ hx2
  · rintro η σ' hj
    obtain ⟨es, e1, e2, e3, e4, e5, e6, e7, e8, e9, e10, e11⟩ := (hJ _ _ _).mp hj
    rw [ups_length, Int.toNat_natCast] at e7 e11
    refine ⟨trivial, ?_⟩
    have tkl := takG_len size row sides (2 ^ size)
    have hLpos : 0 < (takG size row sides (2 ^ size)).length := List.length_pos_iff.mpr lo.ne
    have hel : es.length = (takG size row sides (2 ^ size)).length := e11.1
    obtain ⟨b, hb⟩ : ∃ b, (takG size row sides (2 ^ size))[draw / 6 % (takG size row sides (2 ^ size)).length]? = some b := ⟨_, List.getElem?_eq_getElem (Nat.mod_lt _ hLpos)⟩
    obtain ⟨m, w, k1, k2, k3, k4, k5⟩ := e11.2 _ _ hb
    have hbm : b ∈ takG size row sides (2 ^ size) := List.mem_of_getElem? hb
    have fo := lo.fin b hbm
    obtain ⟨hb1, hb2⟩ := takG_mem hbm
    unfold accB at hb2
    rw [Bool.and_eq_true] at hb2
    have tn := lo.turn b hb1 (of_decide_eq_true hb2.1)
    obtain ⟨-, t2, t3, -, -⟩ := tn
    obtain ⟨⟨syms, fin, r1, r2, r3, r4, r5, r6⟩, d1, d2⟩ := fo
    dsimp only at k1 k2 k3
    have hblen := bitsOf_len size b
    have hnl1 : (nowOf (bitsOf size b)).length = size := by rw [nowOf_len, hblen]
    have hnle := nowOf_le (bitsOf size b)
    have hsg := sgOk hnum
    have htl : (textB size row sides numbers b).length ≤ 100 := by
      unfold textB textOf
      have := textGo_len 4 (nowOf (bitsOf size b)) (partsOf (metOf size row (bitsOf size b) sides) (signsOf numbers)) 0 hnle (by (first | lia | omega)) (partsOf_len hsg)
      rw [partsOf_length] at this; (first | lia | omega)
    generalize htot : totG size row sides numbers (2 ^ size) = total at *
    generalize htxt : textB size row sides numbers b = text at *
    generalize hmet : metOf size row (bitsOf size b) sides = met at *
    generalize hnow : nowOf (bitsOf size b) = now at *
    have hC1 := e9 _ _ hC
    have hG1 := e9 _ _ hG
    have hidx : ((draw : Int).fdiv 6).fmod ((es.length : Nat) : Int) = ((draw / 6 % (takG size row sides (2 ^ size)).length : Nat) : Int) := by
      rw [hel, show (draw : Int).fdiv 6 = ((draw / 6 : Nat) : Int) from Int.fdiv_eq_ediv_of_nonneg _ (by decide), fmod_nat]
    refine X_cons ?_; refine X_assignT (xs := ["text", "met", "now"]) ?yh0 ?ya1 ?yc1 ?yd1 ?ye1
    case yh0 => rfl
    case ya1 => rfl
    case yd1 => rfl
    case ye1 => rfl
    refine E_sub ?_; refine E_name rfl e8 ?_; refine E_bin ?_; refine E_bin ?_; refine E_name rfl e2 ?_; refine E_int ?_; refine O_fdiv (by decide) (small_div (by decide)) ?_; refine E_call rfl fx.m_len fx.b_len rfl ?_; refine S_cons ?_; refine E_name rfl e8 ?_; refine S_nil ?_; refine B_lenL e10 (by (first | lia | omega)) ?_; refine O_mod (by (first | lia | omega)) ?_
    rw [hidx]
    refine I_list rfl e10 (Int.natCast_nonneg _) (by (first | lia | omega)) (by rw [Int.toNat_natCast]; exact k1) ?_; refine ⟨_, rfl, rfl, ?_⟩
    have ml : (nats met).length ≤ sizeLine := by rw [nats_len]; (first | lia | omega)
    have nwl : (nats now).length ≤ sizeLine := by rw [nats_len]; (first | lia | omega)
    refine X_cons ?_; refine X_assign_comp rfl rfl ?_; refine ITR_enum rfl fx.m_enum fx.b_enum rfl ?_; refine S_cons ?_; refine nm (d := .lst m) ?_; refine S_nil ?_; refine ⟨m, _, rfl, k2, by rw [numberedD_length, nats_len]; (first | lia | omega), fun env' own' => ?_⟩
    refine CLOOP.fm met.zipIdx (fun x => D.tup [.int (x.2 : Nat), .int (x.1 : Nat)]) (fun x => (if x.1 ∈ met.take x.2 then none else some x.1).map fun j : Nat => D.int j) (fun η2 σ2 => η2 "met" = some (.lst m) ∧ ∀ x ds, σ' x = some ds → σ2 x = some ds) (numbered_nats met) ⟨rfl, fun _ _ h => h⟩ ?_ ?_
    · rintro ⟨pair, place⟩ η2 σ2 hx ⟨q1, q3⟩
      refine ⟨q3 _ _ k2, AS_tup ["place", "pair"] ?_⟩
      refine ETS_one ?_; refine T_cmp ?_; refine nm (d := .int pair) ?_; refine E_slice ?_; refine E_name rfl q1 ?_; refine nm (d := .int place) ?_; refine ⟨_, rfl, ?_⟩; refine L_slice .none (.some (by (first | lia | omega))) (q3 _ _ k2) ml (fun z hz => ?_)
      rw [cut_nats, cut_take]
      refine C_lnotin (ns := toInts (met.take place)) put_at ?_; refine ⟨_, rfl, ?_⟩
      rw [toInts_mem]
      dsimp only
      by_cases hin : pair ∈ met.take place
      · rw [decide_eq_true hin, if_neg (c := (!true) = true) (by decide), if_pos hin]
        exact ⟨rfl, q1, fun x ds hx => put_sub hz _ _ (q3 x ds hx)⟩
      · rw [decide_eq_false hin, if_pos (c := (!false) = true) (by decide)]
        exact nm (d := .int pair) ⟨by rw [if_neg hin]; rfl, q1, fun x ds hx => put_sub hz _ _ (q3 x ds hx)⟩
    rintro η2 σ2 ⟨-, q3⟩
    refine ⟨q3 _ _ k2, fun o ho => ?_⟩
    rw [filterMap_nats]
    have hor : met.zipIdx.filterMap (fun x => if x.1 ∈ met.take x.2 then none else some x.1) = orderOf met := rfl
    rw [hor]
    have hol : (orderOf met).length ≤ 16 := by
      have := List.length_filterMap_le (fun x : Nat × Nat => if x.1 ∈ met.take x.2 then none else some x.1) met.zipIdx
      rw [hor, List.length_zipIdx] at this; (first | lia | omega)
    have hom : ∀ p ∈ orderOf met, p ∈ met := by
      intro p hp
      obtain ⟨x, hx1, hx2⟩ := List.mem_filterMap.mp hp
      split at hx2
      · cases hx2
      · cases hx2; exact List.mem_of_getElem? (mem_zipIdx_get hx1)
    have hmo : ∀ p ∈ met, p ∈ orderOf met := mem_order met
    have k2 := put_sub (ds := nats (orderOf met)) ho _ _ (q3 _ _ k2)
    have k3 := put_sub (ds := nats (orderOf met)) ho _ _ (q3 _ _ k3)
    have hC1 := put_sub (ds := nats (orderOf met)) ho _ _ (q3 _ _ hC1)
    have hG1 := put_sub (ds := nats (orderOf met)) ho _ _ (q3 _ _ hG1)
    have k6 : (σ2.put o (nats (orderOf met))) o = some (nats (orderOf met)) := put_at
    generalize (σ2.put o (nats (orderOf met))) = σ3 at k2 k3 k6 hC1 hG1 ⊢
    have ol : (nats (orderOf met)).length ≤ sizeLine := by rw [nats_len]; (first | lia | omega)
    refine X_cons ?_; refine X_assign rfl ?_; refine E_tuple ?_; refine S_cons ?_; refine E_comp rfl ?_; refine ITR_list ?_; refine nm (d := .lst m) ?_; refine ⟨m, _, rfl, k2, ml, fun env' own' => ?_⟩
    refine CLOOP.fm met (fun p : Nat => D.int p) (fun p => (some (idx p (orderOf met))).map fun j : Nat => D.int j) (fun η2 σ2 => η2 "order" = some (.lst o) ∧ σ2 = σ3) (nats_map met) ⟨rfl, rfl⟩ ?_ ?_
    · rintro p η2 σ4 hp ⟨u1, rfl⟩
      refine ⟨k2, AS_name ?_⟩
      refine ETS_nil ?_
      rw [if_pos rfl]
      obtain ⟨i1, i2⟩ := idx_spec p _ (hmo p hp)
      refine slot_index ?_; refine E_name rfl u1 ?_; refine ⟨⟨rfl, by rw [k6]; rfl⟩, ?_⟩; refine S_cons ?_; refine nm (d := .int p) ?_; refine S_nil ?_
      refine M_index (ns := toInts (orderOf met)) (j := idx p (orderOf met)) k6 (by rw [List.length_map]; (first | lia | omega)) (by rw [List.getElem?_map, i1]; rfl) (fun i hi e => ?_) ⟨rfl, u1, rfl⟩
      rw [List.getElem?_map] at e
      obtain ⟨v, v1, v2⟩ := Option.map_eq_some_iff.mp e
      rw [Int.ofNat.inj v2] at v1
      exact i2 i hi v1
    rintro η2 σ4 ⟨-, rfl⟩
    refine ⟨k2, fun y1 hy1 => ?_⟩
    rw [filterMap_nats, filterMap_some_eq]
    refine S_cons ?_; refine E_comp rfl ?_; refine ITR_list ?_; refine nm (d := .lst o) ?_; refine ⟨o, _, rfl, put_sub hy1 _ _ k6, ol, fun env' own' => ?_⟩
    have k3' := put_sub (ds := nats (met.map fun p => idx p (orderOf met))) hy1 _ _ k3
    have k6' := put_sub (ds := nats (met.map fun p => idx p (orderOf met))) hy1 _ _ k6
    refine CLOOP.fm (orderOf met) (fun p : Nat => D.int p) (fun p => (some (now.getD p 0)).map fun j : Nat => D.int j) (fun η2 σ2 => η2 "now" = some (.lst w) ∧ σ2 = σ4.put y1 (nats (met.map fun p => idx p (orderOf met)))) (nats_map _) ⟨rfl, rfl⟩ ?_ ?_
    · rintro p η2 σ5 hp ⟨u1, rfl⟩
      refine ⟨k6', AS_name ?_⟩
      refine ETS_nil ?_
      rw [if_pos rfl]
      refine E_sub ?_; refine E_name rfl u1 ?_; refine nm (d := .int p) ?_; refine I_list (d := .int (now.getD p 0 : Nat)) rfl k3' (Int.natCast_nonneg _) nwl (by rw [Int.toNat_natCast]; exact nats_getD (by rw [hnl1]; exact t3 p (hom p hp))) ?_
      exact ⟨rfl, u1, rfl⟩
    rintro η2 σ5 ⟨-, rfl⟩
    refine ⟨k6', fun y2 hy2 => ?_⟩
    rw [filterMap_nats, filterMap_some_eq]
    refine S_cons ?_; refine E_comp rfl ?_; refine ITR_list ?_; refine nm (d := .lst o) ?_; refine ⟨o, _, rfl, put_sub hy2 _ _ k6', ol, fun env' own' => ?_⟩
    have k6'' := put_sub (ds := nats ((orderOf met).map fun p => now.getD p 0)) hy2 _ _ k6'
    have hC2 := put_sub (ds := nats ((orderOf met).map fun p => now.getD p 0)) hy2 _ _ (put_sub (ds := nats (met.map fun p => idx p (orderOf met))) hy1 _ _ hC1)
    refine CLOOP.fm (orderOf met) (fun p : Nat => D.int p) (fun p => (some (numbers.getD p 0)).map fun j : Nat => D.int j) (fun η2 σ2 => η2 "numbers" = some (.lst C) ∧ σ2 = (σ4.put y1 (nats (met.map fun p => idx p (orderOf met)))).put y2 (nats ((orderOf met).map fun p => now.getD p 0))) (nats_map _) ⟨e5, rfl⟩ ?_ ?_
    · rintro p η2 σ5 hp ⟨u1, rfl⟩
      refine ⟨k6'', AS_name ?_⟩
      refine ETS_nil ?_
      rw [if_pos rfl]
      refine E_sub ?_; refine E_name rfl u1 ?_; refine nm (d := .int p) ?_; refine I_list (d := .int (numbers.getD p 0 : Nat)) rfl hC2 (Int.natCast_nonneg _) nl (by rw [Int.toNat_natCast]; exact nats_getD (by rw [hnl]; exact t3 p (hom p hp))) ?_
      exact ⟨rfl, u1, rfl⟩
    rintro η2 σ5 ⟨-, rfl⟩
    refine ⟨k6'', fun y3 hy3 => ?_⟩
    rw [filterMap_nats, filterMap_some_eq]
    have w1 := put_sub (ds := nats ((orderOf met).map fun p => numbers.getD p 0)) hy3 _ _ (put_sub (ds := nats ((orderOf met).map fun p => now.getD p 0)) hy2 _ _ (put_at (σ := σ4) (a := y1) (ds := nats (met.map fun p => idx p (orderOf met)))))
    have w2 := put_sub (ds := nats ((orderOf met).map fun p => numbers.getD p 0)) hy3 _ _ (put_at (σ := σ4.put y1 (nats (met.map fun p => idx p (orderOf met)))) (a := y2) (ds := nats ((orderOf met).map fun p => now.getD p 0)))
    have w3 : (((σ4.put y1 (nats (met.map fun p => idx p (orderOf met)))).put y2 (nats ((orderOf met).map fun p => now.getD p 0))).put y3 (nats ((orderOf met).map fun p => numbers.getD p 0))) y3 = some (nats ((orderOf met).map fun p => numbers.getD p 0)) := put_at
    have hs6 : ∀ x ds, σ4 x = some ds → (((σ4.put y1 (nats (met.map fun p => idx p (orderOf met)))).put y2 (nats ((orderOf met).map fun p => now.getD p 0))).put y3 (nats ((orderOf met).map fun p => numbers.getD p 0))) x = some ds := fun x ds hx => put_sub hy3 _ _ (put_sub hy2 _ _ (put_sub hy1 _ _ hx))
    generalize (((σ4.put y1 (nats (met.map fun p => idx p (orderOf met)))).put y2 (nats ((orderOf met).map fun p => now.getD p 0))).put y3 (nats ((orderOf met).map fun p => numbers.getD p 0))) = σ6 at w1 w2 w3 hs6 ⊢
    refine S_nil ?_; refine ⟨by simp; (first | lia | omega), ?_⟩
    refine X_cons ?_; refine X_if ?_; refine T_cmp ?_; refine E_fn (d := d_law_read) (fx.fn _ (by simp [allDefs])) rfl rfl rfl ?_; refine S_cons ?_; refine nm (d := .str (S text)) ?_; refine S_nil ?_
    refine FN.up (fn_read fx (by (first | lia | omega)) (k := 200) (by (first | lia | omega)) r1 r2 r3 fun x y z σ7 x1 x2 x3 x4 => ?_) (by (first | lia | omega))
    rw [r4] at x1
    rw [r5] at x2
    rw [r6] at x3
    refine nm (d := .tup [.lst y1, .lst y2, .lst y3]) ?_
    refine C_tne (nss := [toInts (met.map fun p => idx p (orderOf met)), toInts ((orderOf met).map fun p => now.getD p 0), toInts ((orderOf met).map fun p => numbers.getD p 0)]) (mss := [toInts (met.map fun p => idx p (orderOf met)), toInts ((orderOf met).map fun p => now.getD p 0), toInts ((orderOf met).map fun p => numbers.getD p 0)]) (.cons x1 (.cons x2 (.cons x3 .nil))) (.cons (x4 _ _ w1) (.cons (x4 _ _ w2) (.cons (x4 _ _ w3) .nil))) ?_
    refine ⟨_, rfl, ?_⟩
    rw [decide_eq_true rfl, if_neg (c := (!true) = true) (by decide)]
    refine X_nil ?_; refine X_cons ?_; refine X_return ?_; refine E_cmp ?_; refine E_fn (d := d_law_determinant) (fx.fn _ (by simp [allDefs])) rfl rfl rfl ?_; refine S_cons ?_; refine E_fn (d := d_law_table) (fx.fn _ (by simp [allDefs])) rfl rfl rfl ?_; refine S_cons ?_; refine nm (d := .lst m) ?_; refine S_cons ?_; refine nm (d := .lst w) ?_; refine S_cons ?_; refine E_name rfl e6 ?_; refine S_cons ?_; refine E_name rfl e5 ?_; refine S_cons ?_; refine E_name rfl e2 ?_; refine S_nil ?_
    have mo : MetOk met now (signsOf numbers) := ⟨t2, by (first | lia | omega), by (first | lia | omega), fun p hp => by rw [hnl1]; exact t3 p hp, hnle, hsg⟩
    refine FN.up (fn_table fx mo (by rw [hnl1]; exact hnl) (fun k hk => by have := (hnum k hk).2; (first | lia | omega)) (x4 _ _ (hs6 _ _ k2)) (x4 _ _ (hs6 _ _ k3)) (x4 _ _ (hs6 _ _ hG1)) (x4 _ _ (hs6 _ _ hC1)) fun T σ8 hM hsub => ?_) (by (first | lia | omega))
    rw [hnl1] at hM
    refine S_nil ?_
    have hbl : (bareOf now).length ≤ 10 := by
      have := List.length_filter_le (fun o => decide (now[o]? = some 0)) (List.range now.length)
      rw [List.length_range] at this
      unfold bareOf; (first | lia | omega)
    refine FN.up (fn_det fx hbl (hM.base fun _ _ => rfl) d1 fun σ9 => ?_) (by (first | lia | omega))
    rw [d2]
    refine E_name rfl e7 ?_; refine C_eq ?_
    rw [decide_eq_true rfl]

set_option maxHeartbeats 8000000 in
theorem law_body (fx : Facts X) {ns : List Int} (hz : ns.length ≤ 1000)
    (drawn : ∀ size, size = 3 ∨ size = 4 → ∀ i, i < 2 * size → ∀ s ∈ states size i, s.moves size ≠ [] ∧ s.row.length ≤ 20 ∧ s.sides.length ≤ 10 ∧ s.w0.length ≤ 10 ∧ s.w1.length ≤ 10)
    (ok : ∀ size, size = 3 ∨ size = 4 → ∀ s ∈ states size (2 * size), ∀ numbers : List Nat, numbers.length = size → (∀ k ∈ numbers, 14 ≤ k ∧ k ≤ 54) → ∀ draw, LawOk size s.row s.sides numbers draw) :
    BODY X 12 d_law [.ints ns] σ fun r _ => r = .bool true := by
  have hbig := line_big
  refine ⟨fun env own => ?_⟩
  refine X_cons ?_; refine X_assign rfl ?_; refine E_fn (d := d_law_cells) (fx.fn _ (by simp [allDefs])) rfl rfl rfl ?_; refine S_cons ?_; refine nm (d := .ints ns) ?_; refine S_nil ?_; refine FN.up (fn_cells fx hz fun cs a hcl hc0 hcs ha => ?_) (by (first | lia | omega))
  have ca : (σ.put a (cs.map D.int)) a = some (cs.map D.int) := put_at
  generalize (σ.put a (cs.map D.int)) = σ1 at ca ⊢
  refine X_cons ?_; refine X_assign rfl ?_; refine E_call rfl fx.m_sum fx.b_sum rfl ?_; refine S_cons ?_; refine nm (d := .lst a) ?_; refine S_nil ?_; refine B_sum ca ⟨hc0, by (first | lia | omega)⟩ ?_
  have hsum0 : 0 ≤ cs.sum := by
    have := take_sum_le cs hc0 cs.length
    rw [List.take_length] at this; exact this.1
  obtain ⟨draw, hdraw⟩ : ∃ d : Nat, cs.sum = (d : Int) := ⟨cs.sum.toNat, by (first | lia | omega)⟩
  rw [hdraw]
  obtain ⟨size, hsize, hsz⟩ : ∃ size : Nat, (size = 3 ∨ size = 4) ∧ size = (if ns.length < 2 then 3 else 4) := by
    by_cases h : ns.length < 2
    · exact ⟨3, .inl rfl, by rw [if_pos h]⟩
    · exact ⟨4, .inr rfl, by rw [if_neg h]⟩
  refine X_cons ?_; refine X_assign rfl ?_; refine EV.mono (Q := fun d σ2 => d = .int (size : Nat) ∧ σ2 = σ1) ?_ ?_
  · refine E_ifexp ?_; refine T_cmp ?_; refine E_call rfl fx.m_len fx.b_len rfl ?_; refine S_cons ?_; refine nm (d := .ints ns) ?_; refine S_nil ?_; refine B_lenI (by (first | lia | omega)) ?_; refine E_int ?_; refine C_lt ?_; refine ⟨_, rfl, ?_⟩
    by_cases h : ns.length < 2
    · rw [decide_eq_true (by (first | lia | omega)), if_pos rfl]
      rw [if_pos h] at hsz
      exact E_int ⟨by rw [hsz]; rfl, rfl⟩
    · rw [decide_eq_false (by (first | lia | omega)), if_neg Bool.false_ne_true]
      rw [if_neg h] at hsz
      exact E_int ⟨by rw [hsz]; rfl, rfl⟩
  rintro _ σ2 ⟨rfl, hσ⟩
  rw [hσ]
  clear hσ σ2
  have hs4 : size ≤ 4 := by (first | lia | omega)
  have hcl5 : cs.length = 5 := hcl
  have cl : (cs.map D.int).length ≤ sizeLine := by rw [List.length_map]; (first | lia | omega)
  have cget : ∀ i, i < 5 → ∃ v : Nat, (cs.map D.int)[i]? = some (.int (v : Nat)) := fun i hi => by
    have hg : cs[i]? = some cs[i] := List.getElem?_eq_getElem (by (first | lia | omega))
    refine ⟨cs[i].toNat, ?_⟩
    rw [List.getElem?_map, hg]
    have := hc0 _ (List.getElem_mem (show i < cs.length by (first | lia | omega)))
    show some (D.int cs[i]) = _
    rw [Int.toNat_of_nonneg this]
  obtain ⟨f, hf⟩ := cget 0 (by (first | lia | omega))
  refine X_cons ?_; refine X_assignT (xs := ["row", "sides"]) ?yh0 ?ya1 ?yc1 ?yd1 ?ye1
  case yh0 => rfl
  case ya1 => rfl
  case yd1 => rfl
  case ye1 => rfl
  refine E_fn (d := d_law_drawn) (fx.fn _ (by simp [allDefs])) rfl rfl rfl ?_; refine S_cons ?_; refine E_sub ?_; refine nm (d := .lst a) ?_; refine E_int ?_; refine I_list rfl ca (by decide) cl hf ?_; refine S_cons ?_; refine nm (d := .int (size : Nat)) ?_; refine S_nil ?_
  refine FN.up (fn_drawn fx (by (first | lia | omega)) (drawn size hsize) fun st R S_ hst hR hS hRS => ?_) (by (first | lia | omega))
  refine ⟨_, rfl, rfl, ?_⟩
  have kR : ((σ1.put R (nats st.row)).put S_ (nats st.sides)) R = some (nats st.row) := by rw [put_ne hRS]; exact put_at
  have kS : ((σ1.put R (nats st.row)).put S_ (nats st.sides)) S_ = some (nats st.sides) := put_at
  have ka : ((σ1.put R (nats st.row)).put S_ (nats st.sides)) a = some (cs.map D.int) := by
    rw [put_ne (ne_of_none hS ca).symm, put_ne (ne_of_none hR ca).symm]; exact ca
  generalize ((σ1.put R (nats st.row)).put S_ (nats st.sides)) = σ3 at kR kS ka ⊢
  obtain ⟨c, hc⟩ : ∃ c : Nat → Nat, ∀ p, p < size → (cs.map D.int)[1 + p]? = some (.int (c p : Nat)) := by
    refine ⟨fun p => if h : 1 + p < 5 then (cget (1 + p) h).choose else 0, fun p hp => ?_⟩
    have h : 1 + p < 5 := by (first | lia | omega)
    dsimp only
    rw [dif_pos h]
    exact (cget (1 + p) h).choose_spec
  refine X_cons ?_; refine X_assign_comp rfl rfl ?_; refine ITR_range rfl fx.m_range fx.b_range rfl ?_; refine S_cons ?_; refine nm (d := .int (size : Nat)) ?_; refine S_nil ?_; refine ⟨(size : Nat), rfl, by (first | lia | omega), by (first | lia | omega), by rw [ups_length]; (first | lia | omega), fun env' own' => ?_⟩
  refine CLOOP.fm (List.range size) (fun p : Nat => D.int p) (fun p => (some (14 + c p % 41)).map fun j : Nat => D.int j) (fun η2 σ2 => η2 "cells" = some (.lst a) ∧ σ2 = σ3) (by rw [Int.toNat_natCast, ups_nats, nats_map]) ⟨rfl, rfl⟩ ?_ ?_
  · rintro p η2 σ4 hp ⟨u1, rfl⟩
    have hp : p < size := by simpa using hp
    refine ⟨trivial, AS_name ?_⟩
    refine ETS_nil ?_
    rw [if_pos rfl]
    refine E_bin ?_; refine E_int ?_; refine E_bin ?_; refine E_sub ?_; refine E_name rfl u1 ?_; refine E_bin ?_; refine E_int ?_; refine nm (d := .int p) ?_; refine O_add ?_; refine I_list (d := .int (c p : Nat)) rfl ka (by (first | lia | omega)) cl (by rw [show ((1 : Int) + (p : Int)).toNat = 1 + p by (first | lia | omega)]; exact hc p hp) ?_; refine E_int ?_; refine O_mod (by decide) ?_; refine O_add ?_
    refine ⟨?_, u1, rfl⟩
    rw [show (c p : Int).fmod 41 = ((c p % 41 : Nat) : Int) from fmod_nat (c p) 41]
    rfl
  rintro η2 σ4 ⟨-, rfl⟩
  refine ⟨trivial, fun C hC => ?_⟩
  rw [filterMap_nats, filterMap_some_eq]
  have hnl : ((List.range size).map fun p => 14 + c p % 41).length = size := by simp
  have hnum : ∀ k ∈ (List.range size).map fun p => 14 + c p % 41, 14 ≤ k ∧ k ≤ 54 := by
    intro k hk
    obtain ⟨p, _, rfl⟩ := List.mem_map.mp hk
    (first | lia | omega)
  generalize (List.range size).map (fun p => 14 + c p % 41) = numbers at hnl hnum ⊢
  have kR := put_sub (ds := nats numbers) hC _ _ kR
  have kS := put_sub (ds := nats numbers) hC _ _ kS
  have kC : (σ4.put C (nats numbers)) C = some (nats numbers) := put_at
  generalize (σ4.put C (nats numbers)) = σ5 at kR kS kC ⊢
  have lo := ok size hsize st hst numbers hnl hnum draw
  refine X_cons ?_; refine X_assign_comp rfl rfl ?_; refine ITR_list ?_; refine nm (d := .lst C) ?_; refine ⟨C, _, rfl, kC, by rw [nats_len]; (first | lia | omega), fun env' own' => ?_⟩
  refine CLOOP.fm numbers (fun k : Nat => D.int k) (fun k => some (.str (S (SIGNS.getD (k - 14) [])))) (fun η2 σ2 => σ2 = σ5) (nats_map _) rfl ?_ ?_
  · rintro k η2 σ6 hk rfl
    obtain ⟨w, h1, h2⟩ := signs_some (hnum k hk).1 (hnum k hk).2
    refine ⟨kC, AS_name ?_⟩
    refine ETS_nil ?_
    rw [if_pos rfl]
    refine E_fn (d := d_law_sign) (fx.fn _ (by simp [allDefs])) rfl rfl rfl ?_; refine S_cons ?_; refine nm (d := .int k) ?_; refine S_nil ?_; refine FN.up (fn_sign fx (hnum k hk).1 h1 ?_) (by (first | lia | omega))
    exact ⟨by rw [h2], rfl⟩
  rintro η2 σ6 rfl
  refine ⟨kC, fun G hG => ?_⟩
  have hsg : numbers.filterMap (fun k => some (D.str (S (SIGNS.getD (k - 14) [])))) = strsD (signsOf numbers) := by
    rw [filterMap_some_eq]; unfold signsOf strsD; rw [List.map_map]; rfl
  rw [hsg]
  have kR := put_sub (ds := strsD (signsOf numbers)) hG _ _ kR
  have kS := put_sub (ds := strsD (signsOf numbers)) hG _ _ kS
  have kC := put_sub (ds := strsD (signsOf numbers)) hG _ _ kC
  have kG : (σ6.put G (strsD (signsOf numbers))) G = some (strsD (signsOf numbers)) := put_at
  generalize (σ6.put G (strsD (signsOf numbers))) = σ7 at kR kS kC kG ⊢
  refine X_cons ?_; refine X_assignTT (xs := ["total", "taken"]) ?x1h0 ?x1a1 ?x1h1 ?x1b1 ?x1c1 ?x1d1; (case x1h0 => rfl); (case x1d1 => rfl); (case x1h1 => decide +kernel); (case x1a1 => rfl); (case x1b1 => decide +kernel); refine E_tuple ?_; refine S_cons ?_; refine E_int ?_; refine S_cons ?_; refine E_list ?_; refine S_nil ?_; refine ⟨by simp, fun K hK => ?_⟩; refine S_nil ?_; refine ⟨by simp; (first | lia | omega), _, rfl, rfl, ?_⟩
  exact (law_turn fx hs4 lo hnum hnl kR kS kC kG rfl rfl rfl rfl rfl rfl rfl rfl hK).mono fun fl η σ h => by rw [h]
end
end Mine

namespace Mine
open PySem PySem.W PyProof.Rows

/-! only brackets and marks count -/
noncomputable def isB (c : Nat) : Bool := decide (c = 34) || decide (c = 40) || decide (c = 41)
noncomputable def proj (l : List Nat) : List Nat := l.filter isB
noncomputable def outs : Bool → List Nat → List Nat
  | _, [] => []
  | b, c :: r => if c = 34 then outs (!b) r else if b = true then outs b r else c :: outs b r
theorem balF_skip {x : Nat} {r : List Nat} {o : Int} (h1 : x ≠ 40) (h2 : x ≠ 41) : balF (x :: r) o = balF r o := by
  rw [show balF (x :: r) o = if x = 40 then balF r (o + 1) else if x = 41 then (if o - 1 < 0 then false else balF r (o - 1)) else balF r o from rfl, if_neg h1, if_neg h2]
theorem balF_app (a b : List Nat) (o : Int) (h : ∀ c ∈ a, c ≠ 40 ∧ c ≠ 41) : balF (a ++ b) o = balF b o := by
  induction a with
  | nil => rfl
  | cons x r ih =>
    have := h x List.mem_cons_self
    show balF (x :: (r ++ b)) o = _
    rw [balF_skip this.1 this.2]
    exact ih fun c hc => h c (List.mem_cons_of_mem _ hc)
theorem balF_repl {c : Nat} {z : List Nat} (hc : c ≠ 40 ∧ c ≠ 41) (hz : ∀ k ∈ z, k ≠ 40 ∧ k ≠ 41) : ∀ (l : List Nat) (o : Int), balF (repl c z l) o = balF l o
  | [], _ => rfl
  | x :: r, o => by
    show balF ((if x = c then z else [x]) ++ repl c z r) o = _
    split
    · rename_i q
      subst q
      rw [balF_app _ _ _ hz, balF_repl hc hz r o]
      rw [balF_skip hc.1 hc.2]
    · show balF (x :: repl c z r) o = balF (x :: r) o
      rw [balF, balF]
      simp only [balF_repl hc hz r]
theorem balF_proj : ∀ (l : List Nat) (o : Int), balF (proj l) o = balF l o
  | [], _ => rfl
  | x :: r, o => by
    unfold proj
    cases h : isB x with
    | true =>
      rw [List.filter_cons_of_pos h, balF, balF]
      have := balF_proj r
      unfold proj at this
      simp only [this]
    | false =>
      rw [List.filter_cons_of_neg (by simp [h])]
      have := balF_proj r o
      unfold proj at this
      rw [this]
      unfold isB at h
      simp only [Bool.or_eq_false_iff, decide_eq_false_iff_not] at h
      rw [balF_skip h.1.2 h.2]
theorem strip_free {l : List Nat} (h : 34 ∉ l) : strip l = l := by unfold strip; rw [if_neg h]
theorem repl_34 (l : List Nat) : 34 ∉ repl 34 zQuot l := by
  intro h
  obtain ⟨k, hk, hx⟩ := List.mem_flatMap.mp h
  split at hx
  · revert hx; decide
  · rename_i q; exact q (List.mem_singleton.mp hx).symm
theorem asValue_34 (l : List Nat) (d : Nat) : 34 ∉ asValue l d := by
  unfold asValue
  split
  · unfold escAttrib
    exact repl_no (by decide) (repl_no (by decide) (repl_no (by decide) (repl_34 _)))
  · split
    · unfold escHtml; exact repl_34 _
    · unfold escAttribC
      exact repl_no (by decide) (repl_no (by decide) (repl_no (by decide) (repl_34 _)))
theorem balF_asValue (l : List Nat) (d : Nat) (o : Int) : balF (asValue l d) o = balF l o := by
  unfold asValue
  split
  · unfold escAttrib
    rw [balF_repl (by decide) (by decide), balF_repl (by decide) (by decide), balF_repl (by decide) (by decide), balF_repl (by decide) (by decide), balF_repl (by decide) (by decide), balF_repl (by decide) (by decide), balF_repl (by decide) (by decide)]
  · split
    · unfold escHtml
      rw [balF_repl (by decide) (by decide), balF_repl (by decide) (by decide), balF_repl (by decide) (by decide)]
    · unfold escAttribC
      rw [balF_repl (by decide) (by decide), balF_repl (by decide) (by decide), balF_repl (by decide) (by decide), balF_repl (by decide) (by decide), balF_repl (by decide) (by decide), balF_repl (by decide) (by decide)]
theorem chk_value (l : List Nat) (d : Nat) : chk (asValue l d) = balF (proj l) 0 := by
  unfold chk
  rw [strip_free (asValue_34 l d), balF_asValue, balF_proj]

/-! words: what stands between marks falls -/
theorem stripGo_outs (l : List Nat) : ∀ (rest : List Nat) (pos start : Nat) (op : Option Nat) (res : List (List Nat)), l.drop pos = rest → start ≤ pos →
    (match op with
      | none => rest.count 34 % 2 = 0 → stripGo l rest pos start op res = res.flatten ++ ((l.drop start).take (pos - start) ++ outs false rest)
      | some o => start ≤ o → o < pos → rest.count 34 % 2 = 1 → stripGo l rest pos start op res = res.flatten ++ ((l.drop start).take (o - start) ++ outs true rest))
  | [], pos, start, none, res, hd, hs => by
    intro _
    have hl : l.length ≤ pos := List.drop_eq_nil_iff.mp hd
    unfold stripGo outs
    rw [List.append_nil, List.take_of_length_le (by rw [List.length_drop]; (first | lia | omega))]
    split
    · simp
    · rename_i q
      rw [List.drop_eq_nil_of_le (by (first | lia | omega))]; simp
  | [], pos, start, some o, res, hd, hs => by
    intro _ _ h; simp at h
  | c :: r, pos, start, none, res, hd, hs => by
    intro h
    have hd' : l.drop (pos + 1) = r := by rw [← List.drop_drop, hd]; rfl
    have hp : pos < l.length := by
      refine Nat.lt_of_not_le fun q => ?_
      rw [List.drop_eq_nil_of_le q] at hd; cases hd
    unfold stripGo outs
    by_cases q : c = 34
    · subst q
      rw [if_pos rfl, if_pos rfl]
      have := stripGo_outs l r (pos + 1) start (some pos) res hd' (by (first | lia | omega)) hs (by (first | lia | omega)) (by simp at h; (first | lia | omega))
      exact this
    · rw [if_neg q, if_neg q]
      have := stripGo_outs l r (pos + 1) start none res hd' (by (first | lia | omega)) (by rw [List.count_cons_of_ne (by simpa using q)] at h; exact h)
      rw [this, if_neg Bool.false_ne_true]
      have hc : l[pos]? = some c := by
        have := List.getElem?_drop (xs := l) (i := pos) (j := 0)
        rw [hd] at this; simpa using this.symm
      have ht : (l.drop start).take (pos + 1 - start) = (l.drop start).take (pos - start) ++ [c] := by
        rw [show pos + 1 - start = (pos - start) + 1 by (first | lia | omega), List.take_add_one, List.getElem?_drop, show start + (pos - start) = pos by (first | lia | omega), hc]; rfl
      rw [ht]; simp
  | c :: r, pos, start, some o, res, hd, hs => by
    intro h1 h2 h
    have hd' : l.drop (pos + 1) = r := by rw [← List.drop_drop, hd]; rfl
    unfold stripGo outs
    by_cases q : c = 34
    · subst q
      rw [if_pos rfl, if_pos rfl]
      have := stripGo_outs l r (pos + 1) (pos + 1) none (if start ≠ o then res ++ [(l.drop start).take (o - start)] else res) hd' (by (first | lia | omega)) (by simp at h; (first | lia | omega))
      dsimp only
      rw [this, Nat.sub_self, List.take_zero, List.nil_append]
      split
      · simp
      · rename_i q
        have : start = o := by simpa using q
        subst this; simp
    · rw [if_neg q, if_neg q, if_pos rfl]
      exact stripGo_outs l r (pos + 1) start (some o) res hd' (by (first | lia | omega)) h1 (by (first | lia | omega)) (by rw [List.count_cons_of_ne (by simpa using q)] at h; exact h)
theorem outs_free : ∀ l : List Nat, 34 ∉ l → outs false l = l
  | [], _ => rfl
  | c :: r, h => by
    unfold outs
    rw [if_neg (fun q => h (by rw [q]; exact List.mem_cons_self)), if_neg Bool.false_ne_true, outs_free r fun q => h (List.mem_cons_of_mem _ q)]
theorem strip_outs {l : List Nat} (h : l.count 34 % 2 = 0) : strip l = outs false l := by
  unfold strip
  split
  · have := stripGo_outs l l 0 0 none [] rfl (Nat.le_refl _) h
    rw [this]; simp
  · rename_i q; rw [outs_free l q]
theorem outs_app_in (z r : List Nat) (hz : 34 ∉ z) : outs true (z ++ r) = outs true r := by
  induction z with
  | nil => rfl
  | cons x z ih =>
    show outs true (x :: (z ++ r)) = _
    rw [outs, if_neg (fun q => hz (by rw [q]; exact List.mem_cons_self)), if_pos rfl]
    exact ih fun q => hz (List.mem_cons_of_mem _ q)
theorem outs_app_out (z r : List Nat) (hz : 34 ∉ z) : outs false (z ++ r) = z ++ outs false r := by
  induction z with
  | nil => rfl
  | cons x z ih =>
    show outs false (x :: (z ++ r)) = _
    rw [outs, if_neg (fun q => hz (by rw [q]; exact List.mem_cons_self)), if_neg Bool.false_ne_true, ih fun q => hz (List.mem_cons_of_mem _ q)]
    rfl
theorem outs_repl {c : Nat} {z : List Nat} (hc : c ≠ 34) (hz : 34 ∉ z) : ∀ (b : Bool) (l : List Nat), outs b (repl c z l) = repl c z (outs b l)
  | _, [] => by cases ‹Bool› <;> rfl
  | b, x :: r => by
    show outs b ((if x = c then z else [x]) ++ repl c z r) = _
    by_cases q : x = c
    · subst q
      rw [if_pos rfl]
      rw [outs, if_neg hc]
      cases b with
      | true => rw [outs_app_in _ _ hz, if_pos rfl, outs_repl hc hz true r]
      | false =>
        rw [outs_app_out _ _ hz, if_neg Bool.false_ne_true, outs_repl hc hz false r]
        show _ = (if x = x then z else [x]) ++ repl x z (outs false r)
        rw [if_pos rfl]
    · rw [if_neg q]
      show outs b (x :: repl c z r) = _
      rw [outs, outs]
      by_cases h34 : x = 34
      · rw [if_pos h34, if_pos h34, outs_repl hc hz (!b) r]
      · rw [if_neg h34, if_neg h34]
        cases b with
        | true => rw [if_pos rfl, if_pos rfl, outs_repl hc hz true r]
        | false =>
          rw [if_neg Bool.false_ne_true, if_neg Bool.false_ne_true, outs_repl hc hz false r]
          show _ = (if x = c then z else [x]) ++ repl c z (outs false r)
          rw [if_neg q]; rfl
theorem count_repl {c : Nat} {z : List Nat} (hc : c ≠ 34) (hz : z.count 34 = 0) : ∀ l : List Nat, (repl c z l).count 34 = l.count 34
  | [] => rfl
  | x :: r => by
    show ((if x = c then z else [x]) ++ repl c z r).count 34 = _
    rw [List.count_append, count_repl hc hz r]
    split
    · rename_i q
      subst q
      rw [hz, List.count_cons_of_ne (by simpa using hc)]; (first | lia | omega)
    · rw [List.count_cons, List.count_cons, List.count_nil]; (first | lia | omega)
theorem outs_proj : ∀ (b : Bool) (l : List Nat), proj (outs b l) = outs b (proj l)
  | _, [] => by cases ‹Bool› <;> rfl
  | b, x :: r => by
    have ih := fun b => outs_proj b r
    unfold proj at ih ⊢
    by_cases h34 : x = 34
    · subst h34
      rw [outs, if_pos rfl, List.filter_cons_of_pos rfl, outs, if_pos rfl, ih]
    · rw [outs, if_neg h34]
      cases hx : isB x with
      | true =>
        rw [List.filter_cons_of_pos hx, outs, if_neg h34]
        cases b with
        | true => rw [if_pos rfl, if_pos rfl, ih]
        | false => rw [if_neg Bool.false_ne_true, if_neg Bool.false_ne_true, List.filter_cons_of_pos hx, ih]
      | false =>
        rw [List.filter_cons_of_neg (by simp [hx])]
        cases b with
        | true => rw [if_pos rfl, ih]
        | false => rw [if_neg Bool.false_ne_true, List.filter_cons_of_neg (by simp [hx]), ih]
theorem count_proj (l : List Nat) : (proj l).count 34 = l.count 34 := by
  induction l with
  | nil => rfl
  | cons x r ih =>
    unfold proj at ih ⊢
    cases h : isB x with
    | true => rw [List.filter_cons_of_pos h, List.count_cons, List.count_cons, ih]
    | false =>
      rw [List.filter_cons_of_neg (by simp [h]), ih, List.count_cons_of_ne]
      intro q
      have : x = 34 := by simpa using q
      subst this; cases h
theorem chk_words {l : List Nat} (d : Nat) (h : (proj l).count 34 % 2 = 0) : chk (asWords l d) = balF (outs false (proj l)) 0 := by
  rw [count_proj] at h
  unfold chk asWords
  split
  · unfold escCdata
    rw [strip_outs (by rw [count_repl (by decide) (by decide), count_repl (by decide) (by decide), count_repl (by decide) (by decide)]; exact h), outs_repl (by decide) (by decide), outs_repl (by decide) (by decide), outs_repl (by decide) (by decide),
      balF_repl (by decide) (by decide), balF_repl (by decide) (by decide), balF_repl (by decide) (by decide), ← balF_proj, outs_proj]
  · unfold escCdataC
    rw [strip_outs (by rw [count_repl (by decide) (by decide), count_repl (by decide) (by decide), count_repl (by decide) (by decide), count_repl (by decide) (by decide)]; exact h), outs_repl (by decide) (by decide), outs_repl (by decide) (by decide), outs_repl (by decide) (by decide), outs_repl (by decide) (by decide),
      balF_repl (by decide) (by decide), balF_repl (by decide) (by decide), balF_repl (by decide) (by decide), balF_repl (by decide) (by decide), ← balF_proj, outs_proj]

/-! the operators fall too -/
noncomputable def bareParts (ps : List (List Nat × Nat)) : List (List Nat × Nat) := ps.map fun p => (proj p.1, p.2)
theorem proj_app (a b : List Nat) : proj (a ++ b) = proj a ++ proj b := List.filter_append ..
theorem proj_textGo (sides : List Nat) : ∀ (ps : List (List Nat × Nat)) (h : Nat), proj (textGo sides ps h) = textGo sides (bareParts ps) h
  | [], h => by
    unfold textGo bareParts proj
    rw [List.filter_eq_self.mpr]
    · rfl
    · intro c hc; rw [(List.mem_replicate.mp hc).2]; rfl
  | (br, p) :: r, h => by
    show proj ((if sides.getD p 0 = h then [] else [34]) ++ (br ++ textGo sides r (sides.getD p 0))) = (if sides.getD p 0 = h then [] else [34]) ++ (proj br ++ textGo sides (bareParts r) (sides.getD p 0))
    rw [proj_app, proj_app, proj_textGo sides r]
    congr 1
    split <;> rfl
theorem proj_sign {w : List Nat} (h : ∀ c ∈ w, c ≠ 92 ∧ c ≠ 34 ∧ c ≠ 40 ∧ c ≠ 41) : proj w = [] := by
  unfold proj
  rw [List.filter_eq_nil_iff]
  intro c hc
  have := h c hc
  unfold isB
  simp [this.2.1, this.2.2.1, this.2.2.2]
theorem bareParts_parts {met : List Nat} {signs : List (List Nat)} (sg : SgOk signs) : bareParts (partsOf met signs) = partsOf met [] := by
  unfold bareParts partsOf
  rw [List.map_map]
  refine List.map_congr_left fun x _ => ?_
  show (proj (if x.1 ∈ met.take x.2 then [41] else 40 :: signs.getD x.1 []), x.1) = (if x.1 ∈ met.take x.2 then [41] else 40 :: ([] : List (List Nat)).getD x.1 [], x.1)
  split
  · rfl
  · have : proj (40 :: signs.getD x.1 []) = [40] := by
      have e : proj (signs.getD x.1 []) = [] := by
        rw [List.getD_eq_getElem?_getD]
        cases q : signs[x.1]? with
        | none => rfl
        | some w => exact proj_sign (sg.plain w (List.mem_of_getElem? q))
      show proj ([40] ++ signs.getD x.1 []) = _
      rw [proj_app, e]; rfl
    rw [this]; simp
theorem proj_text {met now : List Nat} {signs : List (List Nat)} (sg : SgOk signs) : proj (textOf (partsOf met signs) now) = textOf (partsOf met []) now := by
  unfold textOf
  rw [proj_textGo, bareParts_parts sg]
end Mine

namespace Mine
open PySem PySem.W PyProof.Rows

/-! the reading -/
theorem lookup_mem' {α β : Type} [BEq α] [LawfulBEq α] {l : List (α × β)} {x : α} {c : β} (h : l.lookup x = some c) : (x, c) ∈ l := by
  induction l with
  | nil => cases h
  | cons p r ih =>
    obtain ⟨y, d⟩ := p
    rw [List.lookup_cons] at h
    split at h
    · rename_i q; cases h; rw [beq_iff_eq.mp q]; exact List.mem_cons_self
    · exact List.mem_cons_of_mem _ (ih h)
noncomputable def keysOk : Bool := TT.all fun p => decide (p.1.cps.toList.length = 1) || p.1.cps.toList.all fun c => !isB c
theorem keysOk_true : keysOk = true := by decide +kernel
theorem tabHas_no {l : List Nat} (h : tabHas TT (S l) = true) : l.length = 1 ∨ ∀ c ∈ l, isB c = false := by
  unfold tabHas at h
  obtain ⟨v, hv⟩ := Option.isSome_iff_exists.mp h
  have hm := lookup_mem' hv
  have := List.all_eq_true.mp keysOk_true _ hm
  simp only [Bool.or_eq_true, decide_eq_true_eq, List.all_eq_true, Bool.not_eq_true'] at this
  exact this
theorem no_key {l : List Nat} {c : Nat} (hl : 2 ≤ l.length) (hc : c ∈ l) (hb : isB c = true) : tabHas TT (S l) ≠ true := fun h => by
  rcases tabHas_no h with q | q
  · (first | lia | omega)
  · rw [q c hc] at hb; cases hb
theorem width_word {w rest : List Nat} (hw : tabHas TT (S w) = true) (h1 : 1 ≤ w.length) (h3 : w.length ≤ 3) (hr : rest = [] ∨ ∃ c r, rest = c :: r ∧ (isB c = true ∨ ∃ x ∈ w, isB x = true)) :
    ∃ k, widthOf TT (w ++ rest) = some k ∧ (w ++ rest).take k = w ∧ (w ++ rest).drop k = rest := by
  rcases hr with rfl | ⟨c, r, rfl, hc⟩
  · refine ⟨3, ?_, ?_, ?_⟩
    · unfold widthOf
      rw [if_pos]
      rw [List.append_nil, List.take_of_length_le h3]; exact hw
    · rw [List.append_nil, List.take_of_length_le h3]
    · rw [List.append_nil, List.drop_eq_nil_of_le h3]
  · have no : ∀ k, w.length < k → tabHas TT (S ((w ++ c :: r).take k)) ≠ true := fun k hk => by
      have e : (w ++ c :: r).take k = w ++ c :: r.take (k - w.length - 1) := by
        rw [List.take_append, List.take_of_length_le (by (first | lia | omega)), show k - w.length = (k - w.length - 1) + 1 by (first | lia | omega), List.take_succ_cons]
        rfl
      rw [e]
      rcases hc with hc | ⟨x, hx, hb⟩
      · exact no_key (by simp; (first | lia | omega)) (List.mem_append_right _ List.mem_cons_self) hc
      · exact no_key (by simp; (first | lia | omega)) (List.mem_append_left _ hx) hb
    have yes : tabHas TT (S ((w ++ c :: r).take w.length)) = true := by rw [List.take_left]; exact hw
    refine ⟨w.length, ?_, List.take_left, List.drop_left⟩
    unfold widthOf
    have hcase : w.length = 1 ∨ w.length = 2 ∨ w.length = 3 := by (first | lia | omega)
    rcases hcase with q | q | q
    · rw [if_neg (no 3 (by (first | lia | omega))), if_neg (no 2 (by (first | lia | omega))), if_pos (q ▸ yes), q]
    · rw [if_neg (no 3 (by (first | lia | omega))), if_pos (q ▸ yes), q]
    · rw [if_pos (q ▸ yes), q]
theorem symGo_word {w rest ss : List Nat} {k h : Nat} {v : Int} (hv : TT.lookup (S w) = some v) (h1 : 1 ≤ w.length) (h3 : w.length ≤ 3) (h34 : w.head? ≠ some 34) (hr : rest = [] ∨ ∃ c r, rest = c :: r ∧ (isB c = true ∨ ∃ x ∈ w, isB x = true))
    (hs : symGo TT k rest h = some ss) : symGo TT (k + 1) (w ++ rest) h = some ((v.toNat + h) :: ss) := by
  have hw : tabHas TT (S w) = true := by unfold tabHas; rw [hv]; rfl
  obtain ⟨n, n1, n2, n3⟩ := width_word hw h1 h3 hr
  cases w with
  | nil => simp at h1
  | cons x w =>
    have hx : x ≠ 34 := fun q => h34 (by rw [q]; rfl)
    rw [List.cons_append] at n1 n2 n3 ⊢
    unfold symGo
    rw [if_neg hx, n1]
    dsimp only
    rw [n2, hv]
    dsimp only
    rw [n3, hs]
    rfl
theorem symGo_mark {rest ss : List Nat} {k h : Nat} (hs : symGo TT k rest (256 - h) = some ss) : symGo TT (k + 1) (34 :: rest) h = some ss := by
  unfold symGo
  rw [if_pos rfl]; exact hs

noncomputable def symOf (met numbers now : List Nat) (x : Nat × Nat) : List Nat :=
  if x.1 ∈ met.take x.2 then [8 + 256 * now.getD x.1 0] else [7 + 256 * now.getD x.1 0, numbers.getD x.1 0 + 256 * now.getD x.1 0]
theorem textGo_head (sides : List Nat) : ∀ (ps : List (List Nat × Nat)) (h : Nat), (∀ p ∈ ps, ∃ c r, p.1 = c :: r ∧ isB c = true) → textGo sides ps h = [] ∨ ∃ c r, textGo sides ps h = c :: r ∧ isB c = true
  | [], 0, _ => .inl rfl
  | [], h + 1, _ => .inr ⟨34, _, rfl, rfl⟩
  | (br, p) :: r, h, hp => by
    obtain ⟨c, r', e, hc⟩ := hp _ List.mem_cons_self
    right
    unfold textGo
    split
    · exact ⟨c, r' ++ textGo sides r (sides.getD p 0), by dsimp only at e; rw [e]; rfl, hc⟩
    · exact ⟨34, _, rfl, rfl⟩
theorem sign_at {k : Nat} (h1 : 14 ≤ k) (h2 : k ≤ 54) : ∃ w, SIGNS.getD (k - 14) [] = w ∧ TT.lookup (S w) = some (k : Int) ∧ 1 ≤ w.length ∧ w.length ≤ 3 ∧ ∃ c r, w = c :: r ∧ c ≠ 34 := by
  have a : ∀ i, i < 41 → TT.lookup (S (SIGNS.getD i [])) = some ((i + 14 : Nat) : Int) ∧ 1 ≤ (SIGNS.getD i []).length ∧ (SIGNS.getD i []).length ≤ 3 ∧ (SIGNS.getD i []).head? ≠ some 34 := by decide +kernel
  obtain ⟨a1, a2, a3, a4⟩ := a (k - 14) (by (first | lia | omega))
  refine ⟨_, rfl, ?_, a2, a3, ?_⟩
  · rw [a1, show k - 14 + 14 = k by (first | lia | omega)]
  · cases hw : SIGNS.getD (k - 14) [] with
    | nil => rw [hw] at a2; simp at a2
    | cons c r => exact ⟨c, r, rfl, fun q => a4 (by rw [hw, q]; rfl)⟩
theorem tt_open : TT.lookup (S [40]) = some 7 := by decide +kernel
theorem tt_close : TT.lookup (S [41]) = some 8 := by decide +kernel
theorem sym_text {met numbers now : List Nat} {signs : List (List Nat)} (hn : ∀ p ∈ met, 14 ≤ numbers.getD p 0 ∧ numbers.getD p 0 ≤ 54) (hsg : ∀ p ∈ met, signs.getD p [] = SIGNS.getD (numbers.getD p 0 - 14) []) (hnow : ∀ s ∈ now, s ≤ 1) :
    ∀ (l : List (Nat × Nat)) (h k : Nat), (∀ x ∈ l, x.1 ∈ met) → h ≤ 1 → 3 * l.length + 1 ≤ k →
      symGo TT k (textGo now (l.map fun x => (if x.1 ∈ met.take x.2 then [41] else 40 :: signs.getD x.1 [], x.1)) h) (256 * h) = some (l.flatMap (symOf met numbers now))
  | [], h, k, _, hh, hk => by
    have : h = 0 ∨ h = 1 := by (first | lia | omega)
    rcases this with rfl | rfl
    · unfold textGo; cases k <;> rfl
    · cases k with
      | zero => (first | lia | omega)
      | succ k =>
        show symGo TT (k + 1) [34] 256 = _
        refine symGo_mark ?_
        cases k <;> rfl
  | x :: l, h, k, hl, hh, hk => by
    have hx := hl x List.mem_cons_self
    have hs1 : now.getD x.1 0 ≤ 1 := getD_le hnow _
    have key : ∀ j, 3 * l.length + 3 ≤ j → symGo TT j ((if x.1 ∈ met.take x.2 then [41] else 40 :: signs.getD x.1 []) ++ textGo now (l.map fun x => (if x.1 ∈ met.take x.2 then [41] else 40 :: signs.getD x.1 [], x.1)) (now.getD x.1 0)) (256 * now.getD x.1 0) = some (symOf met numbers now x ++ l.flatMap (symOf met numbers now)) := fun j hj => by
      have hd := textGo_head now (l.map fun x => (if x.1 ∈ met.take x.2 then [41] else 40 :: signs.getD x.1 [], x.1)) (now.getD x.1 0) (fun p hp => by
        obtain ⟨y, _, rfl⟩ := List.mem_map.mp hp
        dsimp only
        split
        · exact ⟨41, [], rfl, rfl⟩
        · exact ⟨40, _, rfl, rfl⟩)
      unfold symOf
      split
      · obtain ⟨j, rfl⟩ : ∃ i, j = i + 1 := ⟨j - 1, by (first | lia | omega)⟩
        have ih := sym_text hn hsg hnow l (now.getD x.1 0) j (fun y hy => hl y (List.mem_cons_of_mem _ hy)) hs1 (by (first | lia | omega))
        have := symGo_word tt_close (by decide) (by decide) (by decide) (hd.imp id fun ⟨c, r, e, hc⟩ => ⟨c, r, e, .inl hc⟩) ih
        exact this
      · obtain ⟨w, w1, w2, w3, w4, c, r, w5, w6⟩ := sign_at (hn x.1 hx).1 (hn x.1 hx).2
        rw [hsg x.1 hx, w1]
        obtain ⟨j, rfl⟩ : ∃ i, j = i + 2 := ⟨j - 2, by (first | lia | omega)⟩
        have ih := sym_text hn hsg hnow l (now.getD x.1 0) j (fun y hy => hl y (List.mem_cons_of_mem _ hy)) hs1 (by (first | lia | omega))
        have s1 := symGo_word w2 w3 w4 (by rw [w5]; intro q; cases q; exact w6 rfl) (hd.imp id fun ⟨c, r, e, hc⟩ => ⟨c, r, e, .inl hc⟩) ih
        have s2 := symGo_word (w := [40]) tt_open (by decide) (by decide) (by decide) (.inr ⟨c, r ++ _, by rw [w5]; rfl, .inr ⟨40, List.mem_cons_self, rfl⟩⟩) s1
        exact s2
    show symGo TT k ((if now.getD x.1 0 = h then [] else [34]) ++ ((if x.1 ∈ met.take x.2 then [41] else 40 :: signs.getD x.1 []) ++ textGo now (l.map fun x => (if x.1 ∈ met.take x.2 then [41] else 40 :: signs.getD x.1 [], x.1)) (now.getD x.1 0))) (256 * h) = _
    rw [List.length_cons] at hk
    rw [List.flatMap_cons]
    by_cases q : now.getD x.1 0 = h
    · rw [if_pos q, List.nil_append, ← q]
      exact key k (by (first | lia | omega))
    · rw [if_neg q]
      obtain ⟨k, rfl⟩ : ∃ i, k = i + 1 := ⟨k - 1, by (first | lia | omega)⟩
      refine symGo_mark ?_
      rw [show 256 - 256 * h = 256 * now.getD x.1 0 by (first | lia | omega)]
      exact key k (by (first | lia | omega))

/-! the rows that are read -/
noncomputable def isBr (x : Nat) : Bool := decide (x % 256 = 7) || decide (x % 256 = 8)
theorem read_split : ∀ (xs : List Nat) (r sd nu p0 p1 : List Nat), (∀ x ∈ xs, x ≠ 0) →
    readGo (xs ++ [0]) ⟨r, sd, nu, p0, p1⟩ = (readGo (xs.filter isBr ++ [0]) ⟨r, sd, [], p0, p1⟩).map fun s => ⟨s.row, s.sides, nu ++ (xs.filter fun x => !isBr x).map (· % 256), s.p0, s.p1⟩
  | [], r, sd, nu, p0, p1, _ => by simp [readGo]
  | x :: xs, r, sd, nu, p0, p1, h => by
    have hx := h x List.mem_cons_self
    have ih := fun r sd nu p0 p1 => read_split xs r sd nu p0 p1 fun y hy => h y (List.mem_cons_of_mem _ hy)
    rw [List.cons_append]
    by_cases h7 : x % 256 = 7
    · have hb : isBr x = true := by unfold isBr; simp [h7]
      rw [List.filter_cons_of_pos (p := isBr) hb, List.filter_cons_of_neg (p := fun x => !isBr x) (by simp [hb]), List.cons_append]
      unfold readGo
      rw [if_neg hx, if_neg hx, if_pos h7, if_pos h7]
      exact ih _ _ _ _ _
    · by_cases h8 : x % 256 = 8
      · have hb : isBr x = true := by unfold isBr; simp [h8]
        rw [List.filter_cons_of_pos (p := isBr) hb, List.filter_cons_of_neg (p := fun x => !isBr x) (by simp [hb]), List.cons_append]
        unfold readGo
        rw [if_neg hx, if_neg hx, if_neg h7, if_neg h7, if_pos h8, if_pos h8]
        dsimp only
        by_cases q : (if decide (256 ≤ x) = true then p1 else p0) = []
        · rw [if_pos q, if_pos q]; rfl
        · rw [if_neg q, if_neg q]; exact ih _ _ _ _ _
      · have hb : isBr x = false := by unfold isBr; simp [h7, h8]
        rw [List.filter_cons_of_neg (p := isBr) (by simp [hb]), List.filter_cons_of_pos (p := fun x => !isBr x) (by simp [hb])]
        have e : readGo (x :: (xs ++ [0])) ⟨r, sd, nu, p0, p1⟩ = readGo (xs ++ [0]) ⟨r, sd, nu ++ [x % 256], p0, p1⟩ := by
          show (if x = 0 then _ else if x % 256 = 7 then _ else if x % 256 = 8 then _ else readGo (xs ++ [0]) ⟨r, sd, nu ++ [x % 256], p0, p1⟩) = _
          rw [if_neg hx, if_neg h7, if_neg h8]
        rw [e, ih]
        simp
noncomputable def skelOf (met now : List Nat) : List Nat := met.zipIdx.map fun x => if x.1 ∈ met.take x.2 then 8 + 256 * now.getD x.1 0 else 7 + 256 * now.getD x.1 0
theorem skel_eq {met numbers now : List Nat} : ∀ l : List (Nat × Nat), (∀ x ∈ l, 14 ≤ numbers.getD x.1 0 ∧ numbers.getD x.1 0 ≤ 54) →
    (l.flatMap (symOf met numbers now)).filter isBr = (l.map fun x => if x.1 ∈ met.take x.2 then 8 + 256 * now.getD x.1 0 else 7 + 256 * now.getD x.1 0) ∧
    ((l.flatMap (symOf met numbers now)).filter fun x => !isBr x).map (· % 256) = (l.filterMap fun x => if x.1 ∈ met.take x.2 then none else some x.1).map fun p => numbers.getD p 0
  | [], _ => ⟨rfl, rfl⟩
  | x :: l, h => by
    obtain ⟨i1, i2⟩ := skel_eq (met := met) (numbers := numbers) (now := now) l fun y hy => h y (List.mem_cons_of_mem _ hy)
    have hx := h x List.mem_cons_self
    have b8 : isBr (8 + 256 * now.getD x.1 0) = true := by unfold isBr; simp [Nat.add_mul_mod_self_left]
    have b7 : isBr (7 + 256 * now.getD x.1 0) = true := by unfold isBr; simp [Nat.add_mul_mod_self_left]
    have m : (numbers.getD x.1 0 + 256 * now.getD x.1 0) % 256 = numbers.getD x.1 0 := by rw [Nat.add_mul_mod_self_left, Nat.mod_eq_of_lt (by (first | lia | omega))]
    have bn : isBr (numbers.getD x.1 0 + 256 * now.getD x.1 0) = false := by unfold isBr; rw [m, decide_eq_false (by (first | lia | omega)), decide_eq_false (by (first | lia | omega))]; rfl
    rw [List.flatMap_cons, List.filter_append, List.filter_append, List.map_append, i1, i2]
    unfold symOf
    split
    · rename_i q
      rw [List.filter_cons_of_pos b8, List.filter_nil, List.filter_cons_of_neg (by rw [b8]; decide), List.filter_nil, List.filterMap_cons_none (by rw [if_pos q])]
      refine ⟨?_, rfl⟩
      rw [List.map_cons, if_pos q]; rfl
    · rename_i q
      rw [List.filter_cons_of_pos b7, List.filter_cons_of_neg (by rw [bn]; exact Bool.false_ne_true), List.filter_nil, List.filter_cons_of_neg (by rw [b7]; decide), List.filter_cons_of_pos (by rw [bn]; rfl), List.filter_nil, List.filterMap_cons_some (by rw [if_neg q])]
      refine ⟨?_, ?_⟩
      · rw [List.map_cons, if_neg q]; rfl
      · rw [List.map_cons, List.map_cons, m]; rfl
/-- the whole reading -/
theorem read_text {met numbers now : List Nat} {signs : List (List Nat)} (hlen : met.length ≤ 16) (hn : ∀ p ∈ met, 14 ≤ numbers.getD p 0 ∧ numbers.getD p 0 ≤ 54) (hsg : ∀ p ∈ met, signs.getD p [] = SIGNS.getD (numbers.getD p 0 - 14) []) (hnow : ∀ s ∈ now, s ≤ 1)
    {row sides : List Nat} (hr : (readGo (skelOf met now ++ [0]) ⟨[], [], [], [], []⟩).map (fun s => (s.row, s.sides)) = some (row, sides)) :
    ∃ syms fin, symGo TT 200 (textOf (partsOf met signs) now) 0 = some syms ∧ syms.length ≤ 1000 ∧ readGo (syms ++ [0]) ⟨[], [], [], [], []⟩ = some fin ∧ fin.row = row ∧ fin.sides = sides ∧ fin.numbers = (orderOf met).map fun p => numbers.getD p 0 := by
  have hz : ∀ x ∈ met.zipIdx, x.1 ∈ met := fun x hx => List.mem_of_getElem? (mem_zipIdx_get hx)
  have h1 := sym_text hn hsg hnow met.zipIdx 0 200 hz (by (first | lia | omega)) (by rw [List.length_zipIdx]; (first | lia | omega))
  obtain ⟨s1, s2⟩ := skel_eq (met := met) (numbers := numbers) (now := now) met.zipIdx fun x hx => hn x.1 (hz x hx)
  have hnz : ∀ x ∈ met.zipIdx.flatMap (symOf met numbers now), x ≠ 0 := by
    intro x hx
    obtain ⟨y, hy, hxy⟩ := List.mem_flatMap.mp hx
    have := hn y.1 (hz y hy)
    unfold symOf at hxy
    split at hxy
    · simp at hxy; (first | lia | omega)
    · simp only [List.mem_cons, List.not_mem_nil, or_false] at hxy; (first | lia | omega)
  have h2 := read_split (met.zipIdx.flatMap (symOf met numbers now)) [] [] [] [] [] hnz
  rw [s1] at h2
  obtain ⟨s, hs, hs2⟩ := Option.map_eq_some_iff.mp hr
  have hs' : readGo (met.zipIdx.map (fun x => if x.1 ∈ met.take x.2 then 8 + 256 * now.getD x.1 0 else 7 + 256 * now.getD x.1 0) ++ [0]) ⟨[], [], [], [], []⟩ = some s := hs
  rw [hs'] at h2
  cases hs2
  refine ⟨_, _, h1, ?_, h2, rfl, rfl, ?_⟩
  · have : ∀ l : List (Nat × Nat), (l.flatMap (symOf met numbers now)).length ≤ 2 * l.length := fun l => by
      induction l with
      | nil => simp
      | cons x l ih =>
        rw [List.flatMap_cons, List.length_append, List.length_cons]
        have : (symOf met numbers now x).length ≤ 2 := by unfold symOf; split <;> simp
        (first | lia | omega)
    have := this met.zipIdx
    rw [List.length_zipIdx] at this; (first | lia | omega)
  · rw [List.nil_append, s2]; rfl
end Mine

namespace Mine
open PySem PySem.W PyProof.Rows

noncomputable def bareN (now : List Nat) : List Nat := (List.range now.length).filter fun o => decide (now[o]? = some 0)
noncomputable def hidOf (now : List Nat) : List Nat := (List.range now.length).filter fun o => decide (now[o]? = some 1)
noncomputable def tabG (now : List Nat) (x : Nat → Int) (wv : Nat → Nat → Int) : Nat → Nat → Nat → Int
  | 0 => fun k j => if (bareN now).getD k 0 = (bareN now).getD j 0 then x ((bareN now).getD k 0) else 0
  | i + 1 => fun k j => if now.getD i 0 = 1 then tabG now x wv i k j + x i * wv i k * wv i j else tabG now x wv i k j
noncomputable def coef2 (wv : Nat → Nat → Int) : List Nat → List Nat → Int
  | [], [] => 1
  | [h], [k] => wv h k * wv h k
  | [h, h'], [k, k'] => (wv h k * wv h' k' - wv h k' * wv h' k) * (wv h k * wv h' k' - wv h k' * wv h' k)
  | _, _ => 0
noncomputable def coef (now : List Nat) (wv : Nat → Nat → Int) (b : Nat) : Int :=
  coef2 wv ((hidOf now).filter fun h => decide (b / 2 ^ h % 2 = 1)) ((List.range (bareN now).length).filter fun k => decide (b / 2 ^ (bareN now).getD k 0 % 2 = 0))
noncomputable def prodZ (x : Nat → Int) (b : Nat) : Nat → Int
  | 0 => 1
  | i + 1 => if b / 2 ^ i % 2 = 1 then prodZ x b i * x i else prodZ x b i
noncomputable def sumB (g : Nat → Int) : Nat → Int
  | 0 => 0
  | n + 1 => sumB g n + g n

theorem det2 (f : Nat → Nat → Int) : detRun 2 0 1 f = f 1 1 * f 0 0 - f 1 0 * f 0 1 := by
  simp [detRun, elimF]
theorem det3 (f : Nat → Nat → Int) (h0 : f 0 0 ≠ 0) : detRun 3 0 1 f = f 0 0 * (f 1 1 * f 2 2 - f 1 2 * f 2 1) - f 0 1 * (f 1 0 * f 2 2 - f 1 2 * f 2 0) + f 0 2 * (f 1 0 * f 2 1 - f 1 1 * f 2 0) := by
  have e : ∀ a b : Int, a = f 0 0 * b → a.fdiv (f 0 0) = b := fun a b q => by rw [q, Int.mul_fdiv_cancel_left _ h0]
  simp [detRun, elimF]
  apply e
  grind
theorem det4 (f : Nat → Nat → Int) (hd : ∀ i j, i ≠ j → f i j = 0 ∨ 4 ≤ i ∨ 4 ≤ j) (h0 : f 0 0 ≠ 0) (h1 : f 1 1 ≠ 0) : detRun 4 0 1 f = f 0 0 * f 1 1 * f 2 2 * f 3 3 := by
  have z : ∀ i j, i ≠ j → i < 4 → j < 4 → f i j = 0 := fun i j h hi hj => by rcases hd i j h with q | q | q <;> (first | lia | omega)
  have h01 : f 1 1 * f 0 0 ≠ 0 := Int.mul_ne_zero h1 h0
  have e0 : ∀ a b : Int, a = f 0 0 * b → a.fdiv (f 0 0) = b := fun a b q => by rw [q, Int.mul_fdiv_cancel_left _ h0]
  have e1 : ∀ a b : Int, a = f 1 1 * f 0 0 * b → a.fdiv (f 1 1 * f 0 0) = b := fun a b q => by rw [q, Int.mul_fdiv_cancel_left _ h01]
  simp [detRun, elimF, z 0 1 (by decide) (by decide) (by decide), z 0 2 (by decide) (by decide) (by decide), z 0 3 (by decide) (by decide) (by decide), z 1 0 (by decide) (by decide) (by decide), z 1 2 (by decide) (by decide) (by decide), z 1 3 (by decide) (by decide) (by decide), z 2 0 (by decide) (by decide) (by decide), z 2 1 (by decide) (by decide) (by decide), z 2 3 (by decide) (by decide) (by decide), z 3 0 (by decide) (by decide) (by decide), z 3 1 (by decide) (by decide) (by decide), z 3 2 (by decide) (by decide) (by decide)]
  rw [e0 (f 2 2 * f 0 0 * (f 1 1 * f 0 0)) (f 2 2 * (f 1 1 * f 0 0)) (by grind), e0 (f 3 3 * f 0 0 * (f 1 1 * f 0 0)) (f 3 3 * (f 1 1 * f 0 0)) (by grind)]
  apply e1
  grind
theorem tab_diag (x : Nat → Int) (wv : Nat → Nat → Int) {i j : Nat} (h : i ≠ j) : tabG [0, 0, 0, 0] x wv 4 i j = 0 ∨ 4 ≤ i ∨ 4 ≤ j := by
  have e : bareN [0, 0, 0, 0] = [0, 1, 2, 3] := by decide
  by_cases hi : i < 4
  · by_cases hj : j < 4
    · left
      have hi' : i = 0 ∨ i = 1 ∨ i = 2 ∨ i = 3 := by (first | lia | omega)
      have hj' : j = 0 ∨ j = 1 ∨ j = 2 ∨ j = 3 := by (first | lia | omega)
      rcases hi' with rfl | rfl | rfl | rfl <;> rcases hj' with rfl | rfl | rfl | rfl <;> first | exact absurd rfl h | simp [tabG, e]
    · (first | lia | omega)
  · (first | lia | omega)
theorem pat_000 (x : Nat → Int) (wv : Nat → Nat → Int) (h0 : tabG [0, 0, 0] x wv 3 0 0 ≠ 0) : detRun 3 0 1 (tabG [0, 0, 0] x wv 3) = sumB (fun b => coef [0, 0, 0] wv b * prodZ x b 3) 8 := by
  have e : tabG [0, 0, 0] x wv 3 0 0 * (tabG [0, 0, 0] x wv 3 1 1 * tabG [0, 0, 0] x wv 3 2 2 - tabG [0, 0, 0] x wv 3 1 2 * tabG [0, 0, 0] x wv 3 2 1) - tabG [0, 0, 0] x wv 3 0 1 * (tabG [0, 0, 0] x wv 3 1 0 * tabG [0, 0, 0] x wv 3 2 2 - tabG [0, 0, 0] x wv 3 1 2 * tabG [0, 0, 0] x wv 3 2 0) + tabG [0, 0, 0] x wv 3 0 2 * (tabG [0, 0, 0] x wv 3 1 0 * tabG [0, 0, 0] x wv 3 2 1 - tabG [0, 0, 0] x wv 3 1 1 * tabG [0, 0, 0] x wv 3 2 0) = x 0 * (x 1 * x 2 - 0 * 0) - 0 * (0 * x 2 - 0 * 0) + 0 * (0 * 0 - x 1 * 0) := by kernel_rfl
  have r : sumB (fun b => coef [0, 0, 0] wv b * prodZ x b 3) 8 = (((((((((0 : Int) + 0 * 1) + 0 * (1 * x 0)) + 0 * (1 * x 1)) + 0 * ((1 * x 0) * x 1)) + 0 * (1 * x 2)) + 0 * ((1 * x 0) * x 2)) + 0 * ((1 * x 1) * x 2)) + 1 * (((1 * x 0) * x 1) * x 2)) := by kernel_rfl
  have g : x 0 * (x 1 * x 2 - 0 * 0) - 0 * (0 * x 2 - 0 * 0) + 0 * (0 * 0 - x 1 * 0) = (((((((((0 : Int) + 0 * 1) + 0 * (1 * x 0)) + 0 * (1 * x 1)) + 0 * ((1 * x 0) * x 1)) + 0 * (1 * x 2)) + 0 * ((1 * x 0) * x 2)) + 0 * ((1 * x 1) * x 2)) + 1 * (((1 * x 0) * x 1) * x 2)) := by grind
  exact (det3 _ h0).trans (e.trans (g.trans r.symm))
theorem pat_001 (x : Nat → Int) (wv : Nat → Nat → Int) : detRun 2 0 1 (tabG [0, 0, 1] x wv 3) = sumB (fun b => coef [0, 0, 1] wv b * prodZ x b 3) 8 := by
  have e : tabG [0, 0, 1] x wv 3 1 1 * tabG [0, 0, 1] x wv 3 0 0 - tabG [0, 0, 1] x wv 3 1 0 * tabG [0, 0, 1] x wv 3 0 1 = (x 1 + x 2 * wv 2 1 * wv 2 1) * (x 0 + x 2 * wv 2 0 * wv 2 0) - (0 + x 2 * wv 2 1 * wv 2 0) * (0 + x 2 * wv 2 0 * wv 2 1) := by kernel_rfl
  have r : sumB (fun b => coef [0, 0, 1] wv b * prodZ x b 3) 8 = (((((((((0 : Int) + 0 * 1) + 0 * (1 * x 0)) + 0 * (1 * x 1)) + 1 * ((1 * x 0) * x 1)) + 0 * (1 * x 2)) + (wv 2 1 * wv 2 1) * ((1 * x 0) * x 2)) + (wv 2 0 * wv 2 0) * ((1 * x 1) * x 2)) + 0 * (((1 * x 0) * x 1) * x 2)) := by kernel_rfl
  have g : (x 1 + x 2 * wv 2 1 * wv 2 1) * (x 0 + x 2 * wv 2 0 * wv 2 0) - (0 + x 2 * wv 2 1 * wv 2 0) * (0 + x 2 * wv 2 0 * wv 2 1) = (((((((((0 : Int) + 0 * 1) + 0 * (1 * x 0)) + 0 * (1 * x 1)) + 1 * ((1 * x 0) * x 1)) + 0 * (1 * x 2)) + (wv 2 1 * wv 2 1) * ((1 * x 0) * x 2)) + (wv 2 0 * wv 2 0) * ((1 * x 1) * x 2)) + 0 * (((1 * x 0) * x 1) * x 2)) := by grind
  exact (det2 _).trans (e.trans (g.trans r.symm))
theorem pat_010 (x : Nat → Int) (wv : Nat → Nat → Int) : detRun 2 0 1 (tabG [0, 1, 0] x wv 3) = sumB (fun b => coef [0, 1, 0] wv b * prodZ x b 3) 8 := by
  have e : tabG [0, 1, 0] x wv 3 1 1 * tabG [0, 1, 0] x wv 3 0 0 - tabG [0, 1, 0] x wv 3 1 0 * tabG [0, 1, 0] x wv 3 0 1 = (x 2 + x 1 * wv 1 1 * wv 1 1) * (x 0 + x 1 * wv 1 0 * wv 1 0) - (0 + x 1 * wv 1 1 * wv 1 0) * (0 + x 1 * wv 1 0 * wv 1 1) := by kernel_rfl
  have r : sumB (fun b => coef [0, 1, 0] wv b * prodZ x b 3) 8 = (((((((((0 : Int) + 0 * 1) + 0 * (1 * x 0)) + 0 * (1 * x 1)) + (wv 1 1 * wv 1 1) * ((1 * x 0) * x 1)) + 0 * (1 * x 2)) + 1 * ((1 * x 0) * x 2)) + (wv 1 0 * wv 1 0) * ((1 * x 1) * x 2)) + 0 * (((1 * x 0) * x 1) * x 2)) := by kernel_rfl
  have g : (x 2 + x 1 * wv 1 1 * wv 1 1) * (x 0 + x 1 * wv 1 0 * wv 1 0) - (0 + x 1 * wv 1 1 * wv 1 0) * (0 + x 1 * wv 1 0 * wv 1 1) = (((((((((0 : Int) + 0 * 1) + 0 * (1 * x 0)) + 0 * (1 * x 1)) + (wv 1 1 * wv 1 1) * ((1 * x 0) * x 1)) + 0 * (1 * x 2)) + 1 * ((1 * x 0) * x 2)) + (wv 1 0 * wv 1 0) * ((1 * x 1) * x 2)) + 0 * (((1 * x 0) * x 1) * x 2)) := by grind
  exact (det2 _).trans (e.trans (g.trans r.symm))
theorem pat_011 (x : Nat → Int) (wv : Nat → Nat → Int) : detRun 1 0 1 (tabG [0, 1, 1] x wv 3) = sumB (fun b => coef [0, 1, 1] wv b * prodZ x b 3) 8 := by
  have e : detRun 1 0 1 (tabG [0, 1, 1] x wv 3) = ((x 0 + x 1 * wv 1 0 * wv 1 0) + x 2 * wv 2 0 * wv 2 0) := by kernel_rfl
  have r : sumB (fun b => coef [0, 1, 1] wv b * prodZ x b 3) 8 = (((((((((0 : Int) + 0 * 1) + 1 * (1 * x 0)) + (wv 1 0 * wv 1 0) * (1 * x 1)) + 0 * ((1 * x 0) * x 1)) + (wv 2 0 * wv 2 0) * (1 * x 2)) + 0 * ((1 * x 0) * x 2)) + 0 * ((1 * x 1) * x 2)) + 0 * (((1 * x 0) * x 1) * x 2)) := by kernel_rfl
  have g : ((x 0 + x 1 * wv 1 0 * wv 1 0) + x 2 * wv 2 0 * wv 2 0) = (((((((((0 : Int) + 0 * 1) + 1 * (1 * x 0)) + (wv 1 0 * wv 1 0) * (1 * x 1)) + 0 * ((1 * x 0) * x 1)) + (wv 2 0 * wv 2 0) * (1 * x 2)) + 0 * ((1 * x 0) * x 2)) + 0 * ((1 * x 1) * x 2)) + 0 * (((1 * x 0) * x 1) * x 2)) := by grind
  exact e.trans (g.trans r.symm)
theorem pat_100 (x : Nat → Int) (wv : Nat → Nat → Int) : detRun 2 0 1 (tabG [1, 0, 0] x wv 3) = sumB (fun b => coef [1, 0, 0] wv b * prodZ x b 3) 8 := by
  have e : tabG [1, 0, 0] x wv 3 1 1 * tabG [1, 0, 0] x wv 3 0 0 - tabG [1, 0, 0] x wv 3 1 0 * tabG [1, 0, 0] x wv 3 0 1 = (x 2 + x 0 * wv 0 1 * wv 0 1) * (x 1 + x 0 * wv 0 0 * wv 0 0) - (0 + x 0 * wv 0 1 * wv 0 0) * (0 + x 0 * wv 0 0 * wv 0 1) := by kernel_rfl
  have r : sumB (fun b => coef [1, 0, 0] wv b * prodZ x b 3) 8 = (((((((((0 : Int) + 0 * 1) + 0 * (1 * x 0)) + 0 * (1 * x 1)) + (wv 0 1 * wv 0 1) * ((1 * x 0) * x 1)) + 0 * (1 * x 2)) + (wv 0 0 * wv 0 0) * ((1 * x 0) * x 2)) + 1 * ((1 * x 1) * x 2)) + 0 * (((1 * x 0) * x 1) * x 2)) := by kernel_rfl
  have g : (x 2 + x 0 * wv 0 1 * wv 0 1) * (x 1 + x 0 * wv 0 0 * wv 0 0) - (0 + x 0 * wv 0 1 * wv 0 0) * (0 + x 0 * wv 0 0 * wv 0 1) = (((((((((0 : Int) + 0 * 1) + 0 * (1 * x 0)) + 0 * (1 * x 1)) + (wv 0 1 * wv 0 1) * ((1 * x 0) * x 1)) + 0 * (1 * x 2)) + (wv 0 0 * wv 0 0) * ((1 * x 0) * x 2)) + 1 * ((1 * x 1) * x 2)) + 0 * (((1 * x 0) * x 1) * x 2)) := by grind
  exact (det2 _).trans (e.trans (g.trans r.symm))
theorem pat_101 (x : Nat → Int) (wv : Nat → Nat → Int) : detRun 1 0 1 (tabG [1, 0, 1] x wv 3) = sumB (fun b => coef [1, 0, 1] wv b * prodZ x b 3) 8 := by
  have e : detRun 1 0 1 (tabG [1, 0, 1] x wv 3) = ((x 1 + x 0 * wv 0 0 * wv 0 0) + x 2 * wv 2 0 * wv 2 0) := by kernel_rfl
  have r : sumB (fun b => coef [1, 0, 1] wv b * prodZ x b 3) 8 = (((((((((0 : Int) + 0 * 1) + (wv 0 0 * wv 0 0) * (1 * x 0)) + 1 * (1 * x 1)) + 0 * ((1 * x 0) * x 1)) + (wv 2 0 * wv 2 0) * (1 * x 2)) + 0 * ((1 * x 0) * x 2)) + 0 * ((1 * x 1) * x 2)) + 0 * (((1 * x 0) * x 1) * x 2)) := by kernel_rfl
  have g : ((x 1 + x 0 * wv 0 0 * wv 0 0) + x 2 * wv 2 0 * wv 2 0) = (((((((((0 : Int) + 0 * 1) + (wv 0 0 * wv 0 0) * (1 * x 0)) + 1 * (1 * x 1)) + 0 * ((1 * x 0) * x 1)) + (wv 2 0 * wv 2 0) * (1 * x 2)) + 0 * ((1 * x 0) * x 2)) + 0 * ((1 * x 1) * x 2)) + 0 * (((1 * x 0) * x 1) * x 2)) := by grind
  exact e.trans (g.trans r.symm)
theorem pat_110 (x : Nat → Int) (wv : Nat → Nat → Int) : detRun 1 0 1 (tabG [1, 1, 0] x wv 3) = sumB (fun b => coef [1, 1, 0] wv b * prodZ x b 3) 8 := by
  have e : detRun 1 0 1 (tabG [1, 1, 0] x wv 3) = ((x 2 + x 0 * wv 0 0 * wv 0 0) + x 1 * wv 1 0 * wv 1 0) := by kernel_rfl
  have r : sumB (fun b => coef [1, 1, 0] wv b * prodZ x b 3) 8 = (((((((((0 : Int) + 0 * 1) + (wv 0 0 * wv 0 0) * (1 * x 0)) + (wv 1 0 * wv 1 0) * (1 * x 1)) + 0 * ((1 * x 0) * x 1)) + 1 * (1 * x 2)) + 0 * ((1 * x 0) * x 2)) + 0 * ((1 * x 1) * x 2)) + 0 * (((1 * x 0) * x 1) * x 2)) := by kernel_rfl
  have g : ((x 2 + x 0 * wv 0 0 * wv 0 0) + x 1 * wv 1 0 * wv 1 0) = (((((((((0 : Int) + 0 * 1) + (wv 0 0 * wv 0 0) * (1 * x 0)) + (wv 1 0 * wv 1 0) * (1 * x 1)) + 0 * ((1 * x 0) * x 1)) + 1 * (1 * x 2)) + 0 * ((1 * x 0) * x 2)) + 0 * ((1 * x 1) * x 2)) + 0 * (((1 * x 0) * x 1) * x 2)) := by grind
  exact e.trans (g.trans r.symm)
theorem pat_111 (x : Nat → Int) (wv : Nat → Nat → Int) : detRun 0 0 1 (tabG [1, 1, 1] x wv 3) = sumB (fun b => coef [1, 1, 1] wv b * prodZ x b 3) 8 := by
  have e : detRun 0 0 1 (tabG [1, 1, 1] x wv 3) = (1 : Int) := by kernel_rfl
  have r : sumB (fun b => coef [1, 1, 1] wv b * prodZ x b 3) 8 = (((((((((0 : Int) + 1 * 1) + 0 * (1 * x 0)) + 0 * (1 * x 1)) + 0 * ((1 * x 0) * x 1)) + 0 * (1 * x 2)) + 0 * ((1 * x 0) * x 2)) + 0 * ((1 * x 1) * x 2)) + 0 * (((1 * x 0) * x 1) * x 2)) := by kernel_rfl
  have g : (1 : Int) = (((((((((0 : Int) + 1 * 1) + 0 * (1 * x 0)) + 0 * (1 * x 1)) + 0 * ((1 * x 0) * x 1)) + 0 * (1 * x 2)) + 0 * ((1 * x 0) * x 2)) + 0 * ((1 * x 1) * x 2)) + 0 * (((1 * x 0) * x 1) * x 2)) := by grind
  exact e.trans (g.trans r.symm)
theorem pat_0000 (x : Nat → Int) (wv : Nat → Nat → Int) (h0 : tabG [0, 0, 0, 0] x wv 4 0 0 ≠ 0) (h1 : tabG [0, 0, 0, 0] x wv 4 1 1 ≠ 0) : detRun 4 0 1 (tabG [0, 0, 0, 0] x wv 4) = sumB (fun b => coef [0, 0, 0, 0] wv b * prodZ x b 4) 16 := by
  have e : tabG [0, 0, 0, 0] x wv 4 0 0 * tabG [0, 0, 0, 0] x wv 4 1 1 * tabG [0, 0, 0, 0] x wv 4 2 2 * tabG [0, 0, 0, 0] x wv 4 3 3 = x 0 * x 1 * x 2 * x 3 := by kernel_rfl
  have r : sumB (fun b => coef [0, 0, 0, 0] wv b * prodZ x b 4) 16 = (((((((((((((((((0 : Int) + 0 * 1) + 0 * (1 * x 0)) + 0 * (1 * x 1)) + 0 * ((1 * x 0) * x 1)) + 0 * (1 * x 2)) + 0 * ((1 * x 0) * x 2)) + 0 * ((1 * x 1) * x 2)) + 0 * (((1 * x 0) * x 1) * x 2)) + 0 * (1 * x 3)) + 0 * ((1 * x 0) * x 3)) + 0 * ((1 * x 1) * x 3)) + 0 * (((1 * x 0) * x 1) * x 3)) + 0 * ((1 * x 2) * x 3)) + 0 * (((1 * x 0) * x 2) * x 3)) + 0 * (((1 * x 1) * x 2) * x 3)) + 1 * ((((1 * x 0) * x 1) * x 2) * x 3)) := by kernel_rfl
  have g : x 0 * x 1 * x 2 * x 3 = (((((((((((((((((0 : Int) + 0 * 1) + 0 * (1 * x 0)) + 0 * (1 * x 1)) + 0 * ((1 * x 0) * x 1)) + 0 * (1 * x 2)) + 0 * ((1 * x 0) * x 2)) + 0 * ((1 * x 1) * x 2)) + 0 * (((1 * x 0) * x 1) * x 2)) + 0 * (1 * x 3)) + 0 * ((1 * x 0) * x 3)) + 0 * ((1 * x 1) * x 3)) + 0 * (((1 * x 0) * x 1) * x 3)) + 0 * ((1 * x 2) * x 3)) + 0 * (((1 * x 0) * x 2) * x 3)) + 0 * (((1 * x 1) * x 2) * x 3)) + 1 * ((((1 * x 0) * x 1) * x 2) * x 3)) := by grind
  exact (det4 _ (fun i j hij => tab_diag x wv hij) h0 h1).trans (e.trans (g.trans r.symm))
theorem pat_0001 (x : Nat → Int) (wv : Nat → Nat → Int) (h0 : tabG [0, 0, 0, 1] x wv 4 0 0 ≠ 0) : detRun 3 0 1 (tabG [0, 0, 0, 1] x wv 4) = sumB (fun b => coef [0, 0, 0, 1] wv b * prodZ x b 4) 16 := by
  have e : tabG [0, 0, 0, 1] x wv 4 0 0 * (tabG [0, 0, 0, 1] x wv 4 1 1 * tabG [0, 0, 0, 1] x wv 4 2 2 - tabG [0, 0, 0, 1] x wv 4 1 2 * tabG [0, 0, 0, 1] x wv 4 2 1) - tabG [0, 0, 0, 1] x wv 4 0 1 * (tabG [0, 0, 0, 1] x wv 4 1 0 * tabG [0, 0, 0, 1] x wv 4 2 2 - tabG [0, 0, 0, 1] x wv 4 1 2 * tabG [0, 0, 0, 1] x wv 4 2 0) + tabG [0, 0, 0, 1] x wv 4 0 2 * (tabG [0, 0, 0, 1] x wv 4 1 0 * tabG [0, 0, 0, 1] x wv 4 2 1 - tabG [0, 0, 0, 1] x wv 4 1 1 * tabG [0, 0, 0, 1] x wv 4 2 0) = (x 0 + x 3 * wv 3 0 * wv 3 0) * ((x 1 + x 3 * wv 3 1 * wv 3 1) * (x 2 + x 3 * wv 3 2 * wv 3 2) - (0 + x 3 * wv 3 1 * wv 3 2) * (0 + x 3 * wv 3 2 * wv 3 1)) - (0 + x 3 * wv 3 0 * wv 3 1) * ((0 + x 3 * wv 3 1 * wv 3 0) * (x 2 + x 3 * wv 3 2 * wv 3 2) - (0 + x 3 * wv 3 1 * wv 3 2) * (0 + x 3 * wv 3 2 * wv 3 0)) + (0 + x 3 * wv 3 0 * wv 3 2) * ((0 + x 3 * wv 3 1 * wv 3 0) * (0 + x 3 * wv 3 2 * wv 3 1) - (x 1 + x 3 * wv 3 1 * wv 3 1) * (0 + x 3 * wv 3 2 * wv 3 0)) := by kernel_rfl
  have r : sumB (fun b => coef [0, 0, 0, 1] wv b * prodZ x b 4) 16 = (((((((((((((((((0 : Int) + 0 * 1) + 0 * (1 * x 0)) + 0 * (1 * x 1)) + 0 * ((1 * x 0) * x 1)) + 0 * (1 * x 2)) + 0 * ((1 * x 0) * x 2)) + 0 * ((1 * x 1) * x 2)) + 1 * (((1 * x 0) * x 1) * x 2)) + 0 * (1 * x 3)) + 0 * ((1 * x 0) * x 3)) + 0 * ((1 * x 1) * x 3)) + (wv 3 2 * wv 3 2) * (((1 * x 0) * x 1) * x 3)) + 0 * ((1 * x 2) * x 3)) + (wv 3 1 * wv 3 1) * (((1 * x 0) * x 2) * x 3)) + (wv 3 0 * wv 3 0) * (((1 * x 1) * x 2) * x 3)) + 0 * ((((1 * x 0) * x 1) * x 2) * x 3)) := by kernel_rfl
  have g : (x 0 + x 3 * wv 3 0 * wv 3 0) * ((x 1 + x 3 * wv 3 1 * wv 3 1) * (x 2 + x 3 * wv 3 2 * wv 3 2) - (0 + x 3 * wv 3 1 * wv 3 2) * (0 + x 3 * wv 3 2 * wv 3 1)) - (0 + x 3 * wv 3 0 * wv 3 1) * ((0 + x 3 * wv 3 1 * wv 3 0) * (x 2 + x 3 * wv 3 2 * wv 3 2) - (0 + x 3 * wv 3 1 * wv 3 2) * (0 + x 3 * wv 3 2 * wv 3 0)) + (0 + x 3 * wv 3 0 * wv 3 2) * ((0 + x 3 * wv 3 1 * wv 3 0) * (0 + x 3 * wv 3 2 * wv 3 1) - (x 1 + x 3 * wv 3 1 * wv 3 1) * (0 + x 3 * wv 3 2 * wv 3 0)) = (((((((((((((((((0 : Int) + 0 * 1) + 0 * (1 * x 0)) + 0 * (1 * x 1)) + 0 * ((1 * x 0) * x 1)) + 0 * (1 * x 2)) + 0 * ((1 * x 0) * x 2)) + 0 * ((1 * x 1) * x 2)) + 1 * (((1 * x 0) * x 1) * x 2)) + 0 * (1 * x 3)) + 0 * ((1 * x 0) * x 3)) + 0 * ((1 * x 1) * x 3)) + (wv 3 2 * wv 3 2) * (((1 * x 0) * x 1) * x 3)) + 0 * ((1 * x 2) * x 3)) + (wv 3 1 * wv 3 1) * (((1 * x 0) * x 2) * x 3)) + (wv 3 0 * wv 3 0) * (((1 * x 1) * x 2) * x 3)) + 0 * ((((1 * x 0) * x 1) * x 2) * x 3)) := by grind
  exact (det3 _ h0).trans (e.trans (g.trans r.symm))
theorem pat_0010 (x : Nat → Int) (wv : Nat → Nat → Int) (h0 : tabG [0, 0, 1, 0] x wv 4 0 0 ≠ 0) : detRun 3 0 1 (tabG [0, 0, 1, 0] x wv 4) = sumB (fun b => coef [0, 0, 1, 0] wv b * prodZ x b 4) 16 := by
  have e : tabG [0, 0, 1, 0] x wv 4 0 0 * (tabG [0, 0, 1, 0] x wv 4 1 1 * tabG [0, 0, 1, 0] x wv 4 2 2 - tabG [0, 0, 1, 0] x wv 4 1 2 * tabG [0, 0, 1, 0] x wv 4 2 1) - tabG [0, 0, 1, 0] x wv 4 0 1 * (tabG [0, 0, 1, 0] x wv 4 1 0 * tabG [0, 0, 1, 0] x wv 4 2 2 - tabG [0, 0, 1, 0] x wv 4 1 2 * tabG [0, 0, 1, 0] x wv 4 2 0) + tabG [0, 0, 1, 0] x wv 4 0 2 * (tabG [0, 0, 1, 0] x wv 4 1 0 * tabG [0, 0, 1, 0] x wv 4 2 1 - tabG [0, 0, 1, 0] x wv 4 1 1 * tabG [0, 0, 1, 0] x wv 4 2 0) = (x 0 + x 2 * wv 2 0 * wv 2 0) * ((x 1 + x 2 * wv 2 1 * wv 2 1) * (x 3 + x 2 * wv 2 2 * wv 2 2) - (0 + x 2 * wv 2 1 * wv 2 2) * (0 + x 2 * wv 2 2 * wv 2 1)) - (0 + x 2 * wv 2 0 * wv 2 1) * ((0 + x 2 * wv 2 1 * wv 2 0) * (x 3 + x 2 * wv 2 2 * wv 2 2) - (0 + x 2 * wv 2 1 * wv 2 2) * (0 + x 2 * wv 2 2 * wv 2 0)) + (0 + x 2 * wv 2 0 * wv 2 2) * ((0 + x 2 * wv 2 1 * wv 2 0) * (0 + x 2 * wv 2 2 * wv 2 1) - (x 1 + x 2 * wv 2 1 * wv 2 1) * (0 + x 2 * wv 2 2 * wv 2 0)) := by kernel_rfl
  have r : sumB (fun b => coef [0, 0, 1, 0] wv b * prodZ x b 4) 16 = (((((((((((((((((0 : Int) + 0 * 1) + 0 * (1 * x 0)) + 0 * (1 * x 1)) + 0 * ((1 * x 0) * x 1)) + 0 * (1 * x 2)) + 0 * ((1 * x 0) * x 2)) + 0 * ((1 * x 1) * x 2)) + (wv 2 2 * wv 2 2) * (((1 * x 0) * x 1) * x 2)) + 0 * (1 * x 3)) + 0 * ((1 * x 0) * x 3)) + 0 * ((1 * x 1) * x 3)) + 1 * (((1 * x 0) * x 1) * x 3)) + 0 * ((1 * x 2) * x 3)) + (wv 2 1 * wv 2 1) * (((1 * x 0) * x 2) * x 3)) + (wv 2 0 * wv 2 0) * (((1 * x 1) * x 2) * x 3)) + 0 * ((((1 * x 0) * x 1) * x 2) * x 3)) := by kernel_rfl
  have g : (x 0 + x 2 * wv 2 0 * wv 2 0) * ((x 1 + x 2 * wv 2 1 * wv 2 1) * (x 3 + x 2 * wv 2 2 * wv 2 2) - (0 + x 2 * wv 2 1 * wv 2 2) * (0 + x 2 * wv 2 2 * wv 2 1)) - (0 + x 2 * wv 2 0 * wv 2 1) * ((0 + x 2 * wv 2 1 * wv 2 0) * (x 3 + x 2 * wv 2 2 * wv 2 2) - (0 + x 2 * wv 2 1 * wv 2 2) * (0 + x 2 * wv 2 2 * wv 2 0)) + (0 + x 2 * wv 2 0 * wv 2 2) * ((0 + x 2 * wv 2 1 * wv 2 0) * (0 + x 2 * wv 2 2 * wv 2 1) - (x 1 + x 2 * wv 2 1 * wv 2 1) * (0 + x 2 * wv 2 2 * wv 2 0)) = (((((((((((((((((0 : Int) + 0 * 1) + 0 * (1 * x 0)) + 0 * (1 * x 1)) + 0 * ((1 * x 0) * x 1)) + 0 * (1 * x 2)) + 0 * ((1 * x 0) * x 2)) + 0 * ((1 * x 1) * x 2)) + (wv 2 2 * wv 2 2) * (((1 * x 0) * x 1) * x 2)) + 0 * (1 * x 3)) + 0 * ((1 * x 0) * x 3)) + 0 * ((1 * x 1) * x 3)) + 1 * (((1 * x 0) * x 1) * x 3)) + 0 * ((1 * x 2) * x 3)) + (wv 2 1 * wv 2 1) * (((1 * x 0) * x 2) * x 3)) + (wv 2 0 * wv 2 0) * (((1 * x 1) * x 2) * x 3)) + 0 * ((((1 * x 0) * x 1) * x 2) * x 3)) := by grind
  exact (det3 _ h0).trans (e.trans (g.trans r.symm))
theorem pat_0011 (x : Nat → Int) (wv : Nat → Nat → Int) : detRun 2 0 1 (tabG [0, 0, 1, 1] x wv 4) = sumB (fun b => coef [0, 0, 1, 1] wv b * prodZ x b 4) 16 := by
  have e : tabG [0, 0, 1, 1] x wv 4 1 1 * tabG [0, 0, 1, 1] x wv 4 0 0 - tabG [0, 0, 1, 1] x wv 4 1 0 * tabG [0, 0, 1, 1] x wv 4 0 1 = ((x 1 + x 2 * wv 2 1 * wv 2 1) + x 3 * wv 3 1 * wv 3 1) * ((x 0 + x 2 * wv 2 0 * wv 2 0) + x 3 * wv 3 0 * wv 3 0) - ((0 + x 2 * wv 2 1 * wv 2 0) + x 3 * wv 3 1 * wv 3 0) * ((0 + x 2 * wv 2 0 * wv 2 1) + x 3 * wv 3 0 * wv 3 1) := by kernel_rfl
  have r : sumB (fun b => coef [0, 0, 1, 1] wv b * prodZ x b 4) 16 = (((((((((((((((((0 : Int) + 0 * 1) + 0 * (1 * x 0)) + 0 * (1 * x 1)) + 1 * ((1 * x 0) * x 1)) + 0 * (1 * x 2)) + (wv 2 1 * wv 2 1) * ((1 * x 0) * x 2)) + (wv 2 0 * wv 2 0) * ((1 * x 1) * x 2)) + 0 * (((1 * x 0) * x 1) * x 2)) + 0 * (1 * x 3)) + (wv 3 1 * wv 3 1) * ((1 * x 0) * x 3)) + (wv 3 0 * wv 3 0) * ((1 * x 1) * x 3)) + 0 * (((1 * x 0) * x 1) * x 3)) + ((wv 2 0 * wv 3 1 - wv 2 1 * wv 3 0) * (wv 2 0 * wv 3 1 - wv 2 1 * wv 3 0)) * ((1 * x 2) * x 3)) + 0 * (((1 * x 0) * x 2) * x 3)) + 0 * (((1 * x 1) * x 2) * x 3)) + 0 * ((((1 * x 0) * x 1) * x 2) * x 3)) := by kernel_rfl
  have g : ((x 1 + x 2 * wv 2 1 * wv 2 1) + x 3 * wv 3 1 * wv 3 1) * ((x 0 + x 2 * wv 2 0 * wv 2 0) + x 3 * wv 3 0 * wv 3 0) - ((0 + x 2 * wv 2 1 * wv 2 0) + x 3 * wv 3 1 * wv 3 0) * ((0 + x 2 * wv 2 0 * wv 2 1) + x 3 * wv 3 0 * wv 3 1) = (((((((((((((((((0 : Int) + 0 * 1) + 0 * (1 * x 0)) + 0 * (1 * x 1)) + 1 * ((1 * x 0) * x 1)) + 0 * (1 * x 2)) + (wv 2 1 * wv 2 1) * ((1 * x 0) * x 2)) + (wv 2 0 * wv 2 0) * ((1 * x 1) * x 2)) + 0 * (((1 * x 0) * x 1) * x 2)) + 0 * (1 * x 3)) + (wv 3 1 * wv 3 1) * ((1 * x 0) * x 3)) + (wv 3 0 * wv 3 0) * ((1 * x 1) * x 3)) + 0 * (((1 * x 0) * x 1) * x 3)) + ((wv 2 0 * wv 3 1 - wv 2 1 * wv 3 0) * (wv 2 0 * wv 3 1 - wv 2 1 * wv 3 0)) * ((1 * x 2) * x 3)) + 0 * (((1 * x 0) * x 2) * x 3)) + 0 * (((1 * x 1) * x 2) * x 3)) + 0 * ((((1 * x 0) * x 1) * x 2) * x 3)) := by grind
  exact (det2 _).trans (e.trans (g.trans r.symm))
theorem pat_0100 (x : Nat → Int) (wv : Nat → Nat → Int) (h0 : tabG [0, 1, 0, 0] x wv 4 0 0 ≠ 0) : detRun 3 0 1 (tabG [0, 1, 0, 0] x wv 4) = sumB (fun b => coef [0, 1, 0, 0] wv b * prodZ x b 4) 16 := by
  have e : tabG [0, 1, 0, 0] x wv 4 0 0 * (tabG [0, 1, 0, 0] x wv 4 1 1 * tabG [0, 1, 0, 0] x wv 4 2 2 - tabG [0, 1, 0, 0] x wv 4 1 2 * tabG [0, 1, 0, 0] x wv 4 2 1) - tabG [0, 1, 0, 0] x wv 4 0 1 * (tabG [0, 1, 0, 0] x wv 4 1 0 * tabG [0, 1, 0, 0] x wv 4 2 2 - tabG [0, 1, 0, 0] x wv 4 1 2 * tabG [0, 1, 0, 0] x wv 4 2 0) + tabG [0, 1, 0, 0] x wv 4 0 2 * (tabG [0, 1, 0, 0] x wv 4 1 0 * tabG [0, 1, 0, 0] x wv 4 2 1 - tabG [0, 1, 0, 0] x wv 4 1 1 * tabG [0, 1, 0, 0] x wv 4 2 0) = (x 0 + x 1 * wv 1 0 * wv 1 0) * ((x 2 + x 1 * wv 1 1 * wv 1 1) * (x 3 + x 1 * wv 1 2 * wv 1 2) - (0 + x 1 * wv 1 1 * wv 1 2) * (0 + x 1 * wv 1 2 * wv 1 1)) - (0 + x 1 * wv 1 0 * wv 1 1) * ((0 + x 1 * wv 1 1 * wv 1 0) * (x 3 + x 1 * wv 1 2 * wv 1 2) - (0 + x 1 * wv 1 1 * wv 1 2) * (0 + x 1 * wv 1 2 * wv 1 0)) + (0 + x 1 * wv 1 0 * wv 1 2) * ((0 + x 1 * wv 1 1 * wv 1 0) * (0 + x 1 * wv 1 2 * wv 1 1) - (x 2 + x 1 * wv 1 1 * wv 1 1) * (0 + x 1 * wv 1 2 * wv 1 0)) := by kernel_rfl
  have r : sumB (fun b => coef [0, 1, 0, 0] wv b * prodZ x b 4) 16 = (((((((((((((((((0 : Int) + 0 * 1) + 0 * (1 * x 0)) + 0 * (1 * x 1)) + 0 * ((1 * x 0) * x 1)) + 0 * (1 * x 2)) + 0 * ((1 * x 0) * x 2)) + 0 * ((1 * x 1) * x 2)) + (wv 1 2 * wv 1 2) * (((1 * x 0) * x 1) * x 2)) + 0 * (1 * x 3)) + 0 * ((1 * x 0) * x 3)) + 0 * ((1 * x 1) * x 3)) + (wv 1 1 * wv 1 1) * (((1 * x 0) * x 1) * x 3)) + 0 * ((1 * x 2) * x 3)) + 1 * (((1 * x 0) * x 2) * x 3)) + (wv 1 0 * wv 1 0) * (((1 * x 1) * x 2) * x 3)) + 0 * ((((1 * x 0) * x 1) * x 2) * x 3)) := by kernel_rfl
  have g : (x 0 + x 1 * wv 1 0 * wv 1 0) * ((x 2 + x 1 * wv 1 1 * wv 1 1) * (x 3 + x 1 * wv 1 2 * wv 1 2) - (0 + x 1 * wv 1 1 * wv 1 2) * (0 + x 1 * wv 1 2 * wv 1 1)) - (0 + x 1 * wv 1 0 * wv 1 1) * ((0 + x 1 * wv 1 1 * wv 1 0) * (x 3 + x 1 * wv 1 2 * wv 1 2) - (0 + x 1 * wv 1 1 * wv 1 2) * (0 + x 1 * wv 1 2 * wv 1 0)) + (0 + x 1 * wv 1 0 * wv 1 2) * ((0 + x 1 * wv 1 1 * wv 1 0) * (0 + x 1 * wv 1 2 * wv 1 1) - (x 2 + x 1 * wv 1 1 * wv 1 1) * (0 + x 1 * wv 1 2 * wv 1 0)) = (((((((((((((((((0 : Int) + 0 * 1) + 0 * (1 * x 0)) + 0 * (1 * x 1)) + 0 * ((1 * x 0) * x 1)) + 0 * (1 * x 2)) + 0 * ((1 * x 0) * x 2)) + 0 * ((1 * x 1) * x 2)) + (wv 1 2 * wv 1 2) * (((1 * x 0) * x 1) * x 2)) + 0 * (1 * x 3)) + 0 * ((1 * x 0) * x 3)) + 0 * ((1 * x 1) * x 3)) + (wv 1 1 * wv 1 1) * (((1 * x 0) * x 1) * x 3)) + 0 * ((1 * x 2) * x 3)) + 1 * (((1 * x 0) * x 2) * x 3)) + (wv 1 0 * wv 1 0) * (((1 * x 1) * x 2) * x 3)) + 0 * ((((1 * x 0) * x 1) * x 2) * x 3)) := by grind
  exact (det3 _ h0).trans (e.trans (g.trans r.symm))
theorem pat_0101 (x : Nat → Int) (wv : Nat → Nat → Int) : detRun 2 0 1 (tabG [0, 1, 0, 1] x wv 4) = sumB (fun b => coef [0, 1, 0, 1] wv b * prodZ x b 4) 16 := by
  have e : tabG [0, 1, 0, 1] x wv 4 1 1 * tabG [0, 1, 0, 1] x wv 4 0 0 - tabG [0, 1, 0, 1] x wv 4 1 0 * tabG [0, 1, 0, 1] x wv 4 0 1 = ((x 2 + x 1 * wv 1 1 * wv 1 1) + x 3 * wv 3 1 * wv 3 1) * ((x 0 + x 1 * wv 1 0 * wv 1 0) + x 3 * wv 3 0 * wv 3 0) - ((0 + x 1 * wv 1 1 * wv 1 0) + x 3 * wv 3 1 * wv 3 0) * ((0 + x 1 * wv 1 0 * wv 1 1) + x 3 * wv 3 0 * wv 3 1) := by kernel_rfl
  have r : sumB (fun b => coef [0, 1, 0, 1] wv b * prodZ x b 4) 16 = (((((((((((((((((0 : Int) + 0 * 1) + 0 * (1 * x 0)) + 0 * (1 * x 1)) + (wv 1 1 * wv 1 1) * ((1 * x 0) * x 1)) + 0 * (1 * x 2)) + 1 * ((1 * x 0) * x 2)) + (wv 1 0 * wv 1 0) * ((1 * x 1) * x 2)) + 0 * (((1 * x 0) * x 1) * x 2)) + 0 * (1 * x 3)) + (wv 3 1 * wv 3 1) * ((1 * x 0) * x 3)) + ((wv 1 0 * wv 3 1 - wv 1 1 * wv 3 0) * (wv 1 0 * wv 3 1 - wv 1 1 * wv 3 0)) * ((1 * x 1) * x 3)) + 0 * (((1 * x 0) * x 1) * x 3)) + (wv 3 0 * wv 3 0) * ((1 * x 2) * x 3)) + 0 * (((1 * x 0) * x 2) * x 3)) + 0 * (((1 * x 1) * x 2) * x 3)) + 0 * ((((1 * x 0) * x 1) * x 2) * x 3)) := by kernel_rfl
  have g : ((x 2 + x 1 * wv 1 1 * wv 1 1) + x 3 * wv 3 1 * wv 3 1) * ((x 0 + x 1 * wv 1 0 * wv 1 0) + x 3 * wv 3 0 * wv 3 0) - ((0 + x 1 * wv 1 1 * wv 1 0) + x 3 * wv 3 1 * wv 3 0) * ((0 + x 1 * wv 1 0 * wv 1 1) + x 3 * wv 3 0 * wv 3 1) = (((((((((((((((((0 : Int) + 0 * 1) + 0 * (1 * x 0)) + 0 * (1 * x 1)) + (wv 1 1 * wv 1 1) * ((1 * x 0) * x 1)) + 0 * (1 * x 2)) + 1 * ((1 * x 0) * x 2)) + (wv 1 0 * wv 1 0) * ((1 * x 1) * x 2)) + 0 * (((1 * x 0) * x 1) * x 2)) + 0 * (1 * x 3)) + (wv 3 1 * wv 3 1) * ((1 * x 0) * x 3)) + ((wv 1 0 * wv 3 1 - wv 1 1 * wv 3 0) * (wv 1 0 * wv 3 1 - wv 1 1 * wv 3 0)) * ((1 * x 1) * x 3)) + 0 * (((1 * x 0) * x 1) * x 3)) + (wv 3 0 * wv 3 0) * ((1 * x 2) * x 3)) + 0 * (((1 * x 0) * x 2) * x 3)) + 0 * (((1 * x 1) * x 2) * x 3)) + 0 * ((((1 * x 0) * x 1) * x 2) * x 3)) := by grind
  exact (det2 _).trans (e.trans (g.trans r.symm))
theorem pat_0110 (x : Nat → Int) (wv : Nat → Nat → Int) : detRun 2 0 1 (tabG [0, 1, 1, 0] x wv 4) = sumB (fun b => coef [0, 1, 1, 0] wv b * prodZ x b 4) 16 := by
  have e : tabG [0, 1, 1, 0] x wv 4 1 1 * tabG [0, 1, 1, 0] x wv 4 0 0 - tabG [0, 1, 1, 0] x wv 4 1 0 * tabG [0, 1, 1, 0] x wv 4 0 1 = ((x 3 + x 1 * wv 1 1 * wv 1 1) + x 2 * wv 2 1 * wv 2 1) * ((x 0 + x 1 * wv 1 0 * wv 1 0) + x 2 * wv 2 0 * wv 2 0) - ((0 + x 1 * wv 1 1 * wv 1 0) + x 2 * wv 2 1 * wv 2 0) * ((0 + x 1 * wv 1 0 * wv 1 1) + x 2 * wv 2 0 * wv 2 1) := by kernel_rfl
  have r : sumB (fun b => coef [0, 1, 1, 0] wv b * prodZ x b 4) 16 = (((((((((((((((((0 : Int) + 0 * 1) + 0 * (1 * x 0)) + 0 * (1 * x 1)) + (wv 1 1 * wv 1 1) * ((1 * x 0) * x 1)) + 0 * (1 * x 2)) + (wv 2 1 * wv 2 1) * ((1 * x 0) * x 2)) + ((wv 1 0 * wv 2 1 - wv 1 1 * wv 2 0) * (wv 1 0 * wv 2 1 - wv 1 1 * wv 2 0)) * ((1 * x 1) * x 2)) + 0 * (((1 * x 0) * x 1) * x 2)) + 0 * (1 * x 3)) + 1 * ((1 * x 0) * x 3)) + (wv 1 0 * wv 1 0) * ((1 * x 1) * x 3)) + 0 * (((1 * x 0) * x 1) * x 3)) + (wv 2 0 * wv 2 0) * ((1 * x 2) * x 3)) + 0 * (((1 * x 0) * x 2) * x 3)) + 0 * (((1 * x 1) * x 2) * x 3)) + 0 * ((((1 * x 0) * x 1) * x 2) * x 3)) := by kernel_rfl
  have g : ((x 3 + x 1 * wv 1 1 * wv 1 1) + x 2 * wv 2 1 * wv 2 1) * ((x 0 + x 1 * wv 1 0 * wv 1 0) + x 2 * wv 2 0 * wv 2 0) - ((0 + x 1 * wv 1 1 * wv 1 0) + x 2 * wv 2 1 * wv 2 0) * ((0 + x 1 * wv 1 0 * wv 1 1) + x 2 * wv 2 0 * wv 2 1) = (((((((((((((((((0 : Int) + 0 * 1) + 0 * (1 * x 0)) + 0 * (1 * x 1)) + (wv 1 1 * wv 1 1) * ((1 * x 0) * x 1)) + 0 * (1 * x 2)) + (wv 2 1 * wv 2 1) * ((1 * x 0) * x 2)) + ((wv 1 0 * wv 2 1 - wv 1 1 * wv 2 0) * (wv 1 0 * wv 2 1 - wv 1 1 * wv 2 0)) * ((1 * x 1) * x 2)) + 0 * (((1 * x 0) * x 1) * x 2)) + 0 * (1 * x 3)) + 1 * ((1 * x 0) * x 3)) + (wv 1 0 * wv 1 0) * ((1 * x 1) * x 3)) + 0 * (((1 * x 0) * x 1) * x 3)) + (wv 2 0 * wv 2 0) * ((1 * x 2) * x 3)) + 0 * (((1 * x 0) * x 2) * x 3)) + 0 * (((1 * x 1) * x 2) * x 3)) + 0 * ((((1 * x 0) * x 1) * x 2) * x 3)) := by grind
  exact (det2 _).trans (e.trans (g.trans r.symm))
theorem pat_0111 (x : Nat → Int) (wv : Nat → Nat → Int) : detRun 1 0 1 (tabG [0, 1, 1, 1] x wv 4) = sumB (fun b => coef [0, 1, 1, 1] wv b * prodZ x b 4) 16 := by
  have e : detRun 1 0 1 (tabG [0, 1, 1, 1] x wv 4) = (((x 0 + x 1 * wv 1 0 * wv 1 0) + x 2 * wv 2 0 * wv 2 0) + x 3 * wv 3 0 * wv 3 0) := by kernel_rfl
  have r : sumB (fun b => coef [0, 1, 1, 1] wv b * prodZ x b 4) 16 = (((((((((((((((((0 : Int) + 0 * 1) + 1 * (1 * x 0)) + (wv 1 0 * wv 1 0) * (1 * x 1)) + 0 * ((1 * x 0) * x 1)) + (wv 2 0 * wv 2 0) * (1 * x 2)) + 0 * ((1 * x 0) * x 2)) + 0 * ((1 * x 1) * x 2)) + 0 * (((1 * x 0) * x 1) * x 2)) + (wv 3 0 * wv 3 0) * (1 * x 3)) + 0 * ((1 * x 0) * x 3)) + 0 * ((1 * x 1) * x 3)) + 0 * (((1 * x 0) * x 1) * x 3)) + 0 * ((1 * x 2) * x 3)) + 0 * (((1 * x 0) * x 2) * x 3)) + 0 * (((1 * x 1) * x 2) * x 3)) + 0 * ((((1 * x 0) * x 1) * x 2) * x 3)) := by kernel_rfl
  have g : (((x 0 + x 1 * wv 1 0 * wv 1 0) + x 2 * wv 2 0 * wv 2 0) + x 3 * wv 3 0 * wv 3 0) = (((((((((((((((((0 : Int) + 0 * 1) + 1 * (1 * x 0)) + (wv 1 0 * wv 1 0) * (1 * x 1)) + 0 * ((1 * x 0) * x 1)) + (wv 2 0 * wv 2 0) * (1 * x 2)) + 0 * ((1 * x 0) * x 2)) + 0 * ((1 * x 1) * x 2)) + 0 * (((1 * x 0) * x 1) * x 2)) + (wv 3 0 * wv 3 0) * (1 * x 3)) + 0 * ((1 * x 0) * x 3)) + 0 * ((1 * x 1) * x 3)) + 0 * (((1 * x 0) * x 1) * x 3)) + 0 * ((1 * x 2) * x 3)) + 0 * (((1 * x 0) * x 2) * x 3)) + 0 * (((1 * x 1) * x 2) * x 3)) + 0 * ((((1 * x 0) * x 1) * x 2) * x 3)) := by grind
  exact e.trans (g.trans r.symm)
theorem pat_1000 (x : Nat → Int) (wv : Nat → Nat → Int) (h0 : tabG [1, 0, 0, 0] x wv 4 0 0 ≠ 0) : detRun 3 0 1 (tabG [1, 0, 0, 0] x wv 4) = sumB (fun b => coef [1, 0, 0, 0] wv b * prodZ x b 4) 16 := by
  have e : tabG [1, 0, 0, 0] x wv 4 0 0 * (tabG [1, 0, 0, 0] x wv 4 1 1 * tabG [1, 0, 0, 0] x wv 4 2 2 - tabG [1, 0, 0, 0] x wv 4 1 2 * tabG [1, 0, 0, 0] x wv 4 2 1) - tabG [1, 0, 0, 0] x wv 4 0 1 * (tabG [1, 0, 0, 0] x wv 4 1 0 * tabG [1, 0, 0, 0] x wv 4 2 2 - tabG [1, 0, 0, 0] x wv 4 1 2 * tabG [1, 0, 0, 0] x wv 4 2 0) + tabG [1, 0, 0, 0] x wv 4 0 2 * (tabG [1, 0, 0, 0] x wv 4 1 0 * tabG [1, 0, 0, 0] x wv 4 2 1 - tabG [1, 0, 0, 0] x wv 4 1 1 * tabG [1, 0, 0, 0] x wv 4 2 0) = (x 1 + x 0 * wv 0 0 * wv 0 0) * ((x 2 + x 0 * wv 0 1 * wv 0 1) * (x 3 + x 0 * wv 0 2 * wv 0 2) - (0 + x 0 * wv 0 1 * wv 0 2) * (0 + x 0 * wv 0 2 * wv 0 1)) - (0 + x 0 * wv 0 0 * wv 0 1) * ((0 + x 0 * wv 0 1 * wv 0 0) * (x 3 + x 0 * wv 0 2 * wv 0 2) - (0 + x 0 * wv 0 1 * wv 0 2) * (0 + x 0 * wv 0 2 * wv 0 0)) + (0 + x 0 * wv 0 0 * wv 0 2) * ((0 + x 0 * wv 0 1 * wv 0 0) * (0 + x 0 * wv 0 2 * wv 0 1) - (x 2 + x 0 * wv 0 1 * wv 0 1) * (0 + x 0 * wv 0 2 * wv 0 0)) := by kernel_rfl
  have r : sumB (fun b => coef [1, 0, 0, 0] wv b * prodZ x b 4) 16 = (((((((((((((((((0 : Int) + 0 * 1) + 0 * (1 * x 0)) + 0 * (1 * x 1)) + 0 * ((1 * x 0) * x 1)) + 0 * (1 * x 2)) + 0 * ((1 * x 0) * x 2)) + 0 * ((1 * x 1) * x 2)) + (wv 0 2 * wv 0 2) * (((1 * x 0) * x 1) * x 2)) + 0 * (1 * x 3)) + 0 * ((1 * x 0) * x 3)) + 0 * ((1 * x 1) * x 3)) + (wv 0 1 * wv 0 1) * (((1 * x 0) * x 1) * x 3)) + 0 * ((1 * x 2) * x 3)) + (wv 0 0 * wv 0 0) * (((1 * x 0) * x 2) * x 3)) + 1 * (((1 * x 1) * x 2) * x 3)) + 0 * ((((1 * x 0) * x 1) * x 2) * x 3)) := by kernel_rfl
  have g : (x 1 + x 0 * wv 0 0 * wv 0 0) * ((x 2 + x 0 * wv 0 1 * wv 0 1) * (x 3 + x 0 * wv 0 2 * wv 0 2) - (0 + x 0 * wv 0 1 * wv 0 2) * (0 + x 0 * wv 0 2 * wv 0 1)) - (0 + x 0 * wv 0 0 * wv 0 1) * ((0 + x 0 * wv 0 1 * wv 0 0) * (x 3 + x 0 * wv 0 2 * wv 0 2) - (0 + x 0 * wv 0 1 * wv 0 2) * (0 + x 0 * wv 0 2 * wv 0 0)) + (0 + x 0 * wv 0 0 * wv 0 2) * ((0 + x 0 * wv 0 1 * wv 0 0) * (0 + x 0 * wv 0 2 * wv 0 1) - (x 2 + x 0 * wv 0 1 * wv 0 1) * (0 + x 0 * wv 0 2 * wv 0 0)) = (((((((((((((((((0 : Int) + 0 * 1) + 0 * (1 * x 0)) + 0 * (1 * x 1)) + 0 * ((1 * x 0) * x 1)) + 0 * (1 * x 2)) + 0 * ((1 * x 0) * x 2)) + 0 * ((1 * x 1) * x 2)) + (wv 0 2 * wv 0 2) * (((1 * x 0) * x 1) * x 2)) + 0 * (1 * x 3)) + 0 * ((1 * x 0) * x 3)) + 0 * ((1 * x 1) * x 3)) + (wv 0 1 * wv 0 1) * (((1 * x 0) * x 1) * x 3)) + 0 * ((1 * x 2) * x 3)) + (wv 0 0 * wv 0 0) * (((1 * x 0) * x 2) * x 3)) + 1 * (((1 * x 1) * x 2) * x 3)) + 0 * ((((1 * x 0) * x 1) * x 2) * x 3)) := by grind
  exact (det3 _ h0).trans (e.trans (g.trans r.symm))
theorem pat_1001 (x : Nat → Int) (wv : Nat → Nat → Int) : detRun 2 0 1 (tabG [1, 0, 0, 1] x wv 4) = sumB (fun b => coef [1, 0, 0, 1] wv b * prodZ x b 4) 16 := by
  have e : tabG [1, 0, 0, 1] x wv 4 1 1 * tabG [1, 0, 0, 1] x wv 4 0 0 - tabG [1, 0, 0, 1] x wv 4 1 0 * tabG [1, 0, 0, 1] x wv 4 0 1 = ((x 2 + x 0 * wv 0 1 * wv 0 1) + x 3 * wv 3 1 * wv 3 1) * ((x 1 + x 0 * wv 0 0 * wv 0 0) + x 3 * wv 3 0 * wv 3 0) - ((0 + x 0 * wv 0 1 * wv 0 0) + x 3 * wv 3 1 * wv 3 0) * ((0 + x 0 * wv 0 0 * wv 0 1) + x 3 * wv 3 0 * wv 3 1) := by kernel_rfl
  have r : sumB (fun b => coef [1, 0, 0, 1] wv b * prodZ x b 4) 16 = (((((((((((((((((0 : Int) + 0 * 1) + 0 * (1 * x 0)) + 0 * (1 * x 1)) + (wv 0 1 * wv 0 1) * ((1 * x 0) * x 1)) + 0 * (1 * x 2)) + (wv 0 0 * wv 0 0) * ((1 * x 0) * x 2)) + 1 * ((1 * x 1) * x 2)) + 0 * (((1 * x 0) * x 1) * x 2)) + 0 * (1 * x 3)) + ((wv 0 0 * wv 3 1 - wv 0 1 * wv 3 0) * (wv 0 0 * wv 3 1 - wv 0 1 * wv 3 0)) * ((1 * x 0) * x 3)) + (wv 3 1 * wv 3 1) * ((1 * x 1) * x 3)) + 0 * (((1 * x 0) * x 1) * x 3)) + (wv 3 0 * wv 3 0) * ((1 * x 2) * x 3)) + 0 * (((1 * x 0) * x 2) * x 3)) + 0 * (((1 * x 1) * x 2) * x 3)) + 0 * ((((1 * x 0) * x 1) * x 2) * x 3)) := by kernel_rfl
  have g : ((x 2 + x 0 * wv 0 1 * wv 0 1) + x 3 * wv 3 1 * wv 3 1) * ((x 1 + x 0 * wv 0 0 * wv 0 0) + x 3 * wv 3 0 * wv 3 0) - ((0 + x 0 * wv 0 1 * wv 0 0) + x 3 * wv 3 1 * wv 3 0) * ((0 + x 0 * wv 0 0 * wv 0 1) + x 3 * wv 3 0 * wv 3 1) = (((((((((((((((((0 : Int) + 0 * 1) + 0 * (1 * x 0)) + 0 * (1 * x 1)) + (wv 0 1 * wv 0 1) * ((1 * x 0) * x 1)) + 0 * (1 * x 2)) + (wv 0 0 * wv 0 0) * ((1 * x 0) * x 2)) + 1 * ((1 * x 1) * x 2)) + 0 * (((1 * x 0) * x 1) * x 2)) + 0 * (1 * x 3)) + ((wv 0 0 * wv 3 1 - wv 0 1 * wv 3 0) * (wv 0 0 * wv 3 1 - wv 0 1 * wv 3 0)) * ((1 * x 0) * x 3)) + (wv 3 1 * wv 3 1) * ((1 * x 1) * x 3)) + 0 * (((1 * x 0) * x 1) * x 3)) + (wv 3 0 * wv 3 0) * ((1 * x 2) * x 3)) + 0 * (((1 * x 0) * x 2) * x 3)) + 0 * (((1 * x 1) * x 2) * x 3)) + 0 * ((((1 * x 0) * x 1) * x 2) * x 3)) := by grind
  exact (det2 _).trans (e.trans (g.trans r.symm))
theorem pat_1010 (x : Nat → Int) (wv : Nat → Nat → Int) : detRun 2 0 1 (tabG [1, 0, 1, 0] x wv 4) = sumB (fun b => coef [1, 0, 1, 0] wv b * prodZ x b 4) 16 := by
  have e : tabG [1, 0, 1, 0] x wv 4 1 1 * tabG [1, 0, 1, 0] x wv 4 0 0 - tabG [1, 0, 1, 0] x wv 4 1 0 * tabG [1, 0, 1, 0] x wv 4 0 1 = ((x 3 + x 0 * wv 0 1 * wv 0 1) + x 2 * wv 2 1 * wv 2 1) * ((x 1 + x 0 * wv 0 0 * wv 0 0) + x 2 * wv 2 0 * wv 2 0) - ((0 + x 0 * wv 0 1 * wv 0 0) + x 2 * wv 2 1 * wv 2 0) * ((0 + x 0 * wv 0 0 * wv 0 1) + x 2 * wv 2 0 * wv 2 1) := by kernel_rfl
  have r : sumB (fun b => coef [1, 0, 1, 0] wv b * prodZ x b 4) 16 = (((((((((((((((((0 : Int) + 0 * 1) + 0 * (1 * x 0)) + 0 * (1 * x 1)) + (wv 0 1 * wv 0 1) * ((1 * x 0) * x 1)) + 0 * (1 * x 2)) + ((wv 0 0 * wv 2 1 - wv 0 1 * wv 2 0) * (wv 0 0 * wv 2 1 - wv 0 1 * wv 2 0)) * ((1 * x 0) * x 2)) + (wv 2 1 * wv 2 1) * ((1 * x 1) * x 2)) + 0 * (((1 * x 0) * x 1) * x 2)) + 0 * (1 * x 3)) + (wv 0 0 * wv 0 0) * ((1 * x 0) * x 3)) + 1 * ((1 * x 1) * x 3)) + 0 * (((1 * x 0) * x 1) * x 3)) + (wv 2 0 * wv 2 0) * ((1 * x 2) * x 3)) + 0 * (((1 * x 0) * x 2) * x 3)) + 0 * (((1 * x 1) * x 2) * x 3)) + 0 * ((((1 * x 0) * x 1) * x 2) * x 3)) := by kernel_rfl
  have g : ((x 3 + x 0 * wv 0 1 * wv 0 1) + x 2 * wv 2 1 * wv 2 1) * ((x 1 + x 0 * wv 0 0 * wv 0 0) + x 2 * wv 2 0 * wv 2 0) - ((0 + x 0 * wv 0 1 * wv 0 0) + x 2 * wv 2 1 * wv 2 0) * ((0 + x 0 * wv 0 0 * wv 0 1) + x 2 * wv 2 0 * wv 2 1) = (((((((((((((((((0 : Int) + 0 * 1) + 0 * (1 * x 0)) + 0 * (1 * x 1)) + (wv 0 1 * wv 0 1) * ((1 * x 0) * x 1)) + 0 * (1 * x 2)) + ((wv 0 0 * wv 2 1 - wv 0 1 * wv 2 0) * (wv 0 0 * wv 2 1 - wv 0 1 * wv 2 0)) * ((1 * x 0) * x 2)) + (wv 2 1 * wv 2 1) * ((1 * x 1) * x 2)) + 0 * (((1 * x 0) * x 1) * x 2)) + 0 * (1 * x 3)) + (wv 0 0 * wv 0 0) * ((1 * x 0) * x 3)) + 1 * ((1 * x 1) * x 3)) + 0 * (((1 * x 0) * x 1) * x 3)) + (wv 2 0 * wv 2 0) * ((1 * x 2) * x 3)) + 0 * (((1 * x 0) * x 2) * x 3)) + 0 * (((1 * x 1) * x 2) * x 3)) + 0 * ((((1 * x 0) * x 1) * x 2) * x 3)) := by grind
  exact (det2 _).trans (e.trans (g.trans r.symm))
theorem pat_1011 (x : Nat → Int) (wv : Nat → Nat → Int) : detRun 1 0 1 (tabG [1, 0, 1, 1] x wv 4) = sumB (fun b => coef [1, 0, 1, 1] wv b * prodZ x b 4) 16 := by
  have e : detRun 1 0 1 (tabG [1, 0, 1, 1] x wv 4) = (((x 1 + x 0 * wv 0 0 * wv 0 0) + x 2 * wv 2 0 * wv 2 0) + x 3 * wv 3 0 * wv 3 0) := by kernel_rfl
  have r : sumB (fun b => coef [1, 0, 1, 1] wv b * prodZ x b 4) 16 = (((((((((((((((((0 : Int) + 0 * 1) + (wv 0 0 * wv 0 0) * (1 * x 0)) + 1 * (1 * x 1)) + 0 * ((1 * x 0) * x 1)) + (wv 2 0 * wv 2 0) * (1 * x 2)) + 0 * ((1 * x 0) * x 2)) + 0 * ((1 * x 1) * x 2)) + 0 * (((1 * x 0) * x 1) * x 2)) + (wv 3 0 * wv 3 0) * (1 * x 3)) + 0 * ((1 * x 0) * x 3)) + 0 * ((1 * x 1) * x 3)) + 0 * (((1 * x 0) * x 1) * x 3)) + 0 * ((1 * x 2) * x 3)) + 0 * (((1 * x 0) * x 2) * x 3)) + 0 * (((1 * x 1) * x 2) * x 3)) + 0 * ((((1 * x 0) * x 1) * x 2) * x 3)) := by kernel_rfl
  have g : (((x 1 + x 0 * wv 0 0 * wv 0 0) + x 2 * wv 2 0 * wv 2 0) + x 3 * wv 3 0 * wv 3 0) = (((((((((((((((((0 : Int) + 0 * 1) + (wv 0 0 * wv 0 0) * (1 * x 0)) + 1 * (1 * x 1)) + 0 * ((1 * x 0) * x 1)) + (wv 2 0 * wv 2 0) * (1 * x 2)) + 0 * ((1 * x 0) * x 2)) + 0 * ((1 * x 1) * x 2)) + 0 * (((1 * x 0) * x 1) * x 2)) + (wv 3 0 * wv 3 0) * (1 * x 3)) + 0 * ((1 * x 0) * x 3)) + 0 * ((1 * x 1) * x 3)) + 0 * (((1 * x 0) * x 1) * x 3)) + 0 * ((1 * x 2) * x 3)) + 0 * (((1 * x 0) * x 2) * x 3)) + 0 * (((1 * x 1) * x 2) * x 3)) + 0 * ((((1 * x 0) * x 1) * x 2) * x 3)) := by grind
  exact e.trans (g.trans r.symm)
theorem pat_1100 (x : Nat → Int) (wv : Nat → Nat → Int) : detRun 2 0 1 (tabG [1, 1, 0, 0] x wv 4) = sumB (fun b => coef [1, 1, 0, 0] wv b * prodZ x b 4) 16 := by
  have e : tabG [1, 1, 0, 0] x wv 4 1 1 * tabG [1, 1, 0, 0] x wv 4 0 0 - tabG [1, 1, 0, 0] x wv 4 1 0 * tabG [1, 1, 0, 0] x wv 4 0 1 = ((x 3 + x 0 * wv 0 1 * wv 0 1) + x 1 * wv 1 1 * wv 1 1) * ((x 2 + x 0 * wv 0 0 * wv 0 0) + x 1 * wv 1 0 * wv 1 0) - ((0 + x 0 * wv 0 1 * wv 0 0) + x 1 * wv 1 1 * wv 1 0) * ((0 + x 0 * wv 0 0 * wv 0 1) + x 1 * wv 1 0 * wv 1 1) := by kernel_rfl
  have r : sumB (fun b => coef [1, 1, 0, 0] wv b * prodZ x b 4) 16 = (((((((((((((((((0 : Int) + 0 * 1) + 0 * (1 * x 0)) + 0 * (1 * x 1)) + ((wv 0 0 * wv 1 1 - wv 0 1 * wv 1 0) * (wv 0 0 * wv 1 1 - wv 0 1 * wv 1 0)) * ((1 * x 0) * x 1)) + 0 * (1 * x 2)) + (wv 0 1 * wv 0 1) * ((1 * x 0) * x 2)) + (wv 1 1 * wv 1 1) * ((1 * x 1) * x 2)) + 0 * (((1 * x 0) * x 1) * x 2)) + 0 * (1 * x 3)) + (wv 0 0 * wv 0 0) * ((1 * x 0) * x 3)) + (wv 1 0 * wv 1 0) * ((1 * x 1) * x 3)) + 0 * (((1 * x 0) * x 1) * x 3)) + 1 * ((1 * x 2) * x 3)) + 0 * (((1 * x 0) * x 2) * x 3)) + 0 * (((1 * x 1) * x 2) * x 3)) + 0 * ((((1 * x 0) * x 1) * x 2) * x 3)) := by kernel_rfl
  have g : ((x 3 + x 0 * wv 0 1 * wv 0 1) + x 1 * wv 1 1 * wv 1 1) * ((x 2 + x 0 * wv 0 0 * wv 0 0) + x 1 * wv 1 0 * wv 1 0) - ((0 + x 0 * wv 0 1 * wv 0 0) + x 1 * wv 1 1 * wv 1 0) * ((0 + x 0 * wv 0 0 * wv 0 1) + x 1 * wv 1 0 * wv 1 1) = (((((((((((((((((0 : Int) + 0 * 1) + 0 * (1 * x 0)) + 0 * (1 * x 1)) + ((wv 0 0 * wv 1 1 - wv 0 1 * wv 1 0) * (wv 0 0 * wv 1 1 - wv 0 1 * wv 1 0)) * ((1 * x 0) * x 1)) + 0 * (1 * x 2)) + (wv 0 1 * wv 0 1) * ((1 * x 0) * x 2)) + (wv 1 1 * wv 1 1) * ((1 * x 1) * x 2)) + 0 * (((1 * x 0) * x 1) * x 2)) + 0 * (1 * x 3)) + (wv 0 0 * wv 0 0) * ((1 * x 0) * x 3)) + (wv 1 0 * wv 1 0) * ((1 * x 1) * x 3)) + 0 * (((1 * x 0) * x 1) * x 3)) + 1 * ((1 * x 2) * x 3)) + 0 * (((1 * x 0) * x 2) * x 3)) + 0 * (((1 * x 1) * x 2) * x 3)) + 0 * ((((1 * x 0) * x 1) * x 2) * x 3)) := by grind
  exact (det2 _).trans (e.trans (g.trans r.symm))
theorem pat_1101 (x : Nat → Int) (wv : Nat → Nat → Int) : detRun 1 0 1 (tabG [1, 1, 0, 1] x wv 4) = sumB (fun b => coef [1, 1, 0, 1] wv b * prodZ x b 4) 16 := by
  have e : detRun 1 0 1 (tabG [1, 1, 0, 1] x wv 4) = (((x 2 + x 0 * wv 0 0 * wv 0 0) + x 1 * wv 1 0 * wv 1 0) + x 3 * wv 3 0 * wv 3 0) := by kernel_rfl
  have r : sumB (fun b => coef [1, 1, 0, 1] wv b * prodZ x b 4) 16 = (((((((((((((((((0 : Int) + 0 * 1) + (wv 0 0 * wv 0 0) * (1 * x 0)) + (wv 1 0 * wv 1 0) * (1 * x 1)) + 0 * ((1 * x 0) * x 1)) + 1 * (1 * x 2)) + 0 * ((1 * x 0) * x 2)) + 0 * ((1 * x 1) * x 2)) + 0 * (((1 * x 0) * x 1) * x 2)) + (wv 3 0 * wv 3 0) * (1 * x 3)) + 0 * ((1 * x 0) * x 3)) + 0 * ((1 * x 1) * x 3)) + 0 * (((1 * x 0) * x 1) * x 3)) + 0 * ((1 * x 2) * x 3)) + 0 * (((1 * x 0) * x 2) * x 3)) + 0 * (((1 * x 1) * x 2) * x 3)) + 0 * ((((1 * x 0) * x 1) * x 2) * x 3)) := by kernel_rfl
  have g : (((x 2 + x 0 * wv 0 0 * wv 0 0) + x 1 * wv 1 0 * wv 1 0) + x 3 * wv 3 0 * wv 3 0) = (((((((((((((((((0 : Int) + 0 * 1) + (wv 0 0 * wv 0 0) * (1 * x 0)) + (wv 1 0 * wv 1 0) * (1 * x 1)) + 0 * ((1 * x 0) * x 1)) + 1 * (1 * x 2)) + 0 * ((1 * x 0) * x 2)) + 0 * ((1 * x 1) * x 2)) + 0 * (((1 * x 0) * x 1) * x 2)) + (wv 3 0 * wv 3 0) * (1 * x 3)) + 0 * ((1 * x 0) * x 3)) + 0 * ((1 * x 1) * x 3)) + 0 * (((1 * x 0) * x 1) * x 3)) + 0 * ((1 * x 2) * x 3)) + 0 * (((1 * x 0) * x 2) * x 3)) + 0 * (((1 * x 1) * x 2) * x 3)) + 0 * ((((1 * x 0) * x 1) * x 2) * x 3)) := by grind
  exact e.trans (g.trans r.symm)
theorem pat_1110 (x : Nat → Int) (wv : Nat → Nat → Int) : detRun 1 0 1 (tabG [1, 1, 1, 0] x wv 4) = sumB (fun b => coef [1, 1, 1, 0] wv b * prodZ x b 4) 16 := by
  have e : detRun 1 0 1 (tabG [1, 1, 1, 0] x wv 4) = (((x 3 + x 0 * wv 0 0 * wv 0 0) + x 1 * wv 1 0 * wv 1 0) + x 2 * wv 2 0 * wv 2 0) := by kernel_rfl
  have r : sumB (fun b => coef [1, 1, 1, 0] wv b * prodZ x b 4) 16 = (((((((((((((((((0 : Int) + 0 * 1) + (wv 0 0 * wv 0 0) * (1 * x 0)) + (wv 1 0 * wv 1 0) * (1 * x 1)) + 0 * ((1 * x 0) * x 1)) + (wv 2 0 * wv 2 0) * (1 * x 2)) + 0 * ((1 * x 0) * x 2)) + 0 * ((1 * x 1) * x 2)) + 0 * (((1 * x 0) * x 1) * x 2)) + 1 * (1 * x 3)) + 0 * ((1 * x 0) * x 3)) + 0 * ((1 * x 1) * x 3)) + 0 * (((1 * x 0) * x 1) * x 3)) + 0 * ((1 * x 2) * x 3)) + 0 * (((1 * x 0) * x 2) * x 3)) + 0 * (((1 * x 1) * x 2) * x 3)) + 0 * ((((1 * x 0) * x 1) * x 2) * x 3)) := by kernel_rfl
  have g : (((x 3 + x 0 * wv 0 0 * wv 0 0) + x 1 * wv 1 0 * wv 1 0) + x 2 * wv 2 0 * wv 2 0) = (((((((((((((((((0 : Int) + 0 * 1) + (wv 0 0 * wv 0 0) * (1 * x 0)) + (wv 1 0 * wv 1 0) * (1 * x 1)) + 0 * ((1 * x 0) * x 1)) + (wv 2 0 * wv 2 0) * (1 * x 2)) + 0 * ((1 * x 0) * x 2)) + 0 * ((1 * x 1) * x 2)) + 0 * (((1 * x 0) * x 1) * x 2)) + 1 * (1 * x 3)) + 0 * ((1 * x 0) * x 3)) + 0 * ((1 * x 1) * x 3)) + 0 * (((1 * x 0) * x 1) * x 3)) + 0 * ((1 * x 2) * x 3)) + 0 * (((1 * x 0) * x 2) * x 3)) + 0 * (((1 * x 1) * x 2) * x 3)) + 0 * ((((1 * x 0) * x 1) * x 2) * x 3)) := by grind
  exact e.trans (g.trans r.symm)
theorem pat_1111 (x : Nat → Int) (wv : Nat → Nat → Int) : detRun 0 0 1 (tabG [1, 1, 1, 1] x wv 4) = sumB (fun b => coef [1, 1, 1, 1] wv b * prodZ x b 4) 16 := by
  have e : detRun 0 0 1 (tabG [1, 1, 1, 1] x wv 4) = (1 : Int) := by kernel_rfl
  have r : sumB (fun b => coef [1, 1, 1, 1] wv b * prodZ x b 4) 16 = (((((((((((((((((0 : Int) + 1 * 1) + 0 * (1 * x 0)) + 0 * (1 * x 1)) + 0 * ((1 * x 0) * x 1)) + 0 * (1 * x 2)) + 0 * ((1 * x 0) * x 2)) + 0 * ((1 * x 1) * x 2)) + 0 * (((1 * x 0) * x 1) * x 2)) + 0 * (1 * x 3)) + 0 * ((1 * x 0) * x 3)) + 0 * ((1 * x 1) * x 3)) + 0 * (((1 * x 0) * x 1) * x 3)) + 0 * ((1 * x 2) * x 3)) + 0 * (((1 * x 0) * x 2) * x 3)) + 0 * (((1 * x 1) * x 2) * x 3)) + 0 * ((((1 * x 0) * x 1) * x 2) * x 3)) := by kernel_rfl
  have g : (1 : Int) = (((((((((((((((((0 : Int) + 1 * 1) + 0 * (1 * x 0)) + 0 * (1 * x 1)) + 0 * ((1 * x 0) * x 1)) + 0 * (1 * x 2)) + 0 * ((1 * x 0) * x 2)) + 0 * ((1 * x 1) * x 2)) + 0 * (((1 * x 0) * x 1) * x 2)) + 0 * (1 * x 3)) + 0 * ((1 * x 0) * x 3)) + 0 * ((1 * x 1) * x 3)) + 0 * (((1 * x 0) * x 1) * x 3)) + 0 * ((1 * x 2) * x 3)) + 0 * (((1 * x 0) * x 2) * x 3)) + 0 * (((1 * x 1) * x 2) * x 3)) + 0 * ((((1 * x 0) * x 1) * x 2) * x 3)) := by grind
  exact e.trans (g.trans r.symm)
theorem two (a : Nat) (h : a ≤ 1) : a = 0 ∨ a = 1 := by (first | lia | omega)
theorem det_all (now : List Nat) (n : Nat) (hn : n = 3 ∨ n = 4) (hl : now.length = n) (h1 : ∀ s ∈ now, s ≤ 1) (x : Nat → Int) (wv : Nat → Nat → Int) (hd : ∀ k, k < 2 → tabG now x wv n k k ≠ 0) :
    detRun (bareN now).length 0 1 (tabG now x wv n) = sumB (fun b => coef now wv b * prodZ x b n) (2 ^ n) := by
  have g0 := hd 0 (by (first | lia | omega))
  have g1 := hd 1 (by (first | lia | omega))
  rcases hn with rfl | rfl
  · match now, hl with
    | [a, b, c], _ =>
      rcases two a (h1 a (by simp)) with rfl | rfl <;> rcases two b (h1 b (by simp)) with rfl | rfl <;> rcases two c (h1 c (by simp)) with rfl | rfl
      · exact pat_000 x wv g0
      · exact pat_001 x wv
      · exact pat_010 x wv
      · exact pat_011 x wv
      · exact pat_100 x wv
      · exact pat_101 x wv
      · exact pat_110 x wv
      · exact pat_111 x wv
  · match now, hl with
    | [a, b, c, d], _ =>
      rcases two a (h1 a (by simp)) with rfl | rfl <;> rcases two b (h1 b (by simp)) with rfl | rfl <;> rcases two c (h1 c (by simp)) with rfl | rfl <;> rcases two d (h1 d (by simp)) with rfl | rfl
      · exact pat_0000 x wv g0 g1
      · exact pat_0001 x wv g0
      · exact pat_0010 x wv g0
      · exact pat_0011 x wv
      · exact pat_0100 x wv g0
      · exact pat_0101 x wv
      · exact pat_0110 x wv
      · exact pat_0111 x wv
      · exact pat_1000 x wv g0
      · exact pat_1001 x wv
      · exact pat_1010 x wv
      · exact pat_1011 x wv
      · exact pat_1100 x wv
      · exact pat_1101 x wv
      · exact pat_1110 x wv
      · exact pat_1111 x wv

/-! what stands in the table is small, its diagonal is not nought -/
theorem mul_abs {a b : Int} {A B : Nat} (ha : a.natAbs ≤ A) (hb : b.natAbs ≤ B) : (a * b).natAbs ≤ A * B := by
  rw [Int.natAbs_mul]; exact Nat.mul_le_mul ha hb
theorem tab_small (now : List Nat) (x : Nat → Int) (wv : Nat → Nat → Int) (hx : ∀ i, (x i).natAbs ≤ 60) (hw : ∀ h k, (wv h k).natAbs ≤ 1) : ∀ n i j, (tabG now x wv n i j).natAbs ≤ 60 + 60 * n
  | 0, i, j => by
    unfold tabG
    split
    · have := hx ((bareN now).getD i 0); (first | lia | omega)
    · simp
  | n + 1, i, j => by
    have ih := tab_small now x wv hx hw n i j
    have h1 := mul_abs (mul_abs (hx n) (hw n i)) (hw n j)
    show (if now.getD n 0 = 1 then tabG now x wv n i j + x n * wv n i * wv n j else tabG now x wv n i j).natAbs ≤ _
    split
    · have := Int.natAbs_add_le (tabG now x wv n i j) (x n * wv n i * wv n j); (first | lia | omega)
    · (first | lia | omega)
theorem tab_pos (now : List Nat) (x : Nat → Int) (wv : Nat → Nat → Int) (hx : ∀ k, 1 ≤ x ((bareN now).getD k 0)) (hx0 : ∀ i, 0 ≤ x i) : ∀ n k, 1 ≤ tabG now x wv n k k
  | 0, k => by
    unfold tabG
    rw [if_pos rfl]
    exact hx k
  | n + 1, k => by
    have ih := tab_pos now x wv hx hx0 n k
    show 1 ≤ (if now.getD n 0 = 1 then tabG now x wv n k k + x n * wv n k * wv n k else tabG now x wv n k k)
    split
    · have h1 : 0 ≤ x n * (wv n k * wv n k) := Int.mul_nonneg (hx0 n) (by
        rcases Int.le_total 0 (wv n k) with q | q
        · exact Int.mul_nonneg q q
        · exact Int.mul_nonneg_of_nonpos_of_nonpos q q)
      rw [← Int.mul_assoc] at h1
      (first | lia | omega)
    · exact ih
theorem bareN_le (now : List Nat) : (bareN now).length ≤ now.length := by
  have := List.length_filter_le (fun o => decide (now[o]? = some 0)) (List.range now.length)
  rw [List.length_range] at this
  exact this
theorem bare4 (now : List Nat) (hl : now.length = 4) (h1 : ∀ s ∈ now, s ≤ 1) (hb : (bareN now).length = 4) : now = [0, 0, 0, 0] := by
  match now, hl with
  | [a, b, c, d], _ =>
    rcases two a (h1 a (by simp)) with rfl | rfl <;> rcases two b (h1 b (by simp)) with rfl | rfl <;> rcases two c (h1 c (by simp)) with rfl | rfl <;> rcases two d (h1 d (by simp)) with rfl | rfl <;> first | rfl | (exfalso; revert hb; decide)
theorem fdiv1 (a : Int) : a.fdiv 1 = a := by simp
theorem detOk_small {f : Nat → Nat → Int} (hf : ∀ i j, (f i j).natAbs ≤ 300) (h0 : f 0 0 ≠ 0) : ∀ n, n ≤ 3 → detOk n n 0 1 f
  | 0, _ => trivial
  | 1, _ => ⟨fun h => by (first | lia | omega), trivial⟩
  | 2, _ => ⟨fun _ => ⟨by decide, by decide, by have := hf 0 0; (first | lia | omega), fun i _ _ => by have := hf i 0; (first | lia | omega)⟩, ⟨fun h => by (first | lia | omega), trivial⟩⟩
  | 3, _ => by
    refine ⟨fun _ => ⟨by decide, by decide, by have := hf 0 0; (first | lia | omega), fun i _ _ => by have := hf i 0; (first | lia | omega)⟩, ⟨fun _ => ⟨h0, by have := hf 0 0; (first | lia | omega), ?_, fun i h1 _ => ?_⟩, ⟨fun h => by (first | lia | omega), trivial⟩⟩⟩
    · have e : elimF 0 1 f 1 1 = f 1 1 * f 0 0 - f 1 0 * f 0 1 := by unfold elimF; rw [if_pos (by (first | lia | omega)), fdiv1]
      show (elimF 0 1 f 1 1).natAbs < 2 ^ 60
      rw [e]
      have a := mul_abs (hf 1 1) (hf 0 0)
      have b := mul_abs (hf 1 0) (hf 0 1)
      have := Int.natAbs_sub_le (f 1 1 * f 0 0) (f 1 0 * f 0 1)
      (first | lia | omega)
    · have e : elimF 0 1 f i 1 = f i 1 * f 0 0 - f i 0 * f 0 1 := by unfold elimF; rw [if_pos (by (first | lia | omega)), fdiv1]
      show (elimF 0 1 f i 1).natAbs < 2 ^ 60
      rw [e]
      have a := mul_abs (hf i 1) (hf 0 0)
      have b := mul_abs (hf i 0) (hf 0 1)
      have := Int.natAbs_sub_le (f i 1 * f 0 0) (f i 0 * f 0 1)
      (first | lia | omega)
theorem detOk_diag {f : Nat → Nat → Int} (hf : ∀ i j, (f i j).natAbs ≤ 300) (hd : ∀ i j, i ≠ j → i < 4 → j < 4 → f i j = 0) (h0 : f 0 0 ≠ 0) (h1 : f 1 1 ≠ 0) : detOk 4 4 0 1 f := by
  have e1 : ∀ i j, 0 < i → elimF 0 1 f i j = f i j * f 0 0 - f i 0 * f 0 j := fun i j hi => by unfold elimF; rw [if_pos hi, fdiv1]
  have e11 : elimF 0 1 f 1 1 = f 1 1 * f 0 0 := by rw [e1 1 1 (by (first | lia | omega)), hd 1 0 (by (first | lia | omega)) (by (first | lia | omega)) (by (first | lia | omega))]; simp
  have e2 : ∀ i j, 1 < i → i < 4 → j < 4 → elimF 1 (f 0 0) (elimF 0 1 f) i j = f i j * (f 1 1 * f 0 0) := fun i j hi hi4 hj4 => by
    have : elimF 1 (f 0 0) (elimF 0 1 f) i j = (elimF 0 1 f i j * elimF 0 1 f 1 1 - elimF 0 1 f i 1 * elimF 0 1 f 1 j).fdiv (f 0 0) := by
      show (if 1 < i then _ else _) = _
      rw [if_pos hi]
    rw [this, e11, e1 i j (by (first | lia | omega)), e1 i 1 (by (first | lia | omega)), hd i 0 (by (first | lia | omega)) hi4 (by (first | lia | omega)), hd i 1 (by (first | lia | omega)) hi4 (by (first | lia | omega))]
    simp only [Int.zero_mul, Int.sub_zero, Int.sub_self]
    rw [show f i j * f 0 0 * (f 1 1 * f 0 0) = f 0 0 * (f i j * (f 1 1 * f 0 0)) by grind, Int.mul_fdiv_cancel_left _ h0]
  have m := mul_abs (hf 1 1) (hf 0 0)
  refine ⟨fun _ => ⟨by decide, by decide, by have := hf 0 0; (first | lia | omega), fun i _ _ => by have := hf i 0; (first | lia | omega)⟩, ⟨fun _ => ⟨h0, by have := hf 0 0; (first | lia | omega), by rw [e11]; (first | lia | omega), fun i hi hi4 => ?_⟩, ⟨fun _ => ⟨?_, ?_, ?_, fun i hi hi4 => ?_⟩, ⟨fun h => by (first | lia | omega), trivial⟩⟩⟩⟩
  · rw [e1 i 1 (by (first | lia | omega))]
    have a := mul_abs (hf i 1) (hf 0 0)
    have b := mul_abs (hf i 0) (hf 0 1)
    have := Int.natAbs_sub_le (f i 1 * f 0 0) (f i 0 * f 0 1)
    (first | lia | omega)
  · rw [e11]; exact Int.mul_ne_zero h1 h0
  · rw [e11]; (first | lia | omega)
  · rw [e2 2 2 (by (first | lia | omega)) (by (first | lia | omega)) (by (first | lia | omega))]
    have := mul_abs (hf 2 2) m
    (first | lia | omega)
  · rw [e2 i 2 (by (first | lia | omega)) hi4 (by (first | lia | omega))]
    have := mul_abs (hf i 2) m
    (first | lia | omega)
end Mine

namespace Mine
open PySem PySem.W PyProof.Rows

noncomputable def tx (met now : List Nat) : List Nat := textOf (partsOf met []) now
noncomputable def mid0 (met now : List Nat) (one other : Nat) : List Nat := textOf (((partsOf (met.filter fun p => decide (p ∈ [one, other])) []).drop 1).take 2) now
noncomputable def way0 (met now : List Nat) (one other : Nat) : Int :=
  if (balF (outs false (mid0 met now one other)) 0 || !balF (mid0 met now one other) 0) = true then 0 else if balF (outs false (40 :: mid0 met now one other)) 0 = true then 1 else -1
noncomputable def turn0 (size : Nat) (row sides : List Nat) (bits : Nat) : Bool :=
  !decide ((bitsOf size bits).sum = sides.count 0) || (decide (roundGo row (swOf size (bitsOf size bits) sides) 20 0 [] = some (metOf size row (bitsOf size bits) sides)) && decide ((metOf size row (bitsOf size bits) sides).length ≤ 16) &&
    (metOf size row (bitsOf size bits) sides).all (fun p => decide (p < size)) && (balF (tx (metOf size row (bitsOf size bits) sides) (nowOf (bitsOf size bits))) 0 == decide ((metOf size row (bitsOf size bits) sides).length = 2 * size)) &&
    (balF (outs false (tx (metOf size row (bitsOf size bits) sides) (nowOf (bitsOf size bits)))) 0 == decide (loneOf (metOf size row (bitsOf size bits) sides) (bitsOf size bits) = [])))
noncomputable def fin1 (size : Nat) (row sides met now : List Nat) : Bool :=
  decide ((readGo (skelOf met now ++ [0]) ⟨[], [], [], [], []⟩).map (fun s => (s.row, s.sides)) = some (met.map (fun p => idx p (orderOf met)), (orderOf met).map (fun p => now.getD p 0))) &&
  (List.range (2 ^ size)).all (fun b' => decide ((if accB size row sides b' = true then (1 : Int) else 0) = coef now (fun h k => way0 met now ((bareN now).getD k 0) h) b'))
noncomputable def fin0 (size : Nat) (row sides : List Nat) (b : Nat) : Bool := fin1 size row sides (metOf size row (bitsOf size b) sides) (nowOf (bitsOf size b))
noncomputable def st0 (size : Nat) (s : St) : Bool :=
  decide (s.row.length ≤ 16) && decide (s.sides.length = size) && s.sides.all (fun x => decide (x ≤ 1)) && (List.range (2 ^ size)).all (turn0 size s.row s.sides) && !(takG size s.row s.sides (2 ^ size)).isEmpty && (takG size s.row s.sides (2 ^ size)).all (fin0 size s.row s.sides)
noncomputable def okLv (size : Nat) (s : St) : Bool := !(s.moves size).isEmpty && decide (s.row.length ≤ 20) && decide (s.sides.length ≤ 10) && decide (s.w0.length ≤ 10) && decide (s.w1.length ≤ 10)
noncomputable def desc (size : Nat) : Nat → St → Bool
  | 0, s => st0 size s
  | k + 1, s => okLv size s && (s.moves size).all fun mv => desc size k (s.step mv)

theorem desc_all (size : Nat) : ∀ j i, (∀ s ∈ states size i, desc size j s = true) → (∀ s ∈ states size (i + j), st0 size s = true) ∧ ∀ i', i ≤ i' → i' < i + j → ∀ s ∈ states size i', okLv size s = true
  | 0, i, h => ⟨h, fun i' h1 h2 => by (first | lia | omega)⟩
  | j + 1, i, h => by
    have h2 : ∀ t ∈ states size (i + 1), desc size j t = true := by
      intro t ht
      obtain ⟨s, hs, hm⟩ := List.mem_flatMap.mp ht
      obtain ⟨mv, hmv, rfl⟩ := List.mem_map.mp hm
      have := h s hs
      unfold desc at this
      rw [Bool.and_eq_true] at this
      exact List.all_eq_true.mp this.2 mv hmv
    obtain ⟨a, b⟩ := desc_all size j (i + 1) h2
    refine ⟨by rw [show i + (j + 1) = i + 1 + j by (first | lia | omega)]; exact a, fun i' h3 h4 s hs => ?_⟩
    by_cases q : i' = i
    · subst q
      have := h s hs
      unfold desc at this
      rw [Bool.and_eq_true] at this
      exact this.1
    · exact b i' (by (first | lia | omega)) (by (first | lia | omega)) s hs

/-! the check, piece by piece -/
theorem len44 : (states 4 4).length = 60 := by decide +kernel
theorem lv0 : ∀ i, i < 4 → ∀ s ∈ states 4 i, okLv 4 s = true := by decide +kernel
theorem all3 : ∀ s ∈ states 3 0, desc 3 6 s = true := by decide +kernel
theorem c44_0 : (states 4 4)[0]?.all (desc 4 4) = true := by decide +kernel
theorem c44_1 : (states 4 4)[1]?.all (desc 4 4) = true := by decide +kernel
theorem c44_2 : (states 4 4)[2]?.all (desc 4 4) = true := by decide +kernel
theorem c44_3 : (states 4 4)[3]?.all (desc 4 4) = true := by decide +kernel
theorem c44_4 : (states 4 4)[4]?.all (desc 4 4) = true := by decide +kernel
theorem c44_5 : (states 4 4)[5]?.all (desc 4 4) = true := by decide +kernel
theorem c44_6 : (states 4 4)[6]?.all (desc 4 4) = true := by decide +kernel
theorem c44_7 : (states 4 4)[7]?.all (desc 4 4) = true := by decide +kernel
theorem c44_8 : (states 4 4)[8]?.all (desc 4 4) = true := by decide +kernel
theorem c44_9 : (states 4 4)[9]?.all (desc 4 4) = true := by decide +kernel
theorem c44_10 : (states 4 4)[10]?.all (desc 4 4) = true := by decide +kernel
theorem c44_11 : (states 4 4)[11]?.all (desc 4 4) = true := by decide +kernel
theorem c44_12 : (states 4 4)[12]?.all (desc 4 4) = true := by decide +kernel
theorem c44_13 : (states 4 4)[13]?.all (desc 4 4) = true := by decide +kernel
theorem c44_14 : (states 4 4)[14]?.all (desc 4 4) = true := by decide +kernel
theorem c44_15 : (states 4 4)[15]?.all (desc 4 4) = true := by decide +kernel
theorem c44_16 : (states 4 4)[16]?.all (desc 4 4) = true := by decide +kernel
theorem c44_17 : (states 4 4)[17]?.all (desc 4 4) = true := by decide +kernel
theorem c44_18 : (states 4 4)[18]?.all (desc 4 4) = true := by decide +kernel
theorem c44_19 : (states 4 4)[19]?.all (desc 4 4) = true := by decide +kernel
theorem c44_20 : (states 4 4)[20]?.all (desc 4 4) = true := by decide +kernel
theorem c44_21 : (states 4 4)[21]?.all (desc 4 4) = true := by decide +kernel
theorem c44_22 : (states 4 4)[22]?.all (desc 4 4) = true := by decide +kernel
theorem c44_23 : (states 4 4)[23]?.all (desc 4 4) = true := by decide +kernel
theorem c44_24 : (states 4 4)[24]?.all (desc 4 4) = true := by decide +kernel
theorem c44_25 : (states 4 4)[25]?.all (desc 4 4) = true := by decide +kernel
theorem c44_26 : (states 4 4)[26]?.all (desc 4 4) = true := by decide +kernel
theorem c44_27 : (states 4 4)[27]?.all (desc 4 4) = true := by decide +kernel
theorem c44_28 : (states 4 4)[28]?.all (desc 4 4) = true := by decide +kernel
theorem c44_29 : (states 4 4)[29]?.all (desc 4 4) = true := by decide +kernel
theorem c44_30 : (states 4 4)[30]?.all (desc 4 4) = true := by decide +kernel
theorem c44_31 : (states 4 4)[31]?.all (desc 4 4) = true := by decide +kernel
theorem c44_32 : (states 4 4)[32]?.all (desc 4 4) = true := by decide +kernel
theorem c44_33 : (states 4 4)[33]?.all (desc 4 4) = true := by decide +kernel
theorem c44_34 : (states 4 4)[34]?.all (desc 4 4) = true := by decide +kernel
theorem c44_35 : (states 4 4)[35]?.all (desc 4 4) = true := by decide +kernel
theorem c44_36 : (states 4 4)[36]?.all (desc 4 4) = true := by decide +kernel
theorem c44_37 : (states 4 4)[37]?.all (desc 4 4) = true := by decide +kernel
theorem c44_38 : (states 4 4)[38]?.all (desc 4 4) = true := by decide +kernel
theorem c44_39 : (states 4 4)[39]?.all (desc 4 4) = true := by decide +kernel
theorem c44_40 : (states 4 4)[40]?.all (desc 4 4) = true := by decide +kernel
theorem c44_41 : (states 4 4)[41]?.all (desc 4 4) = true := by decide +kernel
theorem c44_42 : (states 4 4)[42]?.all (desc 4 4) = true := by decide +kernel
theorem c44_43 : (states 4 4)[43]?.all (desc 4 4) = true := by decide +kernel
theorem c44_44 : (states 4 4)[44]?.all (desc 4 4) = true := by decide +kernel
theorem c44_45 : (states 4 4)[45]?.all (desc 4 4) = true := by decide +kernel
theorem c44_46 : (states 4 4)[46]?.all (desc 4 4) = true := by decide +kernel
theorem c44_47 : (states 4 4)[47]?.all (desc 4 4) = true := by decide +kernel
theorem c44_48 : (states 4 4)[48]?.all (desc 4 4) = true := by decide +kernel
theorem c44_49 : (states 4 4)[49]?.all (desc 4 4) = true := by decide +kernel
theorem c44_50 : (states 4 4)[50]?.all (desc 4 4) = true := by decide +kernel
theorem c44_51 : (states 4 4)[51]?.all (desc 4 4) = true := by decide +kernel
theorem c44_52 : (states 4 4)[52]?.all (desc 4 4) = true := by decide +kernel
theorem c44_53 : (states 4 4)[53]?.all (desc 4 4) = true := by decide +kernel
theorem c44_54 : (states 4 4)[54]?.all (desc 4 4) = true := by decide +kernel
theorem c44_55 : (states 4 4)[55]?.all (desc 4 4) = true := by decide +kernel
theorem c44_56 : (states 4 4)[56]?.all (desc 4 4) = true := by decide +kernel
theorem c44_57 : (states 4 4)[57]?.all (desc 4 4) = true := by decide +kernel
theorem c44_58 : (states 4 4)[58]?.all (desc 4 4) = true := by decide +kernel
theorem c44_59 : (states 4 4)[59]?.all (desc 4 4) = true := by decide +kernel
theorem all4 : ∀ s ∈ states 4 4, desc 4 4 s = true := by
  intro s hs
  obtain ⟨i, hi⟩ := List.mem_iff_getElem?.mp hs
  have hl := (List.getElem?_eq_some_iff.mp hi).1
  rw [len44] at hl
  have key : ∀ j, j < 60 → (states 4 4)[j]?.all (desc 4 4) = true := by
    intro j hj
    match j, hj with
    | 0, _ => exact c44_0
    | 1, _ => exact c44_1
    | 2, _ => exact c44_2
    | 3, _ => exact c44_3
    | 4, _ => exact c44_4
    | 5, _ => exact c44_5
    | 6, _ => exact c44_6
    | 7, _ => exact c44_7
    | 8, _ => exact c44_8
    | 9, _ => exact c44_9
    | 10, _ => exact c44_10
    | 11, _ => exact c44_11
    | 12, _ => exact c44_12
    | 13, _ => exact c44_13
    | 14, _ => exact c44_14
    | 15, _ => exact c44_15
    | 16, _ => exact c44_16
    | 17, _ => exact c44_17
    | 18, _ => exact c44_18
    | 19, _ => exact c44_19
    | 20, _ => exact c44_20
    | 21, _ => exact c44_21
    | 22, _ => exact c44_22
    | 23, _ => exact c44_23
    | 24, _ => exact c44_24
    | 25, _ => exact c44_25
    | 26, _ => exact c44_26
    | 27, _ => exact c44_27
    | 28, _ => exact c44_28
    | 29, _ => exact c44_29
    | 30, _ => exact c44_30
    | 31, _ => exact c44_31
    | 32, _ => exact c44_32
    | 33, _ => exact c44_33
    | 34, _ => exact c44_34
    | 35, _ => exact c44_35
    | 36, _ => exact c44_36
    | 37, _ => exact c44_37
    | 38, _ => exact c44_38
    | 39, _ => exact c44_39
    | 40, _ => exact c44_40
    | 41, _ => exact c44_41
    | 42, _ => exact c44_42
    | 43, _ => exact c44_43
    | 44, _ => exact c44_44
    | 45, _ => exact c44_45
    | 46, _ => exact c44_46
    | 47, _ => exact c44_47
    | 48, _ => exact c44_48
    | 49, _ => exact c44_49
    | 50, _ => exact c44_50
    | 51, _ => exact c44_51
    | 52, _ => exact c44_52
    | 53, _ => exact c44_53
    | 54, _ => exact c44_54
    | 55, _ => exact c44_55
    | 56, _ => exact c44_56
    | 57, _ => exact c44_57
    | 58, _ => exact c44_58
    | 59, _ => exact c44_59
    | j + 60, h => omega
  have := key i hl
  rw [hi] at this
  exact this
theorem st_all : ∀ size, size = 3 ∨ size = 4 → ∀ s ∈ states size (2 * size), st0 size s = true := by
  intro size h
  rcases h with rfl | rfl
  · exact (desc_all 3 6 0 all3).1
  · exact (desc_all 4 4 4 all4).1
theorem drawn_all : ∀ size, size = 3 ∨ size = 4 → ∀ i, i < 2 * size → ∀ s ∈ states size i, s.moves size ≠ [] ∧ s.row.length ≤ 20 ∧ s.sides.length ≤ 10 ∧ s.w0.length ≤ 10 ∧ s.w1.length ≤ 10 := by
  intro size h i hi s hs
  have ok : okLv size s = true := by
    rcases h with rfl | rfl
    · exact (desc_all 3 6 0 all3).2 i (by (first | lia | omega)) (by (first | lia | omega)) s hs
    · by_cases q : i < 4
      · exact lv0 i q s hs
      · exact (desc_all 4 4 4 all4).2 i (by (first | lia | omega)) (by (first | lia | omega)) s hs
  unfold okLv at ok
  simp only [Bool.and_eq_true, decide_eq_true_eq, Bool.not_eq_true'] at ok
  obtain ⟨⟨⟨⟨a, b⟩, c⟩, d⟩, e⟩ := ok
  exact ⟨fun q => (by rw [q] at a; cases a), b, c, d, e⟩

/-! marks come in pairs -/
theorem textGo_even (sides : List Nat) (hs : ∀ s ∈ sides, s ≤ 1) : ∀ (ps : List (List Nat × Nat)) (h : Nat), h ≤ 1 → (∀ p ∈ ps, 34 ∉ p.1) → ((textGo sides ps h).count 34 + h) % 2 = 0
  | [], h, hh, _ => by
    unfold textGo
    rw [List.count_replicate_self]; (first | lia | omega)
  | (br, p) :: r, h, hh, hp => by
    have h1 : sides.getD p 0 ≤ 1 := getD_le hs p
    have ih := textGo_even sides hs r (sides.getD p 0) h1 fun q hq => hp q (List.mem_cons_of_mem _ hq)
    have hb : br.count 34 = 0 := List.count_eq_zero.mpr (hp _ List.mem_cons_self)
    unfold textGo
    rw [List.count_append, List.count_append, hb]
    split
    · rename_i q; rw [List.count_nil]; (first | lia | omega)
    · rename_i q
      rw [show ([34] : List Nat).count 34 = 1 from rfl]; (first | lia | omega)
theorem parts0_34 {met : List Nat} : ∀ p ∈ partsOf met [], 34 ∉ p.1 := by
  intro p hp
  unfold partsOf at hp
  obtain ⟨x, hx, rfl⟩ := List.mem_map.mp hp
  dsimp only
  split
  · decide
  · simp
theorem tx_even {met now : List Nat} (hn : ∀ s ∈ now, s ≤ 1) : (tx met now).count 34 % 2 = 0 := by
  have := textGo_even now hn (partsOf met []) 0 (by (first | lia | omega)) parts0_34
  exact this
theorem mid0_even {met now : List Nat} (hn : ∀ s ∈ now, s ≤ 1) (one other : Nat) : (mid0 met now one other).count 34 % 2 = 0 := by
  have := textGo_even now hn (((partsOf (met.filter fun p => decide (p ∈ [one, other])) []).drop 1).take 2) 0 (by (first | lia | omega)) fun p hp => parts0_34 p (List.mem_of_mem_drop (List.mem_of_mem_take hp))
  exact this
theorem proj_mid {met now : List Nat} {signs : List (List Nat)} (sg : SgOk signs) (one other : Nat) : proj (midOf met now signs one other) = mid0 met now one other := by
  unfold midOf mid0 textOf
  rw [proj_textGo]
  congr 1
  have := bareParts_parts (met := met.filter fun p => decide (p ∈ [one, other])) sg
  rw [← this]
  unfold bareParts
  rw [List.map_take, List.map_drop]
theorem way_eq {met now : List Nat} {signs : List (List Nat)} (sg : SgOk signs) (hn : ∀ s ∈ now, s ≤ 1) (draw one other : Nat) : wayOf met now signs draw one other = way0 met now one other := by
  have he := mid0_even (met := met) hn one other
  have hp := proj_mid (met := met) (now := now) sg one other
  unfold wayOf way0
  rw [chk_words draw (by rw [hp]; exact he), chk_value, hp, chk_words (l := 40 :: midOf met now signs one other) draw (by
    rw [show proj (40 :: midOf met now signs one other) = 40 :: proj (midOf met now signs one other) from rfl, hp, List.count_cons_of_ne (by decide)]; exact he)]
  rw [show proj (40 :: midOf met now signs one other) = 40 :: proj (midOf met now signs one other) from rfl, hp]
theorem tab_eq {met now numbers : List Nat} {signs : List (List Nat)} (sg : SgOk signs) (hn : ∀ s ∈ now, s ≤ 1) (draw : Nat) : ∀ i, tabF met now signs numbers draw i = tabG now (fun p => ((numbers.getD p 0 : Nat) : Int)) (fun h k => way0 met now ((bareN now).getD k 0) h) i
  | 0 => rfl
  | i + 1 => by
    have ih := tab_eq (met := met) (numbers := numbers) sg hn draw i
    funext k j
    show (if now.getD i 0 = 1 then tabF met now signs numbers draw i k j + ((numbers.getD i 0 : Nat) : Int) * waysF met now signs draw i k * waysF met now signs draw i j else tabF met now signs numbers draw i k j) =
      (if now.getD i 0 = 1 then tabG now _ _ i k j + ((numbers.getD i 0 : Nat) : Int) * way0 met now ((bareN now).getD k 0) i * way0 met now ((bareN now).getD j 0) i else tabG now _ _ i k j)
    rw [ih]
    unfold waysF
    rw [way_eq sg hn, way_eq sg hn]
    rfl
theorem way0_small (met now : List Nat) (one other : Nat) : (way0 met now one other).natAbs ≤ 1 := by
  unfold way0
  split
  · decide
  · split <;> decide
theorem prod_eq (numbers : List Nat) (size b : Nat) : ∀ i, i ≤ size → ((prodG numbers (bitsOf size b) i : Nat) : Int) = prodZ (fun p => ((numbers.getD p 0 : Nat) : Int)) b i
  | 0, _ => rfl
  | i + 1, hi => by
    have ih := prod_eq numbers size b i (by (first | lia | omega))
    have hb : (bitsOf size b).getD i 0 = b / 2 ^ i % 2 := by
      unfold bitsOf
      rw [List.getD_eq_getElem?_getD, List.getElem?_map, List.getElem?_range (by (first | lia | omega))]; rfl
    show ((if (bitsOf size b).getD i 0 = 1 then prodG numbers (bitsOf size b) i * numbers.getD i 0 else prodG numbers (bitsOf size b) i : Nat) : Int) = if b / 2 ^ i % 2 = 1 then prodZ _ b i * ((numbers.getD i 0 : Nat) : Int) else prodZ _ b i
    rw [hb]
    split
    · push_cast; rw [ih]
    · exact ih
theorem tot_eq (size : Nat) (row sides numbers : List Nat) (c : Nat → Int) : ∀ n, (∀ b, b < n → (if accB size row sides b = true then (1 : Int) else 0) = c b) →
    ((totG size row sides numbers n : Nat) : Int) = sumB (fun b => c b * prodZ (fun p => ((numbers.getD p 0 : Nat) : Int)) b size) n
  | 0, _ => rfl
  | n + 1, h => by
    have ih := tot_eq size row sides numbers c n fun b hb => h b (by (first | lia | omega))
    have hc := h n (by (first | lia | omega))
    show ((if accB size row sides n = true then totG size row sides numbers n + prodG numbers (bitsOf size n) size else totG size row sides numbers n : Nat) : Int) = sumB _ n + c n * prodZ _ n size
    rw [← ih, ← hc, ← prod_eq numbers size n size (Nat.le_refl _)]
    split <;> simp
theorem signs_getD {numbers : List Nat} {p : Nat} (h : p < numbers.length) : (signsOf numbers).getD p [] = SIGNS.getD (numbers.getD p 0 - 14) [] := by
  unfold signsOf
  rw [List.getD_eq_getElem?_getD, List.getD_eq_getElem?_getD (l := numbers), List.getElem?_map, List.getElem?_eq_getElem h]; rfl
theorem bare_at {now : List Nat} {p : Nat} (h : p ∈ bareN now) : p < now.length := by
  have := (List.mem_filter.mp h).1; simpa using this

theorem lawOk_all : ∀ size, size = 3 ∨ size = 4 → ∀ s ∈ states size (2 * size), ∀ numbers : List Nat, numbers.length = size → (∀ k ∈ numbers, 14 ≤ k ∧ k ≤ 54) → ∀ draw, LawOk size s.row s.sides numbers draw := by
  intro size hsz s hs numbers hnl hnum draw
  have st := st_all size hsz s hs
  unfold st0 at st
  simp only [Bool.and_eq_true, decide_eq_true_eq, Bool.not_eq_true', List.all_eq_true, List.mem_range] at st
  obtain ⟨⟨⟨⟨⟨a1, a2⟩, a3⟩, a4⟩, a5⟩, a6⟩ := st
  have sg := sgOk hnum
  have hnd : ∀ p, p < size → 14 ≤ numbers.getD p 0 ∧ numbers.getD p 0 ≤ 54 := fun p hp => by
    have : numbers[p]? = some numbers[p] := List.getElem?_eq_getElem (by (first | lia | omega))
    rw [List.getD_eq_getElem?_getD, this]
    exact hnum _ (List.getElem_mem _)
  have turnF : ∀ bits, bits < 2 ^ size → (bitsOf size bits).sum = s.sides.count 0 → TurnOk size s.row s.sides numbers draw bits := by
    intro bits hb hq
    have t := a4 bits hb
    unfold turn0 at t
    rw [decide_eq_true hq, Bool.not_true, Bool.false_or] at t
    simp only [Bool.and_eq_true, decide_eq_true_eq, List.all_eq_true, beq_iff_eq] at t
    obtain ⟨⟨⟨⟨t1, t2⟩, t3⟩, t4⟩, t5⟩ := t
    refine ⟨t1, t2, t3, ?_, ?_⟩
    · rw [chk_value]
      unfold textB
      rw [proj_text sg]; exact t4
    · unfold textB
      rw [chk_words draw (by rw [proj_text sg]; exact tx_even (nowOf_le _)), proj_text sg]; exact t5
  refine ⟨a1, a2, a3, turnF, fun q => (by rw [q] at a5; cases a5), fun b hb => ?_⟩
  have f := a6 b hb
  obtain ⟨hb1, hb2⟩ := takG_mem hb
  unfold accB at hb2
  rw [Bool.and_eq_true] at hb2
  obtain ⟨t1, t2, t3, -, -⟩ := turnF b hb1 (of_decide_eq_true hb2.1)
  have hnle := nowOf_le (bitsOf size b)
  have hnlen : (nowOf (bitsOf size b)).length = size := by rw [nowOf_len, bitsOf_len]
  unfold fin0 fin1 at f
  simp only [Bool.and_eq_true, decide_eq_true_eq, List.all_eq_true, List.mem_range] at f
  obtain ⟨f1, f2⟩ := f
  have hx : ∀ i, (((numbers.getD i 0 : Nat) : Int)).natAbs ≤ 60 := fun i => by
    have := getD_le (fun x hx => (hnum x hx).2) i; (first | lia | omega)
  have sm : ∀ i j, (tabG (nowOf (bitsOf size b)) (fun p => ((numbers.getD p 0 : Nat) : Int)) (fun h k => way0 (metOf size s.row (bitsOf size b) s.sides) (nowOf (bitsOf size b)) ((bareN (nowOf (bitsOf size b))).getD k 0) h) size i j).natAbs ≤ 300 := fun i j => by
    have := tab_small (nowOf (bitsOf size b)) (fun p => ((numbers.getD p 0 : Nat) : Int)) (fun h k => way0 (metOf size s.row (bitsOf size b) s.sides) (nowOf (bitsOf size b)) ((bareN (nowOf (bitsOf size b))).getD k 0) h) hx (fun h k => way0_small ..) size i j
    (first | lia | omega)
  have pos : ∀ k, tabG (nowOf (bitsOf size b)) (fun p => ((numbers.getD p 0 : Nat) : Int)) (fun h k => way0 (metOf size s.row (bitsOf size b) s.sides) (nowOf (bitsOf size b)) ((bareN (nowOf (bitsOf size b))).getD k 0) h) size k k ≠ 0 := fun k => by
    have := tab_pos (nowOf (bitsOf size b)) (fun p => ((numbers.getD p 0 : Nat) : Int)) (fun h k => way0 (metOf size s.row (bitsOf size b) s.sides) (nowOf (bitsOf size b)) ((bareN (nowOf (bitsOf size b))).getD k 0) h) (fun k => by
      have hp : (bareN (nowOf (bitsOf size b))).getD k 0 < size := by
        rw [List.getD_eq_getElem?_getD]
        cases q : (bareN (nowOf (bitsOf size b)))[k]? with
        | none => show 0 < size; (first | lia | omega)
        | some v => have := bare_at (List.mem_of_getElem? q); show v < size; (first | lia | omega)
      have := (hnd _ hp).1
      first | (first | lia | omega) | (dsimp only; (first | lia | omega))) (fun i => Int.natCast_nonneg _) size k
    (first | lia | omega)
  have dt := det_all (nowOf (bitsOf size b)) size hsz hnlen hnle (fun p => ((numbers.getD p 0 : Nat) : Int)) (fun h k => way0 (metOf size s.row (bitsOf size b) s.sides) (nowOf (bitsOf size b)) ((bareN (nowOf (bitsOf size b))).getD k 0) h) fun k _ => pos k
  refine ⟨?_, ?_, ?_⟩
  · unfold textB
    refine read_text t2 (fun p hp => hnd p (t3 p hp)) (fun p hp => signs_getD (by rw [hnl]; exact t3 p hp)) hnle f1
  · rw [tab_eq sg hnle]
    have hbl := bareN_le (nowOf (bitsOf size b))
    by_cases h4 : (bareN (nowOf (bitsOf size b))).length = 4
    · have hs4 : size = 4 := by (first | lia | omega)
      subst hs4
      have e0 := bare4 _ hnlen hnle h4
      have p0 := pos 0
      have p1 := pos 1
      show detOk (bareN (nowOf (bitsOf 4 b))).length (bareN (nowOf (bitsOf 4 b))).length 0 1 _
      rw [h4]
      refine detOk_diag sm (fun i j h hi hj => ?_) p0 p1
      have := tab_diag (fun p => ((numbers.getD p 0 : Nat) : Int)) (fun h k => way0 (metOf 4 s.row (bitsOf 4 b) s.sides) (nowOf (bitsOf 4 b)) ((bareN (nowOf (bitsOf 4 b))).getD k 0) h) h
      rw [← e0] at this
      rcases this with q | q | q
      · exact q
      · (first | lia | omega)
      · (first | lia | omega)
    · exact detOk_small sm (pos 0) _ (show (bareN (nowOf (bitsOf size b))).length ≤ 3 by (first | lia | omega))
  · rw [tab_eq sg hnle, tot_eq size s.row s.sides numbers _ (2 ^ size) f2]
    exact dt
end Mine

open PySem PySem.W PyProof.Rows
namespace Mine
theorem mem_erase {p : Program} (i : Nat) (e : allDefs = (recsOf p).eraseIdx i) : ∀ d ∈ allDefs, d ∈ recsOf p := fun d hd => List.mem_of_mem_eraseIdx (e ▸ hd)
theorem td_eq : TD = TT.map (fun p => (p.1, KTD.Dat.flat (.int p.2))) := by kernel_rfl
/-- the built-ins' names are bound by nothing of the program: one check for all -/
theorem notBound : ∀ x ∈ (["len", "sum", "max", "range", "enumerate", "list", "set"] : List Str), x ∉ startupNames ∧ x ∉ (["EXACT_TOKEN_TYPES"] : List Str) ∧ x ∉ (recsOf view).map (·.name) ∧ x ∉ (litsOf view).map (·.1) ∧ x ∉ (clssOf view ["EXACT_TOKEN_TYPES"]).map (·.name) := by decide +kernel
theorem notBound_of {mg : Str → Option Value} (f : ∀ x, x ∉ startupNames → x ∉ (["EXACT_TOKEN_TYPES"] : List Str) → x ∉ (recsOf view).map (·.name) → x ∉ (litsOf view).map (·.1) → x ∉ (clssOf view ["EXACT_TOKEN_TYPES"]).map (·.name) → mg x = none) {x : Str} (h : x ∈ (["len", "sum", "max", "range", "enumerate", "list", "set"] : List Str)) : mg x = none := by
  obtain ⟨a, b, c, d, e⟩ := notBound x h
  exact f x a b c d e
end Mine
set_option maxRecDepth 100000 in
set_option maxHeartbeats 8000000 in
theorem PySem.Challenge.cw_uq0015_01_holds : PySem.Challenge.rw_uq0015_01.Holds := by
  w_on
  refine holds_law Mine.said fun said => ?_
  refine PySem.W.holds_open (q := Mine.view) (d := Mine.d_law) (kwd := []) (loose := ["EXACT_TOKEN_TYPES"]) (Xt := Mine.seenAll) (XP := Mine.XPP) (Yf := Hook.obs Hook.none) (Ya := Hook.val Hook.none) (YP := Hook.says Hook.none) (N := 6000) Mine.left (Hook.of Hook.none) (Hook.keeps Hook.none) (fun s e => ⟨xl_of s (Mine.seen_xl e), Mine.tab_of_seen (Bool.and_eq_true_iff.mp e).2⟩)
    (fun mg h h' x k => ⟨XL.keeps mg h h' x.1 k, x.2.imp fun a q => ⟨q.1, q.2.keep k⟩⟩) ?h1 ?h2 ?h3 (fun s e => recFacts_of (Mine.seen_rec e)) ?h4 ?h5 ?h6 ⟨rfl, rfl, rfl, rfl, rfl, by decide +kernel⟩ ?hw ?hc
  case h1 => kernel_rfl
  case h2 => kernel_rfl
  case h3 => kernel_rfl
  case h4 => kernel_rfl
  case h5 => assumption
  case h6 => decide +kernel
  case hw => w_witness2
  case hc =>
    intro w s₀ s₁ mg mb G Y fa o pm cd doc dV kV ho hd hcd hD hmg hg args vals as hpre hlay hrd hwl hlo
    have tab := (Ground.X G).2
    refine Ground.open G ?_
    intro T B D TE TW
    wrow_args hpre hlay hrd hwl hlo
    rename_i ns _ _ _ _ _ _ _ l vs _ hL _ _ _ hI _ hlen _
    have fx : Mine.Facts ⟨PySem.Challenge.rw_uq0015_01.row.prog, w, s₁.heap, _, _, _, mg, mb, T⟩ := by
      refine ⟨?_, ?_, ?_, ?_, ?_, ?_, ?_, ?_, ?_, ?_, ?_, ?_, ?_, ?_, ?_, ?_, ?_, ?_⟩
      · exact Mine.mem_erase 6 (by kernel_rfl)
      · exact Mine.notBound_of T.free (by decide)
      · exact Mine.notBound_of T.free (by decide)
      · exact Mine.notBound_of T.free (by decide)
      · exact Mine.notBound_of T.free (by decide)
      · exact Mine.notBound_of T.free (by decide)
      · exact Mine.notBound_of T.free (by decide)
      · exact Mine.notBound_of T.free (by decide)
      · exact (T.builtins _ (by decide)).trans (by kernel_rfl)
      · exact (T.builtins _ (by decide)).trans (by kernel_rfl)
      · exact (T.builtins _ (by decide)).trans (by kernel_rfl)
      · exact (T.builtins _ (by decide)).trans (by kernel_rfl)
      · exact (T.builtins _ (by decide)).trans (by kernel_rfl)
      · exact (T.builtins _ (by decide)).trans (by kernel_rfl)
      · exact (T.builtins _ (by decide)).trans (by kernel_rfl)
      · obtain ⟨v, hv, hr⟩ := T.const "NT_OFFSET" (.int 256) (by kernel_rfl)
        have h0 := hr s₁.heap
        cases h0
        exact ⟨_, hv, fun _ => .int _ _⟩
      · obtain ⟨v, hv, hr⟩ := T.const "ENDMARKER" (.int 0) (by kernel_rfl)
        have h0 := hr s₁.heap
        cases h0
        exact ⟨_, hv, fun _ => .int _ _⟩
      · obtain ⟨a, h1, h2⟩ := tab
        exact ⟨a, h1, Mine.td_eq ▸ h2⟩
    have hlaw : Mine.FN ⟨PySem.Challenge.rw_uq0015_01.row.prog, w, s₁.heap, _, _, _, mg, mb, T⟩ 13 "law" [.ints ns] Mine.emp (fun r _ => r = .bool true) :=
      Mine.FN_intro (d := Mine.d_law) (fx.fn _ (by simp [Mine.allDefs])) Mine.ok_law rfl (Mine.law_body fx (by (first | lia | omega)) Mine.drawn_all Mine.lawOk_all)
    have ao : Mine.OkA 13 callerA := ⟨rfl, by decide, by decide⟩
    have cr : Mine.CR s₁.heap s₁.heap Mine.emp := ⟨fun _ _ e => e, (fun _ _ e => nomatch e), (fun _ _ e => nomatch e)⟩
    refine Mine.wpAny_weak (hlaw callerA s₁ [.ref l] fa ao cr hmg (.cons (.ints hL hI) .nil)) fun v s' p => ?_
    obtain ⟨d, σ', r, c, st, rfl⟩ := p
    cases r
    refine ⟨.inl ⟨.bool true, .bool true, [], rfl, fun cls => ?_, .bool true, ?_, fun _ => ⟨List.nodup_nil, fun a ha => nomatch ha⟩⟩, .of_keep fun b o e => st.heap b o e rfl (fun h => h), st.os, st.bare (.of_eq hg)⟩
    · rfl
    · wrow_post
