import PyProof.Rows.All
import Wide.All
import OpenK.AllK
import Wide.FinOn
import PyProof.ZipIter
import KE.KIntText
import PySem.Challenge.RW_qt0004_01
open PySem PySem.W PyProof.Rows PySem.Calls
set_option Elab.async false
set_option maxRecDepth 100000
set_option maxHeartbeats 4000000
set_option linter.all false
namespace Mine
-- the heap that the top leaves: what the head asks of it
noncomputable def bodyAt (l : List Stmt) (i : Nat) : List Stmt := match l[i]? with | some (.ClassDef _ _ _ b _ _ _ _ _ _ _) => b | _ => []
noncomputable def fnAt (l : List Stmt) (i : Nat) : Arguments × List Stmt × Scope := match l[i]? with | some (.FunctionDef _ a b _ _ _ s _ _ _) => (a, b, s) | _ => (⟨[], [], .none, [], [], .none, []⟩, [], { kind := .function, names := [], isGenerator := false, isCoroutine := false })
noncomputable def fob (n q : Str) (x : Arguments × List Stmt × Scope) (cl : List (Str × Addr)) (df pm cd ct : Value) : Obj := ⟨.type "function", .none, .func ⟨n, q, x.1, .stmts x.2.1, x.2.2, 3, cl, df, .none, .none, pm, .none, cd, ct, 0⟩, #[]⟩
theorem fob_eq {n q : Str} {x y : Arguments × List Stmt × Scope} {cl : List (Str × Addr)} {df pm cd ct : Value} (e : x = y) : fob n q x cl df pm cd ct = fob n q y cl df pm cd ct := e ▸ rfl
local macro_rules | `(tactic| walk_at "fo") => `(tactic| (refine' ⟨_, (fob_eq ?e).trans ?h⟩; rotate_left 2; (case e => ((conv => lhs; whnf); try exact rfl)); (case h => (dsimp only [fob]; try exact rfl))))
noncomputable def fo21 : { o : Obj // fob "_wall" "_wall" (fnAt PySem.Challenge.pw_qt0004_01.main.body 0) [] .none (.str "__main__" 164) (.ref 20) .none = o } := by
  walk_at "fo"
noncomputable def fo37 : { o : Obj // fob "__init__" "LineInfo.__init__" (fnAt (bodyAt PySem.Challenge.pw_qt0004_01.main.body 2) 2) [] (.ref 30) (.str "ppci.lang.c.utils" 194) (.ref 36) .none = o } := by
  walk_at "fo"
noncomputable def fo44 : { o : Obj // fob "__str__" "LineInfo.__str__" (fnAt (bodyAt PySem.Challenge.pw_qt0004_01.main.body 2) 3) [] .none (.str "ppci.lang.c.utils" 194) (.ref 43) .none = o } := by
  walk_at "fo"
noncomputable def fo58 : { o : Obj // fob "replace_escape_codes" "replace_escape_codes" (fnAt PySem.Challenge.pw_qt0004_01.main.body 3) [] .none (.str "ppci.lang.c.utils" 194) (.ref 57) .none = o } := by
  walk_at "fo"
noncomputable def fo65 : { o : Obj // fob "_hex_end" "_hex_end" (fnAt PySem.Challenge.pw_qt0004_01.main.body 4) [] .none (.str "ppci.lang.c.utils" 194) (.ref 64) .none = o } := by
  walk_at "fo"
noncomputable def fo72 : { o : Obj // fob "skip_ws" "skip_ws" (fnAt PySem.Challenge.pw_qt0004_01.main.body 6) [] .none (.str "ppci.lang.c.preprocessor" 264) (.ref 71) .none = o } := by
  walk_at "fo"
noncomputable def fo79 : { o : Obj // fob "string_convert" "string_convert" (fnAt PySem.Challenge.pw_qt0004_01.main.body 7) [] .none (.str "ppci.lang.c.preprocessor" 264) (.ref 78) .none = o } := by
  walk_at "fo"
noncomputable def fo86 : { o : Obj // fob "string_concat" "string_concat" (fnAt PySem.Challenge.pw_qt0004_01.main.body 8) [] .none (.str "ppci.lang.c.preprocessor" 264) (.ref 85) .none = o } := by
  walk_at "fo"
noncomputable def fo93 : { o : Obj // fob "prepare_for_parsing" "prepare_for_parsing" (fnAt PySem.Challenge.pw_qt0004_01.main.body 9) [] .none (.str "ppci.lang.c.preprocessor" 264) (.ref 92) .none = o } := by
  walk_at "fo"
noncomputable def fo108 : { o : Obj // fob "__init__" "Token.__init__" (fnAt (bodyAt PySem.Challenge.pw_qt0004_01.main.body 11) 1) [] .none (.str "ppci.lang.common" 300) (.ref 107) .none = o } := by
  walk_at "fo"
noncomputable def fo115 : { o : Obj // fob "__repr__" "Token.__repr__" (fnAt (bodyAt PySem.Challenge.pw_qt0004_01.main.body 11) 2) [] .none (.str "ppci.lang.common" 300) (.ref 114) .none = o } := by
  walk_at "fo"
noncomputable def fo140 : { o : Obj // fob "__init__" "SourceLocation.__init__" (fnAt (bodyAt PySem.Challenge.pw_qt0004_01.main.body 12) 1) [] (.ref 133) (.str "ppci.lang.common" 300) (.ref 139) .none = o } := by
  walk_at "fo"
noncomputable def fo147 : { o : Obj // fob "__repr__" "SourceLocation.__repr__" (fnAt (bodyAt PySem.Challenge.pw_qt0004_01.main.body 12) 2) [] .none (.str "ppci.lang.common" 300) (.ref 146) .none = o } := by
  walk_at "fo"
noncomputable def fo174 : { o : Obj // fob "__init__" "CToken.__init__" (fnAt (bodyAt PySem.Challenge.pw_qt0004_01.main.body 14) 0) [("__class__", 162)] .none (.str "ppci.lang.c.token" 404) (.ref 173) (.ref 167) = o } := by
  walk_at "fo"
noncomputable def fo181 : { o : Obj // fob "__repr__" "CToken.__repr__" (fnAt (bodyAt PySem.Challenge.pw_qt0004_01.main.body 14) 1) [] .none (.str "ppci.lang.c.token" 404) (.ref 180) .none = o } := by
  walk_at "fo"
noncomputable def fo188 : { o : Obj // fob "__str__" "CToken.__str__" (fnAt (bodyAt PySem.Challenge.pw_qt0004_01.main.body 14) 2) [] .none (.str "ppci.lang.c.token" 404) (.ref 187) .none = o } := by
  walk_at "fo"
noncomputable def fo196 : { o : Obj // fob "copy" "CToken.copy" (fnAt (bodyAt PySem.Challenge.pw_qt0004_01.main.body 14) 3) [] (.ref 189) (.str "ppci.lang.c.token" 404) (.ref 195) .none = o } := by
  walk_at "fo"
noncomputable def fo210 : { o : Obj // fob "_law_PLAIN" "_law_PLAIN" (fnAt PySem.Challenge.pw_qt0004_01.main.body 19) [] .none (.str "law_qt0004_01" 465) (.ref 209) .none = o } := by
  walk_at "fo"
noncomputable def fo217 : { o : Obj // fob "_law_MEANT" "_law_MEANT" (fnAt PySem.Challenge.pw_qt0004_01.main.body 21) [] .none (.str "law_qt0004_01" 465) (.ref 216) .none = o } := by
  walk_at "fo"
noncomputable def fo224 : { o : Obj // fob "_law_BROKEN" "_law_BROKEN" (fnAt PySem.Challenge.pw_qt0004_01.main.body 22) [] .none (.str "law_qt0004_01" 465) (.ref 223) .none = o } := by
  walk_at "fo"
noncomputable def fo231 : { o : Obj // fob "_law_WORDS" "_law_WORDS" (fnAt PySem.Challenge.pw_qt0004_01.main.body 23) [] .none (.str "law_qt0004_01" 465) (.ref 230) .none = o } := by
  walk_at "fo"
noncomputable def fo238 : { o : Obj // fob "_law_NUMBERS" "_law_NUMBERS" (fnAt PySem.Challenge.pw_qt0004_01.main.body 24) [] .none (.str "law_qt0004_01" 465) (.ref 237) .none = o } := by
  walk_at "fo"
noncomputable def fo245 : { o : Obj // fob "_law_SIGNS" "_law_SIGNS" (fnAt PySem.Challenge.pw_qt0004_01.main.body 25) [] .none (.str "law_qt0004_01" 465) (.ref 244) .none = o } := by
  walk_at "fo"
noncomputable def fo252 : { o : Obj // fob "_law_BLANKS" "_law_BLANKS" (fnAt PySem.Challenge.pw_qt0004_01.main.body 26) [] .none (.str "law_qt0004_01" 465) (.ref 251) .none = o } := by
  walk_at "fo"
noncomputable def fo259 : { o : Obj // fob "_law_FLAGS" "_law_FLAGS" (fnAt PySem.Challenge.pw_qt0004_01.main.body 27) [] .none (.str "law_qt0004_01" 465) (.ref 258) .none = o } := by
  walk_at "fo"
noncomputable def fo266 : { o : Obj // fob "_law_next" "_law_next" (fnAt PySem.Challenge.pw_qt0004_01.main.body 28) [] .none (.str "law_qt0004_01" 465) (.ref 265) .none = o } := by
  walk_at "fo"
noncomputable def fo273 : { o : Obj // fob "_law_digits" "_law_digits" (fnAt PySem.Challenge.pw_qt0004_01.main.body 29) [] .none (.str "law_qt0004_01" 465) (.ref 272) .none = o } := by
  walk_at "fo"
noncomputable def fo280 : { o : Obj // fob "_law_piece" "_law_piece" (fnAt PySem.Challenge.pw_qt0004_01.main.body 30) [] .none (.str "law_qt0004_01" 465) (.ref 279) .none = o } := by
  walk_at "fo"
noncomputable def fo287 : { o : Obj // fob "_law_run" "_law_run" (fnAt PySem.Challenge.pw_qt0004_01.main.body 31) [] .none (.str "law_qt0004_01" 465) (.ref 286) .none = o } := by
  walk_at "fo"
noncomputable def fo294 : { o : Obj // fob "_law_worth" "_law_worth" (fnAt PySem.Challenge.pw_qt0004_01.main.body 32) [] .none (.str "law_qt0004_01" 465) (.ref 293) .none = o } := by
  walk_at "fo"
noncomputable def fo301 : { o : Obj // fob "_law_escape" "_law_escape" (fnAt PySem.Challenge.pw_qt0004_01.main.body 33) [] .none (.str "law_qt0004_01" 465) (.ref 300) .none = o } := by
  walk_at "fo"
noncomputable def fo308 : { o : Obj // fob "_law_read" "_law_read" (fnAt PySem.Challenge.pw_qt0004_01.main.body 34) [] .none (.str "law_qt0004_01" 465) (.ref 307) .none = o } := by
  walk_at "fo"
noncomputable def fo313 : { o : Obj // fob "law" "law" (fnAt PySem.Challenge.pw_qt0004_01.main.body 35) [] .none (.str "law_qt0004_01" 465) (.ref 312) .none = o } := by
  walk_at "fo"
noncomputable def KKf : Params → Frag :=
fun P =>
  (nat_lit 2, ⟨.none, .none, .dict #[] 0, #[]⟩) ::
  (nat_lit 3, ⟨.type "dict", .none, .dict (List.toArray (⟨PyData.keyHash P "__name__", .str "__name__" 165, .str "law_qt0004_01" 465⟩ :: ⟨PyData.keyHash P "__doc__", .str "__doc__" 166, .none⟩ :: ⟨PyData.keyHash P "__package__", .str "__package__" 167, .none⟩ :: ⟨PyData.keyHash P "__loader__", .str "__loader__" 168, .builtin "__main__.__loader__#opaque"⟩ :: ⟨PyData.keyHash P "__spec__", .str "__spec__" 169, .none⟩ :: ⟨PyData.keyHash P "__annotations__", .str "__annotations__" 170, .ref 6⟩ :: ⟨PyData.keyHash P "__builtins__", .str "__builtins__" 171, .ref 4⟩ :: ⟨PyData.keyHash P "__file__", .str "__file__" 173, .str "/claim/cut.py" 172⟩ :: ⟨PyData.keyHash P "__cached__", .str "__cached__" 174, .none⟩ :: ⟨PyData.keyHash P "_wall", .str "_wall" 193, .ref 21⟩ :: ⟨PyData.keyHash P "LineInfo", .str "LineInfo" 240, .ref 47⟩ :: ⟨PyData.keyHash P "replace_escape_codes", .str "replace_escape_codes" 254, .ref 58⟩ :: ⟨PyData.keyHash P "_hex_end", .str "_hex_end" 263, .ref 65⟩ :: ⟨PyData.keyHash P "skip_ws", .str "skip_ws" 273, .ref 72⟩ :: ⟨PyData.keyHash P "string_convert", .str "string_convert" 281, .ref 79⟩ :: ⟨PyData.keyHash P "string_concat", .str "string_concat" 290, .ref 86⟩ :: ⟨PyData.keyHash P "prepare_for_parsing", .str "prepare_for_parsing" 299, .ref 93⟩ :: ⟨PyData.keyHash P "Token", .str "Token" 347, .ref 119⟩ :: ⟨PyData.keyHash P "SourceLocation", .str "SourceLocation" 403, .ref 151⟩ :: ⟨PyData.keyHash P "CToken", .str "CToken" 464, .ref 199⟩ :: ⟨PyData.keyHash P "_law_SMALL", .str "_law_SMALL" 468, .str "0123456789abcdef" 467⟩ :: ⟨PyData.keyHash P "_law_BIG", .str "_law_BIG" 470, .str "0123456789ABCDEF" 469⟩ :: ⟨PyData.keyHash P "_law_HEX", .str "_law_HEX" 472, .str "0123456789abcdefABCDEF" 471⟩ :: ⟨PyData.keyHash P "_law_PLAIN", .str "_law_PLAIN" 478, .ref 210⟩ :: ⟨PyData.keyHash P "_law_SIMPLE", .str "_law_SIMPLE" 480, .str "abfnrtve\"'?\\" 479⟩ :: ⟨PyData.keyHash P "_law_MEANT", .str "_law_MEANT" 486, .ref 217⟩ :: ⟨PyData.keyHash P "_law_BROKEN", .str "_law_BROKEN" 492, .ref 224⟩ :: ⟨PyData.keyHash P "_law_WORDS", .str "_law_WORDS" 498, .ref 231⟩ :: ⟨PyData.keyHash P "_law_NUMBERS", .str "_law_NUMBERS" 504, .ref 238⟩ :: ⟨PyData.keyHash P "_law_SIGNS", .str "_law_SIGNS" 510, .ref 245⟩ :: ⟨PyData.keyHash P "_law_BLANKS", .str "_law_BLANKS" 516, .ref 252⟩ :: ⟨PyData.keyHash P "_law_FLAGS", .str "_law_FLAGS" 522, .ref 259⟩ :: ⟨PyData.keyHash P "_law_next", .str "_law_next" 529, .ref 266⟩ :: ⟨PyData.keyHash P "_law_digits", .str "_law_digits" 541, .ref 273⟩ :: ⟨PyData.keyHash P "_law_piece", .str "_law_piece" 551, .ref 280⟩ :: ⟨PyData.keyHash P "_law_run", .str "_law_run" 561, .ref 287⟩ :: ⟨PyData.keyHash P "_law_worth", .str "_law_worth" 572, .ref 294⟩ :: ⟨PyData.keyHash P "_law_escape", .str "_law_escape" 583, .ref 301⟩ :: ⟨PyData.keyHash P "_law_read", .str "_law_read" 593, .ref 308⟩ :: ⟨PyData.keyHash P "law", .str "law" 599, .ref 313⟩ :: [])) 40, #[]⟩) ::
  (nat_lit 15, ⟨.type "tuple", .none, .seq #[] 0, #[]⟩) ::
  (nat_lit 17, ⟨.type "tuple", .none, .seq #[.str "k" 190] 0, #[]⟩) ::
  (nat_lit 18, ⟨.type "tuple", .none, .seq #[] 0, #[]⟩) ::
  (nat_lit 20, ⟨.type "code", .none, .fields (List.toArray ((.str "_wall" 187) :: (.str "_wall" 188) :: (.str "/claim/cut.py" 189) :: (.int 1 0) :: (.int 1 0) :: (.int 0 0) :: (.int 0 0) :: (.int 3 0) :: (.ref 15) :: (.bool .true) :: (.int 181 0) :: (.ref 16) :: .none :: (.ref 17) :: (.ref 18) :: (.ref 19) :: (.int 191 0) :: (.int 1 0) :: (.str "/claim/cut.py" 192) :: [])), #[]⟩) ::
  (nat_lit 21, fo21.1) ::
  (nat_lit 29, ⟨.type "tuple", .none, .seq #[] 0, #[]⟩) ::
  (nat_lit 30, ⟨.type "tuple", .none, .seq #[.ref 29] 0, #[]⟩) ::
  (nat_lit 31, ⟨.type "tuple", .none, .seq #[] 0, #[]⟩) ::
  (nat_lit 33, ⟨.type "tuple", .none, .seq #[.str "self" 215, .str "line" 216, .str "filename" 217, .str "flags" 218] 0, #[]⟩) ::
  (nat_lit 34, ⟨.type "tuple", .none, .seq #[] 0, #[]⟩) ::
  (nat_lit 36, ⟨.type "code", .none, .fields (List.toArray ((.str "__init__" 212) :: (.str "LineInfo.__init__" 213) :: (.str "/claim/cut.py" 214) :: (.int 9 0) :: (.int 4 0) :: (.int 0 0) :: (.int 0 0) :: (.int 3 0) :: (.ref 31) :: (.bool .true) :: (.int 181 0) :: (.ref 32) :: .none :: (.ref 33) :: (.ref 34) :: (.ref 35) :: (.int 219 0) :: (.int 9 0) :: (.str "/claim/cut.py" 220) :: [])), #[]⟩) ::
  (nat_lit 37, fo37.1) ::
  (nat_lit 38, ⟨.type "tuple", .none, .seq #[] 0, #[]⟩) ::
  (nat_lit 40, ⟨.type "tuple", .none, .seq #[.str "self" 225, .str "flags" 226] 0, #[]⟩) ::
  (nat_lit 41, ⟨.type "tuple", .none, .seq #[] 0, #[]⟩) ::
  (nat_lit 43, ⟨.type "code", .none, .fields (List.toArray ((.str "__str__" 222) :: (.str "LineInfo.__str__" 223) :: (.str "/claim/cut.py" 224) :: (.int 14 0) :: (.int 1 0) :: (.int 0 0) :: (.int 0 0) :: (.int 3 0) :: (.ref 38) :: (.bool .true) :: (.int 181 0) :: (.ref 39) :: .none :: (.ref 40) :: (.ref 41) :: (.ref 42) :: (.int 227 0) :: (.int 14 0) :: (.str "/claim/cut.py" 228) :: [])), #[]⟩) ::
  (nat_lit 44, fo44.1) ::
  (nat_lit 45, ⟨.type "tuple", .none, .seq #[.str "filename" 230, .str "flags" 231, .str "line" 232] 0, #[]⟩) ::
  (nat_lit 46, ⟨.type "dict", .none, .dict (List.toArray (⟨PyData.keyHash P "__module__", .str "__module__" 203, .str "ppci.lang.c.utils" 194⟩ :: ⟨PyData.keyHash P "__firstlineno__", .str "__firstlineno__" 207, .int 5 206⟩ :: ⟨PyData.keyHash P "FLAG_START_OF_NEW_FILE", .str "FLAG_START_OF_NEW_FILE" 209, .int 1 208⟩ :: ⟨PyData.keyHash P "FLAG_RETURN_FROM_INCLUDE", .str "FLAG_RETURN_FROM_INCLUDE" 211, .int 2 210⟩ :: ⟨PyData.keyHash P "__init__", .str "__init__" 221, .ref 37⟩ :: ⟨PyData.keyHash P "__str__", .str "__str__" 229, .ref 44⟩ :: ⟨PyData.keyHash P "__static_attributes__", .str "__static_attributes__" 233, .ref 45⟩ :: ⟨PyData.keyHash P "__dict__", .str "__dict__" 235, .ref 48⟩ :: ⟨PyData.keyHash P "__weakref__", .str "__weakref__" 237, .ref 49⟩ :: ⟨PyData.keyHash P "__doc__", .str "__doc__" 238, .none⟩ :: [])) 4, #[]⟩) ::
  (nat_lit 47, ⟨.type "type", .none, .cls ⟨"LineInfo", [.type "object"], [.ref 47, .type "object"], 46, "LineInfo", .true, [], [], .false, .none, .false⟩, #[.none, .none, .some (.str "LineInfo" 196), .some (.str "LineInfo" 204), .some (.builtin "object.__new__"), .some (.bool .true)]⟩) ::
  (nat_lit 48, ⟨.type "getset_descriptor", .none, .fields #[.str "__dict__" 234, .ref 47, .builtin "function.__dict__", .builtin "function.__dict__#set"], #[]⟩) ::
  (nat_lit 49, ⟨.type "getset_descriptor", .none, .fields #[.str "__weakref__" 236, .ref 47, .builtin "ExceptionGroup.__weakref__", .none], #[]⟩) ::
  (nat_lit 52, ⟨.type "tuple", .none, .seq #[] 0, #[]⟩) ::
  (nat_lit 54, ⟨.type "tuple", .none, .seq #[.str "txt" 244, .str "mp" 245, .str "pos" 246, .str "endpos" 247, .str "parts" 248, .str "c" 249, .str "k" 250, .str "end" 251] 0, #[]⟩) ::
  (nat_lit 55, ⟨.type "tuple", .none, .seq #[] 0, #[]⟩) ::
  (nat_lit 57, ⟨.type "code", .none, .fields (List.toArray ((.str "replace_escape_codes" 241) :: (.str "replace_escape_codes" 242) :: (.str "/claim/cut.py" 243) :: (.int 20 0) :: (.int 1 0) :: (.int 0 0) :: (.int 0 0) :: (.int 3 0) :: (.ref 52) :: (.bool .true) :: (.int 181 0) :: (.ref 53) :: .none :: (.ref 54) :: (.ref 55) :: (.ref 56) :: (.int 252 0) :: (.int 20 0) :: (.str "/claim/cut.py" 253) :: [])), #[]⟩) ::
  (nat_lit 58, fo58.1) ::
  (nat_lit 59, ⟨.type "tuple", .none, .seq #[] 0, #[]⟩) ::
  (nat_lit 61, ⟨.type "tuple", .none, .seq #[.str "txt" 258, .str "pos" 259, .str "endpos" 260] 0, #[]⟩) ::
  (nat_lit 62, ⟨.type "tuple", .none, .seq #[] 0, #[]⟩) ::
  (nat_lit 64, ⟨.type "code", .none, .fields (List.toArray ((.str "_hex_end" 255) :: (.str "_hex_end" 256) :: (.str "/claim/cut.py" 257) :: (.int 56 0) :: (.int 3 0) :: (.int 0 0) :: (.int 0 0) :: (.int 3 0) :: (.ref 59) :: (.bool .true) :: (.int 181 0) :: (.ref 60) :: .none :: (.ref 61) :: (.ref 62) :: (.ref 63) :: (.int 261 0) :: (.int 56 0) :: (.str "/claim/cut.py" 262) :: [])), #[]⟩) ::
  (nat_lit 65, fo65.1) ::
  (nat_lit 66, ⟨.type "tuple", .none, .seq #[] 0, #[]⟩) ::
  (nat_lit 68, ⟨.type "tuple", .none, .seq #[.str "tokens" 269, .str "token" 270] 0, #[]⟩) ::
  (nat_lit 69, ⟨.type "tuple", .none, .seq #[] 0, #[]⟩) ::
  (nat_lit 71, ⟨.type "code", .none, .fields (List.toArray ((.str "skip_ws" 266) :: (.str "skip_ws" 267) :: (.str "/claim/cut.py" 268) :: (.int 61 0) :: (.int 1 0) :: (.int 0 0) :: (.int 0 0) :: (.int 35 0) :: (.ref 66) :: (.bool .true) :: (.int 181 0) :: (.ref 67) :: .none :: (.ref 68) :: (.ref 69) :: (.ref 70) :: (.int 271 0) :: (.int 61 0) :: (.str "/claim/cut.py" 272) :: [])), #[]⟩) ::
  (nat_lit 72, fo72.1) ::
  (nat_lit 73, ⟨.type "tuple", .none, .seq #[] 0, #[]⟩) ::
  (nat_lit 75, ⟨.type "tuple", .none, .seq #[.str "tokens" 277, .str "token" 278] 0, #[]⟩) ::
  (nat_lit 76, ⟨.type "tuple", .none, .seq #[] 0, #[]⟩) ::
  (nat_lit 78, ⟨.type "code", .none, .fields (List.toArray ((.str "string_convert" 274) :: (.str "string_convert" 275) :: (.str "/claim/cut.py" 276) :: (.int 69 0) :: (.int 1 0) :: (.int 0 0) :: (.int 0 0) :: (.int 35 0) :: (.ref 73) :: (.bool .true) :: (.int 181 0) :: (.ref 74) :: .none :: (.ref 75) :: (.ref 76) :: (.ref 77) :: (.int 279 0) :: (.int 69 0) :: (.str "/claim/cut.py" 280) :: [])), #[]⟩) ::
  (nat_lit 79, fo79.1) ::
  (nat_lit 80, ⟨.type "tuple", .none, .seq #[] 0, #[]⟩) ::
  (nat_lit 82, ⟨.type "tuple", .none, .seq #[.str "tokens" 285, .str "string_token" 286, .str "token" 287] 0, #[]⟩) ::
  (nat_lit 83, ⟨.type "tuple", .none, .seq #[] 0, #[]⟩) ::
  (nat_lit 85, ⟨.type "code", .none, .fields (List.toArray ((.str "string_concat" 282) :: (.str "string_concat" 283) :: (.str "/claim/cut.py" 284) :: (.int 76 0) :: (.int 1 0) :: (.int 0 0) :: (.int 0 0) :: (.int 35 0) :: (.ref 80) :: (.bool .true) :: (.int 181 0) :: (.ref 81) :: .none :: (.ref 82) :: (.ref 83) :: (.ref 84) :: (.int 288 0) :: (.int 76 0) :: (.str "/claim/cut.py" 289) :: [])), #[]⟩) ::
  (nat_lit 86, fo86.1) ::
  (nat_lit 87, ⟨.type "tuple", .none, .seq #[] 0, #[]⟩) ::
  (nat_lit 89, ⟨.type "tuple", .none, .seq #[.str "tokens" 294, .str "keywords" 295, .str "token" 296] 0, #[]⟩) ::
  (nat_lit 90, ⟨.type "tuple", .none, .seq #[] 0, #[]⟩) ::
  (nat_lit 92, ⟨.type "code", .none, .fields (List.toArray ((.str "prepare_for_parsing" 291) :: (.str "prepare_for_parsing" 292) :: (.str "/claim/cut.py" 293) :: (.int 91 0) :: (.int 2 0) :: (.int 0 0) :: (.int 0 0) :: (.int 35 0) :: (.ref 87) :: (.bool .true) :: (.int 181 0) :: (.ref 88) :: .none :: (.ref 89) :: (.ref 90) :: (.ref 91) :: (.int 297 0) :: (.int 91 0) :: (.str "/claim/cut.py" 298) :: [])), #[]⟩) ::
  (nat_lit 93, fo93.1) ::
  (nat_lit 101, ⟨.type "list", .none, .seq #[.str "typ" 314, .str "val" 315, .str "loc" 316] 0, #[]⟩) ::
  (nat_lit 102, ⟨.type "tuple", .none, .seq #[] 0, #[]⟩) ::
  (nat_lit 104, ⟨.type "tuple", .none, .seq #[.str "self" 321, .str "typ" 322, .str "val" 323, .str "loc" 324] 0, #[]⟩) ::
  (nat_lit 105, ⟨.type "tuple", .none, .seq #[] 0, #[]⟩) ::
  (nat_lit 107, ⟨.type "code", .none, .fields (List.toArray ((.str "__init__" 318) :: (.str "Token.__init__" 319) :: (.str "/claim/cut.py" 320) :: (.int 103 0) :: (.int 4 0) :: (.int 0 0) :: (.int 0 0) :: (.int 3 0) :: (.ref 102) :: (.bool .true) :: (.int 181 0) :: (.ref 103) :: .none :: (.ref 104) :: (.ref 105) :: (.ref 106) :: (.int 325 0) :: (.int 103 0) :: (.str "/claim/cut.py" 326) :: [])), #[]⟩) ::
  (nat_lit 108, fo108.1) ::
  (nat_lit 109, ⟨.type "tuple", .none, .seq #[] 0, #[]⟩) ::
  (nat_lit 111, ⟨.type "tuple", .none, .seq #[.str "self" 331] 0, #[]⟩) ::
  (nat_lit 112, ⟨.type "tuple", .none, .seq #[] 0, #[]⟩) ::
  (nat_lit 114, ⟨.type "code", .none, .fields (List.toArray ((.str "__repr__" 328) :: (.str "Token.__repr__" 329) :: (.str "/claim/cut.py" 330) :: (.int 109 0) :: (.int 1 0) :: (.int 0 0) :: (.int 0 0) :: (.int 3 0) :: (.ref 109) :: (.bool .true) :: (.int 181 0) :: (.ref 110) :: .none :: (.ref 111) :: (.ref 112) :: (.ref 113) :: (.int 332 0) :: (.int 109 0) :: (.str "/claim/cut.py" 333) :: [])), #[]⟩) ::
  (nat_lit 115, fo115.1) ::
  (nat_lit 116, ⟨.type "tuple", .none, .seq #[.str "loc" 335, .str "typ" 336, .str "val" 337] 0, #[]⟩) ::
  (nat_lit 118, ⟨.type "dict", .none, .dict (List.toArray (⟨PyData.keyHash P "__module__", .str "__module__" 309, .str "ppci.lang.common" 300⟩ :: ⟨PyData.keyHash P "__firstlineno__", .str "__firstlineno__" 313, .int 100 312⟩ :: ⟨PyData.keyHash P "__slots__", .str "__slots__" 317, .ref 101⟩ :: ⟨PyData.keyHash P "__init__", .str "__init__" 327, .ref 108⟩ :: ⟨PyData.keyHash P "__repr__", .str "__repr__" 334, .ref 115⟩ :: ⟨PyData.keyHash P "__static_attributes__", .str "__static_attributes__" 338, .ref 116⟩ :: ⟨PyData.keyHash P "loc", .str "loc" 340, .ref 120⟩ :: ⟨PyData.keyHash P "typ", .str "typ" 342, .ref 121⟩ :: ⟨PyData.keyHash P "val", .str "val" 344, .ref 122⟩ :: ⟨PyData.keyHash P "__doc__", .str "__doc__" 345, .none⟩ :: [])) 5, #[]⟩) ::
  (nat_lit 119, ⟨.type "type", .none, .cls ⟨"Token", [.type "object"], [.ref 119, .type "object"], 118, "Token", .false, ["loc", "typ", "val"], [.ref 199], .false, .none, .false⟩, #[.none, .none, .some (.str "Token" 302), .some (.str "Token" 310), .some (.builtin "object.__new__"), .some (.bool .false)]⟩) ::
  (nat_lit 120, ⟨.type "member_descriptor", .none, .fields #[.str "loc" 339, .ref 119, .builtin "proto.slot", .builtin "proto.slot#set", .int 2 0], #[]⟩) ::
  (nat_lit 121, ⟨.type "member_descriptor", .none, .fields #[.str "typ" 341, .ref 119, .builtin "proto.slot", .builtin "proto.slot#set", .int 1 0], #[]⟩) ::
  (nat_lit 122, ⟨.type "member_descriptor", .none, .fields #[.str "val" 343, .ref 119, .builtin "proto.slot", .builtin "proto.slot#set", .int 0 0], #[]⟩) ::
  (nat_lit 132, ⟨.type "list", .none, .seq #[.str "filename" 360, .str "row" 361, .str "col" 362, .str "length" 363, .str "source" 364] 0, #[]⟩) ::
  (nat_lit 133, ⟨.type "tuple", .none, .seq #[.none] 0, #[]⟩) ::
  (nat_lit 134, ⟨.type "tuple", .none, .seq #[] 0, #[]⟩) ::
  (nat_lit 136, ⟨.type "tuple", .none, .seq #[.str "self" 369, .str "filename" 370, .str "row" 371, .str "col" 372, .str "ln" 373, .str "source" 374] 0, #[]⟩) ::
  (nat_lit 137, ⟨.type "tuple", .none, .seq #[] 0, #[]⟩) ::
  (nat_lit 139, ⟨.type "code", .none, .fields (List.toArray ((.str "__init__" 366) :: (.str "SourceLocation.__init__" 367) :: (.str "/claim/cut.py" 368) :: (.int 114 0) :: (.int 6 0) :: (.int 0 0) :: (.int 0 0) :: (.int 3 0) :: (.ref 134) :: (.bool .true) :: (.int 181 0) :: (.ref 135) :: .none :: (.ref 136) :: (.ref 137) :: (.ref 138) :: (.int 375 0) :: (.int 114 0) :: (.str "/claim/cut.py" 376) :: [])), #[]⟩) ::
  (nat_lit 140, fo140.1) ::
  (nat_lit 141, ⟨.type "tuple", .none, .seq #[] 0, #[]⟩) ::
  (nat_lit 143, ⟨.type "tuple", .none, .seq #[.str "self" 381] 0, #[]⟩) ::
  (nat_lit 144, ⟨.type "tuple", .none, .seq #[] 0, #[]⟩) ::
  (nat_lit 146, ⟨.type "code", .none, .fields (List.toArray ((.str "__repr__" 378) :: (.str "SourceLocation.__repr__" 379) :: (.str "/claim/cut.py" 380) :: (.int 121 0) :: (.int 1 0) :: (.int 0 0) :: (.int 0 0) :: (.int 3 0) :: (.ref 141) :: (.bool .true) :: (.int 181 0) :: (.ref 142) :: .none :: (.ref 143) :: (.ref 144) :: (.ref 145) :: (.int 382 0) :: (.int 121 0) :: (.str "/claim/cut.py" 383) :: [])), #[]⟩) ::
  (nat_lit 147, fo147.1) ::
  (nat_lit 148, ⟨.type "tuple", .none, .seq #[.str "col" 385, .str "filename" 386, .str "length" 387, .str "row" 388, .str "source" 389] 0, #[]⟩) ::
  (nat_lit 150, ⟨.type "dict", .none, .dict (List.toArray (⟨PyData.keyHash P "__module__", .str "__module__" 355, .str "ppci.lang.common" 300⟩ :: ⟨PyData.keyHash P "__firstlineno__", .str "__firstlineno__" 359, .int 111 358⟩ :: ⟨PyData.keyHash P "__slots__", .str "__slots__" 365, .ref 132⟩ :: ⟨PyData.keyHash P "__init__", .str "__init__" 377, .ref 140⟩ :: ⟨PyData.keyHash P "__repr__", .str "__repr__" 384, .ref 147⟩ :: ⟨PyData.keyHash P "__static_attributes__", .str "__static_attributes__" 390, .ref 148⟩ :: ⟨PyData.keyHash P "col", .str "col" 392, .ref 152⟩ :: ⟨PyData.keyHash P "filename", .str "filename" 394, .ref 153⟩ :: ⟨PyData.keyHash P "length", .str "length" 396, .ref 154⟩ :: ⟨PyData.keyHash P "row", .str "row" 398, .ref 155⟩ :: ⟨PyData.keyHash P "source", .str "source" 400, .ref 156⟩ :: ⟨PyData.keyHash P "__doc__", .str "__doc__" 401, .none⟩ :: [])) 7, #[]⟩) ::
  (nat_lit 151, ⟨.type "type", .none, .cls ⟨"SourceLocation", [.type "object"], [.ref 151, .type "object"], 150, "SourceLocation", .false, ["col", "filename", "length", "row", "source"], [], .false, .none, .false⟩, #[.none, .none, .some (.str "SourceLocation" 348), .some (.str "SourceLocation" 356), .some (.builtin "object.__new__"), .some (.bool .false)]⟩) ::
  (nat_lit 152, ⟨.type "member_descriptor", .none, .fields #[.str "col" 391, .ref 151, .builtin "proto.slot", .builtin "proto.slot#set", .int 4 0], #[]⟩) ::
  (nat_lit 153, ⟨.type "member_descriptor", .none, .fields #[.str "filename" 393, .ref 151, .builtin "proto.slot", .builtin "proto.slot#set", .int 3 0], #[]⟩) ::
  (nat_lit 154, ⟨.type "member_descriptor", .none, .fields #[.str "length" 395, .ref 151, .builtin "proto.slot", .builtin "proto.slot#set", .int 2 0], #[]⟩) ::
  (nat_lit 155, ⟨.type "member_descriptor", .none, .fields #[.str "row" 397, .ref 151, .builtin "proto.slot", .builtin "proto.slot#set", .int 1 0], #[]⟩) ::
  (nat_lit 156, ⟨.type "member_descriptor", .none, .fields #[.str "source" 399, .ref 151, .builtin "proto.slot", .builtin "proto.slot#set", .int 0 0], #[]⟩) ::
  (nat_lit 159, ⟨.type "tuple", .none, .seq #[.ref 119] 0, #[]⟩) ::
  (nat_lit 162, ⟨.type "cell", .none, .cell (.some (.ref 199)), #[]⟩) ::
  (nat_lit 167, ⟨.type "tuple", .none, .seq #[.ref 162] 0, #[]⟩) ::
  (nat_lit 168, ⟨.type "tuple", .none, .seq #[.str "__class__" 421] 0, #[]⟩) ::
  (nat_lit 170, ⟨.type "tuple", .none, .seq #[.str "self" 422, .str "typ" 423, .str "val" 424, .str "space" 425, .str "first" 426, .str "loc" 427] 0, #[]⟩) ::
  (nat_lit 171, ⟨.type "tuple", .none, .seq #[] 0, #[]⟩) ::
  (nat_lit 173, ⟨.type "code", .none, .fields (List.toArray ((.str "__init__" 418) :: (.str "CToken.__init__" 419) :: (.str "/claim/cut.py" 420) :: (.int 126 0) :: (.int 6 0) :: (.int 0 0) :: (.int 0 0) :: (.int 3 0) :: (.ref 168) :: (.bool .true) :: (.int 181 0) :: (.ref 169) :: .none :: (.ref 170) :: (.ref 171) :: (.ref 172) :: (.int 428 0) :: (.int 126 0) :: (.str "/claim/cut.py" 429) :: [])), #[]⟩) ::
  (nat_lit 174, fo174.1) ::
  (nat_lit 175, ⟨.type "tuple", .none, .seq #[] 0, #[]⟩) ::
  (nat_lit 177, ⟨.type "tuple", .none, .seq #[.str "self" 434] 0, #[]⟩) ::
  (nat_lit 178, ⟨.type "tuple", .none, .seq #[] 0, #[]⟩) ::
  (nat_lit 180, ⟨.type "code", .none, .fields (List.toArray ((.str "__repr__" 431) :: (.str "CToken.__repr__" 432) :: (.str "/claim/cut.py" 433) :: (.int 131 0) :: (.int 1 0) :: (.int 0 0) :: (.int 0 0) :: (.int 3 0) :: (.ref 175) :: (.bool .true) :: (.int 181 0) :: (.ref 176) :: .none :: (.ref 177) :: (.ref 178) :: (.ref 179) :: (.int 435 0) :: (.int 131 0) :: (.str "/claim/cut.py" 436) :: [])), #[]⟩) ::
  (nat_lit 181, fo181.1) ::
  (nat_lit 182, ⟨.type "tuple", .none, .seq #[] 0, #[]⟩) ::
  (nat_lit 184, ⟨.type "tuple", .none, .seq #[.str "self" 441] 0, #[]⟩) ::
  (nat_lit 185, ⟨.type "tuple", .none, .seq #[] 0, #[]⟩) ::
  (nat_lit 187, ⟨.type "code", .none, .fields (List.toArray ((.str "__str__" 438) :: (.str "CToken.__str__" 439) :: (.str "/claim/cut.py" 440) :: (.int 134 0) :: (.int 1 0) :: (.int 0 0) :: (.int 0 0) :: (.int 3 0) :: (.ref 182) :: (.bool .true) :: (.int 181 0) :: (.ref 183) :: .none :: (.ref 184) :: (.ref 185) :: (.ref 186) :: (.int 442 0) :: (.int 134 0) :: (.str "/claim/cut.py" 443) :: [])), #[]⟩) ::
  (nat_lit 188, fo188.1) ::
  (nat_lit 189, ⟨.type "tuple", .none, .seq #[.none, .none] 0, #[]⟩) ::
  (nat_lit 190, ⟨.type "tuple", .none, .seq #[] 0, #[]⟩) ::
  (nat_lit 192, ⟨.type "tuple", .none, .seq #[.str "self" 448, .str "space" 449, .str "first" 450] 0, #[]⟩) ::
  (nat_lit 193, ⟨.type "tuple", .none, .seq #[] 0, #[]⟩) ::
  (nat_lit 195, ⟨.type "code", .none, .fields (List.toArray ((.str "copy" 445) :: (.str "CToken.copy" 446) :: (.str "/claim/cut.py" 447) :: (.int 137 0) :: (.int 3 0) :: (.int 0 0) :: (.int 0 0) :: (.int 3 0) :: (.ref 190) :: (.bool .true) :: (.int 181 0) :: (.ref 191) :: .none :: (.ref 192) :: (.ref 193) :: (.ref 194) :: (.int 451 0) :: (.int 137 0) :: (.str "/claim/cut.py" 452) :: [])), #[]⟩) ::
  (nat_lit 196, fo196.1) ::
  (nat_lit 197, ⟨.type "tuple", .none, .seq #[.str "first" 454, .str "space" 455] 0, #[]⟩) ::
  (nat_lit 198, ⟨.type "dict", .none, .dict (List.toArray (⟨PyData.keyHash P "__module__", .str "__module__" 413, .str "ppci.lang.c.token" 404⟩ :: ⟨PyData.keyHash P "__firstlineno__", .str "__firstlineno__" 417, .int 124 416⟩ :: ⟨PyData.keyHash P "__init__", .str "__init__" 430, .ref 174⟩ :: ⟨PyData.keyHash P "__repr__", .str "__repr__" 437, .ref 181⟩ :: ⟨PyData.keyHash P "__str__", .str "__str__" 444, .ref 188⟩ :: ⟨PyData.keyHash P "copy", .str "copy" 453, .ref 196⟩ :: ⟨PyData.keyHash P "__static_attributes__", .str "__static_attributes__" 456, .ref 197⟩ :: ⟨PyData.keyHash P "__dict__", .str "__dict__" 459, .ref 200⟩ :: ⟨PyData.keyHash P "__weakref__", .str "__weakref__" 461, .ref 201⟩ :: ⟨PyData.keyHash P "__doc__", .str "__doc__" 462, .none⟩ :: [])) 5, #[]⟩) ::
  (nat_lit 199, ⟨.type "type", .none, .cls ⟨"CToken", [.ref 119], [.ref 199, .ref 119, .type "object"], 198, "CToken", .true, ["loc", "typ", "val"], [], .false, .none, .false⟩, #[.some (.ref 159), .none, .some (.str "CToken" 406), .some (.str "CToken" 414), .some (.builtin "object.__new__"), .some (.bool .true)]⟩) ::
  (nat_lit 200, ⟨.type "getset_descriptor", .none, .fields #[.str "__dict__" 458, .ref 199, .builtin "function.__dict__", .builtin "function.__dict__#set"], #[]⟩) ::
  (nat_lit 201, ⟨.type "getset_descriptor", .none, .fields #[.str "__weakref__" 460, .ref 199, .builtin "ExceptionGroup.__weakref__", .none], #[]⟩) ::
  (nat_lit 204, ⟨.type "tuple", .none, .seq #[] 0, #[]⟩) ::
  (nat_lit 206, ⟨.type "tuple", .none, .seq #[] 0, #[]⟩) ::
  (nat_lit 207, ⟨.type "tuple", .none, .seq #[] 0, #[]⟩) ::
  (nat_lit 209, ⟨.type "code", .none, .fields (List.toArray ((.str "_law_PLAIN" 473) :: (.str "_law_PLAIN" 474) :: (.str "/claim/cut.py" 475) :: (.int 143 0) :: (.int 0 0) :: (.int 0 0) :: (.int 0 0) :: (.int 3 0) :: (.ref 204) :: (.bool .true) :: (.int 181 0) :: (.ref 205) :: .none :: (.ref 206) :: (.ref 207) :: (.ref 208) :: (.int 476 0) :: (.int 143 0) :: (.str "/claim/cut.py" 477) :: [])), #[]⟩) ::
  (nat_lit 210, fo210.1) ::
  (nat_lit 211, ⟨.type "tuple", .none, .seq #[] 0, #[]⟩) ::
  (nat_lit 213, ⟨.type "tuple", .none, .seq #[] 0, #[]⟩) ::
  (nat_lit 214, ⟨.type "tuple", .none, .seq #[] 0, #[]⟩) ::
  (nat_lit 216, ⟨.type "code", .none, .fields (List.toArray ((.str "_law_MEANT" 481) :: (.str "_law_MEANT" 482) :: (.str "/claim/cut.py" 483) :: (.int 146 0) :: (.int 0 0) :: (.int 0 0) :: (.int 0 0) :: (.int 3 0) :: (.ref 211) :: (.bool .true) :: (.int 181 0) :: (.ref 212) :: .none :: (.ref 213) :: (.ref 214) :: (.ref 215) :: (.int 484 0) :: (.int 146 0) :: (.str "/claim/cut.py" 485) :: [])), #[]⟩) ::
  (nat_lit 217, fo217.1) ::
  (nat_lit 218, ⟨.type "tuple", .none, .seq #[] 0, #[]⟩) ::
  (nat_lit 220, ⟨.type "tuple", .none, .seq #[] 0, #[]⟩) ::
  (nat_lit 221, ⟨.type "tuple", .none, .seq #[] 0, #[]⟩) ::
  (nat_lit 223, ⟨.type "code", .none, .fields (List.toArray ((.str "_law_BROKEN" 487) :: (.str "_law_BROKEN" 488) :: (.str "/claim/cut.py" 489) :: (.int 148 0) :: (.int 0 0) :: (.int 0 0) :: (.int 0 0) :: (.int 3 0) :: (.ref 218) :: (.bool .true) :: (.int 181 0) :: (.ref 219) :: .none :: (.ref 220) :: (.ref 221) :: (.ref 222) :: (.int 490 0) :: (.int 148 0) :: (.str "/claim/cut.py" 491) :: [])), #[]⟩) ::
  (nat_lit 224, fo224.1) ::
  (nat_lit 225, ⟨.type "tuple", .none, .seq #[] 0, #[]⟩) ::
  (nat_lit 227, ⟨.type "tuple", .none, .seq #[] 0, #[]⟩) ::
  (nat_lit 228, ⟨.type "tuple", .none, .seq #[] 0, #[]⟩) ::
  (nat_lit 230, ⟨.type "code", .none, .fields (List.toArray ((.str "_law_WORDS" 493) :: (.str "_law_WORDS" 494) :: (.str "/claim/cut.py" 495) :: (.int 150 0) :: (.int 0 0) :: (.int 0 0) :: (.int 0 0) :: (.int 3 0) :: (.ref 225) :: (.bool .true) :: (.int 181 0) :: (.ref 226) :: .none :: (.ref 227) :: (.ref 228) :: (.ref 229) :: (.int 496 0) :: (.int 150 0) :: (.str "/claim/cut.py" 497) :: [])), #[]⟩) ::
  (nat_lit 231, fo231.1) ::
  (nat_lit 232, ⟨.type "tuple", .none, .seq #[] 0, #[]⟩) ::
  (nat_lit 234, ⟨.type "tuple", .none, .seq #[] 0, #[]⟩) ::
  (nat_lit 235, ⟨.type "tuple", .none, .seq #[] 0, #[]⟩) ::
  (nat_lit 237, ⟨.type "code", .none, .fields (List.toArray ((.str "_law_NUMBERS" 499) :: (.str "_law_NUMBERS" 500) :: (.str "/claim/cut.py" 501) :: (.int 152 0) :: (.int 0 0) :: (.int 0 0) :: (.int 0 0) :: (.int 3 0) :: (.ref 232) :: (.bool .true) :: (.int 181 0) :: (.ref 233) :: .none :: (.ref 234) :: (.ref 235) :: (.ref 236) :: (.int 502 0) :: (.int 152 0) :: (.str "/claim/cut.py" 503) :: [])), #[]⟩) ::
  (nat_lit 238, fo238.1) ::
  (nat_lit 239, ⟨.type "tuple", .none, .seq #[] 0, #[]⟩) ::
  (nat_lit 241, ⟨.type "tuple", .none, .seq #[] 0, #[]⟩) ::
  (nat_lit 242, ⟨.type "tuple", .none, .seq #[] 0, #[]⟩) ::
  (nat_lit 244, ⟨.type "code", .none, .fields (List.toArray ((.str "_law_SIGNS" 505) :: (.str "_law_SIGNS" 506) :: (.str "/claim/cut.py" 507) :: (.int 154 0) :: (.int 0 0) :: (.int 0 0) :: (.int 0 0) :: (.int 3 0) :: (.ref 239) :: (.bool .true) :: (.int 181 0) :: (.ref 240) :: .none :: (.ref 241) :: (.ref 242) :: (.ref 243) :: (.int 508 0) :: (.int 154 0) :: (.str "/claim/cut.py" 509) :: [])), #[]⟩) ::
  (nat_lit 245, fo245.1) ::
  (nat_lit 246, ⟨.type "tuple", .none, .seq #[] 0, #[]⟩) ::
  (nat_lit 248, ⟨.type "tuple", .none, .seq #[] 0, #[]⟩) ::
  (nat_lit 249, ⟨.type "tuple", .none, .seq #[] 0, #[]⟩) ::
  (nat_lit 251, ⟨.type "code", .none, .fields (List.toArray ((.str "_law_BLANKS" 511) :: (.str "_law_BLANKS" 512) :: (.str "/claim/cut.py" 513) :: (.int 156 0) :: (.int 0 0) :: (.int 0 0) :: (.int 0 0) :: (.int 3 0) :: (.ref 246) :: (.bool .true) :: (.int 181 0) :: (.ref 247) :: .none :: (.ref 248) :: (.ref 249) :: (.ref 250) :: (.int 514 0) :: (.int 156 0) :: (.str "/claim/cut.py" 515) :: [])), #[]⟩) ::
  (nat_lit 252, fo252.1) ::
  (nat_lit 253, ⟨.type "tuple", .none, .seq #[] 0, #[]⟩) ::
  (nat_lit 255, ⟨.type "tuple", .none, .seq #[] 0, #[]⟩) ::
  (nat_lit 256, ⟨.type "tuple", .none, .seq #[] 0, #[]⟩) ::
  (nat_lit 258, ⟨.type "code", .none, .fields (List.toArray ((.str "_law_FLAGS" 517) :: (.str "_law_FLAGS" 518) :: (.str "/claim/cut.py" 519) :: (.int 158 0) :: (.int 0 0) :: (.int 0 0) :: (.int 0 0) :: (.int 3 0) :: (.ref 253) :: (.bool .true) :: (.int 181 0) :: (.ref 254) :: .none :: (.ref 255) :: (.ref 256) :: (.ref 257) :: (.int 520 0) :: (.int 158 0) :: (.str "/claim/cut.py" 521) :: [])), #[]⟩) ::
  (nat_lit 259, fo259.1) ::
  (nat_lit 260, ⟨.type "tuple", .none, .seq #[] 0, #[]⟩) ::
  (nat_lit 262, ⟨.type "tuple", .none, .seq #[.str "tape" 526] 0, #[]⟩) ::
  (nat_lit 263, ⟨.type "tuple", .none, .seq #[] 0, #[]⟩) ::
  (nat_lit 265, ⟨.type "code", .none, .fields (List.toArray ((.str "_law_next" 523) :: (.str "_law_next" 524) :: (.str "/claim/cut.py" 525) :: (.int 160 0) :: (.int 1 0) :: (.int 0 0) :: (.int 0 0) :: (.int 3 0) :: (.ref 260) :: (.bool .true) :: (.int 181 0) :: (.ref 261) :: .none :: (.ref 262) :: (.ref 263) :: (.ref 264) :: (.int 527 0) :: (.int 160 0) :: (.str "/claim/cut.py" 528) :: [])), #[]⟩) ::
  (nat_lit 266, fo266.1) ::
  (nat_lit 267, ⟨.type "tuple", .none, .seq #[] 0, #[]⟩) ::
  (nat_lit 269, ⟨.type "tuple", .none, .seq #[.str "value" 533, .str "base" 534, .str "many" 535, .str "signs" 536, .str "text" 537, .str "turn" 538] 0, #[]⟩) ::
  (nat_lit 270, ⟨.type "tuple", .none, .seq #[] 0, #[]⟩) ::
  (nat_lit 272, ⟨.type "code", .none, .fields (List.toArray ((.str "_law_digits" 530) :: (.str "_law_digits" 531) :: (.str "/claim/cut.py" 532) :: (.int 162 0) :: (.int 4 0) :: (.int 0 0) :: (.int 0 0) :: (.int 3 0) :: (.ref 267) :: (.bool .true) :: (.int 181 0) :: (.ref 268) :: .none :: (.ref 269) :: (.ref 270) :: (.ref 271) :: (.int 539 0) :: (.int 162 0) :: (.str "/claim/cut.py" 540) :: [])), #[]⟩) ::
  (nat_lit 273, fo273.1) ::
  (nat_lit 274, ⟨.type "tuple", .none, .seq #[] 0, #[]⟩) ::
  (nat_lit 276, ⟨.type "tuple", .none, .seq #[.str "n" 545, .str "kind" 546, .str "v" 547, .str "signs" 548] 0, #[]⟩) ::
  (nat_lit 277, ⟨.type "tuple", .none, .seq #[] 0, #[]⟩) ::
  (nat_lit 279, ⟨.type "code", .none, .fields (List.toArray ((.str "_law_piece" 542) :: (.str "_law_piece" 543) :: (.str "/claim/cut.py" 544) :: (.int 168 0) :: (.int 1 0) :: (.int 0 0) :: (.int 0 0) :: (.int 3 0) :: (.ref 274) :: (.bool .true) :: (.int 181 0) :: (.ref 275) :: .none :: (.ref 276) :: (.ref 277) :: (.ref 278) :: (.int 549 0) :: (.int 168 0) :: (.str "/claim/cut.py" 550) :: [])), #[]⟩) ::
  (nat_lit 280, fo280.1) ::
  (nat_lit 281, ⟨.type "tuple", .none, .seq #[] 0, #[]⟩) ::
  (nat_lit 283, ⟨.type "tuple", .none, .seq #[.str "text" 555, .str "signs" 556, .str "many" 557, .str "sign" 558] 0, #[]⟩) ::
  (nat_lit 284, ⟨.type "tuple", .none, .seq #[] 0, #[]⟩) ::
  (nat_lit 286, ⟨.type "code", .none, .fields (List.toArray ((.str "_law_run" 552) :: (.str "_law_run" 553) :: (.str "/claim/cut.py" 554) :: (.int 194 0) :: (.int 2 0) :: (.int 0 0) :: (.int 0 0) :: (.int 3 0) :: (.ref 281) :: (.bool .true) :: (.int 181 0) :: (.ref 282) :: .none :: (.ref 283) :: (.ref 284) :: (.ref 285) :: (.int 559 0) :: (.int 194 0) :: (.str "/claim/cut.py" 560) :: [])), #[]⟩) ::
  (nat_lit 287, fo287.1) ::
  (nat_lit 288, ⟨.type "tuple", .none, .seq #[] 0, #[]⟩) ::
  (nat_lit 290, ⟨.type "tuple", .none, .seq #[.str "digits" 565, .str "base" 566, .str "worth" 567, .str "sign" 568, .str "at" 569] 0, #[]⟩) ::
  (nat_lit 291, ⟨.type "tuple", .none, .seq #[] 0, #[]⟩) ::
  (nat_lit 293, ⟨.type "code", .none, .fields (List.toArray ((.str "_law_worth" 562) :: (.str "_law_worth" 563) :: (.str "/claim/cut.py" 564) :: (.int 201 0) :: (.int 2 0) :: (.int 0 0) :: (.int 0 0) :: (.int 3 0) :: (.ref 288) :: (.bool .true) :: (.int 181 0) :: (.ref 289) :: .none :: (.ref 290) :: (.ref 291) :: (.ref 292) :: (.int 570 0) :: (.int 201 0) :: (.str "/claim/cut.py" 571) :: [])), #[]⟩) ::
  (nat_lit 294, fo294.1) ::
  (nat_lit 295, ⟨.type "tuple", .none, .seq #[] 0, #[]⟩) ::
  (nat_lit 297, ⟨.type "tuple", .none, .seq #[.str "part" 576, .str "octal" 577, .str "spot" 578, .str "many" 579, .str "take" 580] 0, #[]⟩) ::
  (nat_lit 298, ⟨.type "tuple", .none, .seq #[] 0, #[]⟩) ::
  (nat_lit 300, ⟨.type "code", .none, .fields (List.toArray ((.str "_law_escape" 573) :: (.str "_law_escape" 574) :: (.str "/claim/cut.py" 575) :: (.int 207 0) :: (.int 1 0) :: (.int 0 0) :: (.int 0 0) :: (.int 3 0) :: (.ref 295) :: (.bool .true) :: (.int 181 0) :: (.ref 296) :: .none :: (.ref 297) :: (.ref 298) :: (.ref 299) :: (.int 581 0) :: (.int 207 0) :: (.str "/claim/cut.py" 582) :: [])), #[]⟩) ::
  (nat_lit 301, fo301.1) ::
  (nat_lit 302, ⟨.type "tuple", .none, .seq #[] 0, #[]⟩) ::
  (nat_lit 304, ⟨.type "tuple", .none, .seq #[.str "text" 587, .str "parts" 588, .str "out" 589, .str "at" 590] 0, #[]⟩) ::
  (nat_lit 305, ⟨.type "tuple", .none, .seq #[] 0, #[]⟩) ::
  (nat_lit 307, ⟨.type "code", .none, .fields (List.toArray ((.str "_law_read" 584) :: (.str "_law_read" 585) :: (.str "/claim/cut.py" 586) :: (.int 225 0) :: (.int 1 0) :: (.int 0 0) :: (.int 0 0) :: (.int 3 0) :: (.ref 302) :: (.bool .true) :: (.int 181 0) :: (.ref 303) :: .none :: (.ref 304) :: (.ref 305) :: (.ref 306) :: (.int 591 0) :: (.int 225 0) :: (.str "/claim/cut.py" 592) :: [])), #[]⟩) ::
  (nat_lit 308, fo308.1) ::
  (nat_lit 309, ⟨.type "tuple", .none, .seq #[] 0, #[]⟩) ::
  (nat_lit 312, ⟨.type "code", .none, .fields (List.toArray ((.str "law" 594) :: (.str "law" 595) :: (.str "/claim/cut.py" 596) :: (.int 239 0) :: (.int 1 0) :: (.int 0 0) :: (.int 0 0) :: (.int 3 0) :: (.ref 309) :: (.bool .true) :: (.int 181 0) :: (.ref 310) :: .none :: .none :: .none :: (.ref 311) :: (.int 597 0) :: (.int 239 0) :: (.str "/claim/cut.py" 598) :: [])), #[]⟩) ::
  (nat_lit 313, fo313.1) ::
  []
-- names taken on purpose: where the name of a twin stands already, the head lays none (the twins of theorem top would fill 30 MB); nothing uses these numbers
noncomputable def top.tw2015641974485473402 : Nat := 0
noncomputable def top.tw12839648386862920564 : Nat := 0
noncomputable def top.tw9437893007894698314 : Nat := 0
noncomputable def top.tw15633271436835462780 : Nat := 0
noncomputable def top.tw607988649233969195 : Nat := 0
noncomputable def top.tw11352594458161858170 : Nat := 0
noncomputable def top.tw17746469131012936561 : Nat := 0
noncomputable def top.tw7271442835524344197 : Nat := 0
noncomputable def top.tw5926821756582167016 : Nat := 0
noncomputable def top.tw3474246075231452896 : Nat := 0
noncomputable def top.tw3337584539547039419 : Nat := 0
noncomputable def top.tw6735068310419243818 : Nat := 0
noncomputable def top.tw9068506458530023791 : Nat := 0
noncomputable def top.tw11386003804874399013 : Nat := 0
noncomputable def top.tw11613256710310857696 : Nat := 0
noncomputable def top.tw72247145696351765 : Nat := 0
noncomputable def top.tw15911845374378037316 : Nat := 0
noncomputable def top.tw8139039716903228087 : Nat := 0
noncomputable def top.tw14390669486469195807 : Nat := 0
noncomputable def top.tw13822267516522204269 : Nat := 0
noncomputable def top.tw3987481527375984800 : Nat := 0
noncomputable def top.tw18085771088847121727 : Nat := 0
noncomputable def top.tw1617357707322924660 : Nat := 0
noncomputable def top.tw12718909917080609646 : Nat := 0
noncomputable def top.tw7271667993632884009 : Nat := 0
noncomputable def top.tw919456116618348977 : Nat := 0
noncomputable def top.tw8443935842833279946 : Nat := 0
noncomputable def top.tw13167192345115511175 : Nat := 0
noncomputable def top.tw15878805988109762761 : Nat := 0
noncomputable def top.tw7590842439687088537 : Nat := 0
noncomputable def top.tw13160728816969591200 : Nat := 0
noncomputable def top.tw3422688185749166683 : Nat := 0
noncomputable def top.tw15169761463676818070 : Nat := 0
noncomputable def top.tw14611434983143301774 : Nat := 0
noncomputable def top.tw7198060816514059695 : Nat := 0
noncomputable def top.tw15240379268576122478 : Nat := 0
noncomputable def top.tw8813761850579938390 : Nat := 0
noncomputable def top.tw15299407806266782574 : Nat := 0
noncomputable def top.tw13359135706311490777 : Nat := 0
noncomputable def top.tw9059832203979395877 : Nat := 0
noncomputable def top.tw9229161468869434483 : Nat := 0
noncomputable def top.tw15092371282622821202 : Nat := 0
noncomputable def top.tw3195968871104189447 : Nat := 0
noncomputable def top.tw5969682004907312646 : Nat := 0
noncomputable def top.tw788273225186049534 : Nat := 0
noncomputable def top.tw7557910624720293991 : Nat := 0
noncomputable def top.tw17469865338272021226 : Nat := 0
noncomputable def top.tw16174758807025615021 : Nat := 0
noncomputable def top.tw14861896470697024400 : Nat := 0
noncomputable def top.tw15058813355848621054 : Nat := 0
noncomputable def top.tw3730354652608582461 : Nat := 0
noncomputable def top.tw7527032243904285869 : Nat := 0
noncomputable def top.tw5105846836358774362 : Nat := 0
noncomputable def top.tw2145171640123136144 : Nat := 0
noncomputable def top.tw15177526630643400193 : Nat := 0
noncomputable def top.tw12958502747184954254 : Nat := 0
noncomputable def top.tw10773188271377071773 : Nat := 0
noncomputable def top.tw1142415686869020238 : Nat := 0
noncomputable def top.tw105208000716104510 : Nat := 0
noncomputable def top.tw16123964013534891561 : Nat := 0
noncomputable def top.tw11858546649754279707 : Nat := 0
noncomputable def top.tw13091174067606910046 : Nat := 0
noncomputable def top.tw2287823674025257028 : Nat := 0
noncomputable def top.tw1195175773429642966 : Nat := 0
noncomputable def top.tw9305691244287143441 : Nat := 0
noncomputable def top.tw4213018616267185653 : Nat := 0
noncomputable def top.tw15976228082101565994 : Nat := 0
noncomputable def top.tw5766051744304087583 : Nat := 0
noncomputable def top.tw11960245374511038805 : Nat := 0
noncomputable def top.tw12012865196380796599 : Nat := 0
noncomputable def top.tw7297446738713254254 : Nat := 0
noncomputable def top.tw17355269125676882429 : Nat := 0
noncomputable def top.tw8538268897159353584 : Nat := 0
noncomputable def top.tw15362295582089109014 : Nat := 0
noncomputable def top.tw2218668502564051296 : Nat := 0
noncomputable def top.tw8265191368974092141 : Nat := 0
noncomputable def top.tw13369591340354186047 : Nat := 0
noncomputable def top.tw4186445540838780016 : Nat := 0
noncomputable def top.tw1814787853859245837 : Nat := 0
noncomputable def top.tw8321918168302905379 : Nat := 0
noncomputable def top.tw728428047077509346 : Nat := 0
noncomputable def top.tw13370750898655102155 : Nat := 0
noncomputable def top.tw13896958669275611876 : Nat := 0
noncomputable def top.tw10936122117785486979 : Nat := 0
noncomputable def top.tw12392516345856041104 : Nat := 0
noncomputable def top.tw14282377253939248939 : Nat := 0
noncomputable def top.tw13345470168829271861 : Nat := 0
noncomputable def top.tw16795567611416646642 : Nat := 0
noncomputable def top.tw9503340733035011235 : Nat := 0
noncomputable def top.tw14826035006057030972 : Nat := 0
noncomputable def top.tw7429413206186439793 : Nat := 0
noncomputable def top.tw15569959144833144457 : Nat := 0
noncomputable def top.tw16325430554902658873 : Nat := 0
noncomputable def top.tw1047907039808853306 : Nat := 0
noncomputable def top.tw8184561461823581802 : Nat := 0
noncomputable def top.tw6664487174759623829 : Nat := 0
noncomputable def top.tw2812155379371279736 : Nat := 0
noncomputable def top.tw13177472732611162249 : Nat := 0
noncomputable def top.tw14502225709538309166 : Nat := 0
noncomputable def top.tw13889484949932952446 : Nat := 0
noncomputable def top.tw517144808224063464 : Nat := 0
noncomputable def top.tw6883741973766446791 : Nat := 0
noncomputable def top.tw4047667213573674445 : Nat := 0
noncomputable def top.tw15646934709686841381 : Nat := 0
noncomputable def top.tw9059672392935016618 : Nat := 0
noncomputable def top.tw18034075008235765660 : Nat := 0
noncomputable def top.tw814325599930780420 : Nat := 0
noncomputable def top.tw12342655685612074800 : Nat := 0
noncomputable def top.tw13928562000808390012 : Nat := 0
noncomputable def top.tw1284575025550258836 : Nat := 0
noncomputable def top.tw5244899138074338376 : Nat := 0
noncomputable def top.tw1516213087968936877 : Nat := 0
noncomputable def top.tw11334415319851112604 : Nat := 0
noncomputable def top.tw10448899703829047738 : Nat := 0
noncomputable def top.tw987869383939708018 : Nat := 0
noncomputable def top.tw6286779285267259847 : Nat := 0
noncomputable def top.tw6187478851450931391 : Nat := 0
noncomputable def top.tw877433047237710547 : Nat := 0
noncomputable def top.tw14142502885225118848 : Nat := 0
noncomputable def top.tw7414872774492366064 : Nat := 0
noncomputable def top.tw8810280945414196856 : Nat := 0
noncomputable def top.tw6491118196486620199 : Nat := 0
noncomputable def top.tw13120753694373217308 : Nat := 0
noncomputable def top.tw6240723676877644813 : Nat := 0
noncomputable def top.tw5118827330378232414 : Nat := 0
noncomputable def top.tw390997316461189296 : Nat := 0
noncomputable def top.tw7830913209206220567 : Nat := 0
noncomputable def top.tw14371913498598963198 : Nat := 0
noncomputable def top.tw17323899518341599180 : Nat := 0
noncomputable def top.tw7008692893051332821 : Nat := 0
noncomputable def top.tw339143206060000330 : Nat := 0
noncomputable def top.tw1400011881503588481 : Nat := 0
noncomputable def top.tw2988451766255067171 : Nat := 0
noncomputable def top.tw17046948494117081484 : Nat := 0
noncomputable def top.tw2443449257678562572 : Nat := 0
noncomputable def top.tw2581206410525282061 : Nat := 0
noncomputable def top.tw12376051458212225564 : Nat := 0
noncomputable def top.tw2782073688633401757 : Nat := 0
noncomputable def top.tw6761616313442571491 : Nat := 0
noncomputable def top.tw17428532607074087071 : Nat := 0
noncomputable def top.tw17886615442053742456 : Nat := 0
noncomputable def top.tw342308947776675178 : Nat := 0
noncomputable def top.tw11430207588045935325 : Nat := 0
noncomputable def top.tw8507776931139520737 : Nat := 0
noncomputable def top.tw2732273902793177162 : Nat := 0
noncomputable def top.tw1275901062530889299 : Nat := 0
noncomputable def top.tw1088946173253831356 : Nat := 0
noncomputable def top.tw16840627104734473223 : Nat := 0
noncomputable def top.tw81815255157605957 : Nat := 0
noncomputable def top.tw8694864300669457046 : Nat := 0
noncomputable def top.tw4551080515912023512 : Nat := 0
noncomputable def top.tw649594095290182367 : Nat := 0
noncomputable def top.tw10005945817407372193 : Nat := 0
noncomputable def top.tw11922380849998532372 : Nat := 0
noncomputable def top.tw10915162052029792233 : Nat := 0
noncomputable def top.tw11459358961799972967 : Nat := 0
noncomputable def top.tw14917401599646851644 : Nat := 0
noncomputable def top.tw2731995056826638727 : Nat := 0
noncomputable def top.tw12318557346453588183 : Nat := 0
noncomputable def top.tw2057334267981633021 : Nat := 0
noncomputable def top.tw1869187583165140508 : Nat := 0
noncomputable def top.tw12540527436937284434 : Nat := 0
noncomputable def top.tw3969286963782609292 : Nat := 0
noncomputable def top.tw5667650583090716360 : Nat := 0
noncomputable def top.tw6473336682457920079 : Nat := 0
noncomputable def top.tw13264354339760550358 : Nat := 0
noncomputable def top.tw453181688931711583 : Nat := 0
noncomputable def top.tw2741389259953327712 : Nat := 0
noncomputable def top.tw8598144960395782539 : Nat := 0
noncomputable def top.tw4205137553216949640 : Nat := 0
noncomputable def top.tw5909839574239540854 : Nat := 0
noncomputable def top.tw4671429814451907529 : Nat := 0
noncomputable def top.tw16155163154822807229 : Nat := 0
noncomputable def top.tw16759092144687519636 : Nat := 0
noncomputable def top.tw11133666699803404755 : Nat := 0
noncomputable def top.tw8363718466572441477 : Nat := 0
noncomputable def top.tw795583310449317561 : Nat := 0
noncomputable def top.tw10090393231696489298 : Nat := 0
noncomputable def top.tw216529984938456764 : Nat := 0
noncomputable def top.tw2514443458684651071 : Nat := 0
noncomputable def top.tw16420938139371093754 : Nat := 0
noncomputable def top.tw8689318265317240412 : Nat := 0
noncomputable def top.tw8640399195822439974 : Nat := 0
noncomputable def top.tw7673058066778466091 : Nat := 0
noncomputable def top.tw4655869559712951663 : Nat := 0
noncomputable def top.tw1736530178072539846 : Nat := 0
noncomputable def top.tw2464713573024523455 : Nat := 0
noncomputable def top.tw16666122058527598403 : Nat := 0
noncomputable def top.tw6520327441239513222 : Nat := 0
noncomputable def top.tw14372152842798730730 : Nat := 0
noncomputable def top.tw18186074749648716422 : Nat := 0
noncomputable def top.tw2462062305354472974 : Nat := 0
noncomputable def top.tw14168018189251442112 : Nat := 0
noncomputable def top.tw5868845118606482295 : Nat := 0
noncomputable def top.tw16058212318047004132 : Nat := 0
noncomputable def top.tw18194552166560175392 : Nat := 0
noncomputable def top.tw17470836177267949868 : Nat := 0
noncomputable def top.tw2985252069258134486 : Nat := 0
noncomputable def top.tw17492772389151264855 : Nat := 0
noncomputable def top.tw705360758644809490 : Nat := 0
noncomputable def top.tw775762912060472103 : Nat := 0
noncomputable def top.tw12535971307161669396 : Nat := 0
noncomputable def top.tw14901070454687303710 : Nat := 0
noncomputable def top.tw17555251805378815213 : Nat := 0
noncomputable def top.tw16439428074185983240 : Nat := 0
noncomputable def top.tw12385144161495827662 : Nat := 0
noncomputable def top.tw12643491718579748851 : Nat := 0
noncomputable def top.tw5523086135645875356 : Nat := 0
noncomputable def top.tw7458633546980236471 : Nat := 0
noncomputable def top.tw2555065506035805374 : Nat := 0
noncomputable def top.tw5058314954733539658 : Nat := 0
noncomputable def top.tw2617719716777270872 : Nat := 0
noncomputable def top.tw2924597203103170677 : Nat := 0
noncomputable def top.tw4656485037274611717 : Nat := 0
noncomputable def top.tw1139600151236580504 : Nat := 0
noncomputable def top.tw10996937224433265937 : Nat := 0
noncomputable def top.tw14459580976405569124 : Nat := 0
noncomputable def top.tw16580785732701462914 : Nat := 0
noncomputable def top.tw2249405535684624136 : Nat := 0
noncomputable def top.tw9335426496214029073 : Nat := 0
noncomputable def top.tw4498253355057717688 : Nat := 0
noncomputable def top.tw10617020205504526918 : Nat := 0
noncomputable def top.tw17177869089781658578 : Nat := 0
noncomputable def top.tw1212798325632107971 : Nat := 0
noncomputable def top.tw16273406610938067001 : Nat := 0
noncomputable def top.tw5278709424875269971 : Nat := 0
noncomputable def top.tw12425085872883035938 : Nat := 0
noncomputable def top.tw2007660962349395123 : Nat := 0
noncomputable def top.tw6885214360128481674 : Nat := 0
noncomputable def top.tw16196420915677631385 : Nat := 0
noncomputable def top.tw7990429038631628895 : Nat := 0
noncomputable def top.tw12166907935582030026 : Nat := 0
noncomputable def top.tw15860264024139754761 : Nat := 0
noncomputable def top.tw5476889619067714990 : Nat := 0
noncomputable def top.tw9259421805112917234 : Nat := 0
noncomputable def top.tw1149218181149386328 : Nat := 0
noncomputable def top.tw16713831800681072344 : Nat := 0
noncomputable def top.tw8204474986945543665 : Nat := 0
noncomputable def top.tw9768079942903668216 : Nat := 0
noncomputable def top.tw14608685727046917156 : Nat := 0
noncomputable def top.tw10187264123177260123 : Nat := 0
noncomputable def top.tw887695700811335699 : Nat := 0
noncomputable def top.tw14789260269991461300 : Nat := 0
noncomputable def top.tw11762496359356365647 : Nat := 0
noncomputable def top.tw14402358008270493973 : Nat := 0
noncomputable def top.tw10956490626425055710 : Nat := 0
noncomputable def top.tw8735323631387419056 : Nat := 0
noncomputable def top.tw12787338502077490372 : Nat := 0
noncomputable def top.tw9631074621892390191 : Nat := 0
noncomputable def top.tw7847650389618582240 : Nat := 0
noncomputable def top.tw12622177474791663080 : Nat := 0
noncomputable def top.tw12094960947251128927 : Nat := 0
noncomputable def top.tw13272337422414781067 : Nat := 0
noncomputable def top.tw5225153198818245361 : Nat := 0
noncomputable def top.tw14349089067433371257 : Nat := 0
noncomputable def top.tw3561193834555079511 : Nat := 0
noncomputable def top.tw6127594578889010139 : Nat := 0
noncomputable def top.tw352232786441526191 : Nat := 0
noncomputable def top.tw10404823597219466188 : Nat := 0
noncomputable def top.tw2867133514656366558 : Nat := 0
noncomputable def top.tw4321519831107876412 : Nat := 0
noncomputable def top.tw12483720753089274532 : Nat := 0
noncomputable def top.tw708234853630380328 : Nat := 0
noncomputable def top.tw956942650209027819 : Nat := 0
noncomputable def top.tw16782997733028217545 : Nat := 0
noncomputable def top.tw9800703332001039478 : Nat := 0
noncomputable def top.tw15985961358823992270 : Nat := 0
noncomputable def top.tw2835187731363253809 : Nat := 0
noncomputable def top.tw8435561252592420358 : Nat := 0
noncomputable def top.tw9108098604805947806 : Nat := 0
noncomputable def top.tw6438537300738474071 : Nat := 0
noncomputable def top.tw6694047246710070196 : Nat := 0
noncomputable def top.tw860223938195835975 : Nat := 0
noncomputable def top.tw13501252493785611398 : Nat := 0
noncomputable def top.tw7740461459972228597 : Nat := 0
noncomputable def top.tw14987219478266130788 : Nat := 0
noncomputable def top.tw1245559373397905713 : Nat := 0
noncomputable def top.tw11334350811105764591 : Nat := 0
noncomputable def top.tw4571971715460732019 : Nat := 0
noncomputable def top.tw18008055252877512497 : Nat := 0
noncomputable def top.tw4713442408853163898 : Nat := 0
noncomputable def top.tw6333448901615975916 : Nat := 0
noncomputable def top.tw8143265674769528471 : Nat := 0
noncomputable def top.tw2126296398998916975 : Nat := 0
noncomputable def top.tw8679839319945467846 : Nat := 0
noncomputable def top.tw5303079699428457377 : Nat := 0
noncomputable def top.tw9759319705405543751 : Nat := 0
noncomputable def top.tw16044733080236030384 : Nat := 0
noncomputable def top.tw3776753064480771068 : Nat := 0
noncomputable def top.tw5889316905344633881 : Nat := 0
noncomputable def top.tw15503665604740900718 : Nat := 0
noncomputable def top.tw4166218997396506358 : Nat := 0
noncomputable def top.tw11423202765487971197 : Nat := 0
noncomputable def top.tw2369445192022557226 : Nat := 0
noncomputable def top.tw9961057766049560675 : Nat := 0
section
/- eliminations of one step (small proof terms) -/
theorem ex2 {α1 α2 : Type} {P : α1 → α2 → Prop} {G : Prop} (h : ∃ a1 a2, P a1 a2) (k : ∀ a1 a2, P a1 a2 → G) : G := h.elim fun a h => h.elim (k a)
theorem ex3 {α1 α2 α3 : Type} {P : α1 → α2 → α3 → Prop} {G : Prop} (h : ∃ a1 a2 a3, P a1 a2 a3) (k : ∀ a1 a2 a3, P a1 a2 a3 → G) : G := h.elim fun a h => ex2 h (k a)
theorem ex4 {α1 α2 α3 α4 : Type} {P : α1 → α2 → α3 → α4 → Prop} {G : Prop} (h : ∃ a1 a2 a3 a4, P a1 a2 a3 a4) (k : ∀ a1 a2 a3 a4, P a1 a2 a3 a4 → G) : G := h.elim fun a h => ex3 h (k a)
theorem ex5 {α1 α2 α3 α4 α5 : Type} {P : α1 → α2 → α3 → α4 → α5 → Prop} {G : Prop} (h : ∃ a1 a2 a3 a4 a5, P a1 a2 a3 a4 a5) (k : ∀ a1 a2 a3 a4 a5, P a1 a2 a3 a4 a5 → G) : G := h.elim fun a h => ex4 h (k a)
theorem ex6 {α1 α2 α3 α4 α5 α6 : Type} {P : α1 → α2 → α3 → α4 → α5 → α6 → Prop} {G : Prop} (h : ∃ a1 a2 a3 a4 a5 a6, P a1 a2 a3 a4 a5 a6) (k : ∀ a1 a2 a3 a4 a5 a6, P a1 a2 a3 a4 a5 a6 → G) : G := h.elim fun a h => ex5 h (k a)
theorem ex7 {α1 α2 α3 α4 α5 α6 α7 : Type} {P : α1 → α2 → α3 → α4 → α5 → α6 → α7 → Prop} {G : Prop} (h : ∃ a1 a2 a3 a4 a5 a6 a7, P a1 a2 a3 a4 a5 a6 a7) (k : ∀ a1 a2 a3 a4 a5 a6 a7, P a1 a2 a3 a4 a5 a6 a7 → G) : G := h.elim fun a h => ex6 h (k a)
theorem ex8 {α1 α2 α3 α4 α5 α6 α7 α8 : Type} {P : α1 → α2 → α3 → α4 → α5 → α6 → α7 → α8 → Prop} {G : Prop} (h : ∃ a1 a2 a3 a4 a5 a6 a7 a8, P a1 a2 a3 a4 a5 a6 a7 a8) (k : ∀ a1 a2 a3 a4 a5 a6 a7 a8, P a1 a2 a3 a4 a5 a6 a7 a8 → G) : G := h.elim fun a h => ex7 h (k a)
theorem ex9 {α1 α2 α3 α4 α5 α6 α7 α8 α9 : Type} {P : α1 → α2 → α3 → α4 → α5 → α6 → α7 → α8 → α9 → Prop} {G : Prop} (h : ∃ a1 a2 a3 a4 a5 a6 a7 a8 a9, P a1 a2 a3 a4 a5 a6 a7 a8 a9) (k : ∀ a1 a2 a3 a4 a5 a6 a7 a8 a9, P a1 a2 a3 a4 a5 a6 a7 a8 a9 → G) : G := h.elim fun a h => ex8 h (k a)
theorem ex10 {α1 α2 α3 α4 α5 α6 α7 α8 α9 α10 : Type} {P : α1 → α2 → α3 → α4 → α5 → α6 → α7 → α8 → α9 → α10 → Prop} {G : Prop} (h : ∃ a1 a2 a3 a4 a5 a6 a7 a8 a9 a10, P a1 a2 a3 a4 a5 a6 a7 a8 a9 a10) (k : ∀ a1 a2 a3 a4 a5 a6 a7 a8 a9 a10, P a1 a2 a3 a4 a5 a6 a7 a8 a9 a10 → G) : G := h.elim fun a h => ex9 h (k a)
theorem ex11 {α1 α2 α3 α4 α5 α6 α7 α8 α9 α10 α11 : Type} {P : α1 → α2 → α3 → α4 → α5 → α6 → α7 → α8 → α9 → α10 → α11 → Prop} {G : Prop} (h : ∃ a1 a2 a3 a4 a5 a6 a7 a8 a9 a10 a11, P a1 a2 a3 a4 a5 a6 a7 a8 a9 a10 a11) (k : ∀ a1 a2 a3 a4 a5 a6 a7 a8 a9 a10 a11, P a1 a2 a3 a4 a5 a6 a7 a8 a9 a10 a11 → G) : G := h.elim fun a h => ex10 h (k a)
theorem ex12 {α1 α2 α3 α4 α5 α6 α7 α8 α9 α10 α11 α12 : Type} {P : α1 → α2 → α3 → α4 → α5 → α6 → α7 → α8 → α9 → α10 → α11 → α12 → Prop} {G : Prop} (h : ∃ a1 a2 a3 a4 a5 a6 a7 a8 a9 a10 a11 a12, P a1 a2 a3 a4 a5 a6 a7 a8 a9 a10 a11 a12) (k : ∀ a1 a2 a3 a4 a5 a6 a7 a8 a9 a10 a11 a12, P a1 a2 a3 a4 a5 a6 a7 a8 a9 a10 a11 a12 → G) : G := h.elim fun a h => ex11 h (k a)
theorem ex13 {α1 α2 α3 α4 α5 α6 α7 α8 α9 α10 α11 α12 α13 : Type} {P : α1 → α2 → α3 → α4 → α5 → α6 → α7 → α8 → α9 → α10 → α11 → α12 → α13 → Prop} {G : Prop} (h : ∃ a1 a2 a3 a4 a5 a6 a7 a8 a9 a10 a11 a12 a13, P a1 a2 a3 a4 a5 a6 a7 a8 a9 a10 a11 a12 a13) (k : ∀ a1 a2 a3 a4 a5 a6 a7 a8 a9 a10 a11 a12 a13, P a1 a2 a3 a4 a5 a6 a7 a8 a9 a10 a11 a12 a13 → G) : G := h.elim fun a h => ex12 h (k a)
theorem an2 {p1 p2 G : Prop} (h : p1 ∧ p2) (k : p1 → p2 → G) : G := k h.1 h.2
theorem an3 {p1 p2 p3 G : Prop} (h : p1 ∧ p2 ∧ p3) (k : p1 → p2 → p3 → G) : G := k h.1 h.2.1 h.2.2
theorem an4 {p1 p2 p3 p4 G : Prop} (h : p1 ∧ p2 ∧ p3 ∧ p4) (k : p1 → p2 → p3 → p4 → G) : G := k h.1 h.2.1 h.2.2.1 h.2.2.2
theorem an5 {p1 p2 p3 p4 p5 G : Prop} (h : p1 ∧ p2 ∧ p3 ∧ p4 ∧ p5) (k : p1 → p2 → p3 → p4 → p5 → G) : G := k h.1 h.2.1 h.2.2.1 h.2.2.2.1 h.2.2.2.2
theorem an6 {p1 p2 p3 p4 p5 p6 G : Prop} (h : p1 ∧ p2 ∧ p3 ∧ p4 ∧ p5 ∧ p6) (k : p1 → p2 → p3 → p4 → p5 → p6 → G) : G := k h.1 h.2.1 h.2.2.1 h.2.2.2.1 h.2.2.2.2.1 h.2.2.2.2.2
theorem an7 {p1 p2 p3 p4 p5 p6 p7 G : Prop} (h : p1 ∧ p2 ∧ p3 ∧ p4 ∧ p5 ∧ p6 ∧ p7) (k : p1 → p2 → p3 → p4 → p5 → p6 → p7 → G) : G := k h.1 h.2.1 h.2.2.1 h.2.2.2.1 h.2.2.2.2.1 h.2.2.2.2.2.1 h.2.2.2.2.2.2
theorem an8 {p1 p2 p3 p4 p5 p6 p7 p8 G : Prop} (h : p1 ∧ p2 ∧ p3 ∧ p4 ∧ p5 ∧ p6 ∧ p7 ∧ p8) (k : p1 → p2 → p3 → p4 → p5 → p6 → p7 → p8 → G) : G := k h.1 h.2.1 h.2.2.1 h.2.2.2.1 h.2.2.2.2.1 h.2.2.2.2.2.1 h.2.2.2.2.2.2.1 h.2.2.2.2.2.2.2
theorem an9 {p1 p2 p3 p4 p5 p6 p7 p8 p9 G : Prop} (h : p1 ∧ p2 ∧ p3 ∧ p4 ∧ p5 ∧ p6 ∧ p7 ∧ p8 ∧ p9) (k : p1 → p2 → p3 → p4 → p5 → p6 → p7 → p8 → p9 → G) : G := k h.1 h.2.1 h.2.2.1 h.2.2.2.1 h.2.2.2.2.1 h.2.2.2.2.2.1 h.2.2.2.2.2.2.1 h.2.2.2.2.2.2.2.1 h.2.2.2.2.2.2.2.2
theorem an12 {p1 p2 p3 p4 p5 p6 p7 p8 p9 p10 p11 p12 G : Prop} (h : p1 ∧ p2 ∧ p3 ∧ p4 ∧ p5 ∧ p6 ∧ p7 ∧ p8 ∧ p9 ∧ p10 ∧ p11 ∧ p12) (k : p1 → p2 → p3 → p4 → p5 → p6 → p7 → p8 → p9 → p10 → p11 → p12 → G) : G := k h.1 h.2.1 h.2.2.1 h.2.2.2.1 h.2.2.2.2.1 h.2.2.2.2.2.1 h.2.2.2.2.2.2.1 h.2.2.2.2.2.2.2.1 h.2.2.2.2.2.2.2.2.1 h.2.2.2.2.2.2.2.2.2.1 h.2.2.2.2.2.2.2.2.2.2.1 h.2.2.2.2.2.2.2.2.2.2.2
theorem an13 {p1 p2 p3 p4 p5 p6 p7 p8 p9 p10 p11 p12 p13 G : Prop} (h : p1 ∧ p2 ∧ p3 ∧ p4 ∧ p5 ∧ p6 ∧ p7 ∧ p8 ∧ p9 ∧ p10 ∧ p11 ∧ p12 ∧ p13) (k : p1 → p2 → p3 → p4 → p5 → p6 → p7 → p8 → p9 → p10 → p11 → p12 → p13 → G) : G := k h.1 h.2.1 h.2.2.1 h.2.2.2.1 h.2.2.2.2.1 h.2.2.2.2.2.1 h.2.2.2.2.2.2.1 h.2.2.2.2.2.2.2.1 h.2.2.2.2.2.2.2.2.1 h.2.2.2.2.2.2.2.2.2.1 h.2.2.2.2.2.2.2.2.2.2.1 h.2.2.2.2.2.2.2.2.2.2.2.1 h.2.2.2.2.2.2.2.2.2.2.2.2
theorem an14 {p1 p2 p3 p4 p5 p6 p7 p8 p9 p10 p11 p12 p13 p14 G : Prop} (h : p1 ∧ p2 ∧ p3 ∧ p4 ∧ p5 ∧ p6 ∧ p7 ∧ p8 ∧ p9 ∧ p10 ∧ p11 ∧ p12 ∧ p13 ∧ p14) (k : p1 → p2 → p3 → p4 → p5 → p6 → p7 → p8 → p9 → p10 → p11 → p12 → p13 → p14 → G) : G := k h.1 h.2.1 h.2.2.1 h.2.2.2.1 h.2.2.2.2.1 h.2.2.2.2.2.1 h.2.2.2.2.2.2.1 h.2.2.2.2.2.2.2.1 h.2.2.2.2.2.2.2.2.1 h.2.2.2.2.2.2.2.2.2.1 h.2.2.2.2.2.2.2.2.2.2.1 h.2.2.2.2.2.2.2.2.2.2.2.1 h.2.2.2.2.2.2.2.2.2.2.2.2.1 h.2.2.2.2.2.2.2.2.2.2.2.2.2
theorem an17 {p1 p2 p3 p4 p5 p6 p7 p8 p9 p10 p11 p12 p13 p14 p15 p16 p17 G : Prop} (h : p1 ∧ p2 ∧ p3 ∧ p4 ∧ p5 ∧ p6 ∧ p7 ∧ p8 ∧ p9 ∧ p10 ∧ p11 ∧ p12 ∧ p13 ∧ p14 ∧ p15 ∧ p16 ∧ p17) (k : p1 → p2 → p3 → p4 → p5 → p6 → p7 → p8 → p9 → p10 → p11 → p12 → p13 → p14 → p15 → p16 → p17 → G) : G := k h.1 h.2.1 h.2.2.1 h.2.2.2.1 h.2.2.2.2.1 h.2.2.2.2.2.1 h.2.2.2.2.2.2.1 h.2.2.2.2.2.2.2.1 h.2.2.2.2.2.2.2.2.1 h.2.2.2.2.2.2.2.2.2.1 h.2.2.2.2.2.2.2.2.2.2.1 h.2.2.2.2.2.2.2.2.2.2.2.1 h.2.2.2.2.2.2.2.2.2.2.2.2.1 h.2.2.2.2.2.2.2.2.2.2.2.2.2.1 h.2.2.2.2.2.2.2.2.2.2.2.2.2.2.1 h.2.2.2.2.2.2.2.2.2.2.2.2.2.2.2.1 h.2.2.2.2.2.2.2.2.2.2.2.2.2.2.2.2
theorem nM2 {α : Type} {b x1 x2 : α} (h1 : b ≠ x1) (h2 : b ≠ x2) : b ∉ [x1, x2] := fun h => by
  simp only [List.mem_cons, List.not_mem_nil, or_false] at h
  rcases h with h | h
  · exact h1 h
  · exact h2 h
theorem nM3 {α : Type} {b x1 x2 x3 : α} (h1 : b ≠ x1) (h2 : b ≠ x2) (h3 : b ≠ x3) : b ∉ [x1, x2, x3] := fun h => by
  simp only [List.mem_cons, List.not_mem_nil, or_false] at h
  rcases h with h | h | h
  · exact h1 h
  · exact h2 h
  · exact h3 h
theorem nM4 {α : Type} {b x1 x2 x3 x4 : α} (h1 : b ≠ x1) (h2 : b ≠ x2) (h3 : b ≠ x3) (h4 : b ≠ x4) : b ∉ [x1, x2, x3, x4] := fun h => by
  simp only [List.mem_cons, List.not_mem_nil, or_false] at h
  rcases h with h | h | h | h
  · exact h1 h
  · exact h2 h
  · exact h3 h
  · exact h4 h
theorem al1 {α : Type} {P : α → Prop} {x1 : α} (h1 : P x1) : ∀ z ∈ [x1], P z := fun z h => by
  simp only [List.mem_cons, List.not_mem_nil, or_false] at h
  rw [h]; exact h1
theorem al2 {α : Type} {P : α → Prop} {x1 x2 : α} (h1 : P x1) (h2 : P x2) : ∀ z ∈ [x1, x2], P z := fun z h => by
  simp only [List.mem_cons, List.not_mem_nil, or_false] at h
  rcases h with h | h
  · rw [h]; exact h1
  · rw [h]; exact h2
theorem al3 {α : Type} {P : α → Prop} {x1 x2 x3 : α} (h1 : P x1) (h2 : P x2) (h3 : P x3) : ∀ z ∈ [x1, x2, x3], P z := fun z h => by
  simp only [List.mem_cons, List.not_mem_nil, or_false] at h
  rcases h with h | h | h
  · rw [h]; exact h1
  · rw [h]; exact h2
  · rw [h]; exact h3
theorem al4 {α : Type} {P : α → Prop} {x1 x2 x3 x4 : α} (h1 : P x1) (h2 : P x2) (h3 : P x3) (h4 : P x4) : ∀ z ∈ [x1, x2, x3, x4], P z := fun z h => by
  simp only [List.mem_cons, List.not_mem_nil, or_false] at h
  rcases h with h | h | h | h
  · rw [h]; exact h1
  · rw [h]; exact h2
  · rw [h]; exact h3
  · rw [h]; exact h4
theorem neN {h : Heap} {a b : Addr} {o : Obj} (n : h.get? a = none) (e : h.get? b = some o) : b ≠ a := fun q => by rw [q, n] at e; cases e
theorem ff {G : Prop} (q : false = true) : G := absurd q Bool.false_ne_true
theorem tt {G : Prop} (q : true = false) : G := absurd q.symm Bool.false_ne_true
theorem sh_eq {s s1 : Shared} {h : Heap} {t : Nat} (g : s1.gens = s.gens) (d : s1.drawn = s.drawn) (o : s1.os = s.os) : ({ s with heap := h, toks := t } : Shared) = { s1 with heap := h, toks := t } := by rw [g, d, o]
noncomputable def Ext (h h' : Heap) : Prop := ∀ b o, h.get? b = some o → h'.get? b = some o
theorem Ext.refl (h : Heap) : Ext h h := fun _ _ e => e
theorem Ext.trans {a b c : Heap} (x : Ext a b) (y : Ext b c) : Ext a c := fun p o e => y p o (x p o e)
theorem Ext.push (h : Heap) (o : Obj) : Ext h (h.push o) := fun _ _ e => Heap.get?_push_of_some _ e

/-- values -/
inductive V where
  | none
  | bool (b : Bool)
  | int (i : Int)
  | str (s : Str)
  | tup (l : List V)
  | lst (l : List V)
  | ref (a : Addr)

mutual
inductive Con (X : Addr → Prop) (h : Heap) : V → Value → Prop
  | none : Con X h .none .none
  | bool (b : Bool) : Con X h (.bool b) (.bool b)
  | int (i : Int) (t : Tok) : Con X h (.int i) (.int i t)
  | str (x : Str) (t : Tok) : Con X h (.str x) (.str x t)
  | ref (a : Addr) : Con X h (.ref a) (.ref a)
  | tup {l : List V} {vs : List Value} {a : Addr} : h.get? a = some { cls := .type "tuple", data := .seq vs.toArray } → ¬ X a → ConL X h l vs → Con X h (.tup l) (.ref a)
  | lst {l : List V} {vs : List Value} {a : Addr} {n : Nat} : h.get? a = some { cls := .type "list", data := .seq vs.toArray n } → ¬ X a → ConL X h l vs → Con X h (.lst l) (.ref a)
inductive ConL (X : Addr → Prop) (h : Heap) : List V → List Value → Prop
  | nil : ConL X h [] []
  | cons {x : V} {v : Value} {l : List V} {vs : List Value} : Con X h x v → ConL X h l vs → ConL X h (x :: l) (v :: vs)
end

section
variable {X : Addr → Prop} {h : Heap} {v : Value} {G : Value → Prop}
theorem Con.refE {a : Addr} (c : Con X h (.ref a) v) : v = .ref a := by cases c; rfl
theorem Con.noneE (c : Con X h .none v) : v = .none := by cases c; rfl
theorem Con.refG {a : Addr} (c : Con X h (.ref a) v) (k : G (.ref a)) : G v := c.refE ▸ k
theorem Con.noneG (c : Con X h .none v) (k : G .none) : G v := c.noneE ▸ k
theorem Con.boolG {b : Bool} (c : Con X h (.bool b) v) (k : G (.bool b)) : G v := by cases c; exact k
theorem Con.intG {i : Int} (c : Con X h (.int i) v) (k : ∀ t, G (.int i t)) : G v := by cases c; exact k _
theorem Con.strG {x : Str} (c : Con X h (.str x) v) (k : ∀ t, G (.str x t)) : G v := by cases c; exact k _
theorem ConL.nilG {vs : List Value} {G : List Value → Prop} (c : ConL X h [] vs) (k : G []) : G vs := by cases c; exact k
theorem ConL.consG {x : V} {l : List V} {vs : List Value} {G : List Value → Prop} (c : ConL X h (x :: l) vs) (k : ∀ v vs, Con X h x v → ConL X h l vs → G (v :: vs)) : G vs := by cases c with | cons a b => exact k _ _ a b
theorem ConL.oneG {x : V} {vs : List Value} {G : List Value → Prop} (c : ConL X h [x] vs) (k : ∀ v, Con X h x v → G [v]) : G vs := c.consG fun v _ a b => b.nilG (G := fun l => G (v :: l)) (k v a)
theorem ConL.twoG {x y : V} {vs : List Value} {G : List Value → Prop} (c : ConL X h [x, y] vs) (k : ∀ v u, Con X h x v → Con X h y u → G [v, u]) : G vs := c.consG fun v _ a b => b.oneG (G := fun l => G (v :: l)) fun u b => k v u a b
theorem ConL.threeG {x y z : V} {vs : List Value} {G : List Value → Prop} (c : ConL X h [x, y, z] vs) (k : ∀ v u t, Con X h x v → Con X h y u → Con X h z t → G [v, u, t]) : G vs := c.consG fun v _ a b => b.twoG (G := fun l => G (v :: l)) fun _ _ b d => k v _ _ a b d
theorem ConL.fourG {x y z t : V} {vs : List Value} {G : List Value → Prop} (c : ConL X h [x, y, z, t] vs) (k : ∀ v u p q, Con X h x v → Con X h y u → Con X h z p → Con X h t q → G [v, u, p, q]) : G vs := c.consG fun v _ a b => b.threeG (G := fun l => G (v :: l)) fun _ _ _ b d e => k v _ _ _ a b d e
theorem ConL.sixG {x1 x2 x3 x4 x5 x6 : V} {vs : List Value} {G : List Value → Prop} (c : ConL X h [x1, x2, x3, x4, x5, x6] vs) (k : ∀ v1 v2 v3 v4 v5 v6, Con X h x1 v1 → Con X h x2 v2 → Con X h x3 v3 → Con X h x4 v4 → Con X h x5 v5 → Con X h x6 v6 → G [v1, v2, v3, v4, v5, v6]) : G vs :=
  c.consG fun v _ a b => b.consG (G := fun l => G (v :: l)) fun u _ a2 b => b.fourG (G := fun l => G (v :: u :: l)) fun _ _ _ _ b d e f => k v u _ _ _ _ a a2 b d e f
end
/-- everything outside X stands -/
noncomputable def ExtX (X : Addr → Prop) (h h' : Heap) : Prop := ∀ b o, ¬ X b → h.get? b = some o → h'.get? b = some o
theorem Ext.toX {h h' : Heap} (e : Ext h h') (X : Addr → Prop) : ExtX X h h' := fun b o _ q => e b o q
theorem ExtX.trans {X : Addr → Prop} {a b c : Heap} (x : ExtX X a b) (y : ExtX X b c) : ExtX X a c := fun p o n e => y p o n (x p o n e)

mutual
theorem Con.keepX {X : Addr → Prop} {h h' : Heap} (k : ExtX X h h') : ∀ {x : V} {v : Value}, Con X h x v → Con X h' x v
  | _, _, .none => .none
  | _, _, .bool b => .bool b
  | _, _, .int i t => .int i t
  | _, _, .str x t => .str x t
  | _, _, .ref a => .ref a
  | _, _, .tup e n l => .tup (k _ _ n e) n (ConL.keepX k l)
  | _, _, .lst e n l => .lst (k _ _ n e) n (ConL.keepX k l)
theorem ConL.keepX {X : Addr → Prop} {h h' : Heap} (k : ExtX X h h') : ∀ {x : List V} {v : List Value}, ConL X h x v → ConL X h' x v
  | _, _, .nil => .nil
  | _, _, .cons a b => .cons (Con.keepX k a) (ConL.keepX k b)
end
theorem Con.keep {X : Addr → Prop} {h h' : Heap} (k : Ext h h') {x : V} {v : Value} (c : Con X h x v) : Con X h' x v := c.keepX (k.toX X)
theorem ConL.keep {X : Addr → Prop} {h h' : Heap} (k : Ext h h') {x : List V} {v : List Value} (c : ConL X h x v) : ConL X h' x v := c.keepX (k.toX X)

mutual
theorem Con.less {X Y : Addr → Prop} {h : Heap} (k : ∀ a, Y a → X a) : ∀ {x : V} {v : Value}, Con X h x v → Con Y h x v
  | _, _, .none => .none
  | _, _, .bool b => .bool b
  | _, _, .int i t => .int i t
  | _, _, .str x t => .str x t
  | _, _, .ref a => .ref a
  | _, _, .tup e n l => .tup e (fun y => n (k _ y)) (ConL.less k l)
  | _, _, .lst e n l => .lst e (fun y => n (k _ y)) (ConL.less k l)
theorem ConL.less {X Y : Addr → Prop} {h : Heap} (k : ∀ a, Y a → X a) : ∀ {x : List V} {v : List Value}, ConL X h x v → ConL Y h x v
  | _, _, .nil => .nil
  | _, _, .cons a b => .cons (Con.less k a) (ConL.less k b)
end

mutual
theorem Con.more {X Y : Addr → Prop} {h : Heap} (k : ∀ a, Y a → X a ∨ h.get? a = .none) : ∀ {x : V} {v : Value}, Con X h x v → Con Y h x v
  | _, _, .none => .none
  | _, _, .bool b => .bool b
  | _, _, .int i t => .int i t
  | _, _, .str x t => .str x t
  | _, _, .ref a => .ref a
  | _, _, .tup e n l => .tup e (fun y => (k _ y).elim n fun q => by rw [q] at e; cases e) (ConL.more k l)
  | _, _, .lst e n l => .lst e (fun y => (k _ y).elim n fun q => by rw [q] at e; cases e) (ConL.more k l)
theorem ConL.more {X Y : Addr → Prop} {h : Heap} (k : ∀ a, Y a → X a ∨ h.get? a = .none) : ∀ {x : List V} {v : List Value}, ConL X h x v → ConL Y h x v
  | _, _, .nil => .nil
  | _, _, .cons a b => .cons (Con.more k a) (ConL.more k b)
end

theorem ConL.length {X : Addr → Prop} {h : Heap} : ∀ {x : List V} {v : List Value}, ConL X h x v → v.length = x.length
  | _, _, .nil => rfl
  | _, _, .cons _ b => by rw [List.length_cons, List.length_cons, ConL.length b]
theorem ConL.get {X : Addr → Prop} {h : Heap} : ∀ {x : List V} {v : List Value} {i : Nat} {y : V}, ConL X h x v → x[i]? = some y → ∃ u, v[i]? = some u ∧ Con X h y u
  | _, _, _, _, .nil, e => by simp at e
  | _, _, 0, _, .cons a _, e => by simp at e; subst e; exact ⟨_, rfl, a⟩
  | _, _, i + 1, _, .cons _ b, e => by simp at e; obtain ⟨u, q, c⟩ := ConL.get b e; exact ⟨u, by simpa using q, c⟩
theorem ConL.append {X : Addr → Prop} {h : Heap} : ∀ {x y : List V} {v u : List Value}, ConL X h x v → ConL X h y u → ConL X h (x ++ y) (v ++ u)
  | _, _, _, _, .nil, q => q
  | _, _, _, _, .cons a b, q => .cons a (ConL.append b q)

/-- room around -/
structure Gd (d : Nat) (A : Around) : Prop where
  hd : A.handled = none
  dep : A.depth + d ≤ 900
  un : A.units + 30 * d ≤ 9000
theorem Gd.in1 {d : Nat} {A : Around} (g : Gd (d + 1) A) : Gd d A.in1 := ⟨g.hd, by have := g.dep; show A.depth + d ≤ 900; lia, by have := g.un; show A.units + 1 + 30 * d ≤ 9000; lia⟩
theorem Gd.deeper {d : Nat} {A : Around} (g : Gd (d + 1) A) (env : Env) : Gd d (A.deeper env) := ⟨g.hd, by have := g.dep; show A.depth + 1 + d ≤ 900; lia, by have := g.un; show A.units + 3 + 30 * d ≤ 9000; lia⟩
theorem Gd.le {d e : Nat} {A : Around} (g : Gd d A) (h : e ≤ d) : Gd e A := ⟨g.hd, by have := g.dep; lia, by have := g.un; lia⟩
theorem Gd.room {d : Nat} {A : Around} (g : Gd d A) : A.depth < recursionLimit := by have := g.dep; show A.depth < 1000; lia
theorem Gd.units {d : Nat} {A : Around} (g : Gd d A) : A.units + 100 < cLine := by have := g.un; show A.units + 100 < 9900; lia

/-- the written world -/
structure Wd (K : Frag) (mg mb : Str → Option Value) (h : Heap) : Prop where
  kin : K.In h
  g : h.Ns mainGlobals mg
  b : h.Ns builtinsNs mb
  nl : h.NoLimit
  bi : ∀ x : Str, x ≠ "__name__" → mb x = bootBuiltins x
theorem Wd.keep {K : Frag} {mg mb : Str → Option Value} {h h' : Heap} (x : Wd K mg mb h) (k : Ext h h') : Wd K mg mb h' :=
  ⟨x.kin.keeps k, x.g.keeps k, x.b.keeps k, x.nl.keeps k, x.bi⟩

noncomputable def XA (X : Addr → Prop) (h : Heap) : Prop := ∀ x, X x → (h.get? x).isSome = true
theorem XA.keep {X : Addr → Prop} {h h' : Heap} (x : XA X h) (k : Ext h h') : XA X h' := fun a q => by
  obtain ⟨o, ho⟩ := Option.isSome_iff_exists.mp (x a q)
  rw [k _ _ ho]; rfl
theorem XA.fresh {X : Addr → Prop} {h : Heap} (x : XA X h) : ¬ X h.objs.size := fun q => by
  obtain ⟨o, ho⟩ := Option.isSome_iff_exists.mp (x _ q)
  exact absurd (Heap.lt_size ho) (Nat.lt_irrefl _)

section
variable (prog : Program) (w : World) (X : Addr → Prop) (d : Nat)

/-- a tree yields a value, the heap grown alone -/
noncomputable def Yl (h : Heap) (t : Sem Value) (x : V) : Prop :=
  ∀ (A : Around) (Q : Value → Shared → Prop) (E : Value → Shared → Prop) (s : Shared), Gd d A → Ext h s.heap →
    (∀ v h' tk, Ext s.heap h' → Con X h' x v → Q v { s with heap := h', toks := tk }) → wpAny (model prog w) A t Q E s
noncomputable def YlL (h : Heap) (t : Sem (List Value)) (x : List V) : Prop :=
  ∀ (A : Around) (Q : List Value → Shared → Prop) (E : Value → Shared → Prop) (s : Shared), Gd d A → Ext h s.heap →
    (∀ v h' tk, Ext s.heap h' → ConL X h' x v → Q v { s with heap := h', toks := tk }) → wpAny (model prog w) A t Q E s
noncomputable def YlB (h : Heap) (t : Sem Bool) (x : Bool) : Prop :=
  ∀ (A : Around) (Q : Bool → Shared → Prop) (E : Value → Shared → Prop) (s : Shared), Gd d A → Ext h s.heap →
    (∀ h' tk, Ext s.heap h' → Q x { s with heap := h', toks := tk }) → wpAny (model prog w) A t Q E s
end

section
variable {prog : Program} {w : World} {X : Addr → Prop} {d : Nat} {h h' : Heap} {x : V}
theorem Yl.keep {t : Sem Value} (y : Yl prog w X d h t x) (k : Ext h h') : Yl prog w X d h' t x := fun A Q E s g e q => y A Q E s g (k.trans e) q
theorem YlL.keep {t : Sem (List Value)} {l : List V} (y : YlL prog w X d h t l) (k : Ext h h') : YlL prog w X d h' t l := fun A Q E s g e q => y A Q E s g (k.trans e) q
theorem YlB.keep {t : Sem Bool} {b : Bool} (y : YlB prog w d h t b) (k : Ext h h') : YlB prog w d h' t b := fun A Q E s g e q => y A Q E s g (k.trans e) q
theorem Yl.le {t : Sem Value} {e : Nat} (y : Yl prog w X d h t x) (k : d ≤ e) : Yl prog w X e h t x := fun A Q E s g e q => y A Q E s (g.le k) e q
end

/-- expressions -/
noncomputable abbrev Ev (prog : Program) (w : World) (X : Addr → Prop) (d : Nat) (env : Env) (h : Heap) (e : Expr) (x : V) : Prop := Yl prog w X d h (eval e env) x
/-- tests -/
noncomputable abbrev Ts (prog : Program) (w : World) (d : Nat) (env : Env) (h : Heap) (e : Expr) (b : Bool) : Prop := YlB prog w d h (PySem.isTrue e env (eval e env)) b
/-- lists of expressions -/
noncomputable abbrev Evs (prog : Program) (w : World) (X : Addr → Prop) (d : Nat) (env : Env) (h : Heap) (pos : Pos) (es : List Expr) (x : List V) : Prop := YlL prog w X d h (spliced (backTo pos (starEach es env))) x

section
variable {prog : Program} {w : World} {X : Addr → Prop} {d : Nat} {env : Env} {h : Heap}

theorem ev_int {i : Int} {k pos} : Ev prog w X d env h (.Constant (.int i) k pos) (.int i) := fun _ _ _ s _ _ q => wpAny_Constant_int (q _ _ _ (.refl _) (.int _ _))
theorem ev_str {i : Str} {k pos} : Ev prog w X d env h (.Constant (.str i) k pos) (.str i) := fun _ _ _ s _ _ q => Constant_str (q _ _ _ (.refl _) (.str _ _))
theorem ev_bool {i : Bool} {k pos} : Ev prog w X d env h (.Constant (.bool i) k pos) (.bool i) := fun _ _ _ s _ _ q => Constant_bool (q _ s.heap s.toks (.refl _) (.bool _))
theorem ev_none {k pos} : Ev prog w X d env h (.Constant .none k pos) .none := fun _ _ _ s _ _ q => Constant_none (q _ s.heap s.toks (.refl _) .none)

/-- a name stands for a value -/
noncomputable def Nm (prog : Program) (w : World) (X : Addr → Prop) (env : Env) (h : Heap) (n : Str) (x : V) : Prop :=
  ∃ v, Con X h x v ∧ ∀ (A : Around) (Q : Value → Shared → Prop) (E : Value → Shared → Prop) (s : Shared) (pos : Pos), Ext h s.heap → Q v s → wpAny (model prog w) A (eval (.Name n pos) env) Q E s
theorem Nm.keep {h' : Heap} {n : Str} {x : V} (y : Nm prog w X env h n x) (k : Ext h h') : Nm prog w X env h' n x :=
  let ⟨v, c, q⟩ := y; ⟨v, c.keep k, fun A Q E s pos e => q A Q E s pos (k.trans e)⟩
theorem ev_nm {n : Str} {x : V} {pos : Pos} (y : Nm prog w X env h n x) : Ev prog w X d env h (.Name n pos) x :=
  fun A Q E s _ e q => let ⟨v, c, k⟩ := y; k A Q E s pos e (q v s.heap s.toks (.refl _) (c.keep e))

theorem ev_bin {a b : Expr} {op : Operator} {pos : Pos} {x y z : V} (ha : Ev prog w X d env h a x) (hb : Ev prog w X d env h b y)
    (ho : ∀ h' u v, Ext h h' → Con X h' x u → Con X h' y v → Yl prog w X d h' (binaryOp op u v) z) : Ev prog w X d env h (.BinOp a op b pos) z :=
  fun A Q E s g e q => wpAny_BinOp (ha A _ E s g e fun u h1 _ e1 c1 => hb A _ E _ g (e.trans e1) fun v h2 _ e2 c2 =>
    ho h2 u v (e.trans (e1.trans e2)) (c1.keep e2) c2 A Q E _ g (.refl _) fun r h3 tk e3 c3 => q r h3 tk (e1.trans (e2.trans e3)) c3)

theorem ev_cmp {a b : Expr} {op : CmpOp} {pos : Pos} {x y z : V} (ha : Ev prog w X d env h a x) (hb : Ev prog w X d env h b y)
    (ho : ∀ h' u v, Ext h h' → Con X h' x u → Con X h' y v → Yl prog w X d h' (compareOp op u v) z) (hm : behindInMarks op b = false := by with_unfolding_all rfl) : Ev prog w X d env h (.Compare a [op] [b] pos) z :=
  fun A Q E s g e q => wpAny_Compare1 (ha A _ E s g e fun u h1 _ e1 c1 => hb A _ E _ g (e.trans e1) fun v h2 _ e2 c2 =>
    ho h2 u v (e.trans (e1.trans e2)) (c1.keep e2) c2 A Q E _ g (.refl _) fun r h3 tk e3 c3 => q r h3 tk (e1.trans (e2.trans e3)) c3) hm

theorem ts_cmp {a b : Expr} {op : CmpOp} {pos : Pos} {x y : V} {c : Bool} (ha : Ev prog w X d env h a x) (hb : Ev prog w X d env h b y)
    (ho : ∀ h' u v, Ext h h' → Con X h' x u → Con X h' y v → Yl prog w X d h' (compareOp op u v) (.bool c)) (hm : behindInMarks op b = false := by with_unfolding_all rfl) : Ts prog w d env h (.Compare a [op] [b] pos) c :=
  fun A Q E s g e q => wpAny_isTrue_Compare1 (ha A _ E s g e fun u h1 _ e1 c1 => hb A _ E _ g (e.trans e1) fun v h2 _ e2 c2 =>
    ho h2 u v (e.trans (e1.trans e2)) (c1.keep e2) c2 A _ E _ g (.refl _) fun r h3 tk e3 c3 => by
      cases c3; exact wpAny_truthy_bool (q h3 tk (e1.trans (e2.trans e3)))) hm
theorem ts_not {a : Expr} {pos : Pos} {c : Bool} (ha : Ts prog w d env h a c) : Ts prog w d env h (.UnaryOp .Not a pos) (!c) :=
  fun A Q E s g e q => isTrue_not (ha A _ E s g e fun h' tk e' => q h' tk e')
theorem ts_and_nil {pos : Pos} {wh : Sem Value} : YlB prog w d h (PySem.isTrue (.BoolOp .And [] pos) env wh) true := fun A Q E s g e q => isTrue_and_nil (q s.heap s.toks (.refl _))
theorem ts_and {a : Expr} {r : List Expr} {pos : Pos} {c c' : Bool} {wh : Sem Value} (ha : Ts prog w d env h a c) (hr : c = true → YlB prog w d h (PySem.isTrue (.BoolOp .And r pos) env wh) c') :
    YlB prog w d h (PySem.isTrue (.BoolOp .And (a :: r) pos) env wh) (c && c') :=
  fun A Q E s g e q => isTrue_and (ha A _ E s g e fun h' tk e' => by
    cases c with
    | false => exact q h' tk e'
    | true => exact hr rfl A _ E _ g (e.trans e') fun h2 tk2 e2 => q h2 tk2 (e'.trans e2))
theorem ts_or_nil {pos : Pos} {wh : Sem Value} : YlB prog w d h (PySem.isTrue (.BoolOp .Or [] pos) env wh) false := fun A Q E s g e q => isTrue_or_nil (q s.heap s.toks (.refl _))
theorem ts_or {a : Expr} {r : List Expr} {pos : Pos} {c c' : Bool} {wh : Sem Value} (ha : Ts prog w d env h a c) (hr : c = false → YlB prog w d h (PySem.isTrue (.BoolOp .Or r pos) env wh) c') :
    YlB prog w d h (PySem.isTrue (.BoolOp .Or (a :: r) pos) env wh) (c || c') :=
  fun A Q E s g e q => isTrue_or (ha A _ E s g e fun h' tk e' => by
    cases c with
    | true => exact q h' tk e'
    | false => exact hr rfl A _ E _ g (e.trans e') fun h2 tk2 e2 => q h2 tk2 (e'.trans e2))
theorem ts_val {a : Expr} {x : V} {c : Bool} (ha : Ev prog w X d env h a x) (ht : ∀ h' v, Ext h h' → Con X h' x v → YlB prog w d h' (truthy v) c)
    (he : isTrue a env (eval a env) = (do let v ← eval a env; standAt a.pos; holding [v] (truthy v)) := by rfl) : Ts prog w d env h a c :=
  fun A Q E s g e q => isTrue_plain (ha A _ E s g e fun v h1 tk e1 c1 => ht h1 v (e.trans e1) c1 A _ E _ g (.refl _) fun h2 tk2 e2 => q h2 tk2 (e1.trans e2)) he
theorem ev_ite {t a b : Expr} {pos : Pos} {c : Bool} {x : V} (ht : Ts prog w d env h t c) (ha : c = true → Ev prog w X d env h a x) (hb : c = false → Ev prog w X d env h b x) :
    Ev prog w X d env h (.IfExp t a b pos) x :=
  fun A Q E s g e q => IfExp_ (ht A _ E s g e fun h1 tk e1 => by
    cases c with
    | true => exact ha rfl A _ E _ g (e.trans e1) fun v h2 tk2 e2 c2 => q v h2 tk2 (e1.trans e2) c2
    | false => exact hb rfl A _ E _ g (e.trans e1) fun v h2 tk2 e2 c2 => q v h2 tk2 (e1.trans e2) c2)

theorem evs_nil {pos : Pos} : Evs prog w X d env h pos [] [] := fun A Q E s g e q => wpAny_items_nil (q [] s.heap s.toks (.refl _) .nil)
theorem evs_cons {pos : Pos} {a : Expr} {r : List Expr} {x : V} {l : List V} (ha : Ev prog w X d env h a x) (hr : Evs prog w X d env h pos r l)
    (hs : starEach (a :: r) env = (false, eval a env) :: starEach r env := by rfl) : Evs prog w X d env h pos (a :: r) (x :: l) :=
  fun A Q E s g e q => by
    show wpAny _ _ (spliced (backTo pos (starEach (a :: r) env))) _ _ _
    rw [hs]
    show wpAny _ _ (spliced ((false, eval a env) :: backTo pos (starEach r env))) _ _ _
    exact spliced_cons (ha A _ E s g e fun v h1 _ e1 c1 => hr A _ E _ g (e.trans e1) fun vs h2 tk e2 c2 => q (v :: vs) h2 tk (e1.trans e2) (.cons (c1.keep e2) c2))

theorem ev_tuple {es : List Expr} {k : Nat} {pos : Pos} {l : List V} (xa : XA X h) (hs : l.length ≤ 1000) (he : Evs prog w X d env h pos es l) : Ev prog w X d env h (.Tuple es k pos) (.tup l) :=
  fun A Q E s g e q => Tuple_ (he A _ E s g e fun vs h1 tk e1 c1 => wpAny_newObj_type
    (q _ _ _ (e1.trans (Ext.push _ _)) (.tup (Heap.get?_push_size _ rfl) ((xa.keep e).keep e1).fresh (c1.keep (Ext.push _ _))))
    (by show vs.toArray.size ≤ sizeLine; rw [List.size_toArray, c1.length]; exact Nat.le_trans hs (by decide)))
theorem ev_list {es : List Expr} {pos : Pos} {l : List V} (xa : XA X h) (hs : l.length ≤ 1000) (he : Evs prog w X d env h pos es l) : Ev prog w X d env h (.List es pos) (.lst l) :=
  fun A Q E s g e q => List_ (he A _ E s g e fun vs h1 tk e1 c1 => wpAny_newObj_type
    (q _ _ _ (e1.trans (Ext.push _ _)) (.lst (n := 0) (Heap.get?_push_size _ rfl) ((xa.keep e).keep e1).fresh (c1.keep (Ext.push _ _))))
    (by show vs.toArray.size ≤ sizeLine; rw [List.size_toArray, c1.length]; exact Nat.le_trans hs (by decide)))
end
end
section
section
variable {prog : Program} {w : World} {X : Addr → Prop} {d : Nat} {env : Env} {h : Heap}

/-- what an operation of two values gives -/
abbrev Op2 (prog : Program) (w : World) (X : Addr → Prop) (d : Nat) (h : Heap) (f : Value → Value → Sem Value) (x y z : V) : Prop :=
  ∀ h' u v, Ext h h' → Con X h' x u → Con X h' y v → Yl prog w X d h' (f u v) z
theorem op_add {a b : Int} : Op2 prog w X d h (binaryOp .Add) (.int a) (.int b) (.int (a + b)) := fun h' u v _ c1 c2 A Q E s g e q => by
  (first | apply c1.refG | apply c1.noneG | apply c1.boolG | (apply c1.strG; intro _) | (apply c1.intG; intro _)); clear c1; (first | apply c2.refG | apply c2.noneG | apply c2.boolG | (apply c2.strG; intro _) | (apply c2.intG; intro _)); clear c2; exact P.add_int (q _ _ _ (.refl _) (.int _ _))
theorem op_sub {a b : Int} : Op2 prog w X d h (binaryOp .Sub) (.int a) (.int b) (.int (a - b)) := fun h' u v _ c1 c2 A Q E s g e q => by
  (first | apply c1.refG | apply c1.noneG | apply c1.boolG | (apply c1.strG; intro _) | (apply c1.intG; intro _)); clear c1; (first | apply c2.refG | apply c2.noneG | apply c2.boolG | (apply c2.strG; intro _) | (apply c2.intG; intro _)); clear c2; exact P.sub_int (q _ _ _ (.refl _) (.int _ _))
theorem op_mul {a b : Int} (hm : IntMulOk a b) : Op2 prog w X d h (binaryOp .Mult) (.int a) (.int b) (.int (a * b)) := fun h' u v _ c1 c2 A Q E s g e q => by
  (first | apply c1.refG | apply c1.noneG | apply c1.boolG | (apply c1.strG; intro _) | (apply c1.intG; intro _)); clear c1; (first | apply c2.refG | apply c2.noneG | apply c2.boolG | (apply c2.strG; intro _) | (apply c2.intG; intro _)); clear c2; exact P.mul_int (q _ _ _ (.refl _) (.int _ _)) hm
theorem op_mod {a b : Int} (hb : b ≠ 0) : Op2 prog w X d h (binaryOp .Mod) (.int a) (.int b) (.int (a.fmod b)) := fun h' u v _ c1 c2 A Q E s g e q => by
  (first | apply c1.refG | apply c1.noneG | apply c1.boolG | (apply c1.strG; intro _) | (apply c1.intG; intro _)); clear c1; (first | apply c2.refG | apply c2.noneG | apply c2.boolG | (apply c2.strG; intro _) | (apply c2.intG; intro _)); clear c2; exact mod_int hb (q _ _ _ (.refl _) (.int _ _))
theorem op_div {a b : Int} (hb : b ≠ 0) (hs : b.natAbs < 1073741824) : Op2 prog w X d h (binaryOp .FloorDiv) (.int a) (.int b) (.int (a.fdiv b)) := fun h' u v _ c1 c2 A Q E s g e q => by
  (first | apply c1.refG | apply c1.noneG | apply c1.boolG | (apply c1.strG; intro _) | (apply c1.intG; intro _)); clear c1; (first | apply c2.refG | apply c2.noneG | apply c2.boolG | (apply c2.strG; intro _) | (apply c2.intG; intro _)); clear c2; exact floordiv_int hb (q _ _ _ (.refl _) (.int _ _)) (.inl (PyProof.noPylong_small hs))
theorem op_cat {a b : Str} (hs : a.length + b.length ≤ 1000000) : Op2 prog w X d h (binaryOp .Add) (.str a) (.str b) (.str (a ++ b)) := fun h' u v _ c1 c2 A Q E s g e q => by
  (first | apply c1.refG | apply c1.noneG | apply c1.boolG | (apply c1.strG; intro _) | (apply c1.intG; intro _)); clear c1; (first | apply c2.refG | apply c2.noneG | apply c2.boolG | (apply c2.strG; intro _) | (apply c2.intG; intro _)); clear c2; exact SB.add (fun t' k => q _ s.heap k (.refl _) (.str _ _)) (Nat.le_trans hs (by decide))
theorem op_iadd {a b : Int} : Op2 prog w X d h (inplaceOp .Add) (.int a) (.int b) (.int (a + b)) := fun h' u v _ c1 c2 A Q E s g e q => by
  (first | apply c1.refG | apply c1.noneG | apply c1.boolG | (apply c1.strG; intro _) | (apply c1.intG; intro _)); clear c1; (first | apply c2.refG | apply c2.noneG | apply c2.boolG | (apply c2.strG; intro _) | (apply c2.intG; intro _)); clear c2; exact P.iadd_int (q _ _ _ (.refl _) (.int _ _))
theorem op_icat {a b : Str} (hs : a.length + b.length ≤ 1000000) : Op2 prog w X d h (inplaceOp .Add) (.str a) (.str b) (.str (a ++ b)) := fun h' u v _ c1 c2 A Q E s g e q => by
  (first | apply c1.refG | apply c1.noneG | apply c1.boolG | (apply c1.strG; intro _) | (apply c1.intG; intro _)); clear c1; (first | apply c2.refG | apply c2.noneG | apply c2.boolG | (apply c2.strG; intro _) | (apply c2.intG; intro _)); clear c2; exact SB.iadd (fun t' k => q _ s.heap k (.refl _) (.str _ _)) (Nat.le_trans hs (by decide))
theorem op_eq {a b : Int} : Op2 prog w X d h (compareOp .Eq) (.int a) (.int b) (.bool (a == b)) := fun h' u v _ c1 c2 A Q E s g e q => by
  (first | apply c1.refG | apply c1.noneG | apply c1.boolG | (apply c1.strG; intro _) | (apply c1.intG; intro _)); clear c1; (first | apply c2.refG | apply c2.noneG | apply c2.boolG | (apply c2.strG; intro _) | (apply c2.intG; intro _)); clear c2; exact P.eq_int (q _ s.heap s.toks (.refl _) (.bool _))
theorem op_ne {a b : Int} : Op2 prog w X d h (compareOp .NotEq) (.int a) (.int b) (.bool (a != b)) := fun h' u v _ c1 c2 A Q E s g e q => by
  (first | apply c1.refG | apply c1.noneG | apply c1.boolG | (apply c1.strG; intro _) | (apply c1.intG; intro _)); clear c1; (first | apply c2.refG | apply c2.noneG | apply c2.boolG | (apply c2.strG; intro _) | (apply c2.intG; intro _)); clear c2; exact P.ne_int (q _ s.heap s.toks (.refl _) (.bool _))
theorem op_lt {a b : Int} : Op2 prog w X d h (compareOp .Lt) (.int a) (.int b) (.bool (decide (a < b))) := fun h' u v _ c1 c2 A Q E s g e q => by
  (first | apply c1.refG | apply c1.noneG | apply c1.boolG | (apply c1.strG; intro _) | (apply c1.intG; intro _)); clear c1; (first | apply c2.refG | apply c2.noneG | apply c2.boolG | (apply c2.strG; intro _) | (apply c2.intG; intro _)); clear c2; exact P.lt_int (q _ s.heap s.toks (.refl _) (.bool _))
theorem op_gt {a b : Int} : Op2 prog w X d h (compareOp .Gt) (.int a) (.int b) (.bool (decide (a > b))) := fun h' u v _ c1 c2 A Q E s g e q => by
  (first | apply c1.refG | apply c1.noneG | apply c1.boolG | (apply c1.strG; intro _) | (apply c1.intG; intro _)); clear c1; (first | apply c2.refG | apply c2.noneG | apply c2.boolG | (apply c2.strG; intro _) | (apply c2.intG; intro _)); clear c2; exact P.gt_int (q _ s.heap s.toks (.refl _) (.bool _))
theorem op_ge {a b : Int} : Op2 prog w X d h (compareOp .GtE) (.int a) (.int b) (.bool (decide (a ≥ b))) := fun h' u v _ c1 c2 A Q E s g e q => by
  (first | apply c1.refG | apply c1.noneG | apply c1.boolG | (apply c1.strG; intro _) | (apply c1.intG; intro _)); clear c1; (first | apply c2.refG | apply c2.noneG | apply c2.boolG | (apply c2.strG; intro _) | (apply c2.intG; intro _)); clear c2; exact P.ge_int (q _ s.heap s.toks (.refl _) (.bool _))
theorem op_eqS {a b : Str} : Op2 prog w X d h (compareOp .Eq) (.str a) (.str b) (.bool (a == b)) := fun h' u v _ c1 c2 A Q E s g e q => by
  (first | apply c1.refG | apply c1.noneG | apply c1.boolG | (apply c1.strG; intro _) | (apply c1.intG; intro _)); clear c1; (first | apply c2.refG | apply c2.noneG | apply c2.boolG | (apply c2.strG; intro _) | (apply c2.intG; intro _)); clear c2; exact PyProof.Rows.eq_str (q _ s.heap s.toks (.refl _) (.bool _))
theorem op_neS {a b : Str} : Op2 prog w X d h (compareOp .NotEq) (.str a) (.str b) (.bool (a != b)) := fun h' u v _ c1 c2 A Q E s g e q => by
  (first | apply c1.refG | apply c1.noneG | apply c1.boolG | (apply c1.strG; intro _) | (apply c1.intG; intro _)); clear c1; (first | apply c2.refG | apply c2.noneG | apply c2.boolG | (apply c2.strG; intro _) | (apply c2.intG; intro _)); clear c2; exact PyProof.Rows.ne_str (q _ s.heap s.toks (.refl _) (.bool _))
theorem op_inS {a b : Str} : Op2 prog w X d h (compareOp .In) (.str a) (.str b) (.bool (Txt.contains b a)) := fun h' u v _ c1 c2 A Q E s g e q => by
  (first | apply c1.refG | apply c1.noneG | apply c1.boolG | (apply c1.strG; intro _) | (apply c1.intG; intro _)); clear c1; (first | apply c2.refG | apply c2.noneG | apply c2.boolG | (apply c2.strG; intro _) | (apply c2.intG; intro _)); clear c2; exact SB.contains (q _ s.heap s.toks (.refl _) (.bool _))
theorem op_ninS {a b : Str} : Op2 prog w X d h (compareOp .NotIn) (.str a) (.str b) (.bool (!Txt.contains b a)) := fun h' u v _ c1 c2 A Q E s g e q => by
  (first | apply c1.refG | apply c1.noneG | apply c1.boolG | (apply c1.strG; intro _) | (apply c1.intG; intro _)); clear c1; (first | apply c2.refG | apply c2.noneG | apply c2.boolG | (apply c2.strG; intro _) | (apply c2.intG; intro _)); clear c2; exact SB.notContains (q _ s.heap s.toks (.refl _) (.bool _))
theorem op_reps {a : Str} {n : Int} (hn : 0 ≤ n) (hn2 : n ≤ 10) (hl : a.length ≤ 10) : Op2 prog w X d h (binaryOp .Mult) (.str a) (.int n) (.str (Txt.mul a n)) := fun h' u v _ c1 c2 A Q E s g e q => by
  (first | apply c1.refG | apply c1.noneG | apply c1.boolG | (apply c1.strG; intro _) | (apply c1.intG; intro _)); clear c1; (first | apply c2.refG | apply c2.noneG | apply c2.boolG | (apply c2.strG; intro _) | (apply c2.intG; intro _)); clear c2
  refine SB.mul ⟨?_, ?_, ?_⟩ (fun t' k => q _ s.heap k (.refl _) (.str _ _))
  · rw [decide_eq_false (by lia), decide_eq_false (by lia)]; rfl
  · intro h1 _ h3
    have hd : (2 ^ 63 - 1 : Int) / n ≥ (2 ^ 63 - 1 : Int) / 10 := by
      have h4 : n = 1 ∨ n = 2 ∨ n = 3 ∨ n = 4 ∨ n = 5 ∨ n = 6 ∨ n = 7 ∨ n = 8 ∨ n = 9 ∨ n = 10 := by lia
      rcases h4 with h4 | h4 | h4 | h4 | h4 | h4 | h4 | h4 | h4 | h4 <;> subst h4 <;> decide
    have : (a.length : Int) ≤ 10 := by lia
    have h5 : (2 ^ 63 - 1 : Int) / 10 = 922337203685477580 := by decide
    lia
  · intro _ _
    have : a.length * n.toNat ≤ 10 * 10 := Nat.mul_le_mul hl (by lia)
    exact short24 (by lia)

theorem tr_bool {b : Bool} : ∀ h' v, Ext h h' → Con X h' (.bool b) v → YlB prog w d h' (truthy v) b := fun h' v _ c A Q E s g e q => by
  (first | apply c.refG | apply c.noneG | apply c.boolG | (apply c.strG; intro _) | (apply c.intG; intro _)); clear c; exact wpAny_truthy_bool (q s.heap s.toks (.refl _))
theorem tr_int {i : Int} : ∀ h' v, Ext h h' → Con X h' (.int i) v → YlB prog w d h' (truthy v) (i != 0) := fun h' v _ c A Q E s g e q => by
  (first | apply c.refG | apply c.noneG | apply c.boolG | (apply c.strG; intro _) | (apply c.intG; intro _)); clear c; exact P.truthy_int (q s.heap s.toks (.refl _))
/-- an item -/
theorem ev_sub {a i : Expr} {pos : Pos} {x y z : V} (ha : Ev prog w X d env h a x) (hi : Ev prog w X d env h i y)
    (ho : ∀ h' u v, Ext h h' → Con X h' x u → Con X h' y v → Yl prog w X d h' (subscriptTail a i u v) z) : Ev prog w X d env h (.Subscript a i pos) z :=
  fun A Q E s g e q => Subscript_ (ha A _ E s g e fun u h1 _ e1 c1 => hi A _ E _ g (e.trans e1) fun v h2 _ e2 c2 =>
    ho h2 u v (e.trans (e1.trans e2)) (c1.keep e2) c2 A Q E _ g (.refl _) fun r h3 tk e3 c3 => q r h3 tk (e1.trans (e2.trans e3)) c3)
theorem it_str {a i : Expr} {x : Str} {k : Int} (h0 : 0 ≤ k) (h1 : k < x.length) (hx : x.length ≤ 1000000)
    (hs : ∀ o v, subscripted i false o v = operate [o, v] (getItem o v) := by intro _ _; rfl) :
    ∀ h' u v, Ext h h' → Con X h' (.str x) u → Con X h' (.int k) v → Yl prog w X d h' (subscriptTail a i u v) (.str (Txt.item x k)) := fun h' u v _ c1 c2 A Q E s g e q => by
  (first | apply c1.refG | apply c1.noneG | apply c1.boolG | (apply c1.strG; intro _) | (apply c1.intG; intro _)); clear c1; (first | apply c2.refG | apply c2.noneG | apply c2.boolG | (apply c2.strG; intro _) | (apply c2.intG; intro _)); clear c2
  have hin : (Txt.charAt x k).isSome = true := charAt_isSome (by lia) h1
  refine tail_any (typeIs_str _ _ _) F.slot_str_getitem.lookup (SB.getItem (by unfold fitsSsize; rw [decide_eq_false (by lia), decide_eq_false (by lia)]; rfl) hin (q _ _ _ (.refl _) (.str _ _))) (hs _ _)
theorem it_lst {a i : Expr} {l : List V} {k : Int} {z : V} (h0 : 0 ≤ k) (hk : l[k.toNat]? = some z) (hl : l.length ≤ 1000000)
    (hs : ∀ o v, subscripted i false o v = operate [o, v] (getItem o v) := by intro _ _; rfl) :
    ∀ h' u v, Ext h h' → Con X h' (.lst l) u → Con X h' (.int k) v → Yl prog w X d h' (subscriptTail a i u v) z := fun h' u v _ c1 c2 A Q E s g e q => by
  (first | apply c2.refG | apply c2.noneG | apply c2.boolG | (apply c2.strG; intro _) | (apply c2.intG; intro _)); clear c2
  cases c1 with
  | lst ho hx hc =>
    obtain ⟨y, hy, cy⟩ := hc.get hk
    have hlt : k.toNat < l.length := by
      rcases Nat.lt_or_ge k.toNat l.length with q | q
      · exact q
      · rw [List.getElem?_eq_none q] at hk; cases hk
    have hi : s.heap.IsList _ (List.toArray _) := ⟨_, e _ _ ho, rfl, _, rfl⟩
    refine tail_any hi.typeIs slot_list_getitem.lookup (wpAny_getItem_list hi h0 (by lia) (by simpa using hy) (q y s.heap s.toks (.refl _) (cy.keep e))) (hs _ _)
theorem it_tup {a i : Expr} {l : List V} {k : Int} {z : V} (h0 : 0 ≤ k) (hk : l[k.toNat]? = some z) (hl : l.length ≤ 1000000)
    (hs : ∀ o v, subscripted i false o v = operate [o, v] (getItem o v) := by intro _ _; rfl) :
    ∀ h' u v, Ext h h' → Con X h' (.tup l) u → Con X h' (.int k) v → Yl prog w X d h' (subscriptTail a i u v) z := fun h' u v _ c1 c2 A Q E s g e q => by
  (first | apply c2.refG | apply c2.noneG | apply c2.boolG | (apply c2.strG; intro _) | (apply c2.intG; intro _)); clear c2
  cases c1 with
  | tup ho hx hc =>
    obtain ⟨y, hy, cy⟩ := hc.get hk
    have hlt : k.toNat < l.length := by
      rcases Nat.lt_or_ge k.toNat l.length with q | q
      · exact q
      · rw [List.getElem?_eq_none q] at hk; cases hk
    have hi : IsTup s.heap _ (List.toArray _) := ⟨_, e _ _ ho, rfl, _, rfl⟩
    have hle := hc.length
    have hj : seqIndex? k l.length = some k.toNat := by
      have : 0 ≤ k ∧ k < (l.length : Int) := by lia
      simp [seqIndex?, this.1, this.2, Int.not_lt.mpr this.1]
    exact tail_any hi.typeIs slot_tuple_getitem.lookup (PyProof.Rows.getItem_tuple hi (by lia) (by lia) (by rw [List.size_toArray, hle]; exact hj) (by simpa using hy) (q y s.heap s.toks (.refl _) (cy.keep e))) (hs _ _)

theorem newSlice {l u : Value} {M : Model} {A : Around} {E : Value → Shared → Prop} {s : Shared} {Q : Value → Shared → Prop} (q : Q (.ref s.heap.objs.size) { s with heap := s.heap.push { cls := .type "slice", data := .fields #[l, u, .none] } }) :
    wpAny M A (newFields "slice" [l, u, .none]) Q E s := by
  unfold newFields
  exact wpAny_newObj_type q (by size_fits)

theorem ev_slice_ss {a i j : Expr} {pos p : Pos} {x : Str} {m n : Int} (ha : Ev prog w X d env h a (.str x)) (hi : Ev prog w X d env h i (.int m)) (hj : Ev prog w X d env h j (.int n)) (hx : x.length ≤ 1000000) :
    Ev prog w X d env h (.Subscript a (.Slice (some i) (some j) none p) pos) (.str (Txt.slice x (some m) (some n))) :=
  fun A Q E s g e q => Subscript_ (ha A _ E s g e fun u h1 _ e1 c1 => by
    refine wpAny_bind (m := eval i env) (hi A _ E _ g (e.trans e1) fun v h2 _ e2 c2 => wpAny_bind (wpAny_holding (hj A _ E _ g (e.trans (e1.trans e2)) fun y h3 tk3 e3 c3 => ?_)))
    refine wpAny_bind (wpAny_holding (wpAny_pure (newSlice ?_)))
    (first | apply c1.refG | apply c1.noneG | apply c1.boolG | (apply c1.strG; intro _) | (apply c1.intG; intro _)); clear c1; (first | apply c2.refG | apply c2.noneG | apply c2.boolG | (apply c2.strG; intro _) | (apply c2.intG; intro _)); clear c2; (first | apply c3.refG | apply c3.noneG | apply c3.boolG | (apply c3.strG; intro _) | (apply c3.intG; intro _)); clear c3
    obtain ⟨T, id, hl, hT, hg⟩ := (SBH.sliceItem_ss (Q := Q) (prog := prog) (w := w) (A := A) (E := E) (P := fun h4 => Ext h3 h4) (s := { s with heap := h3, toks := tk3 }) (fun h4 ob k => k.trans (Ext.push _ _)) (.refl _) (fun h4 t' k e4 => q _ h4 k (e1.trans (e2.trans (e3.trans e4))) (.str _ _)) (Nat.le_trans hx (by decide)))
    exact tail_any hT hl hg (by rfl))
end
end
section
structure Fs (K : Frag) (mg mb : Str → Option Value) (env : Env) (sc : Scope) (Z : Addr → Prop) (h₀ : Heap) (σ : Shared) (Ow : Heap → Prop) (l : List (Str × V)) (s : Shared) : Prop where
  same : ∃ h tk, s = { σ with heap := h, toks := tk }
  base : Ext h₀ s.heap
  wd : Wd K mg mb h₀
  xa : XA Z s.heap
  hsc : env.scope = sc
  eg : env.globals = mainGlobals
  eb : env.builtins = builtinsNs
  ek : sc.kind = .function
  zL : Z env.locals
  nL : h₀.get? env.locals = .none
  ow : Ow s.heap
  owf : ∃ fp : List Addr, env.locals ∉ fp ∧ (∀ a ∈ fp, (s.heap.get? a).isSome = true) ∧ ∀ h h' : Heap, (∀ b ∈ fp, ∀ o, h.get? b = some o → h'.get? b = some o) → Ow h → Ow h'
  ns : ∃ m, s.heap.Ns env.locals m ∧ ∀ n x, l.lookup n = some x → ∃ v, m n = some v ∧ Con Z s.heap x v

section
variable {K : Frag} {mg mb : Str → Option Value} {prog : Program} {w : World} {Z : Addr → Prop} {d : Nat} {env : Env} {sc : Scope} {h₀ : Heap} {σ s : Shared} {Ow : Heap → Prop} {l : List (Str × V)}

theorem Fs.nsRef (F : Fs K mg mb env sc Z h₀ σ Ow l s) {n : Str} {a : Addr} (q : l.lookup n = some (.ref a)) : ∃ m, s.heap.Ns env.locals m ∧ m n = some (.ref a) :=
  let ⟨m, a, b⟩ := F.ns; let ⟨_, p, c⟩ := b n _ q; ⟨m, a, by rw [p, c.refE]⟩
theorem Fs.nsNone (F : Fs K mg mb env sc Z h₀ σ Ow l s) {n : Str} (q : l.lookup n = some .none) : ∃ m, s.heap.Ns env.locals m ∧ m n = some .none :=
  let ⟨m, a, b⟩ := F.ns; let ⟨_, p, c⟩ := b n _ q; ⟨m, a, by rw [p, c.noneE]⟩
theorem Fs.ext (F : Fs K mg mb env sc Z h₀ σ Ow l s) {h' : Heap} {tk : Nat} (e : Ext s.heap h') : Fs K mg mb env sc Z h₀ σ Ow l { s with heap := h', toks := tk } where
  same := let ⟨_, _, q⟩ := F.same; ⟨h', tk, by rw [q]⟩
  base := F.base.trans e
  wd := F.wd
  xa := F.xa.keep e
  hsc := F.hsc
  eg := F.eg
  eb := F.eb
  ek := F.ek
  zL := F.zL
  nL := F.nL
  ow := let ⟨_, _, _, k⟩ := F.owf; k _ _ (fun b _ o q => e b o q) F.ow
  owf := let ⟨fp, a, b, c⟩ := F.owf; ⟨fp, a, fun x hx => by obtain ⟨o, ho⟩ := Option.isSome_iff_exists.mp (b x hx); show (h'.get? x).isSome = true; rw [e _ _ ho]; rfl, c⟩
  ns := let ⟨m, a, b⟩ := F.ns; ⟨m, a.keeps e, fun n x q => let ⟨v, p, c⟩ := b n x q; ⟨v, p, c.keep e⟩⟩
theorem Fs.weak (F : Fs K mg mb env sc Z h₀ σ Ow l s) {l' : List (Str × V)} (h : ∀ n x, l'.lookup n = some x → l.lookup n = some x) : Fs K mg mb env sc Z h₀ σ Ow l' s :=
  { F with ns := let ⟨m, a, b⟩ := F.ns; ⟨m, a, fun n x q => b n x (h n x q)⟩ }
noncomputable def Sub (l : List (Str × V)) : List (Str × V) → Prop
  | [] => True
  | (n, x) :: r => l.lookup n = some x ∧ Sub l r
theorem Sub.of {l : List (Str × V)} : ∀ {l' : List (Str × V)}, Sub l l' → ∀ n x, l'.lookup n = some x → l.lookup n = some x
  | [], _, _, _, q => by cases q
  | (m, y) :: r, h, n, x, q => by
    rw [List.lookup_cons] at q
    by_cases e : (n == m) = true
    · rw [e] at q
      have e' : n = m := by simpa using e
      subst e'
      rw [← Option.some.inj q]; exact h.1
    · rw [Bool.not_eq_true] at e
      rw [e] at q; exact Sub.of h.2 n x q
theorem Fs.to (F : Fs K mg mb env sc Z h₀ σ Ow l s) (l' : List (Str × V)) (h : Sub l l') : Fs K mg mb env sc Z h₀ σ Ow l' s := F.weak h.of

theorem Fs.world (F : Fs K mg mb env sc Z h₀ σ Ow l s) : Wd K mg mb s.heap := F.wd.keep F.base

theorem Fs.store (F : Fs K mg mb env sc Z h₀ σ Ow l s) {x : V} {v : Value} {n : Str} {h' : Heap} {tk : Nat} {m : Str → Option Value} (hm : s.heap.Ns env.locals m ∧ ∀ n x, l.lookup n = some x → ∃ v, m n = some v ∧ Con Z s.heap x v)
    (c : Con Z s.heap x v) (hn : h'.Ns env.locals (fun y => if y = n then some v else m y)) (hs : Heap.SameBut env.locals s.heap h') : Fs K mg mb env sc Z h₀ σ Ow ((n, x) :: l) { s with heap := h', toks := tk } where
  same := let ⟨_, _, q⟩ := F.same; ⟨h', tk, by rw [q]⟩
  base := fun b o e => (hs.2 b (by first | with_reducible exact neN F.nL e | exact fun q => by rw [q, F.nL] at e; cases e)).trans (F.base b o e)
  wd := F.wd
  xa := fun a q => by
    by_cases e : a = env.locals
    · subst e; obtain ⟨o, _, _, ho, _⟩ := hn; rw [ho]; rfl
    · show (h'.get? a).isSome = true
      rw [hs.2 a e]; exact F.xa a q
  hsc := F.hsc
  eg := F.eg
  eb := F.eb
  ek := F.ek
  zL := F.zL
  nL := F.nL
  ow := let ⟨_, n, _, k⟩ := F.owf; k _ _ (fun b hb o q => (hs.2 b (fun e => n (e ▸ hb))).trans q) F.ow
  owf := let ⟨fp, a, b, c⟩ := F.owf; ⟨fp, a, fun x hx => by show (h'.get? x).isSome = true; rw [hs.2 x (fun e => a (e ▸ hx))]; exact b x hx, c⟩
  ns := by
    have k : ExtX Z s.heap h' := fun b o nb e => (hs.2 b (fun q => nb (q ▸ F.zL))).trans e
    refine ⟨_, hn, fun y z q => ?_⟩
    rw [List.lookup_cons] at q
    by_cases e : (y == n) = true
    · rw [e] at q
      have e' : y = n := by simpa using e
      refine ⟨v, if_pos e', ?_⟩
      rw [← Option.some.inj q]; exact c.keepX k
    · rw [Bool.not_eq_true] at e
      rw [e] at q
      obtain ⟨u, p, cu⟩ := hm.2 y z q
      refine ⟨u, ?_, cu.keepX k⟩
      rw [if_neg (by simpa using e)]; exact p

/-- reading -/
theorem Fs.loc (F : Fs K mg mb env sc Z h₀ σ Ow l s) {n : Str} {x : V} (hl : l.lookup n = some x) (hk : sc.names.lookup n = some .local) (hd : (n == ("__debug__" : Str)) = false) : Nm prog w Z env s.heap n x := by
  obtain ⟨m, hm, hv⟩ := F.ns
  obtain ⟨v, q, c⟩ := hv n x hl
  refine ⟨v, c, fun A Q E s' pos e h => wpAny_Name (wpAny_loadName_local (by rw [F.hsc]; exact F.ek) (by unfold Env.kindOf; rw [F.hsc]; exact hk) (hm.keeps e) q h) hd⟩
theorem ev_loc {n : Str} {x : V} {pos : Pos} (F : Fs K mg mb env sc Z h₀ σ Ow l s) (hl : l.lookup n = some x) (hk : sc.names.lookup n = some .local) (hd : (n == ("__debug__" : Str)) = false) : Ev prog w Z d env s.heap (.Name n pos) x :=
  ev_nm (F.loc hl hk hd)

/-- a name stands for a very value -/
noncomputable def NmV (prog : Program) (w : World) (env : Env) (h : Heap) (n : Str) (v : Value) : Prop :=
  ∀ (A : Around) (Q : Value → Shared → Prop) (E : Value → Shared → Prop) (s : Shared) (pos : Pos), Ext h s.heap → Q v s → wpAny (model prog w) A (eval (.Name n pos) env) Q E s
theorem Fs.locS (F : Fs K mg mb env sc Z h₀ σ Ow l s) {n : Str} {x : Str} {G : Prop} (hl : l.lookup n = some (.str x)) (hk : sc.names.lookup n = some .local) (hd : (n == ("__debug__" : Str)) = false) (k : ∀ t, NmV prog w env s.heap n (.str x t) → G) : G :=
  (F.loc hl hk hd).elim fun _ r => r.1.strG (G := fun v => NmV prog w env s.heap n v → G) k r.2
theorem Fs.locI (F : Fs K mg mb env sc Z h₀ σ Ow l s) {n : Str} {x : Int} {G : Prop} (hl : l.lookup n = some (.int x)) (hk : sc.names.lookup n = some .local) (hd : (n == ("__debug__" : Str)) = false) (k : ∀ t, NmV prog w env s.heap n (.int x t) → G) : G :=
  (F.loc hl hk hd).elim fun _ r => r.1.intG (G := fun v => NmV prog w env s.heap n v → G) k r.2
theorem Fs.locB (F : Fs K mg mb env sc Z h₀ σ Ow l s) {n : Str} {x : Bool} {G : Prop} (hl : l.lookup n = some (.bool x)) (hk : sc.names.lookup n = some .local) (hd : (n == ("__debug__" : Str)) = false) (k : NmV prog w env s.heap n (.bool x) → G) : G :=
  (F.loc hl hk hd).elim fun _ r => r.1.boolG (G := fun v => NmV prog w env s.heap n v → G) k r.2
theorem Fs.locR (F : Fs K mg mb env sc Z h₀ σ Ow l s) {n : Str} {x : Addr} {G : Prop} (hl : l.lookup n = some (.ref x)) (hk : sc.names.lookup n = some .local) (hd : (n == ("__debug__" : Str)) = false) (k : NmV prog w env s.heap n (.ref x) → G) : G :=
  (F.loc hl hk hd).elim fun _ r => r.1.refG (G := fun v => NmV prog w env s.heap n v → G) k r.2
theorem nmv_glob {h : Heap} {n : Str} {v : Value} (W : Wd K mg mb h) (hs : env.scope = sc) (hk : sc.kind = .function) (hg : env.globals = mainGlobals) (e : nsIn K mainGlobals n = some (some v)) (hx : sc.names.lookup n = some .globalImplicit) (hd : (n == ("__debug__" : Str)) = false) : NmV prog w env h n v :=
  fun A Q E s pos x q => Name_function_global (by rw [hs]; exact hk) (by unfold Env.kindOf; rw [hs]; exact hx) (loadGlobal_global (by rw [hg]; exact W.g.keeps x) (mg_of W.kin W.g e) q) hd
theorem nmv_boot {h : Heap} {n : Str} {v : Value} (W : Wd K mg mb h) (hs : env.scope = sc) (hk : sc.kind = .function) (hg : env.globals = mainGlobals) (hb : env.builtins = builtinsNs) (e : nsIn K mainGlobals n = some none) (hv : bootBuiltins n = some v) (hn : n ≠ "__name__") (hx : sc.names.lookup n = some .globalImplicit) (hd : (n == ("__debug__" : Str)) = false) : NmV prog w env h n v :=
  fun A Q E s pos x q => Name_function_global (by rw [hs]; exact hk) (by unfold Env.kindOf; rw [hs]; exact hx) (loadGlobal_builtin (by rw [hg]; exact W.g.keeps x) (mg_none_of W.kin W.g e) (by rw [hb]; exact W.b.keeps x) ((W.bi n hn).trans hv) q) hd
theorem Fs.glob (F : Fs K mg mb env sc Z h₀ σ Ow l s) {n : Str} {v : Value} (e : nsIn K mainGlobals n = some (some v)) (hx : sc.names.lookup n = some .globalImplicit) (hd : (n == ("__debug__" : Str)) = false) : NmV prog w env s.heap n v :=
  nmv_glob F.world F.hsc F.ek F.eg e hx hd
theorem Fs.boot (F : Fs K mg mb env sc Z h₀ σ Ow l s) {n : Str} {v : Value} (e : nsIn K mainGlobals n = some none) (hv : bootBuiltins n = some v) (hn : n ≠ "__name__") (hx : sc.names.lookup n = some .globalImplicit) (hd : (n == ("__debug__" : Str)) = false) : NmV prog w env s.heap n v :=
  nmv_boot F.world F.hsc F.ek F.eg F.eb e hv hn hx hd
theorem ev_gs {h : Heap} {n : Str} {x : Str} {t : Tok} {pos : Pos} (y : NmV prog w env h n (.str x t)) : Ev prog w Z d env h (.Name n pos) (.str x) := ev_nm ⟨_, .str _ _, y⟩

/-- statements -/
noncomputable def Sq (M : Model) (A : Around) (env : Env) (rest : List Stmt) (Q : Flow → Shared → Prop) (E : Value → Shared → Prop) : Flow → Shared → Prop := fun f s' => match f with | .next => wpAny M A (execs rest env) Q E s' | f => Q f s'

variable {A : Around} {rest : List Stmt} {Q : Flow → Shared → Prop} {E : Value → Shared → Prop}
theorem s_nil (h : Q .next s) : wpAny (model prog w) A (execs [] env) Q E s := wpAny_execs_nil h

theorem st_bindX {n : Str} {x : V} {v : Value} {Q : Unit → Shared → Prop} (F : Fs K mg mb env sc Z h₀ σ Ow l s) (c : Con Z s.heap x v) (k : ∀ s', Fs K mg mb env sc Z h₀ σ Ow ((n, x) :: l) s' → ExtX Z s.heap s'.heap → Q () s') (hk : sc.names.lookup n = some .local) :
    wpAny (model prog w) A (storeName env n v) Q E s := by
  obtain ⟨m, hm⟩ := F.ns
  refine wpAny_storeName_local (by unfold Env.kindOf; rw [F.hsc]; exact hk) hm.1 (fun h' hn hs => k _ (F.store hm c hn hs) fun b o nb e => (hs.2 b (fun q => nb (q ▸ F.zL))).trans e) ?_
  rw [F.hsc, F.ek]; rfl
theorem st_bind {n : Str} {x : V} {v : Value} {Q : Unit → Shared → Prop} (F : Fs K mg mb env sc Z h₀ σ Ow l s) (c : Con Z s.heap x v) (k : ∀ s', Fs K mg mb env sc Z h₀ σ Ow ((n, x) :: l) s' → Q () s') (hk : sc.names.lookup n = some .local) :
    wpAny (model prog w) A (storeName env n v) Q E s := st_bindX F c (fun s' F' _ => k s' F') hk

theorem s_assign {n : Str} {x : V} {e : PySem.Expr} {p q : Pos} (F : Fs K mg mb env sc Z h₀ σ Ow l s) (g : Gd d A) (he : Ev prog w Z d env s.heap e x) (hk : sc.names.lookup n = some .local)
    (k : ∀ s', Fs K mg mb env sc Z h₀ σ Ow ((n, x) :: l) s' → wpAny (model prog w) A (execs rest env) Q E s')
    (hs : swapsWith e (some (.Name n p)) q.line env = pure false := by rfl) : wpAny (model prog w) A (execs (.Assign [.Name n p] e q :: rest) env) Q E s :=
  wpAny_execs_cons (wpAny_Assign_Name (he A _ E s g (.refl _) fun v h1 tk e1 c1 => st_bind (F.ext e1) c1 k hk) hs)

theorem s_aug {n : Str} {x y z : V} {op : Operator} {e : PySem.Expr} {p q : Pos} (F : Fs K mg mb env sc Z h₀ σ Ow l s) (g : Gd d A) (hl : l.lookup n = some x) (hk : sc.names.lookup n = some .local) (he : Ev prog w Z d env s.heap e y)
    (ho : Op2 prog w Z d s.heap (inplaceOp op) x y z)
    (k : ∀ s', Fs K mg mb env sc Z h₀ σ Ow ((n, z) :: l) s' → wpAny (model prog w) A (execs rest env) Q E s') : wpAny (model prog w) A (execs (.AugAssign (.Name n p) op e q :: rest) env) Q E s := by
  refine wpAny_execs_cons (wpAny_AugAssign_Name ?_)
  obtain ⟨m, hm⟩ := F.ns
  obtain ⟨v, hv, c⟩ := hm.2 n x hl
  refine wpAny_loadName_local (by rw [F.hsc]; exact F.ek) (by unfold Env.kindOf; rw [F.hsc]; exact hk) hm.1 hv ?_
  exact he A _ E s g (.refl _) fun u h1 tk e1 c1 => ho h1 v u e1 (c.keep e1) c1 A _ E _ g (.refl _) fun r h2 tk2 e2 c2 => st_bind (F.ext (e1.trans e2)) c2 k hk

theorem s_if {t : PySem.Expr} {b o : List Stmt} {p : Pos} {c : Bool} (F : Fs K mg mb env sc Z h₀ σ Ow l s) (g : Gd d A) (ht : Ts prog w d env s.heap t c)
    (kt : c = true → ∀ s', Fs K mg mb env sc Z h₀ σ Ow l s' → wpAny (model prog w) A (execs b env) (Sq (model prog w) A env rest Q E) E s')
    (kf : c = false → ∀ s', Fs K mg mb env sc Z h₀ σ Ow l s' → wpAny (model prog w) A (execs o env) (Sq (model prog w) A env rest Q E) E s') :
    wpAny (model prog w) A (execs (.If t b o p :: rest) env) Q E s :=
  wpAny_execs_cons (wpAny_If (ht A _ E s g (.refl _) fun h1 tk e1 => by
    cases c with
    | true => exact kt rfl _ (F.ext e1)
    | false => exact kf rfl _ (F.ext e1)))

theorem s_ret {x : V} {e : PySem.Expr} {p : Pos} (F : Fs K mg mb env sc Z h₀ σ Ow l s) (g : Gd d A) (he : Ev prog w Z d env s.heap e x) (k : ∀ v s', Fs K mg mb env sc Z h₀ σ Ow l s' → Con Z s'.heap x v → Q (.ret v) s') :
    wpAny (model prog w) A (execs (.Return (some e) p :: rest) env) Q E s :=
  wpAny_execs_cons (wpAny_Return_some (he A _ E s g (.refl _) fun v h1 tk e1 c1 => k v _ (F.ext e1) c1))
theorem s_brk {p : Pos} (h : Q .brk s) : wpAny (model prog w) A (execs (.Break p :: rest) env) Q E s := wpAny_execs_cons (wpAny_Break h)
theorem s_cont {p : Pos} (h : Q .cont s) : wpAny (model prog w) A (execs (.Continue p :: rest) env) Q E s := wpAny_execs_cons (wpAny_Continue h)
theorem s_pass {p : Pos} (h : wpAny (model prog w) A (execs rest env) Q E s) : wpAny (model prog w) A (execs (.Pass p :: rest) env) Q E s := wpAny_execs_cons (wpAny_Pass h)

/-- a while: I n l holds at every test; the body lowers n -/
theorem s_while {t : PySem.Expr} {b : List Stmt} {p : Pos} (I : Nat → (Heap → Prop) → List (Str × V) → Prop) {n : Nat} (F : Fs K mg mb env sc Z h₀ σ Ow l s) (g : Gd d A) (hI : I n Ow l)
    (turn : ∀ n Ow l s, I n Ow l → Fs K mg mb env sc Z h₀ σ Ow l s → ∃ c, Ts prog w d env s.heap t c ∧
      (c = false → ∀ s', Fs K mg mb env sc Z h₀ σ Ow l s' → wpAny (model prog w) A (execs rest env) Q E s') ∧
      (c = true → ∀ s' E', Fs K mg mb env sc Z h₀ σ Ow l s' → wpAny (model prog w) A (execs b env) (fun f s₃ => match f with
          | .next | .cont => ∃ m Ow' l', m < n ∧ I m Ow' l' ∧ Fs K mg mb env sc Z h₀ σ Ow' l' s₃
          | .brk => wpAny (model prog w) A (execs rest env) Q E s₃
          | .ret v => Q (.ret v) s₃) E' s')) :
    wpAny (model prog w) A (execs (.While t b [] p :: rest) env) Q E s := by
  refine wpAny_execs_cons (wpAny_While ?_)
  refine codeAny_whileLoop (fun n s => ∃ Ow l, I n Ow l ∧ Fs K mg mb env sc Z h₀ σ Ow l s) (fun n s ⟨Ow, l, hI, F⟩ => ?_) n ⟨Ow, l, hI, F⟩
  obtain ⟨c, ht, hf, hb⟩ := turn n Ow l s hI F
  refine ht A _ _ s g (.refl _) fun h1 tk e1 => ?_
  cases c with
  | false =>
    simp only [Bool.false_eq_true, if_false]
    exact wpAny_execs_nil (hf rfl _ (F.ext e1))
  | true =>
    simp only [if_true]
    refine wpAny_mono (hb rfl _ _ (F.ext e1)) (fun f s₃ q => ?_) fun _ _ e => e
    cases f with
    | next => obtain ⟨m, O', l', a, b, c⟩ := q; exact ⟨m, a, O', l', b, c⟩
    | cont => obtain ⟨m, O', l', a, b, c⟩ := q; exact ⟨m, a, O', l', b, c⟩
    | brk => exact q
    | ret v => exact q
end
end
section
/-- a piece of code yields a value -/
noncomputable def YlC (prog : Program) (w : World) (X : Addr → Prop) (d : Nat) (h : Heap) (c : Code) (x : V) : Prop :=
  ∀ (A : Around) (R : Result → Shared → Prop) (s : Shared), Gd d A → Ext h s.heap →
    (∀ v h' tk, Ext s.heap h' → Con X h' x v → R (.ok (.ret v)) { s with heap := h', toks := tk }) → codeAny (model prog w) A c R s
/-- a def that only reads and makes -/
noncomputable def Pf (K : Frag) (mg mb : Str → Option Value) (prog : Program) (w : World) (d : Nat) (a : Addr) (F : List V → V → Prop) : Prop :=
  ∀ (X : Addr → Prop) (h : Heap) (xs : List V) (z : V) (vs : List Value), F xs z → Wd K mg mb h → XA X h → ConL X h xs vs → YlC prog w X d h (.call (.ref a) ⟨vs, []⟩) z

section
variable {K : Frag} {mg mb : Str → Option Value} {prog : Program} {w : World} {X : Addr → Prop} {d : Nat} {env : Env} {h : Heap}

theorem Pf.le {d e : Nat} {a : Addr} {F : List V → V → Prop} (P : Pf K mg mb prog w d a F) (k : d ≤ e) : Pf K mg mb prog w e a F :=
  fun X h xs z vs f W xa c A R s g => P X h xs z vs f W xa c A R s (g.le k)
theorem ev_call {d' : Nat} {f : Str} {a : Addr} {o : Obj} {fd : FuncData} {F : List V → V → Prop} {fp pos : Pos} {e : PySem.Expr} {r : List PySem.Expr} {xs : List V} {z : V} (W : Wd K mg mb h) (xa : XA X h)
    (hn : NmV prog w env h f (.ref a)) (hK : K.lookup a = some o) (hd : o.data = .func fd) (P : Pf K mg mb prog w d' a F) (hle : d' ≤ d) (he : Evs prog w X d env h pos (e :: r) xs) (hF : F xs z)
    (hs : starEach (e :: r) env = (false, eval e env) :: starEach r env := by rfl) : Ev prog w X d env h (.Call (.Name f fp) (e :: r) [] pos) z :=
  fun A Q E s g ex q => PyProof.Rows.Call_Name rfl (hn A _ E s fp ex (callWith_function (by
    have he' := he A (fun vs s₁ => (s₁.heap.get? a = some o ∧ o.data = .func fd) ∧ wpAny (model prog w) A (call (.ref a) ([] ++ vs) []) Q E s₁) E s g ex (fun vs h1 tk e1 c1 =>
      ⟨⟨W.kin.keeps (ex.trans e1) _ _ hK, hd⟩, wpAny_call (P.le hle X h1 xs z vs hF (W.keep (ex.trans e1)) (xa.keep (ex.trans e1)) c1 A _ _ g (.refl _) fun v h2 tk2 e2 c2 => q v h2 tk2 (e1.trans e2) c2)⟩)
    have e0 : backTo pos (starEach (e :: r) env) = (false, eval e env) :: backTo pos (starEach r env) := by rw [hs]; rfl
    rw [e0] at he' ⊢
    exact evalArgs_plain he')))
theorem ev_call0 {d' : Nat} {f : Str} {a : Addr} {o : Obj} {fd : FuncData} {F : List V → V → Prop} {fp pos : Pos} {z : V} (W : Wd K mg mb h) (xa : XA X h)
    (hn : NmV prog w env h f (.ref a)) (hK : K.lookup a = some o) (hd : o.data = .func fd) (P : Pf K mg mb prog w d' a F) (hle : d' ≤ d) (hF : F [] z) : Ev prog w X d env h (.Call (.Name f fp) [] [] pos) z :=
  fun A Q E s g ex q => PyProof.Rows.Call_Name rfl (hn A _ E s fp ex (callWith_function (evalArgs_nil3
    ⟨⟨W.kin.keeps ex _ _ hK, hd⟩, wpAny_call (P.le hle X _ [] z [] hF (W.keep ex) (xa.keep ex) .nil A _ _ g (.refl _) fun v h2 tk2 e2 c2 => q v h2 tk2 e2 c2)⟩)))

/-- built-in functions -/
theorem ev_bi {f id : String} {fp pos : Pos} {e : PySem.Expr} {r : List PySem.Expr} {xs : List V} {z : V}
    (hn : NmV prog w env h (Str.ofString f) (.builtin id)) (he : Evs prog w X d env h pos (e :: r) xs)
    (ho : ∀ h' vs, Ext h h' → ConL X h' xs vs → Yl prog w X d h' (call (.builtin id) vs) z)
    (hs : starEach (e :: r) env = (false, eval e env) :: starEach r env := by rfl) (hp : (backTo pos (starEach r env)).any (·.1) = false := by rfl) : Ev prog w X d env h (.Call (.Name (Str.ofString f) fp) (e :: r) [] pos) z :=
  fun A Q E s g ex q => PyProof.Rows.Call_Name rfl (hn A _ E s fp ex (by
    have he' := he A (fun vs s₁ => wpAny (model prog w) A (call (.builtin id) ([] ++ vs) []) Q E s₁) E s g ex (fun vs h1 tk e1 c1 =>
      by refine ho h1 vs (ex.trans e1) c1 A Q E _ g (.refl _) ?_; intro v h2 tk2 e2 c2; exact q v h2 tk2 (e1.trans e2) c2)
    have e0 : backTo pos (starEach (e :: r) env) = (false, eval e env) :: backTo pos (starEach r env) := by rw [hs]; rfl
    rw [e0] at he' ⊢
    exact callWith_builtin (by show (false || _) = false; rw [hp]; rfl) (evalArgs_plain he')))
theorem ev_ty {f id : String} {fp pos : Pos} {e : PySem.Expr} {r : List PySem.Expr} {xs : List V} {z : V}
    (hn : NmV prog w env h (Str.ofString f) (.type id)) (he : Evs prog w X d env h pos (e :: r) xs)
    (ho : ∀ h' vs, Ext h h' → ConL X h' xs vs → Yl prog w X d h' (call (.type id) vs) z)
    (hs : starEach (e :: r) env = (false, eval e env) :: starEach r env := by rfl) (hp : (backTo pos (starEach r env)).any (·.1) = false := by rfl) : Ev prog w X d env h (.Call (.Name (Str.ofString f) fp) (e :: r) [] pos) z :=
  fun A Q E s g ex q => PyProof.Rows.Call_Name rfl (hn A _ E s fp ex (by
    have he' := he A (fun vs s₁ => wpAny (model prog w) A (call (.type id) ([] ++ vs) []) Q E s₁) E s g ex (fun vs h1 tk e1 c1 =>
      by refine ho h1 vs (ex.trans e1) c1 A Q E _ g (.refl _) ?_; intro v h2 tk2 e2 c2; exact q v h2 tk2 (e1.trans e2) c2)
    have e0 : backTo pos (starEach (e :: r) env) = (false, eval e env) :: backTo pos (starEach r env) := by rw [hs]; rfl
    rw [e0] at he' ⊢
    exact PyProof.Rows.callWith_type (by show (false || _) = false; rw [hp]; rfl) (evalArgs_plain he')))

theorem bi_len_str {x : Str} (hx : x.length ≤ 1000000) : ∀ h' vs, Ext h h' → ConL X h' [.str x] vs → Yl prog w X d h' (call (.builtin "len") vs) (.int x.length) := fun h' vs _ c A Q E s g e q => by
  cases c with | cons c1 c2 => cases c1; cases c2; exact P.len_str (by lia) (q _ s.heap _ (.refl _) (.int _ _))
theorem bi_len_lst {x : List V} (hx : x.length ≤ 1000000) : ∀ h' vs, Ext h h' → ConL X h' [.lst x] vs → Yl prog w X d h' (call (.builtin "len") vs) (.int x.length) := fun h' vs _ c A Q E s g e q => by
  cases c with | cons c1 c2 => cases c1 with | lst ho hx hl => cases c2; exact len_list ⟨_, e _ _ ho, rfl, _, rfl⟩ (by rw [List.size_toArray, hl.length]; lia) (by rw [List.size_toArray, hl.length]; exact q _ s.heap _ (.refl _) (.int _ _))
theorem bi_chr {i : Int} (h0 : 0 ≤ i) (h1 : i ≤ 1114111) : ∀ h' vs, Ext h h' → ConL X h' [.int i] vs → Yl prog w X d h' (call (.builtin "chr") vs) (.str ⟨#[i.toNat]⟩) := fun h' vs _ c A Q E s g e q => by
  cases c with | cons c1 c2 => cases c1; cases c2; exact chr_of_range h0 h1 (q _ s.heap _ (.refl _) (.str _ _))
theorem bi_min {a b : Int} : ∀ h' vs, Ext h h' → ConL X h' [.int a, .int b] vs → Yl prog w X d h' (call (.builtin "min") vs) (.int (if b < a then b else a)) := fun h' vs _ c A Q E s g e q => by
  cases c with
  | cons c1 c2 =>
    cases c2 with
    | cons c2 c3 =>
      cases c1; cases c2; cases c3
      refine min_two_ints g.hd fun h' tk k => ?_
      by_cases hc : b < a
      · rw [if_pos hc]; rw [if_pos hc] at q; exact q _ h' tk k (.int _ _)
      · rw [if_neg hc]; rw [if_neg hc] at q; exact q _ h' tk k (.int _ _)

/-- methods of a str -/
theorem ev_find {o e : PySem.Expr} {apos pos : Pos} {x y : Str} (ho : Ev prog w X d env h o (.str x)) (he : Ev prog w X d env h e (.str y))
    (hbase : attributeBase o "find" env (eval o env) = eval o env := by rfl) (hs : starEach [e] env = [(false, eval e env)] := by rfl) (hline : (apos.endLine == pos.line) = true := by rfl) :
    Ev prog w X d env h (.Call (.Attribute o "find" apos) [e] [] pos) (.int (Txt.find x y)) :=
  fun A Q E s g ex q => Call_method1 hbase hs hline (ho A _ E s g ex fun v h1 tk e1 c1 => by
    (first | apply c1.refG | apply c1.noneG | apply c1.boolG | (apply c1.strG; intro _) | (apply c1.intG; intro _)); clear c1
    exact SB.find (he A _ E _ g (ex.trans e1) fun u h2 tk2 e2 c2 => by
      (first | apply c2.refG | apply c2.noneG | apply c2.boolG | (apply c2.strG; intro _) | (apply c2.intG; intro _)); clear c2; exact ⟨_, _, rfl, q _ h2 _ (e1.trans e2) (.int _ _)⟩))
theorem strs_con {h : Heap} : ∀ {l : List (Str × Tok)} {ys : List Str}, l.map (·.1) = ys → ConL X h (ys.map .str) (strValues l)
  | [], _, e => by subst e; exact .nil
  | (y, t) :: r, _, e => by subst e; exact .cons (.str y t) (strs_con rfl)
theorem con_strs {h : Heap} : ∀ {ys : List Str} {vs : List Value}, ConL X h (ys.map .str) vs → StrsAre vs ys
  | [], _, c => by cases c; exact .nil
  | y :: r, _, c => by
    cases c with
    | cons a b => cases a; exact .cons _ _ (con_strs b)
theorem split_new {x y : Str} {t u : Tok} {A : Around} {E : Value → Shared → Prop} {s : Shared} {Q : Value → Shared → Prop} (hy : (y.length == 0) = false) (hx : x.length ≤ 1000000)
    (q : ∀ l tk, l.map (·.1) = Txt.split x y → Q (.ref s.heap.objs.size) { s with heap := s.heap.push { cls := .type "list", data := .seq (strValues l).toArray }, toks := tk }) :
    wpAny (model prog w) A (call (.builtin "str.split") [.str x t, .str y u]) Q E s := by
  have z1 : x.length ≤ sizeLine := Nat.le_trans hx (by decide)
  have z2 : (Builtin.Str.partsBetween x (Builtin.Str.occurrences x y 0 x.length (x.length + 1)) y.length).length ≤ sizeLine := by
    have e1 := StrLaws.occ_length_le x y 0 x.length (x.length + 1)
    have e2 : sizeLine = 16777216 := by decide
    rw [length_partsBetween]; lia
  by_cases h1 : (decide (x.length < y.length) || decide (Builtin.Str.strKind x < Builtin.Str.strKind y)) = true
  · exact call_meets F.slot_str_split (typeIs_str _ _ _) F.entry_str_split (F.args_str_split_2 _ _) (meets_str_split_cannot_occur x y t u h1) (q [(x, t)] _ (by unfold Txt.split; rw [if_pos h1]; rfl))
  · by_cases hf : (Builtin.Str.occurrences x y 0 x.length (x.length + 1)).isEmpty = true
    · exact call_meets F.slot_str_split (typeIs_str _ _ _) F.entry_str_split (F.args_str_split_2 _ _) (meets_str_split_not_found x y t u (Bool.eq_false_iff.mpr h1) hy hf) (q [(x, t)] _ (by unfold Txt.split; rw [if_neg h1, if_pos hf]; rfl))
    · refine call_meets F.slot_str_split (typeIs_str _ _ _) F.entry_str_split (F.args_str_split_2 _ _) (meets_str_split_sep x y t u (Bool.eq_false_iff.mpr h1) hy (Bool.eq_false_iff.mpr hf) z1 z2) ?_
      have q' := q (numbered s.toks (Builtin.Str.partsBetween x (Builtin.Str.occurrences x y 0 x.length (x.length + 1)) y.length))
      rw [← strsFrom_eq] at q'
      exact q' _ (by unfold Txt.split; rw [if_neg h1, if_neg hf]; exact numbered_texts _ _)
theorem ev_split {o e : PySem.Expr} {apos pos : Pos} {x y : Str} (xa : XA X h) (hx : x.length ≤ 1000000) (hy : (y.length == 0) = false) (ho : Ev prog w X d env h o (.str x)) (he : Ev prog w X d env h e (.str y))
    (hbase : attributeBase o "split" env (eval o env) = eval o env := by rfl) (hs : starEach [e] env = [(false, eval e env)] := by rfl) (hline : (apos.endLine == pos.line) = true := by rfl) :
    Ev prog w X d env h (.Call (.Attribute o "split" apos) [e] [] pos) (.lst ((Txt.split x y).map .str)) :=
  fun A Q E s g ex q => Call_method1 hbase hs hline (ho A _ E s g ex fun v h1 tk e1 c1 => by
    (first | apply c1.refG | apply c1.noneG | apply c1.boolG | (apply c1.strG; intro _) | (apply c1.intG; intro _)); clear c1
    refine ⟨"str", _, F.plainAttrs_str, F.slot_str_split, F.type_str_split, typeIs_str _ _ _, (fun _ e => nomatch e), ?_⟩
    refine callWith_builtin (by rfl) (evalArgs_plain (spliced_cons (he A _ E _ g (ex.trans e1) fun u h2 tk2 e2 c2 => spliced_nil ?_)))
    (first | apply c2.refG | apply c2.noneG | apply c2.boolG | (apply c2.strG; intro _) | (apply c2.intG; intro _)); clear c2
    exact split_new hy hx fun l tk3 hl => q _ _ _ (e1.trans (e2.trans (Ext.push _ _))) (.lst (n := 0) (Heap.get?_push_size _ rfl) ((xa.keep ex).keep (e1.trans e2)).fresh (strs_con hl)))
end
end
section
section
variable {K : Frag} {mg mb : Str → Option Value} {prog : Program} {w : World} {Z : Addr → Prop} {d : Nat} {env : Env} {sc : Scope} {h₀ : Heap} {σ s : Shared} {Ow : Heap → Prop} {l : List (Str × V)}
variable {A : Around} {rest : List Stmt} {Q : Flow → Shared → Prop} {E : Value → Shared → Prop}

theorem ext_of_but {h h' : Heap} (e : Heap.ExtBut h.objs.size h h') : Ext h h' := fun b o q => e b o (Nat.ne_of_lt (Heap.lt_size q)) q

theorem unpack_con {xs : List V} {v : Value} {n : Nat} {Q : List Value → Shared → Prop} (g : Gd d A) (c : Con Z s.heap (.tup xs) v) (hn : n = xs.length)
    (k : ∀ vs h', Ext s.heap h' → ConL Z h' xs vs → Q vs { s with heap := h' }) : wpAny (model prog w) A (unpackItems v n none) Q E s := by
  cases c with
  | tup ho hx hl =>
    rename_i vs a
    have hsz : vs.toArray.size = n := by rw [List.size_toArray, hl.length, hn]
    subst hsz
    exact unpackItems_tuple g.hd ⟨_, ho, rfl, _, rfl⟩ fun h' e => k _ h' (ext_of_but e) (by simpa using hl.keep (ext_of_but e))

theorem as_nil {Q : Unit → Shared → Prop} (h : Q () s) : wpAny (model prog w) A (assignInOrder [] []) Q E s := wpAny_pure h
theorem as_cons {t : Value → Sem Unit} {ts : List (Value → Sem Unit)} {x : Value} {xs : List Value} {Q : Unit → Shared → Prop} (h : wpAny (model prog w) A (t x) (fun _ s' => wpAny (model prog w) A (assignInOrder ts xs) Q E s') E s) :
    wpAny (model prog w) A (assignInOrder (t :: ts) (x :: xs)) Q E s := by
  show wpAny _ _ (do holding xs (t x); assignInOrder ts xs) _ _ _
  exact wpAny_bind (wpAny_holding h)

/-- a, b = e1, e2 of one row (stored from behind) -/
theorem s_pair {a b : Str} {e : PySem.Expr} {x y : V} {p1 p2 tp q : Pos} {k0 : Nat} (F : Fs K mg mb env sc Z h₀ σ Ow l s) (g : Gd d A) (he : Ev prog w Z d env s.heap e (.tup [x, y])) (ha : sc.names.lookup a = some .local) (hb : sc.names.lookup b = some .local)
    (hw : ∀ env' : Env, env'.scope = sc → swappedStores [.Tuple [.Name a p1, .Name b p2] k0 tp] e env' = pure (some [a, b]))
    (k : ∀ s', Fs K mg mb env sc Z h₀ σ Ow ((a, x) :: (b, y) :: l) s' → wpAny (model prog w) A (execs rest env) Q E s')
    (hs : swapsWithSole [.Tuple [.Name a p1, .Name b p2] k0 tp] e q.line env = pure false := by rfl) :
    wpAny (model prog w) A (execs (.Assign [.Tuple [.Name a p1, .Name b p2] k0 tp] e q :: rest) env) Q E s := by
  refine wpAny_execs_cons (Assign_Tuple_swapped (he A _ E s g (.refl _) fun v h1 tk e1 c1 => unpack_con g c1 rfl fun vs h2 e2 c2 => ?_) hs (hw env F.hsc))
  cases c2 with
  | cons c2 c3 =>
    cases c3 with
    | cons c3 c4 =>
      cases c4
      show wpAny _ _ (assignInOrder [fun v => bindName env b v, fun v => bindName env a v] [_, _]) _ _ _
      exact as_cons (wpAny_bindName (st_bindX (F.ext (e1.trans e2)) c3 (fun s' F' e3 => as_cons (wpAny_bindName (st_bind F' (c2.keepX e3) (fun s2 F2 => as_nil (k s2 F2)) ha))) hb))
/-- kind, val = an item: stored in the order of the names -/
theorem s_pair' {a b : Str} {e : PySem.Expr} {x y : V} {p1 p2 tp q : Pos} {k0 : Nat} (F : Fs K mg mb env sc Z h₀ σ Ow l s) (g : Gd d A) (he : Ev prog w Z d env s.heap e (.tup [x, y])) (ha : sc.names.lookup a = some .local) (hb : sc.names.lookup b = some .local)
    (hw : swappedStores [.Tuple [.Name a p1, .Name b p2] k0 tp] e env = pure none)
    (k : ∀ s', Fs K mg mb env sc Z h₀ σ Ow ((b, y) :: (a, x) :: l) s' → wpAny (model prog w) A (execs rest env) Q E s')
    (hs : swapsWithSole [.Tuple [.Name a p1, .Name b p2] k0 tp] e q.line env = pure false := by rfl) :
    wpAny (model prog w) A (execs (.Assign [.Tuple [.Name a p1, .Name b p2] k0 tp] e q :: rest) env) Q E s := by
  refine wpAny_execs_cons (Assign_Tuple (he A _ E s g (.refl _) fun v h1 tk e1 c1 => ?_) hs hw)
  show wpAny _ _ (do standAt tp; assignInOrder [assign (.Name a p1) env, assign (.Name b p2) env] (← holding [v] (unpackItems v 2 none))) _ _ _
  refine wpAny_bind (wpAny_standAt (wpAny_bind (wpAny_holding (unpack_con g c1 rfl fun vs h2 e2 c2 => ?_))))
  cases c2 with
  | cons c2 c3 =>
    cases c3 with
    | cons c3 c4 =>
      cases c4
      exact as_cons (PyProof.Rows.assign_Name (st_bindX (F.ext (e1.trans e2)) c2 (fun s' F' e3 => as_cons (PyProof.Rows.assign_Name (st_bind F' (c3.keepX e3) (fun s2 F2 => as_nil (k s2 F2)) hb))) ha))
theorem s_four {a b a2 b2 : Str} {e : PySem.Expr} {x y x2 y2 : V} {p1 p2 p3 p4 tp q : Pos} {k0 : Nat} (F : Fs K mg mb env sc Z h₀ σ Ow l s) (g : Gd d A) (he : Ev prog w Z d env s.heap e (.tup [x, y, x2, y2])) (ha : sc.names.lookup a = some .local) (hb : sc.names.lookup b = some .local) (ha2 : sc.names.lookup a2 = some .local) (hb2 : sc.names.lookup b2 = some .local)
    (hw : swappedStores [.Tuple [.Name a p1, .Name b p2, .Name a2 p3, .Name b2 p4] k0 tp] e env = pure none)
    (k : ∀ s', Fs K mg mb env sc Z h₀ σ Ow ((b2, y2) :: (a2, x2) :: (b, y) :: (a, x) :: l) s' → wpAny (model prog w) A (execs rest env) Q E s')
    (hs : swapsWithSole [.Tuple [.Name a p1, .Name b p2, .Name a2 p3, .Name b2 p4] k0 tp] e q.line env = pure false := by rfl) :
    wpAny (model prog w) A (execs (.Assign [.Tuple [.Name a p1, .Name b p2, .Name a2 p3, .Name b2 p4] k0 tp] e q :: rest) env) Q E s := by
  refine wpAny_execs_cons (Assign_Tuple (he A _ E s g (.refl _) fun v h1 tk e1 c1 => ?_) hs hw)
  show wpAny _ _ (do standAt tp; assignInOrder [assign (.Name a p1) env, assign (.Name b p2) env, assign (.Name a2 p3) env, assign (.Name b2 p4) env] (← holding [v] (unpackItems v 4 none))) _ _ _
  refine wpAny_bind (wpAny_standAt (wpAny_bind (wpAny_holding (unpack_con g c1 rfl fun vs h2 e2 c2 => ?_))))
  cases c2 with
  | cons c2 c3 =>
    cases c3 with
    | cons c3 c4 =>
      cases c4 with
      | cons c4 c5 =>
        cases c5 with
        | cons c5 c6 =>
          cases c6
          exact as_cons (PyProof.Rows.assign_Name (st_bindX (F.ext (e1.trans e2)) c2 (fun s' F' e3 => as_cons (PyProof.Rows.assign_Name (st_bindX F' (c3.keepX e3) (fun s2 F2 e4 =>
            as_cons (PyProof.Rows.assign_Name (st_bindX F2 ((c4.keepX e3).keepX e4) (fun s3 F3 e5 => as_cons (PyProof.Rows.assign_Name (st_bind F3 (((c5.keepX e3).keepX e4).keepX e5) (fun s4 F4 => as_nil (k s4 F4)) hb2))) ha2))) hb))) ha))

/-- fewer forbidden addresses -/
theorem Fs.less (F : Fs K mg mb env sc Z h₀ σ Ow l s) {Y : Addr → Prop} (k : ∀ a, Y a → Z a) (y : Y env.locals) : Fs K mg mb env sc Y h₀ σ Ow l s :=
  { F with xa := fun a q => F.xa a (k a q), zL := y, ns := let ⟨m, a, b⟩ := F.ns; ⟨m, a, fun n x q => let ⟨v, p, c⟩ := b n x q; ⟨v, p, c.less k⟩⟩ }
theorem Fs.reOw (F : Fs K mg mb env sc Z h₀ σ Ow l s) {Ow' : Heap → Prop} (h : Ow' s.heap) (fp : List Addr) (hf : env.locals ∉ fp) (hfs : ∀ a ∈ fp, (s.heap.get? a).isSome = true) (hk : ∀ h h' : Heap, (∀ b ∈ fp, ∀ o, h.get? b = some o → h'.get? b = some o) → Ow' h → Ow' h') : Fs K mg mb env sc Z h₀ σ Ow' l s :=
  { F with ow := h, owf := ⟨fp, hf, hfs, hk⟩ }
theorem Fs.locals_lt (F : Fs K mg mb env sc Z h₀ σ Ow l s) : env.locals < s.heap.objs.size := let ⟨_, hm, _⟩ := F.ns; hm.lt
theorem Fs.new_none (F : Fs K mg mb env sc Z h₀ σ Ow l s) : h₀.get? s.heap.objs.size = none := by
  cases e : h₀.get? s.heap.objs.size with
  | none => rfl
  | some o => exact absurd (Heap.lt_size (F.base _ _ e)) (Nat.lt_irrefl _)
theorem get_size_none (h : Heap) : h.get? h.objs.size = none := by
  cases e : h.get? h.objs.size with
  | none => rfl
  | some o => exact absurd (Heap.lt_size e) (Nat.lt_irrefl _)
/-- a new object, of one's own -/
theorem Fs.make (F : Fs K mg mb env sc Z h₀ σ Ow l s) {o : Obj} (ho : o.isFreed = false) {tk : Nat} {Ow' : Heap → Prop} (h : Ow' (s.heap.push o)) (hk : ∀ h h' : Heap, (∀ x, h.get? s.heap.objs.size = some x → h'.get? s.heap.objs.size = some x) → Ow' h → Ow' h') :
    Fs K mg mb env sc (fun a => Z a ∨ a = s.heap.objs.size) h₀ σ (fun h => Ow h ∧ Ow' h) l { s with heap := s.heap.push o, toks := tk } := by
  have e := Ext.push s.heap o
  have F1 : Fs K mg mb env sc Z h₀ σ Ow l { s with heap := s.heap.push o, toks := tk } := F.ext e
  obtain ⟨fp, f1, fs, f2⟩ := F1.owf
  refine { F1 with xa := fun a q => ?_, zL := .inl F.zL, ow := ⟨F1.ow, h⟩, owf := ⟨s.heap.objs.size :: fp, ?_, ?_, fun a b k x => ⟨f2 a b (fun c hc => k c (List.mem_cons_of_mem _ hc)) x.1, hk a b (k _ (List.mem_cons_self ..)) x.2⟩⟩, ns := ?_ }
  · rcases q with q | q
    · exact F1.xa a q
    · subst q; show ((s.heap.push o).get? s.heap.objs.size).isSome = true; rw [Heap.get?_push_size _ ho]; rfl
  · intro hm
    rcases List.mem_cons.mp hm with q | q
    · exact absurd F.locals_lt (q ▸ Nat.lt_irrefl _)
    · exact f1 q
  · intro a hm
    rcases List.mem_cons.mp hm with q | q
    · subst q; show ((s.heap.push o).get? s.heap.objs.size).isSome = true; rw [Heap.get?_push_size _ ho]; rfl
    · exact fs a q
  · obtain ⟨m, a, b⟩ := F.ns
    exact ⟨m, a.keeps e, fun n x q => let ⟨v, p, c⟩ := b n x q; ⟨v, p, (c.more (Y := fun a => Z a ∨ a = s.heap.objs.size) (fun a y => y.elim .inl fun q => .inr (q ▸ get_size_none _))).keep e⟩⟩
/-- something of one's own has turned (outside h₀ and the frame) -/
theorem Fs.turn (F : Fs K mg mb env sc Z h₀ σ Ow l s) {wr : List Addr} {h' : Heap} {tk : Nat} {Ow' : Heap → Prop} (hz : ∀ a ∈ wr, Z a ∧ h₀.get? a = none ∧ a ≠ env.locals) (hk : ∀ b o, b ∉ wr → s.heap.get? b = some o → h'.get? b = some o) (hsome : ∀ a ∈ wr, (h'.get? a).isSome = true)
    (h : Ow' h') (fp : List Addr) (hf : env.locals ∉ fp) (hfs : ∀ a ∈ fp, (h'.get? a).isSome = true) (hk' : ∀ h h' : Heap, (∀ b ∈ fp, ∀ o, h.get? b = some o → h'.get? b = some o) → Ow' h → Ow' h') : Fs K mg mb env sc Z h₀ σ Ow' l { s with heap := h', toks := tk } where
  same := let ⟨_, _, q⟩ := F.same; ⟨h', tk, by rw [q]⟩
  base := fun b o e => hk b o (fun q => by rw [(hz b q).2.1] at e; cases e) (F.base b o e)
  wd := F.wd
  xa := fun a q => by
    by_cases m : a ∈ wr
    · exact hsome a m
    · obtain ⟨o, ho⟩ := Option.isSome_iff_exists.mp (F.xa a q)
      show (h'.get? a).isSome = true
      rw [hk a o m ho]; rfl
  hsc := F.hsc
  eg := F.eg
  eb := F.eb
  ek := F.ek
  zL := F.zL
  nL := F.nL
  ow := h
  owf := ⟨fp, hf, hfs, hk'⟩
  ns := by
    obtain ⟨m, a, b⟩ := F.ns
    have hl : env.locals ∉ wr := fun q => (hz _ q).2.2 rfl
    have k : ExtX Z s.heap h' := fun b o nb e => hk b o (fun q => nb (hz b q).1) e
    obtain ⟨o, es, ep, ho, r⟩ := a
    exact ⟨m, ⟨o, es, ep, hk _ _ hl ho, r⟩, fun n x q => let ⟨v, p, c⟩ := b n x q; ⟨v, p, c.keepX k⟩⟩

theorem Fs.turnLess (F : Fs K mg mb env sc Z h₀ σ Ow l s) {wr : List Addr} {h' : Heap} {tk : Nat} {Ow' : Heap → Prop} {Y : Addr → Prop} (hY : ∀ a, Y a → Z a ∧ a ∉ wr) (yL : Y env.locals) (hz : ∀ a ∈ wr, Z a ∧ h₀.get? a = none ∧ a ≠ env.locals) (hk : ∀ b o, b ∉ wr → s.heap.get? b = some o → h'.get? b = some o)
    (h : Ow' h') (fp : List Addr) (hf : env.locals ∉ fp) (hfs : ∀ a ∈ fp, (h'.get? a).isSome = true) (hk' : ∀ h h' : Heap, (∀ b ∈ fp, ∀ o, h.get? b = some o → h'.get? b = some o) → Ow' h → Ow' h') : Fs K mg mb env sc Y h₀ σ Ow' l { s with heap := h', toks := tk } where
  same := let ⟨_, _, q⟩ := F.same; ⟨h', tk, by rw [q]⟩
  base := fun b o e => hk b o (fun q => by rw [(hz b q).2.1] at e; cases e) (F.base b o e)
  wd := F.wd
  xa := fun a q => by
    obtain ⟨o, ho⟩ := Option.isSome_iff_exists.mp (F.xa a (hY a q).1)
    show (h'.get? a).isSome = true
    rw [hk a o (hY a q).2 ho]; rfl
  hsc := F.hsc
  eg := F.eg
  eb := F.eb
  ek := F.ek
  zL := yL
  nL := F.nL
  ow := h
  owf := ⟨fp, hf, hfs, hk'⟩
  ns := by
    obtain ⟨m, a, b⟩ := F.ns
    have hl : env.locals ∉ wr := fun q => (hz _ q).2.2 rfl
    have k : ExtX Z s.heap h' := fun b o nb e => hk b o (fun q => nb (hz b q).1) e
    obtain ⟨o, es, ep, ho, r⟩ := a
    exact ⟨m, ⟨o, es, ep, hk _ _ hl ho, r⟩, fun n x q => let ⟨v, p, c⟩ := b n x q; ⟨v, p, (c.keepX k).less fun a q => (hY a q).1⟩⟩

/-- a for over what a Walks gives; J i l holds before turn i -/
theorem s_for_walk {n : Str} {tp : Pos} {b : List Stmt} {I : Addr} {wr : List Addr} {cnt : Nat} {P : Nat → Value → Prop} {St : Nat → Heap → Prop} (J : Nat → List (Str × V) → Prop) (fp : List Addr)
    (W : Walks prog w A I fp wr cnt P St) (F : Fs K mg mb env sc Z h₀ σ (fun h => Ow h ∧ St 0 h) l s) (g : Gd d A) (hJ : J 0 l) (hk : sc.names.lookup n = some .local)
    (hwr : ∀ a ∈ wr, Z a ∧ h₀.get? a = none ∧ a ≠ env.locals) (hfp : env.locals ∉ fp) (hfs : ∀ i h, St i h → ∀ a ∈ fp, (h.get? a).isSome = true) (hsome : ∀ i h, St i h → ∀ a ∈ wr, (h.get? a).isSome = true)
    (how : ∃ fq : List Addr, env.locals ∉ fq ∧ (∀ a ∈ wr, a ∉ fq) ∧ (∀ a ∈ fq, (s.heap.get? a).isSome = true) ∧ ∀ h h' : Heap, (∀ b ∈ fq, ∀ o, h.get? b = some o → h'.get? b = some o) → Ow h → Ow h')
    (turn : ∀ i l (R : Heap → Prop) s v E', i < cnt → J i l → P i v → Fs K mg mb env sc Z h₀ σ (fun h => (Ow h ∧ R h) ∧ St (i + 1) h) l s → wpAny (model prog w) A (storeName env n v) (fun _ s2 => wpAny (model prog w) A (execs b env) (fun f s₃ => match f with
          | .next | .cont => ∃ l', J (i + 1) l' ∧ Fs K mg mb env sc Z h₀ σ (fun h => (Ow h ∧ R h) ∧ St (i + 1) h) l' s₃
          | .brk => Q .next s₃
          | .ret v => Q (.ret v) s₃) E' s2) E' s)
    {Y : Addr → Prop} (hY : ∀ a, Y a → Z a ∧ a ∉ wr) (yL : Y env.locals)
    (done : ∀ l s', J cnt l → Fs K mg mb env sc Y h₀ σ Ow l s' → Q .next s') :
    codeAny (model prog w) A (.forLoop (.Name n tp) (.ref I) b [] env) (fun r s' => match r with | .ok f => Q f s' | .error e => cameBackBy (model prog w) A env E e s') s := by
  obtain ⟨fq, f1, f2, f4, f3⟩ := how
  refine codeAny_forLoop (fun k s => ∃ i l, i + k = cnt ∧ J i l ∧ Fs K mg mb env sc Z h₀ σ (fun h => Ow h ∧ St i h) l s ∧ ∀ a ∈ fq, (s.heap.get? a).isSome = true) (fun k s ⟨i, l, hi, hJ, F, f4⟩ => ?_) cnt ⟨0, l, by lia, hJ, F, f4⟩
  by_cases hlt : i < cnt
  · refine W.item i s _ _ hlt F.ow.2 fun v h' tk hP hst hk' => ?_
    have f5 : ∀ a ∈ fq, (h'.get? a).isSome = true := fun a ha => by
      obtain ⟨o, ho⟩ := Option.isSome_iff_exists.mp (f4 a ha)
      rw [hk' a o (fun q => f2 a q ha) ho]; rfl
    have F' : Fs K mg mb env sc Z h₀ σ (fun h => (Ow h ∧ ∀ a ∈ fq, (h.get? a).isSome = true) ∧ St (i + 1) h) l { s with heap := h', toks := tk } := F.turn hwr hk' (hsome _ _ hst) ⟨⟨f3 _ _ (fun b hb o e => hk' b o (fun q => f2 b q hb) e) F.ow.1, f5⟩, hst⟩ (fq ++ fp)
      (fun q => (List.mem_append.mp q).elim f1 hfp) (fun a q => (List.mem_append.mp q).elim (f5 a) (hfs _ _ hst a)) fun a b k x => ⟨⟨f3 _ _ (fun c hc => k c (List.mem_append_left _ hc)) x.1.1, fun c hc => by
        obtain ⟨o, ho⟩ := Option.isSome_iff_exists.mp (x.1.2 c hc)
        rw [k c (List.mem_append_left _ hc) o ho]; rfl⟩, W.frame _ _ _ x.2 fun c hc => k c (List.mem_append_right _ hc)⟩
    refine PyProof.Rows.assign_Name (wpAny_mono (turn i l (fun h => ∀ a ∈ fq, (h.get? a).isSome = true) _ v _ hlt hJ hP F') (fun _ s2 h2 => wpAny_mono h2 (fun f s3 q => ?_) fun _ _ e => e) fun _ _ e => e)
    cases f with
    | next => obtain ⟨l', a, b⟩ := q; exact ⟨k - 1, by lia, i + 1, l', by lia, a, { b with ow := ⟨b.ow.1.1, b.ow.2⟩, owf := ⟨fq ++ fp, (fun q => (List.mem_append.mp q).elim f1 hfp), (fun a q => (List.mem_append.mp q).elim (b.ow.1.2 a) (hfs _ _ b.ow.2 a)), fun a b k x => ⟨f3 _ _ (fun c hc => k c (List.mem_append_left _ hc)) x.1, W.frame _ _ _ x.2 fun c hc => k c (List.mem_append_right _ hc)⟩⟩ }, b.ow.1.2⟩
    | cont => obtain ⟨l', a, b⟩ := q; exact ⟨k - 1, by lia, i + 1, l', by lia, a, { b with ow := ⟨b.ow.1.1, b.ow.2⟩, owf := ⟨fq ++ fp, (fun q => (List.mem_append.mp q).elim f1 hfp), (fun a q => (List.mem_append.mp q).elim (b.ow.1.2 a) (hfs _ _ b.ow.2 a)), fun a b k x => ⟨f3 _ _ (fun c hc => k c (List.mem_append_left _ hc)) x.1, W.frame _ _ _ x.2 fun c hc => k c (List.mem_append_right _ hc)⟩⟩ }, b.ow.1.2⟩
    | brk => exact q
    | ret v => exact q
  · obtain rfl : i = cnt := by lia
    refine W.done s _ _ F.ow.2 fun h' tk hk' => wpAny_execs_nil ?_
    exact done l _ hJ (F.turnLess hY yL hwr hk' (f3 _ _ (fun b hb o e => hk' b o (fun q => f2 b q hb) e) F.ow.1) fq f1 (fun a ha => by
      obtain ⟨o, ho⟩ := Option.isSome_iff_exists.mp (f4 a ha)
      show (h'.get? a).isSome = true
      rw [hk' a o (fun q => f2 a q ha) ho]; rfl) f3)

/-- the signs of a text, one by one -/
noncomputable def sign (c : Nat) : Str := ⟨#[c]⟩
theorem s_for_it {s1 : Shared} {n : Str} {tp : Pos} {b : List Stmt} {o : Obj} {tk : Nat} {cnt : Nat} {P : Nat → Value → Prop} {St : Nat → Heap → Prop} (Pv : Nat → V) (J : Nat → List (Str × V) → Prop) (Jb : List (Str × V) → Prop)
    (F1 : Fs K mg mb env sc Z h₀ σ Ow l s1) (g : Gd d A) (ho : o.isFreed = false) (W : Walks prog w A s1.heap.objs.size [s1.heap.objs.size] [s1.heap.objs.size] cnt P St)
    (hP : ∀ i v Z h, P i v → Con Z h (Pv i) v) (hsm : ∀ i h, St i h → (h.get? s1.heap.objs.size).isSome = true) (hst : St 0 (s1.heap.push o)) (hJ : J 0 l) (hk : sc.names.lookup n = some .local)
    (turn : ∀ i l Z' Ow' s E', i < cnt → J i l → Fs K mg mb env sc Z' h₀ σ Ow' ((n, Pv i) :: l) s → wpAny (model prog w) A (execs b env) (fun f s₃ => match f with
          | .next | .cont => ∃ l', J (i + 1) l' ∧ Fs K mg mb env sc Z' h₀ σ Ow' l' s₃
          | .brk => ∃ l', Jb l' ∧ Fs K mg mb env sc Z' h₀ σ Ow' l' s₃
          | .ret v => False) E' s)
    (hend : ∀ l, J cnt l → Jb l)
    (k : ∀ l s', Jb l → Fs K mg mb env sc Z h₀ σ Ow l s' → wpAny (model prog w) A (execs rest env) Q E s') :
    codeAny (model prog w) A (.forLoop (.Name n tp) (.ref s1.heap.objs.size) b [] env) (fun r s' => match r with | .ok f => (match f with | .next => wpAny (model prog w) A (execs rest env) Q E s' | f => Q f s') | .error e => cameBackBy (model prog w) A env E e s') { s1 with heap := s1.heap.push o, toks := tk } := by
  have hsome : ∀ i h, St i h → ∀ a ∈ [s1.heap.objs.size], (h.get? a).isSome = true := fun i h st a ha => by rw [List.mem_singleton.mp ha]; exact hsm i h st
  obtain ⟨fq, f1, f2, f3⟩ := F1.owf
  have hne : s1.heap.objs.size ≠ env.locals := fun q => absurd F1.locals_lt (q ▸ Nat.lt_irrefl _)
  have hnf : s1.heap.objs.size ∉ fq := fun q => by
    have := f2 _ q
    rw [get_size_none] at this; cases this
  have some_keep : ∀ h h' : Heap, (∀ b ∈ fq, ∀ o, h.get? b = some o → h'.get? b = some o) → (∀ a ∈ fq, (h.get? a).isSome = true) → ∀ a ∈ fq, (h'.get? a).isSome = true := fun h h' k y a ha => by
    obtain ⟨o', ho'⟩ := Option.isSome_iff_exists.mp (y a ha)
    rw [k a ha _ ho']; rfl
  have F1' : Fs K mg mb env sc Z h₀ σ (fun h => Ow h ∧ ∀ a ∈ fq, (h.get? a).isSome = true) l s1 := F1.reOw ⟨F1.ow, f2⟩ fq f1 f2 fun h h' k y => ⟨f3 h h' k y.1, some_keep h h' k y.2⟩
  refine s_for_walk (Ow := fun h => Ow h ∧ ∀ a ∈ fq, (h.get? a).isSome = true) (St := St) (Q := fun f s' => match f with | .next => wpAny (model prog w) A (execs rest env) Q E s' | f => Q f s') J [s1.heap.objs.size] W
    (F1'.make ho (tk := tk) (Ow' := St 0) hst (fun h h' k q => W.frame _ _ _ q fun b hb o e => by rw [List.mem_singleton.mp hb] at e ⊢; exact k o e)) g hJ hk ?_ ?_ ?_ hsome ?_ ?_ (Y := Z) ?_ F1.zL ?_
  · intro a ha
    rw [List.mem_singleton.mp ha]
    exact ⟨.inr rfl, F1.new_none, hne⟩
  · exact fun q => hne (List.mem_singleton.mp q).symm
  · exact hsome
  · refine ⟨fq, f1, fun a ha => by rw [List.mem_singleton.mp ha]; exact hnf, fun a ha => ?_, fun h h' k y => ⟨f3 h h' k y.1, some_keep h h' k y.2⟩⟩
    obtain ⟨o', ho'⟩ := Option.isSome_iff_exists.mp (f2 a ha)
    show ((s1.heap.push o).get? a).isSome = true
    rw [Heap.get?_push_of_some _ ho']; rfl
  · intro i l R s v E' hlt hJ hPv F'
    refine st_bind F' (hP i v _ _ hPv) (fun s2 F2 => wpAny_mono (turn i l _ _ s2 E' hlt hJ F2) (fun f s3 q => ?_) fun _ _ e => e) hk
    cases f with
    | next => exact q
    | cont => exact q
    | brk =>
      obtain ⟨l', a, b⟩ := q
      exact k l' s3 a (Fs.reOw (b.less (Y := Z) (fun a q => .inl q) F1.zL) b.ow.1.1.1 fq f1 b.ow.1.1.2 f3)
    | ret v => exact q.elim
  · intro a q
    refine ⟨.inl q, fun m => ?_⟩
    obtain rfl := List.mem_singleton.mp m
    have := F1.xa _ q
    rw [get_size_none] at this; cases this
  · exact fun l s' hj F' => k l s' (hend l hj) (F'.reOw F'.ow.1 fq f1 F'.ow.2 f3)

theorem s_for_str {n : Str} {tp p : Pos} {b : List Stmt} {e : PySem.Expr} {x : Str} (J : Nat → List (Str × V) → Prop) (Jb : List (Str × V) → Prop) (F : Fs K mg mb env sc Z h₀ σ Ow l s) (g : Gd d A) (he : Ev prog w Z d env s.heap e (.str x)) (hJ : J 0 l) (hk : sc.names.lookup n = some .local)
    (turn : ∀ i l Z' Ow' s E', (hi : i < x.cps.toList.length) → J i l → Fs K mg mb env sc Z' h₀ σ Ow' ((n, .str (sign x.cps.toList[i])) :: l) s → wpAny (model prog w) A (execs b env) (fun f s₃ => match f with
          | .next | .cont => ∃ l', J (i + 1) l' ∧ Fs K mg mb env sc Z' h₀ σ Ow' l' s₃
          | .brk => ∃ l', Jb l' ∧ Fs K mg mb env sc Z' h₀ σ Ow' l' s₃
          | .ret v => False) E' s)
    (hend : ∀ l, J x.cps.toList.length l → Jb l)
    (k : ∀ l s', Jb l → Fs K mg mb env sc Z h₀ σ Ow l s' → wpAny (model prog w) A (execs rest env) Q E s')
    (hs : ∀ v, foldedSetIterable e env v = pure v := by intro _; rfl) : wpAny (model prog w) A (execs (.For (.Name n tp) e b [] p :: rest) env) Q E s := by
  refine wpAny_execs_cons (wpAny_For (he A _ E s g (.refl _) fun v h1 tk e1 c1 => ?_) hs)
  have F1 := F.ext (tk := tk) e1
  (first | apply c1.refG | apply c1.noneG | apply c1.boolG | (apply c1.strG; intro _) | (apply c1.intG; intro _)); clear c1
  rename_i t
  have hcnt : x.cps.size = x.cps.toList.length := by simp
  have hPv : ∀ i v Z h, SignAt x i v → Con Z h (.str (sign (x.cps.toList.getD i 0))) v := fun i v Z h ⟨c, u, hc, hv⟩ => by
    subst hv
    have : x.cps.toList.getD i 0 = c := by
      have h2 : x.cps.toList[i]? = some c := by simpa using hc
      rw [List.getD_eq_getElem?_getD, h2]; rfl
    rw [this]; exact .str _ _
  have turn' : ∀ i l Z' Ow' s E', i < x.cps.size → J i l → Fs K mg mb env sc Z' h₀ σ Ow' ((n, .str (sign (x.cps.toList.getD i 0))) :: l) s → wpAny (model prog w) A (execs b env) (fun f s₃ => match f with
          | .next | .cont => ∃ l', J (i + 1) l' ∧ Fs K mg mb env sc Z' h₀ σ Ow' l' s₃
          | .brk => ∃ l', Jb l' ∧ Fs K mg mb env sc Z' h₀ σ Ow' l' s₃
          | .ret v => False) E' s := fun i l Z' Ow' s E' hi hj F' => by
    rw [hcnt] at hi
    have : x.cps.toList.getD i 0 = x.cps.toList[i] := by rw [List.getD_eq_getElem?_getD, List.getElem?_eq_getElem hi]; rfl
    rw [this] at F'
    exact turn i l Z' Ow' s E' hi hj F'
  cases ha : x.cps.all (· < 128)
  · refine wpAny_pyIter_wide ha (s_for_it (s1 := { s with heap := h1, toks := tk }) (fun i => .str (sign (x.cps.toList.getD i 0))) J Jb F1 g rfl (Walks.strWide g.hd _ x t) hPv ?_ ⟨_, Heap.get?_push_size _ rfl, rfl, rfl⟩ hJ hk turn' (hcnt ▸ hend) k)
    rintro i h ⟨o, q, _⟩
    rw [q]; rfl
  · refine wpAny_pyIter_ascii ha (s_for_it (s1 := { s with heap := h1, toks := tk }) (fun i => .str (sign (x.cps.toList.getD i 0))) J Jb F1 g rfl (Walks.strAscii g.hd _ x t) hPv ?_ ⟨_, Heap.get?_push_size _ rfl, rfl, rfl⟩ hJ hk turn' (hcnt ▸ hend) k)
    rintro i h ⟨o, q, _⟩
    rw [q]; rfl

theorem s_for_range {n : Str} {tp p fp cp : Pos} {b : List Stmt} {e : PySem.Expr} {m : Nat} (J : Nat → List (Str × V) → Prop) (Jb : List (Str × V) → Prop) (F : Fs K mg mb env sc Z h₀ σ Ow l s) (g : Gd d A) (hn : NmV prog w env s.heap (Str.ofString "range") (.type "range")) (he : Ev prog w Z d env s.heap e (.int m)) (hm : m ≤ 1000) (hJ : J 0 l) (hk : sc.names.lookup n = some .local)
    (turn : ∀ i l Z' Ow' s E', i < m → J i l → Fs K mg mb env sc Z' h₀ σ Ow' ((n, .int (i : Nat)) :: l) s → wpAny (model prog w) A (execs b env) (fun f s₃ => match f with
          | .next | .cont => ∃ l', J (i + 1) l' ∧ Fs K mg mb env sc Z' h₀ σ Ow' l' s₃
          | .brk => ∃ l', Jb l' ∧ Fs K mg mb env sc Z' h₀ σ Ow' l' s₃
          | .ret v => False) E' s)
    (hend : ∀ l, J m l → Jb l)
    (k : ∀ l s', Jb l → Fs K mg mb env sc Z h₀ σ Ow l s' → wpAny (model prog w) A (execs rest env) Q E s')
    (hs1 : starEach [e] env = [(false, eval e env)] := by rfl)
    (hs : ∀ v, foldedSetIterable (.Call (.Name (Str.ofString "range") fp) [e] [] cp) env v = pure v := by intro _; rfl) : wpAny (model prog w) A (execs (.For (.Name n tp) (.Call (.Name (Str.ofString "range") fp) [e] [] cp) b [] p :: rest) env) Q E s := by
  refine wpAny_execs_cons (wpAny_For (PyProof.Rows.Call_Name1 (hn A _ E s fp (.refl _) ?_) hs1) hs)
  refine PyProof.Rows.callWith_type (by rfl) (evalArgs_plain (spliced_cons (he A _ E s g (.refl _) fun v h1 tk e1 c1 => spliced_nil ?_)))
  (first | apply c1.refG | apply c1.noneG | apply c1.boolG | (apply c1.strG; intro _) | (apply c1.intG; intro _)); clear c1
  rename_i t
  refine call_range_1 ?_
  have hsz : Builtin.Range.rangeSize 0 (m : Int) 1 = (m : Int) := by rw [rangeSize_one]; split <;> lia
  have F1 := F.ext (tk := tk + 1 + 1) (e1.trans (Ext.push h1 { cls := .type "range", data := .fields #[.int 0 tk, .int (m : Int) t, .int 1 (tk + 1)] }))
  refine wpAny_pyIter_range (Heap.get?_push_size _ rfl) ?_ ?_
  · have h4 : ∀ x : Int, -2000 ≤ x → x ≤ 2000 → Builtin.Range.rangeFitsLong x = true := fun x a b => by
      unfold Builtin.Range.rangeFitsLong
      simp only [Bool.and_eq_true, decide_eq_true_eq]
      lia
    unfold Builtin.Range.small
    rw [hsz]
    simp [h4 0 (by lia) (by lia), h4 m (by lia) (by lia), h4 1 (by lia) (by lia), h4 ((m : Int) + (1 - 1)) (by lia) (by lia)]
  · rw [hsz]
    have W := Walks.range (prog := prog) (w := w) g.hd (h1.push { cls := .type "range", data := .fields #[.int 0 tk, .int (m : Int) t, .int 1 (tk + 1)] }).objs.size 0 1 m
    refine s_for_it (s1 := { s with heap := h1.push { cls := .type "range", data := .fields #[.int 0 tk, .int (m : Int) t, .int 1 (tk + 1)] }, toks := tk + 1 + 1 }) (fun i => .int (i : Nat)) J Jb F1 g rfl W ?_ ?_ ?_ hJ hk turn hend k
    · rintro i v Z h ⟨t, rfl⟩
      have : (0 : Int) + (i : Nat) * 1 = (i : Nat) := by lia
      rw [this]; exact .int _ _
    · intro i h q
      rw [q]; rfl
    · have := Heap.get?_push_size (h1.push { cls := .type "range", data := .fields #[.int 0 tk, .int (m : Int) t, .int 1 (tk + 1)] }) (o := { cls := .type "range_iterator", data := .fields #[rawInt 0, rawInt (m : Int), rawInt 1] }) rfl
      simpa [IsRangeIter] using this
end
end
section
theorem lookup_none {α : Type} {n : Str} : ∀ {l : List (Str × α)}, n ∉ l.map (·.1) → l.lookup n = none
  | [], _ => rfl
  | (m, y) :: r, h => by
    rw [List.lookup_cons]
    have h1 : ¬ n = m := fun e => h (by simp [e])
    have h2 : (n == m) = false := by simpa using h1
    rw [h2]
    exact lookup_none fun q => h (by simp only [List.map_cons]; exact List.mem_cons_of_mem _ q)
theorem lookup_rev {α : Type} {n : Str} : ∀ {l : List (Str × α)}, (l.map (·.1)).Nodup → l.reverse.lookup n = l.lookup n
  | [], _ => rfl
  | (m, y) :: r, h => by
    simp only [List.map_cons, List.nodup_cons] at h
    rw [List.reverse_cons, List.lookup_append, lookup_rev h.2, List.lookup_cons]
    by_cases e : n = m
    · subst e
      rw [lookup_none h.1]; simp
    · have h2 : (n == m) = false := by simpa using e
      rw [List.lookup_cons, h2]; simp
theorem zip_names {α : Type} : ∀ {names : List Str} {vs : List α}, names.length = vs.length → (names.zip vs).map (·.1) = names
  | [], [], _ => rfl
  | n :: r, v :: s, h => by
    simp only [List.zip_cons_cons, List.map_cons]
    rw [zip_names (by simpa using h)]
theorem zip_con {X : Addr → Prop} {h : Heap} {n : Str} {y : V} : ∀ {names : List Str} {xs : List V} {vs : List Value}, ConL X h xs vs → (names.zip xs).lookup n = some y → ∃ v, (names.zip vs).lookup n = some v ∧ Con X h y v
  | [], _, _, _, e => by simp at e
  | m :: r, _, _, .nil, e => by simp at e
  | m :: r, _, _, .cons a b, e => by
    simp only [List.zip_cons_cons, List.lookup_cons] at e ⊢
    by_cases q : (n == m) = true
    · simp only [q] at e ⊢
      obtain rfl := Option.some.inj e
      exact ⟨_, rfl, a⟩
    · rw [Bool.not_eq_true] at q
      simp only [q] at e ⊢
      exact zip_con b e

section
variable {K : Frag} {mg mb : Str → Option Value} {prog : Program} {w : World} {X : Addr → Prop} {d : Nat} {h : Heap}

/-- the body of a def: from its locals to its value -/
noncomputable def Bdy (K : Frag) (mg mb : Str → Option Value) (prog : Program) (w : World) (d : Nat) (sc : Scope) (body : List Stmt) (l : List (Str × V)) (z : V) : Prop :=
  ∀ (A : Around) (env : Env) (Z : Addr → Prop) (h₀ : Heap) (σ s : Shared) (Q : Flow → Shared → Prop) (E : Value → Shared → Prop), Gd d A → Fs K mg mb env sc Z h₀ σ (fun _ => True) l s →
    (∀ v s' Ow l', Fs K mg mb env sc Z h₀ σ Ow l' s' → Con Z s'.heap z v → Q (.ret v) s') → wpAny (model prog w) A (execs body env) Q E s

theorem fn_enter {a : Addr} {o : Obj} {fd : FuncData} {body : List Stmt} {vs : List Value} {xs : List V} {z : V} (names : List Str) (W : Wd K mg mb h) (xa : XA X h) (c : ConL X h xs vs)
    (hK : K.lookup a = some o) (hd : o.data = .func fd) (hb : fd.body = .stmts body) (hcd : codeIn K fd.code fd.qualname = true) (hbind : bindArgs fd ⟨vs, []⟩ = pure (names.zip vs)) (hlen : names.length = xs.length) (hnd : names.Nodup)
    (hcell : ∀ x ∈ fd.scope.names, x.2 ≠ .cell) (hloc : ∀ n ∈ names, fd.scope.names.lookup n = some .local) (hg : fd.globals = mainGlobals) (hbt : fd.builtins = builtinsNs)
    (hco : fd.scope.isCoroutine = false) (hgen : fd.scope.isGenerator = false) (hk : fd.scope.kind = .function)
    (hbody : Bdy K mg mb prog w d fd.scope body (names.zip xs) z) : YlC prog w X (d + 1) h (.call (.ref a) ⟨vs, []⟩) z := by
  intro A R s g e q
  have Ws := W.keep e
  refine codeAny_call_def (binds := names.zip vs) g.room (Ws.kin _ _ hK) hd Ws.nl (codeRec_of Ws.kin hcd) hb (BindsTo.of_eq hbind) hcell (fun x hx => ?_) (fun h₁ hns hke => ?_) hco hgen hk
  · exact hloc x.1 (by have := List.of_mem_zip hx; exact this.1)
  · have hlv : names.length = vs.length := hlen.trans c.length.symm
    have hL : s.heap.get? s.heap.objs.size = none := get_size_none _
    refine hbody _ (callEnv fd s.heap.objs.size a) (fun b => X b ∨ b = s.heap.objs.size) s.heap s _ _ _ (g.deeper _) ⟨⟨_, _, rfl⟩, hke, Ws, ?_, rfl, hg, hbt, hk, .inr rfl, hL, trivial, ⟨[], by simp, by simp, fun _ _ _ _ => trivial⟩, _, hns, ?_⟩ ?_
    · rintro b (q | rfl)
      · exact ((xa.keep e).keep hke) b q
      · obtain ⟨o, _, _, ho, _⟩ := hns; show (h₁.get? s.heap.objs.size).isSome = true; rw [ho]; rfl
    · intro n x q
      obtain ⟨v, hv, cv⟩ := zip_con (c.keep e) q
      refine ⟨v, ?_, (cv.more (Y := fun b => X b ∨ b = s.heap.objs.size) (fun b y => y.elim .inl fun q => .inr (q ▸ hL))).keep hke⟩
      rw [lookup_rev (by rw [zip_names hlv]; exact hnd)]; exact hv
    · intro v s' Ow l' F cv
      obtain ⟨h', tk, rfl⟩ := F.same
      exact q v h' tk F.base (cv.less fun b y => .inl y)
end
end
noncomputable abbrev KK (w : World) : Frag := KKf w.params

theorem contains_one (y : Str) (c : Nat) : Txt.contains y ⟨#[c]⟩ = y.cps.toList.contains c := by
  unfold Txt.contains
  rw [StrLaws.found_one, Bool.eq_iff_iff]; simp
theorem item_at {t : Str} {j : Nat} (h : j < t.cps.toList.length) : Txt.item t j = sign t.cps.toList[j] := by
  have h1 : j < t.length := by simpa [Str.length] using h
  unfold Txt.item Txt.charAt sign
  simp [seqIndex?, h1, Int.not_lt.mpr (Int.natCast_nonneg j)]
  simp [Str.length] at h1
  simp [h1]
section
variable {prog : Program} {w : World} {X : Addr → Prop} {d : Nat} {env : Env} {h : Heap}
theorem it_chr {a i : PySem.Expr} {x : Str} {k : Int} {j : Nat} (hk : k = (j : Int)) (h1 : j < x.cps.toList.length) (hx : x.length ≤ 1000000)
    (hs : ∀ o v, subscripted i false o v = operate [o, v] (getItem o v) := by intro _ _; rfl) :
    ∀ h' u v, Ext h h' → Con X h' (.str x) u → Con X h' (.int k) v → Yl prog w X d h' (subscriptTail a i u v) (.str (sign x.cps.toList[j])) := by
  subst hk
  rw [← item_at h1]
  exact it_str (Int.natCast_nonneg j) (by simp [Str.length] at h1 ⊢; lia) hx hs
theorem op_inL {c : Nat} {b : Str} {S : List Nat} (hb : b.cps.toList = S) : Op2 prog w X d h (compareOp .In) (.str (sign c)) (.str b) (.bool (S.contains c)) := by
  subst hb
  have := op_inS (prog := prog) (w := w) (X := X) (d := d) (h := h) (a := sign c) (b := b)
  rwa [sign, contains_one] at this
theorem op_ninL {c : Nat} {b : Str} {S : List Nat} (hb : b.cps.toList = S) : Op2 prog w X d h (compareOp .NotIn) (.str (sign c)) (.str b) (.bool (!S.contains c)) := by
  subst hb
  have := op_ninS (prog := prog) (w := w) (X := X) (d := d) (h := h) (a := sign c) (b := b)
  rwa [sign, contains_one] at this
end
noncomputable def hexS : List Nat := [48,49,50,51,52,53,54,55,56,57,97,98,99,100,101,102,65,66,67,68,69,70]
noncomputable def octS : List Nat := [48,49,50,51,52,53,54,55]
theorem hex_lit : (Str.ofString "0123456789abcdefABCDEF").cps.toList = hexS := by decide +kernel
theorem oct_lit : (Str.ofString "01234567").cps.toList = octS := by decide +kernel
theorem len_toList (t : Str) : t.cps.toList.length = t.length := by simp [Str.length]
/-- how many signs in front are of S -/
noncomputable def run (S : List Nat) : List Nat → Nat
  | [] => 0
  | c :: r => if S.contains c then run S r + 1 else 0
theorem run_le (S : List Nat) : ∀ l, run S l ≤ l.length
  | [] => Nat.le_refl _
  | c :: r => by unfold run; split; exact Nat.succ_le_succ (run_le S r); exact Nat.zero_le _
theorem run_drop {S l : List Nat} {j : Nat} (h : j < l.length) : run S (l.drop j) = if S.contains l[j] then run S (l.drop (j + 1)) + 1 else 0 := by
  rw [List.drop_eq_getElem_cons h]; rfl
theorem run_end {S l : List Nat} {j : Nat} (h : l.length ≤ j) : run S (l.drop j) = 0 := by rw [List.drop_eq_nil_of_le h]; rfl
local macro_rules | `(tactic| walk_at "m_side") => `(tactic| first | with_reducible assumption | lia | decide | exact rfl | skip)
local macro_rules | `(tactic| walk_at "m_op") => `(tactic| first
  | with_reducible exact op_add | with_reducible exact op_sub | with_reducible exact op_eq | with_reducible exact op_ne | with_reducible exact op_lt | with_reducible exact op_gt | with_reducible exact op_ge | with_reducible exact op_eqS | with_reducible exact op_neS | exact op_iadd
  | ((with_reducible refine' op_mod ?k1); (case k1 => walk_at "m_side"))
  | ((with_reducible refine' op_div ?k1 ?k2); (case k1 => walk_at "m_side"); (case k2 => walk_at "m_side"))
  | ((with_reducible refine' op_cat ?k1); (case k1 => walk_at "m_side")) | ((with_reducible refine' op_icat ?k1); (case k1 => walk_at "m_side"))
  | ((with_reducible refine' op_mul ?k1); (case k1 => walk_at "m_side")))
local macro_rules | `(tactic| walk_at "m_loc") => `(tactic| ((with_reducible refine' ev_loc ?f ?l ?k ?d); (case f => with_reducible assumption); (case l => exact rfl); (case k => exact rfl); (case d => first | exact rfl | decide)))
local macro_rules | `(tactic| walk_at "m_gs") => `(tactic| ((with_reducible refine' ev_gs ?g); (case g => ((with_reducible refine' Fs.glob ?f ?e ?k ?d); (case f => with_reducible assumption); (case e => exact rfl); (case k => exact rfl); (case d => first | exact rfl | decide)))))
local macro_rules | `(tactic| walk_at "m_glob") => `(tactic| ((with_reducible refine' Fs.glob ?f ?e ?k ?d); (case f => with_reducible assumption); (case e => exact rfl); (case k => exact rfl); (case d => first | exact rfl | decide)))
local macro_rules | `(tactic| walk_at "m_boot") => `(tactic| ((with_reducible refine' Fs.boot ?f ?e ?v ?n ?k ?d); (case f => with_reducible assumption); (case e => exact rfl); (case v => exact rfl); (case k => exact rfl); (case n => decide); (case d => first | exact rfl | decide)))
local macro_rules | `(tactic| walk_at "m_xa") => `(tactic| ((with_reducible refine' Fs.xa ?f); (case f => with_reducible assumption)))
local macro_rules | `(tactic| walk_at "m_ev") => `(tactic| first
  | with_reducible exact ev_int | with_reducible exact ev_str | with_reducible exact ev_bool | with_reducible exact ev_none
  | with_reducible assumption
  | walk_at "m_loc" | walk_at "m_gs"
  | ((with_reducible refine' ev_bin ?a ?b ?o); (case a => walk_at "m_ev"); (case b => walk_at "m_ev"); (case o => walk_at "m_op"))
  | ((with_reducible refine' ev_cmp ?a ?b ?o ?m); (case a => walk_at "m_ev"); (case b => walk_at "m_ev"); (case o => walk_at "m_op"); (case m => with_unfolding_all rfl))
  | ((with_reducible refine' ev_sub ?a ?b ?o); (case a => walk_at "m_ev"); (case b => walk_at "m_ev"); (case o => walk_at "m_it"))
  | ((with_reducible refine' ev_tuple ?a ?b ?o); (case a => walk_at "m_xa"); (case o => walk_at "m_evs"); (case b => exact Nat.le_of_ble_eq_true rfl))
  | ((with_reducible refine' ev_list ?a ?b ?o); (case a => walk_at "m_xa"); (case o => walk_at "m_evs"); (case b => exact Nat.le_of_ble_eq_true rfl)))
local macro_rules | `(tactic| walk_at "m_it") => `(tactic| skip)
local macro_rules | `(tactic| walk_at "m_evs") => `(tactic| first | with_reducible exact evs_nil | ((with_reducible refine' evs_cons ?a ?b ?s); (case a => walk_at "m_ev"); (case b => walk_at "m_evs"); (case s => exact rfl)))
local macro_rules | `(tactic| walk_at "m_ts") => `(tactic| first
  | ((with_reducible refine' ts_cmp ?a ?b ?o ?m); (case a => walk_at "m_ev"); (case b => walk_at "m_ev"); (case o => walk_at "m_op"); (case m => with_unfolding_all rfl))
  | ((with_reducible refine' ts_not ?a); (case a => walk_at "m_ts"))
  | ((with_reducible refine' ts_val ?a tr_bool ?e); (case a => walk_at "m_ev"); (case e => exact rfl))
  | ((with_reducible refine' ts_val ?a tr_int ?e); (case a => walk_at "m_ev"); (case e => exact rfl)))
local macro_rules | `(tactic| walk_at "s_as") => `(tactic| ((with_reducible refine' s_assign ?F ?g ?e ?h1 ?k ?h2); (case F => with_reducible assumption); (case g => with_reducible assumption); (case h1 => exact rfl); (case h2 => exact rfl); (case e => walk_at "m_ev")))
local macro_rules | `(tactic| walk_at "s_if") => `(tactic| ((with_reducible refine' s_if ?F ?g ?t ?kt ?kf); (case F => with_reducible assumption); (case g => with_reducible assumption); (case t => walk_at "m_ts")))
local macro_rules | `(tactic| walk_at "s_ret") => `(tactic| ((with_reducible refine' s_ret ?F ?g ?e ?k); (case F => with_reducible assumption); (case g => with_reducible assumption); (case e => walk_at "m_ev")))
local macro_rules | `(tactic| walk_at "m_call0") => `(tactic| ((with_reducible refine' ev_call0 ?W ?xa ?hn ?hK ?hd ?P ?hle ?hF); (case W => ((with_reducible refine' Fs.world ?f); (case f => with_reducible assumption))); (case xa => walk_at "m_xa"); (case hn => walk_at "m_glob"); (case hK => exact rfl); (case hd => exact rfl); (case P => with_reducible assumption); (case hle => decide); (case hF => exact ⟨rfl, rfl⟩)))
local macro_rules | `(tactic| walk_at "m_call") => `(tactic| ((with_reducible refine' ev_call ?W ?xa ?hn ?hK ?hd ?P ?hle ?he ?hF ?hs); (case W => ((with_reducible refine' Fs.world ?f); (case f => with_reducible assumption))); (case xa => walk_at "m_xa"); (case hn => walk_at "m_glob"); (case hK => exact rfl); (case hd => exact rfl); (case P => with_reducible assumption); (case hle => decide); (case hs => exact rfl); (case he => walk_at "m_evs")))
local macro_rules | `(tactic| walk_at "s_pair") => `(tactic| ((with_reducible refine' s_pair ?F ?g ?he ?ha ?hb ?hw ?k ?hs); (case F => with_reducible assumption); (case g => with_reducible assumption); (case ha => exact rfl); (case hb => exact rfl); (case hs => exact rfl); (case hw => (rintro ⟨_, _, _, _, _, _, _, _, _⟩ hsc; cases hsc; exact rfl)); (case he => walk_at "m_ev")))
noncomputable def hexEndF (xs : List V) (z : V) : Prop := ∃ (t : Str) (k : Nat), t.length ≤ 1000000 ∧ k ≤ t.length ∧ xs = [.str t, .int k, .int t.length] ∧ z = .int ((k + run hexS (t.cps.toList.drop k) : Nat) : Int)

theorem hexEnd_pf {w : World} {mg mb : Str → Option Value} {prog : Program} : Pf (KK w) mg mb prog w 1 65 hexEndF := by
  rintro X h xs z vs ⟨t, k, ht, hk, rfl, rfl⟩ W xa c
  apply c.threeG; clear c; intro _ _ _ c1 c2 c3
  refine fn_enter (["txt", "pos", "endpos"].map Str.ofString) W xa (.cons c1 (.cons c2 (.cons c3 .nil))) rfl rfl rfl (by kernel_rfl) rfl rfl (by decide) (by decide) (by decide) rfl rfl rfl rfl rfl ?_
  intro A env Z h₀ σ s Q E g F kq
  dsimp only at F kq
  refine s_while (fun n Ow l => ∃ j, n = t.length - j ∧ j ≤ t.length ∧ k + run hexS (t.cps.toList.drop k) = j + run hexS (t.cps.toList.drop j) ∧ l = [(Str.ofString "pos", .int (j : Nat)), (Str.ofString "txt", .str t), (Str.ofString "endpos", .int t.length)]) 
    (F.to [(Str.ofString "pos", .int (k : Nat)), (Str.ofString "txt", .str t), (Str.ofString "endpos", .int t.length)] ⟨rfl, rfl, rfl, trivial⟩) g ⟨k, rfl, hk, rfl, rfl⟩ ?_
  intro n Ow l s hjj F
  refine Exists.elim hjj fun j r => an4 r fun z1 hj hrun z2 => ?_
  clear r hjj
  subst z1 z2
  have htl := len_toList t
  by_cases hlt : j < t.cps.toList.length
  · have hrd := run_drop (S := hexS) hlt
    refine ⟨_, ts_and (by walk_at "m_ts") (fun q => ts_and (ts_cmp (ev_sub (by walk_at "m_ev") (by walk_at "m_ev") (it_chr rfl hlt ht)) (by walk_at "m_ev") (op_inL hex_lit)) fun _ => ts_and_nil), ?_, ?_⟩
    · intro q s' F'
      refine s_ret F' g (by walk_at "m_ev") (fun v s2 F2 c2 => kq v s2 _ _ F2 ?_)
      have hq : hexS.contains t.cps.toList[j] = false := by
        have hne : ((j : Int) != (t.length : Int)) = true := by simp; lia
        rw [hne, Bool.true_and, Bool.and_true] at q; exact q
      rw [hq] at hrd
      rw [show k + run hexS (t.cps.toList.drop k) = j by rw [hrun, hrd]; rfl]; exact c2
    · intro q s' E' F'
      simp only [Bool.and_eq_true] at q
      rw [if_pos q.2.1] at hrd
      refine s_aug F' g rfl rfl (by walk_at "m_ev") (by walk_at "m_op") (fun s2 F2 => s_nil ⟨t.length - (j + 1), _, _, ?_, ⟨j + 1, rfl, ?_, ?_, rfl⟩, F2.to _ ⟨rfl, rfl, rfl, trivial⟩⟩)
      · lia
      · lia
      · lia
  · have hjj : (j : Int) = (t.length : Int) := by lia
    have hrd := run_end (S := hexS) (l := t.cps.toList) (j := j) (by lia)
    refine ⟨_, ts_and (c' := true) (by walk_at "m_ts") (fun q => ?_), ?_, ?_⟩
    · simp [hjj] at q
    · intro q s' F'
      refine s_ret F' g (by walk_at "m_ev") (fun v s2 F2 c2 => kq v s2 _ _ F2 ?_)
      rw [show k + run hexS (t.cps.toList.drop k) = j by rw [hrun, hrd]; rfl]; exact c2
    · intro q; simp [hjj] at q
section
section
variable {w : World} {mg mb : Str → Option Value} {prog : Program}
noncomputable def runF (xs : List V) (z : V) : Prop := ∃ (t S : Str), t.length ≤ 1000000 ∧ xs = [.str t, .str S] ∧ z = .int ((run S.cps.toList t.cps.toList : Nat) : Int)

theorem run_pf : Pf (KK w) mg mb prog w 1 287 runF := by
  rintro X h xs z vs ⟨t, S, ht, rfl, rfl⟩ W xa c
  apply c.twoG; clear c; intro _ _ c1 c2
  refine fn_enter (["text", "signs"].map Str.ofString) W xa (.cons c1 (.cons c2 .nil)) rfl rfl rfl (by kernel_rfl) rfl rfl (by decide) (by decide) (by decide) rfl rfl rfl rfl rfl ?_
  intro A env Z h₀ σ s Q E g F kq
  dsimp only at F kq
  refine s_assign F g ev_int rfl fun s F => ?_
  have base : ∀ i : Nat, [(Str.ofString "many", V.int (i : Nat)), (Str.ofString "text", .str t), (Str.ofString "signs", .str S)] = [(Str.ofString "many", V.int (i : Nat)), (Str.ofString "text", .str t), (Str.ofString "signs", .str S)] := fun _ => rfl
  refine s_for_str (fun i l => run S.cps.toList t.cps.toList = i + run S.cps.toList (t.cps.toList.drop i) ∧ l = [(Str.ofString "many", .int (i : Nat)), (Str.ofString "text", .str t), (Str.ofString "signs", .str S)])
    (fun l => l = [(Str.ofString "many", .int (run S.cps.toList t.cps.toList : Nat)), (Str.ofString "text", .str t), (Str.ofString "signs", .str S)])
    (F.to [(Str.ofString "many", .int (0 : Nat)), (Str.ofString "text", .str t), (Str.ofString "signs", .str S)] ⟨rfl, rfl, rfl, trivial⟩) g (by walk_at "m_ev") ⟨by simp, rfl⟩ rfl ?_ ?_ ?_
  · rintro i l Z' Ow' s E' hi ⟨hr, rfl⟩ F
    have hrd := run_drop (S := S.cps.toList) hi
    refine s_if F g (ts_cmp (by walk_at "m_ev") (by walk_at "m_ev") (op_ninL rfl)) ?_ ?_
    · intro q s F
      rw [if_neg (by simpa using q)] at hrd
      refine s_brk ⟨_, rfl, F.to _ ⟨?_, rfl, rfl, trivial⟩⟩
      rw [hr, hrd]; rfl
    · intro q s F
      rw [if_pos (by simpa using q)] at hrd
      refine s_nil ?_
      show wpAny _ _ _ _ _ _
      refine s_aug F g rfl rfl (by walk_at "m_ev") (by walk_at "m_op") (fun s F => s_nil ⟨_, ⟨?_, rfl⟩, F.to _ ⟨rfl, rfl, rfl, trivial⟩⟩)
      lia
  · rintro l ⟨hr, rfl⟩
    rw [run_end (Nat.le_refl _)] at hr
    rw [hr]; rfl
  · rintro l s rfl F
    exact s_ret F g (by walk_at "m_ev") (fun v s2 F2 c2 => kq v s2 _ _ F2 c2)

/-- what a digit is worth, as the law finds it -/
noncomputable def hexAt (c : Nat) : Int := Txt.find (Str.ofString "0123456789abcdefABCDEF") (sign c)
noncomputable def dig (c : Nat) : Int := if hexAt c < 16 then hexAt c else hexAt c - 6
noncomputable def worth (b : Int) (l : List Nat) : Int := l.foldl (fun a c => a * b + dig c) 0
noncomputable def worthF (xs : List V) (z : V) : Prop := ∃ (t : Str) (b : Int), t.length ≤ 1000000 ∧ (b = 8 ∨ b = 16) ∧ xs = [.str t, .int b] ∧ z = .int (worth b t.cps.toList)
theorem ev_iteI {X : Addr → Prop} {d : Nat} {env : Env} {h : Heap} {t e1 e2 : PySem.Expr} {p : Pos} {c : Bool} {a b : Int} (ht : Ts prog w d env h t c) (ha : c = true → Ev prog w X d env h e1 (.int a)) (hb : c = false → Ev prog w X d env h e2 (.int b)) :
    Ev prog w X d env h (.IfExp t e1 e2 p) (.int (if c = true then a else b)) := by
  cases c with
  | true => exact ev_ite ht ha (fun q => by cases q)
  | false => exact ev_ite ht (fun q => by cases q) hb

theorem worth_pf : Pf (KK w) mg mb prog w 1 294 worthF := by
  rintro X h xs z vs ⟨t, b, ht, hb, rfl, rfl⟩ W xa c
  apply c.twoG; clear c; intro _ _ c1 c2
  refine fn_enter (["digits", "base"].map Str.ofString) W xa (.cons c1 (.cons c2 .nil)) rfl rfl rfl (by kernel_rfl) rfl rfl (by decide) (by decide) (by decide) rfl rfl rfl rfl rfl ?_
  intro A env Z h₀ σ s Q E g F kq
  dsimp only at F kq
  have hbits : ∀ a : Int, IntMulOk a b := fun a => .of_right (by rcases hb with rfl | rfl <;> decide)
  refine s_assign F g ev_int rfl fun s F => ?_
  refine s_for_str (fun i l => l = [(Str.ofString "worth", .int (worth b (t.cps.toList.take i))), (Str.ofString "digits", .str t), (Str.ofString "base", .int b)])
    (fun l => l = [(Str.ofString "worth", .int (worth b t.cps.toList)), (Str.ofString "digits", .str t), (Str.ofString "base", .int b)])
    (F.to [(Str.ofString "worth", .int (worth b (t.cps.toList.take 0))), (Str.ofString "digits", .str t), (Str.ofString "base", .int b)] ⟨by simp [worth], rfl, rfl, trivial⟩) g (by walk_at "m_ev") rfl rfl ?_ ?_ ?_
  · rintro i l Z' Ow' s E' hi rfl F
    refine s_assign F g (ev_find (by walk_at "m_ev") (by walk_at "m_ev")) rfl fun s F => ?_
    have hm := hbits (worth b (t.cps.toList.take i))
    refine s_assign F g (ev_bin (ev_bin (by walk_at "m_ev") (by walk_at "m_ev") (op_mul hm)) (ev_iteI (by walk_at "m_ts") (fun _ => by walk_at "m_ev") (fun _ => by walk_at "m_ev")) op_add) rfl fun s F => s_nil ⟨_, rfl, F.to _ ⟨?_, rfl, rfl, trivial⟩⟩
    have : t.cps.toList.take (i + 1) = t.cps.toList.take i ++ [t.cps.toList[i]] := by rw [List.take_add_one, List.getElem?_eq_getElem hi]; rfl
    rw [this]
    unfold worth
    rw [List.foldl_append]
    simp only [List.foldl_cons, List.foldl_nil]
    unfold dig hexAt
    simp only [decide_eq_true_eq]
    rfl
  · rintro l rfl
    rw [List.take_length]
  · rintro l s rfl F
    exact s_ret F g (by walk_at "m_ev") (fun v s2 F2 c2 => kq v s2 _ _ F2 c2)

/-- a number's signs in a base, as the law writes them -/
noncomputable def digs (b : Nat) (S : List Nat) : Nat → Nat → List Nat → List Nat
  | 0, _, acc => acc
  | m + 1, v, acc => digs b S m (v / b) (S.getD (v % b) 0 :: acc)
theorem digs_len {b : Nat} {S : List Nat} : ∀ {m v : Nat} {acc : List Nat}, (digs b S m v acc).length = m + acc.length
  | 0, _, _ => by simp [digs]
  | m + 1, v, acc => by rw [digs, digs_len]; simp; lia
noncomputable def ofL (l : List Nat) : Str := ⟨l.toArray⟩
theorem sign_cat (c : Nat) (l : List Nat) : sign c ++ ofL l = ofL (c :: l) := by
  show Str.mk (#[c] ++ l.toArray) = Str.mk _
  simp
noncomputable def digitsF (xs : List V) (z : V) : Prop := ∃ (v b m : Nat) (S : Str), (b = 8 ∨ b = 16) ∧ m ≤ 8 ∧ S.length = 16 ∧ xs = [.int v, .int b, .int m, .str S] ∧ z = .str (ofL (digs b S.cps.toList m v []))
theorem digits_pf : Pf (KK w) mg mb prog w 1 273 digitsF := by
  rintro X h xs z vs ⟨v, b, m, S, hb, hm, hS, rfl, rfl⟩ W xa c
  apply c.fourG; clear c; intro _ _ _ _ c1 c2 c3 c4
  refine fn_enter (["value", "base", "many", "signs"].map Str.ofString) W xa (.cons c1 (.cons c2 (.cons c3 (.cons c4 .nil)))) rfl rfl rfl (by kernel_rfl) rfl rfl (by decide) (by decide) (by decide) rfl rfl rfl rfl rfl ?_
  intro A env Z h₀ σ s Q E g F kq
  dsimp only at F kq
  have hb0 : (b : Int) ≠ 0 := by rcases hb with rfl | rfl <;> decide
  have hb16 : b ≤ 16 ∧ 0 < b := by lia
  have hSl := len_toList S
  refine s_assign F g ev_str rfl fun s F => ?_
  let J : Nat → List (Str × V) → Prop := fun i l => ∃ (u : Nat) (acc : List Nat), digs b S.cps.toList m v [] = digs b S.cps.toList (m - i) u acc ∧ acc.length = i ∧
    l = [(Str.ofString "text", .str (ofL acc)), (Str.ofString "value", .int (u : Nat)), (Str.ofString "base", .int (b : Nat)), (Str.ofString "many", .int (m : Nat)), (Str.ofString "signs", .str S)]
  refine s_for_range J (J m)
    (F.to [(Str.ofString "text", .str (ofL [])), (Str.ofString "value", .int (v : Nat)), (Str.ofString "base", .int (b : Nat)), (Str.ofString "many", .int (m : Nat)), (Str.ofString "signs", .str S)] ⟨by kernel_rfl, rfl, rfl, rfl, rfl, trivial⟩) g
    (Fs.boot F (by kernel_rfl) rfl (by decide) rfl rfl) (by walk_at "m_ev") (by lia) ⟨v, [], rfl, rfl, rfl⟩ rfl ?_ (fun _ h => h) ?_
  · rintro i l Z' Ow' s E' hi ⟨u, acc, hd, hacc, rfl⟩ F
    have hmod : (u : Int).fmod b = ((u % b : Nat) : Int) := by rw [Int.fmod_eq_emod_of_nonneg _ (by lia)]; rfl
    have hdiv : (u : Int).fdiv b = ((u / b : Nat) : Int) := by rw [Int.fdiv_eq_ediv_of_nonneg _ (by lia)]; rfl
    have hlt : u % b < S.cps.toList.length := by
      have := Nat.mod_lt u hb16.2; lia
    have hsz : (sign S.cps.toList[u % b]).length + (ofL acc).length ≤ 1000000 := by
      simp [sign, ofL, Str.length]; lia
    refine s_assign F g (ev_bin (ev_sub (by walk_at "m_ev") (ev_bin (by walk_at "m_ev") (by walk_at "m_ev") (op_mod hb0)) (it_chr hmod hlt (by lia))) (by walk_at "m_ev") (op_cat hsz)) rfl fun s F => ?_
    refine s_assign F g (ev_bin (by walk_at "m_ev") (by walk_at "m_ev") (op_div hb0 (by lia))) rfl fun s F => s_nil ⟨_, ⟨u / b, S.cps.toList[u % b] :: acc, ?_, by simp [hacc], rfl⟩, F.to _ ⟨?_, ?_, rfl, rfl, rfl, trivial⟩⟩
    · rw [hd, show m - i = (m - (i + 1)) + 1 by lia, digs]
      rw [List.getD_eq_getElem?_getD, List.getElem?_eq_getElem hlt]; rfl
    · show some (V.str (sign _ ++ ofL acc)) = _
      rw [sign_cat]
    · show some (V.int _) = _
      rw [hdiv]
  · rintro l s ⟨u, acc, hd, hacc, rfl⟩ F
    refine s_ret F g (by walk_at "m_ev") (fun v s2 F2 c2 => kq v s2 _ _ F2 ?_)
    rw [hd, Nat.sub_self]; exact c2
end
end
section
section
variable {w : World} {mg mb : Str → Option Value} {prog : Program}
noncomputable def plainM : List Str := ["z", "e", "7", "1g", " ", "x", "u", "U", "'", "L", "int", "Ω"].map Str.ofString
noncomputable def meantM : List Int := [7, 8, 12, 10, 13, 9, 11, 27, 34, 39, 63]
noncomputable def brokenM : List Str := ["\\q", "\\x", "\\8", "\\ ", "\\A"].map Str.ofString
noncomputable def wordsM : List Str := ["int", "L", "STRING", "WS", "x", "CHAR", "if", "z", "12", "'z'", "("].map Str.ofString
noncomputable def numbersM : List Str := ["12", "0", "0x1F", "7u"].map Str.ofString
noncomputable def signsM : List Str := ["(", "+", "\\", "##", "->"].map Str.ofString
noncomputable def blanksM : List (Str × Str) := [("WS", " "), ("BOL", ""), ("WS", "")].map fun x => (Str.ofString x.1, Str.ofString x.2)
noncomputable def flagsM : List (List Int) := [[], [1], [2, 3]]
theorem plain_pf : Pf (KK w) mg mb prog w 1 210 (fun xs z => xs = [] ∧ z = .lst (plainM.map .str)) := by
  rintro X h xs z vs ⟨rfl, rfl⟩ W xa c
  cases c
  refine fn_enter [] W xa .nil rfl rfl rfl (by kernel_rfl) rfl rfl (by decide) (by decide) (by decide) rfl rfl rfl rfl rfl ?_
  intro A env Z h₀ σ s Q E g F kq
  dsimp only at F kq
  walk_at "s_ret"
  exact fun v s2 F2 c2 => kq v s2 _ _ F2 c2
theorem meant_pf : Pf (KK w) mg mb prog w 1 217 (fun xs z => xs = [] ∧ z = .lst (meantM.map .int)) := by
  rintro X h xs z vs ⟨rfl, rfl⟩ W xa c
  cases c
  refine fn_enter [] W xa .nil rfl rfl rfl (by kernel_rfl) rfl rfl (by decide) (by decide) (by decide) rfl rfl rfl rfl rfl ?_
  intro A env Z h₀ σ s Q E g F kq
  dsimp only at F kq
  walk_at "s_ret"
  exact fun v s2 F2 c2 => kq v s2 _ _ F2 c2
theorem broken_pf : Pf (KK w) mg mb prog w 1 224 (fun xs z => xs = [] ∧ z = .lst (brokenM.map .str)) := by
  rintro X h xs z vs ⟨rfl, rfl⟩ W xa c
  cases c
  refine fn_enter [] W xa .nil rfl rfl rfl (by kernel_rfl) rfl rfl (by decide) (by decide) (by decide) rfl rfl rfl rfl rfl ?_
  intro A env Z h₀ σ s Q E g F kq
  dsimp only at F kq
  walk_at "s_ret"
  exact fun v s2 F2 c2 => kq v s2 _ _ F2 c2
theorem words_pf : Pf (KK w) mg mb prog w 1 231 (fun xs z => xs = [] ∧ z = .lst (wordsM.map .str)) := by
  rintro X h xs z vs ⟨rfl, rfl⟩ W xa c
  cases c
  refine fn_enter [] W xa .nil rfl rfl rfl (by kernel_rfl) rfl rfl (by decide) (by decide) (by decide) rfl rfl rfl rfl rfl ?_
  intro A env Z h₀ σ s Q E g F kq
  dsimp only at F kq
  walk_at "s_ret"
  exact fun v s2 F2 c2 => kq v s2 _ _ F2 c2
theorem numbers_pf : Pf (KK w) mg mb prog w 1 238 (fun xs z => xs = [] ∧ z = .lst (numbersM.map .str)) := by
  rintro X h xs z vs ⟨rfl, rfl⟩ W xa c
  cases c
  refine fn_enter [] W xa .nil rfl rfl rfl (by kernel_rfl) rfl rfl (by decide) (by decide) (by decide) rfl rfl rfl rfl rfl ?_
  intro A env Z h₀ σ s Q E g F kq
  dsimp only at F kq
  walk_at "s_ret"
  exact fun v s2 F2 c2 => kq v s2 _ _ F2 c2
theorem signs_pf : Pf (KK w) mg mb prog w 1 245 (fun xs z => xs = [] ∧ z = .lst (signsM.map .str)) := by
  rintro X h xs z vs ⟨rfl, rfl⟩ W xa c
  cases c
  refine fn_enter [] W xa .nil rfl rfl rfl (by kernel_rfl) rfl rfl (by decide) (by decide) (by decide) rfl rfl rfl rfl rfl ?_
  intro A env Z h₀ σ s Q E g F kq
  dsimp only at F kq
  walk_at "s_ret"
  exact fun v s2 F2 c2 => kq v s2 _ _ F2 c2
theorem blanks_pf : Pf (KK w) mg mb prog w 1 252 (fun xs z => xs = [] ∧ z = .lst (blanksM.map fun x => .tup [.str x.1, .str x.2])) := by
  rintro X h xs z vs ⟨rfl, rfl⟩ W xa c
  cases c
  refine fn_enter [] W xa .nil rfl rfl rfl (by kernel_rfl) rfl rfl (by decide) (by decide) (by decide) rfl rfl rfl rfl rfl ?_
  intro A env Z h₀ σ s Q E g F kq
  dsimp only at F kq
  walk_at "s_ret"
  exact fun v s2 F2 c2 => kq v s2 _ _ F2 c2
theorem flags_pf : Pf (KK w) mg mb prog w 1 259 (fun xs z => xs = [] ∧ z = .lst (flagsM.map fun x => .tup (x.map .int))) := by
  rintro X h xs z vs ⟨rfl, rfl⟩ W xa c
  cases c
  refine fn_enter [] W xa .nil rfl rfl rfl (by kernel_rfl) rfl rfl (by decide) (by decide) (by decide) rfl rfl rfl rfl rfl ?_
  intro A env Z h₀ σ s Q E g F kq
  dsimp only at F kq
  walk_at "s_ret"
  exact fun v s2 F2 c2 => kq v s2 _ _ F2 c2
end
end
section
section
variable {w : World} {mg mb : Str → Option Value} {prog : Program}
theorem ev_menuS {X : Addr → Prop} {d : Nat} {env : Env} {h : Heap} {e i : PySem.Expr} {p : Pos} {M : List Str} {k : Int} {j : Nat} (he : Ev prog w X d env h e (.lst (M.map .str))) (hi : Ev prog w X d env h i (.int k)) (hk : k = (j : Int)) (hj : j < M.length) (hM : M.length ≤ 1000)
    (hs : ∀ o v, subscripted i false o v = operate [o, v] (getItem o v)) : Ev prog w X d env h (.Subscript e i p) (.str (M[j]'hj)) := by
  subst hk
  refine ev_sub he hi (it_lst (Int.natCast_nonneg j) ?_ (by simpa using Nat.le_trans hM (by decide)) hs)
  simp [hj]

noncomputable def smallS : List Nat := [48,49,50,51,52,53,54,55,56,57,97,98,99,100,101,102]
noncomputable def bigS : List Nat := [48,49,50,51,52,53,54,55,56,57,65,66,67,68,69,70]
noncomputable def simpleS : List Nat := [97, 98, 102, 110, 114, 116, 118, 101, 34, 39, 63, 92]
noncomputable def caseOf (v : Nat) : List Nat := if v / 5 % 2 = 0 then smallS else bigS
noncomputable def piece (n : Nat) : List Nat :=
  let v := n / 11
  match n % 11 with
  | 0 => (plainM.getD (v % 12) Str.empty).cps.toList
  | 1 => [92, simpleS.getD (v % 12) 0]
  | 2 => 92 :: digs 8 smallS (1 + v % 3) (65 + 11 * v) []
  | 3 => if v % 3 = 2 then 92 :: 120 :: digs 16 (caseOf v) 1 ((1 + 5 * v) % 13) [] else 92 :: 120 :: digs 16 (caseOf v) 2 ((65 + 37 * v) % 208) []
  | 4 => 92 :: 117 :: digs 16 (caseOf v) 4 ((65 + 4099 * v) % 55296) []
  | 5 => 92 :: 85 :: digs 16 (caseOf v) 8 (65536 + (62976 + 4099 * v) % 1048576) []
  | 6 => [92, 117, 52, 49]
  | 7 => [92, 85, 48, 48, 48, 49, 102, 54]
  | 8 => [92]
  | 9 => (brokenM.getD (v % 5) Str.empty).cps.toList
  | _ => []
noncomputable def pieceF (xs : List V) (z : V) : Prop := ∃ n : Nat, n < 1000000000 ∧ xs = [.int n] ∧ z = .str (ofL (piece n))
theorem ofL_toList (x : Str) : ofL x.cps.toList = x := by
  unfold ofL; simp
theorem lit_cat {x : Str} {L l : List Nat} (h : x.cps.toList = L) : x ++ ofL l = ofL (L ++ l) := by
  subst h
  show Str.mk (x.cps ++ l.toArray) = Str.mk _
  simp
theorem op_catL {X : Addr → Prop} {d : Nat} {h : Heap} {a : Str} {L l : List Nat} (ha : a.cps.toList = L) (hs : L.length + l.length ≤ 1000000) : Op2 prog w X d h (binaryOp .Add) (.str a) (.str (ofL l)) (.str (ofL (L ++ l))) := by
  rw [← lit_cat ha]
  refine op_cat ?_
  rw [← len_toList, ha]
  show _ + l.toArray.size ≤ _
  rw [List.size_toArray]; exact hs
theorem mod_nat {n b : Nat} : (n : Int).fmod (b : Int) = ((n % b : Nat) : Int) := by rw [Int.fmod_eq_emod_of_nonneg _ (by lia)]; rfl
theorem div_nat {n b : Nat} : (n : Int).fdiv (b : Int) = ((n / b : Nat) : Int) := by rw [Int.fdiv_eq_ediv_of_nonneg _ (by lia)]; rfl

theorem ev_iteS {X : Addr → Prop} {d : Nat} {env : Env} {h : Heap} {t e1 e2 : PySem.Expr} {p : Pos} {c : Bool} {a b : Str} (ht : Ts prog w d env h t c) (ha : c = true → Ev prog w X d env h e1 (.str a)) (hb : c = false → Ev prog w X d env h e2 (.str b)) :
    Ev prog w X d env h (.IfExp t e1 e2 p) (.str (if c = true then a else b)) := by
  cases c with
  | true => exact ev_ite ht ha (fun q => by cases q)
  | false => exact ev_ite ht (fun q => by cases q) hb
theorem small_lit : (Str.ofString "0123456789abcdef").cps.toList = smallS := by decide +kernel
theorem big_lit : (Str.ofString "0123456789ABCDEF").cps.toList = bigS := by decide +kernel
theorem simple_lit : (Str.ofString "abfnrtve\"'?\\").cps.toList = simpleS := by decide +kernel
theorem bs_lit : (Str.ofString "\\").cps.toList = [92] := by decide +kernel
theorem ofL_len (l : List Nat) : (ofL l).length = l.length := by simp [ofL, Str.length]
theorem ofL_list (l : List Nat) : (ofL l).cps.toList = l := by simp [ofL]
theorem lit_ofL {x : Str} {l : List Nat} (h : x.cps.toList = l) : x = ofL l := by subst h; exact (ofL_toList x).symm
theorem sign_ofL (c : Nat) : sign c = ofL [c] := rfl

theorem piece_pf : Pf (KK w) mg mb prog w 2 280 pieceF := by
  have P1 := @plain_pf w mg mb prog
  have P2 := @broken_pf w mg mb prog
  have P3 := @digits_pf w mg mb prog
  rintro X h xs z vs ⟨n, hn, rfl, rfl⟩ W xa c
  apply c.oneG; clear c; intro _ c1
  refine fn_enter (["n"].map Str.ofString) W xa (.cons c1 .nil) rfl rfl rfl (by kernel_rfl) rfl rfl (by decide) (by decide) (by decide) rfl rfl rfl rfl rfl ?_
  intro A env Z h₀ σ s Q E g F kq
  dsimp only at F kq
  walk_at "s_pair"
  intro s F
  have F := F.to [(Str.ofString "kind", .int ((n % 11 : Nat) : Int)), (Str.ofString "v", .int ((n / 11 : Nat) : Int)), (Str.ofString "n", .int (n : Int))] ⟨by rw [← mod_nat]; rfl, by rw [← div_nat]; rfl, rfl, trivial⟩
  generalize hkk : n % 11 = kk at F
  generalize hvv : n / 11 = vv at F
  have kq' : ∀ (l : List Nat) v s' Ow l', Fs (KK w) mg mb env _ Z h₀ σ Ow l' s' → Con Z s'.heap (.str (ofL l)) v → piece n = l → Q (.ret v) s' := fun l v s' Ow l' F c e => kq v s' Ow l' F (e ▸ c)
  walk_at "s_if"
  · intro q s F
    have hq : kk = 0 := by simpa using q
    have hj : vv % 12 < plainM.length := Nat.mod_lt _ (by decide)
    refine s_ret F g (ev_menuS (by walk_at "m_call0") (ev_bin (by walk_at "m_ev") ev_int (op_mod (by decide))) (mod_nat (b := 12)) hj (by decide) (fun _ _ => rfl)) fun v s2 F2 c2 => kq' _ v s2 _ _ F2 (by rw [ofL_toList]; exact c2) ?_
    simp only [piece, hkk, hvv, hq]
    rw [List.getD_eq_getElem?_getD, List.getElem?_eq_getElem hj]; rfl
  intro hk0 s F; refine s_nil ?_
  show wpAny _ _ _ _ _ _
  have e12 : (vv : Int).fmod 12 = ((vv % 12 : Nat) : Int) := mod_nat
  have e3 : (vv : Int).fmod 3 = ((vv % 3 : Nat) : Int) := mod_nat
  have hm11 : IntMulOk 11 (vv : Int) := .of_left (by decide)
  walk_at "s_if"
  · intro q s F
    have hq : kk = 1 := by have := eq_of_beq q; lia
    have hj : vv % 12 < (Str.ofString "abfnrtve\"'?\\").cps.toList.length := by rw [simple_lit]; exact Nat.mod_lt _ (by decide)
    refine s_ret F g (ev_bin ev_str (ev_sub (by walk_at "m_ev") (ev_bin (by walk_at "m_ev") ev_int (op_mod (by decide))) (it_chr e12 hj (by decide))) (op_cat (by show _ + 1 ≤ _; decide))) fun v s2 F2 c2 => kq' (92 :: [simpleS.getD (vv % 12) 0]) v s2 _ _ F2 ?_ ?_
    · rw [sign_ofL, lit_cat bs_lit] at c2
      rw [List.getD_eq_getElem?_getD]
      rw [← simple_lit, List.getElem?_eq_getElem hj]; exact c2
    · simp only [piece, hkk, hvv, hq]
  intro hk1 s F; refine s_nil ?_
  show wpAny _ _ _ _ _ _
  walk_at "s_if"
  · intro q s F
    have hq : kk = 2 := by have := eq_of_beq q; lia
    refine s_ret F g (ev_bin ev_str (ev_call (z := .str (ofL (digs 8 smallS (1 + vv % 3) (65 + 11 * vv) []))) (Fs.world F) F.xa (by walk_at "m_glob") rfl rfl P3 (by decide) (by walk_at "m_evs") ⟨65 + 11 * vv, 8, 1 + vv % 3, Str.ofString "0123456789abcdef", .inl rfl, by lia, rfl, by rw [e3, show 65 + 11 * (vv : Int) = ((65 + 11 * vv : Nat) : Int) by lia, show 1 + ((vv % 3 : Nat) : Int) = ((1 + vv % 3 : Nat) : Int) by lia]; rfl, by rw [small_lit]⟩ rfl) (op_catL bs_lit (by rw [digs_len]; simp only [List.length_cons, List.length_nil]; lia))) fun v s2 F2 c2 => kq' (92 :: digs 8 smallS (1 + vv % 3) (65 + 11 * vv) []) v s2 _ _ F2 ?_ ?_
    · exact c2
    · simp only [piece, hkk, hvv, hq]
  intro hk2 s F; refine s_nil ?_
  show wpAny _ _ _ _ _ _
  refine s_assign F g (ev_iteS (ts_val (ev_bin (ev_bin (by walk_at "m_ev") ev_int (op_div (by decide) (by decide))) ev_int (op_mod (by decide))) tr_int rfl) (fun _ => by walk_at "m_ev") (fun _ => by walk_at "m_ev")) rfl fun s F => ?_
  have e5 : (((vv : Int).fdiv 5).fmod 2) = ((vv / 5 % 2 : Nat) : Int) := by rw [show (vv : Int).fdiv 5 = ((vv / 5 : Nat) : Int) from div_nat]; exact mod_nat
  rw [e5] at F
  generalize hS : (if (((vv / 5 % 2 : Nat) : Int) != 0) = true then Str.ofString "0123456789ABCDEF" else Str.ofString "0123456789abcdef") = S at F
  have hSc : S.cps.toList = caseOf vv := by
    subst hS
    unfold caseOf
    by_cases hc : vv / 5 % 2 = 0
    · rw [hc, if_neg (by decide), if_pos rfl]; exact small_lit
    · rw [if_neg hc, if_pos (by simp only [bne_iff_ne, ne_eq]; lia)]; exact big_lit
  have hSl : S.length = 16 := by
    rw [← len_toList, hSc]; unfold caseOf; split <;> rfl
  have hm5 : IntMulOk 5 (vv : Int) := .of_left (by decide)
  have hm37 : IntMulOk 37 (vv : Int) := .of_left (by decide)
  have hm4099 : IntMulOk 4099 (vv : Int) := .of_left (by decide)
  have f13 : (1 + 5 * (vv : Int)).fmod 13 = (((1 + 5 * vv) % 13 : Nat) : Int) := by rw [show 1 + 5 * (vv : Int) = ((1 + 5 * vv : Nat) : Int) by lia]; exact mod_nat
  have f208 : (65 + 37 * (vv : Int)).fmod 208 = (((65 + 37 * vv) % 208 : Nat) : Int) := by rw [show 65 + 37 * (vv : Int) = ((65 + 37 * vv : Nat) : Int) by lia]; exact mod_nat
  have f4 : (65 + 4099 * (vv : Int)).fmod 55296 = (((65 + 4099 * vv) % 55296 : Nat) : Int) := by rw [show 65 + 4099 * (vv : Int) = ((65 + 4099 * vv : Nat) : Int) by lia]; exact mod_nat
  have f5 : 65536 + (62976 + 4099 * (vv : Int)).fmod 1048576 = ((65536 + (62976 + 4099 * vv) % 1048576 : Nat) : Int) := by
    have := mod_nat (n := 62976 + 4099 * vv) (b := 1048576)
    rw [show 62976 + 4099 * (vv : Int) = ((62976 + 4099 * vv : Nat) : Int) by lia, show (1048576 : Int) = ((1048576 : Nat) : Int) from rfl, this]; lia
  walk_at "s_if"
  · intro q s F
    have hq : kk = 3 := by have := eq_of_beq q; lia
    refine s_if F g (ts_cmp (ev_bin (by walk_at "m_ev") ev_int (op_mod (by decide))) ev_int op_eq (by with_unfolding_all rfl)) ?_ ?_
    · intro q2 s F
      rw [e3] at q2
      have hv3 : vv % 3 = 2 := by have := eq_of_beq q2; lia
      refine s_ret F g (ev_bin ev_str (ev_call (z := .str (ofL (digs 16 (caseOf vv) 1 ((1 + 5 * vv) % 13) []))) (Fs.world F) F.xa (by walk_at "m_glob") rfl rfl P3 (by decide) (by walk_at "m_evs") ⟨((1 + 5 * vv) % 13), 16, 1, S, .inr rfl, by decide, hSl, by rw [f13]; rfl, by rw [hSc]⟩ rfl) (op_catL (show (Str.ofString "\\x").cps.toList = [92, 120] by decide +kernel) (by rw [digs_len]; simp only [List.length_cons, List.length_nil]; lia))) fun v s2 F2 c2 => kq' (92 :: 120 :: digs 16 (caseOf vv) 1 ((1 + 5 * vv) % 13) []) v s2 _ _ F2 ?_ ?_
      · exact c2
      · simp only [piece, hkk, hvv, hq, hv3, if_pos]
    · intro q2 s F
      rw [e3] at q2
      have hv3 : ¬ vv % 3 = 2 := by intro h; rw [h] at q2; cases q2
      refine s_nil ?_
      show wpAny _ _ _ _ _ _
      refine s_ret F g (ev_bin ev_str (ev_call (z := .str (ofL (digs 16 (caseOf vv) 2 ((65 + 37 * vv) % 208) []))) (Fs.world F) F.xa (by walk_at "m_glob") rfl rfl P3 (by decide) (by walk_at "m_evs") ⟨((65 + 37 * vv) % 208), 16, 2, S, .inr rfl, by decide, hSl, by rw [f208]; rfl, by rw [hSc]⟩ rfl) (op_catL (show (Str.ofString "\\x").cps.toList = [92, 120] by decide +kernel) (by rw [digs_len]; simp only [List.length_cons, List.length_nil]; lia))) fun v s2 F2 c2 => kq' (92 :: 120 :: digs 16 (caseOf vv) 2 ((65 + 37 * vv) % 208) []) v s2 _ _ F2 ?_ ?_
      · exact c2
      · simp only [piece, hkk, hvv, hq, if_neg hv3]
  intro hk3 s F; refine s_nil ?_
  show wpAny _ _ _ _ _ _
  walk_at "s_if"
  · intro q s F
    have hq : kk = 4 := by have := eq_of_beq q; lia
    refine s_ret F g (ev_bin ev_str (ev_call (z := .str (ofL (digs 16 (caseOf vv) 4 ((65 + 4099 * vv) % 55296) []))) (Fs.world F) F.xa (by walk_at "m_glob") rfl rfl P3 (by decide) (by walk_at "m_evs") ⟨((65 + 4099 * vv) % 55296), 16, 4, S, .inr rfl, by decide, hSl, by rw [f4]; rfl, by rw [hSc]⟩ rfl) (op_catL (show (Str.ofString "\\u").cps.toList = [92, 117] by decide +kernel) (by rw [digs_len]; simp only [List.length_cons, List.length_nil]; lia))) fun v s2 F2 c2 => kq' (92 :: 117 :: digs 16 (caseOf vv) 4 ((65 + 4099 * vv) % 55296) []) v s2 _ _ F2 ?_ ?_
    · exact c2
    · simp only [piece, hkk, hvv, hq]
  intro hk4 s F; refine s_nil ?_
  show wpAny _ _ _ _ _ _
  walk_at "s_if"
  · intro q s F
    have hq : kk = 5 := by have := eq_of_beq q; lia
    refine s_ret F g (ev_bin ev_str (ev_call (z := .str (ofL (digs 16 (caseOf vv) 8 (65536 + (62976 + 4099 * vv) % 1048576) []))) (Fs.world F) F.xa (by walk_at "m_glob") rfl rfl P3 (by decide) (by walk_at "m_evs") ⟨(65536 + (62976 + 4099 * vv) % 1048576), 16, 8, S, .inr rfl, by decide, hSl, by rw [f5]; rfl, by rw [hSc]⟩ rfl) (op_catL (show (Str.ofString "\\U").cps.toList = [92, 85] by decide +kernel) (by rw [digs_len]; simp only [List.length_cons, List.length_nil]; lia))) fun v s2 F2 c2 => kq' (92 :: 85 :: digs 16 (caseOf vv) 8 (65536 + (62976 + 4099 * vv) % 1048576) []) v s2 _ _ F2 ?_ ?_
    · exact c2
    · simp only [piece, hkk, hvv, hq]
  intro hk5 s F; refine s_nil ?_
  show wpAny _ _ _ _ _ _
  walk_at "s_if"
  · intro q s F
    have hq : kk = 6 := by have := eq_of_beq q; lia
    refine s_ret F g ev_str fun v s2 F2 c2 => kq' [92, 117, 52, 49] v s2 _ _ F2 ?_ ?_
    · rw [lit_ofL (show (Str.ofString "\\u41").cps.toList = [92, 117, 52, 49] by decide +kernel)] at c2; exact c2
    · simp only [piece, hkk, hvv, hq]
  intro hk6 s F; refine s_nil ?_
  show wpAny _ _ _ _ _ _
  walk_at "s_if"
  · intro q s F
    have hq : kk = 7 := by have := eq_of_beq q; lia
    refine s_ret F g ev_str fun v s2 F2 c2 => kq' [92, 85, 48, 48, 48, 49, 102, 54] v s2 _ _ F2 ?_ ?_
    · rw [lit_ofL (show (Str.ofString "\\U0001f6").cps.toList = [92, 85, 48, 48, 48, 49, 102, 54] by decide +kernel)] at c2; exact c2
    · simp only [piece, hkk, hvv, hq]
  intro hk7 s F; refine s_nil ?_
  show wpAny _ _ _ _ _ _
  walk_at "s_if"
  · intro q s F
    have hq : kk = 8 := by have := eq_of_beq q; lia
    refine s_ret F g ev_str fun v s2 F2 c2 => kq' [92] v s2 _ _ F2 ?_ ?_
    · rw [lit_ofL (show (Str.ofString "\\").cps.toList = [92] by decide +kernel)] at c2; exact c2
    · simp only [piece, hkk, hvv, hq]
  intro hk8 s F; refine s_nil ?_
  show wpAny _ _ _ _ _ _
  walk_at "s_if"
  · intro q s F
    have hq : kk = 9 := by have := eq_of_beq q; lia
    have hj : vv % 5 < brokenM.length := Nat.mod_lt _ (by decide)
    refine s_ret F g (ev_menuS (by walk_at "m_call0") (ev_bin (by walk_at "m_ev") ev_int (op_mod (by decide))) (mod_nat (b := 5)) hj (by decide) (fun _ _ => rfl)) fun v s2 F2 c2 => kq' _ v s2 _ _ F2 (by rw [ofL_toList]; exact c2) ?_
    simp only [piece, hkk, hvv, hq]
    rw [List.getD_eq_getElem?_getD, List.getElem?_eq_getElem hj]; rfl
  intro hk9 s F; refine s_nil ?_
  show wpAny _ _ _ _ _ _
  have hk10 : kk = 10 := by
    have nb : ∀ k : Nat, ((kk : Int) == (k : Int)) = false → kk ≠ k := fun k q e => by rw [e] at q; simp at q
    have hlt : kk < 11 := by rw [← hkk]; exact Nat.mod_lt _ (by decide)
    have := nb 0 hk0; have := nb 1 hk1; have := nb 2 hk2; have := nb 3 hk3; have := nb 4 hk4; have := nb 5 hk5; have := nb 6 hk6; have := nb 7 hk7; have := nb 8 hk8; have := nb 9 hk9
    lia
  refine s_ret F g ev_str fun v s2 F2 c2 => kq' [] v s2 _ _ F2 ?_ ?_
  · rw [lit_ofL (show (Str.ofString "").cps.toList = [] by decide +kernel)] at c2; exact c2
  · simp only [piece, hkk, hvv, hk10]
end
end
section
section
open PySem.NumText PySem.W.KIN
theorem wp_textB {M : Model} {A : Around} {E : Value → Shared → Prop} {s : Shared} {Q : Value → Shared → Prop} {v : Value} {text : List Nat} {n : Int} {B : Nat}
    (hs : (text.takeWhile (· != 0)).length ≤ 640) (hr : (int_private% "readNumeral") 0 B (text.takeWhile (· != 0)) = (int_private% "Numeral.value") n)
    (ha : ((text.takeWhile (· != 0)).length == text.length) = true) (h : Q (.int n s.toks) { s with toks := s.toks + 1 }) :
    wpAny M A ((int_private% "intFromText") v text B) Q E s := by
  obtain ⟨hp, g, d, tk, os⟩ := s
  repeat (any_goals (first
    | assumption
    | (with_reducible refine wpAny_ite_true (decide_eq_true hs) ?_)
    | (with_reducible refine wpAny_ite_true (decide_eq_true ha) ?_)
    | wp_step))
  all_goals (try rw [hr])
  all_goals (try dsimp only)
  repeat (any_goals (first
    | assumption
    | (with_reducible refine wpAny_ite_true (decide_eq_true hs) ?_)
    | (with_reducible refine wpAny_ite_true (decide_eq_true ha) ?_)
    | wp_step))
noncomputable def Fine (B : Nat) (l : List Nat) (n : Int) : Prop := (l.takeWhile (· != 0)).length ≤ 640 ∧ (int_private% "readNumeral") 0 B (l.takeWhile (· != 0)) = (int_private% "Numeral.value") n ∧ ((l.takeWhile (· != 0)).length == l.length) = true
theorem gives_textB {x : PySem.Str} {u t : Tok} {n : Int} {b : Nat} (hb : b = 8 ∨ b = 16) (ha : x.cps.all (· < 128) = true) (hk : Hid (Fine b x.cps.toList n)) : Gives (Builtin.«int.__new__» ⟨[.type "int", .str x u, .int b t], []⟩) (.int n) :=
  .of_wp fun M A E s Q h => by
    obtain ⟨hp, g, d, tk, os⟩ := s
    have f1 := F.conv_sub_int
    have f2 := F.madeHere_int
    have f6 : typeOf (.str x u) = pure (.type "str") := rfl
    have f7 : Builtin.Int.intIndex "int.__new__" (.int b t) = pure (b : Int) := rfl
    have hN : (((b : Int) != 0 && decide ((b : Int) < 2)) || decide ((b : Int) > 36)) = false := by rcases hb with rfl | rfl <;> rfl
    have hbb : (b : Int).toNat = b := by simp
    repeat (any_goals (first
      | assumption
      | ((with_reducible show wpAny _ _ ((int_private% "intFromText") _ _ _) _ _ _); rw [hbb, if_pos ha]; refine wp_textB hk.out.1 hk.out.2.1 hk.out.2.2 ?_)
      | (with_reducible refine wpAny_ite_true ha ?_)
      | wp_step))
    all_goals first | exact ⟨_, rfl, h⟩ | skip
theorem typeCall_int_2 (a b : Value) : checkTypeCall "int" ⟨[a, b], []⟩ = pure () := by kernel_rfl
theorem newCall_int_2 (a b : Value) : checkBuiltinCall "int.__new__" ⟨[.type "int", a, b], []⟩ = pure () := by kernel_rfl
theorem dig_fits : ∀ c ∈ hexS, c ≠ 0 ∧ blank c = false ∧ c ≠ 45 ∧ c ≠ 43 ∧ c ≠ 95 ∧ digit? c = some (dig c).toNat ∧ 0 ≤ dig c ∧ dig c < 16 ∧ c ≠ 120 ∧ c ≠ 88 ∧ c ≠ 111 ∧ c ≠ 79 ∧ c < 128 := by decide +kernel
theorem oct_fits : ∀ c ∈ octS, c ∈ hexS ∧ dig c < 8 ∧ c ≠ 98 ∧ c ≠ 66 := by decide +kernel
noncomputable def Digits (b : Nat) (l : List Nat) : Prop := ∀ c ∈ l, c ∈ hexS ∧ dig c < b ∧ (b = 8 → c ≠ 98 ∧ c ≠ 66)
theorem digits_oct {l : List Nat} (h : ∀ c ∈ l, c ∈ octS) : Digits 8 l := fun c hc => ⟨(oct_fits c (h c hc)).1, (oct_fits c (h c hc)).2.1, fun _ => (oct_fits c (h c hc)).2.2⟩
theorem digits_hex {l : List Nat} (h : ∀ c ∈ l, c ∈ hexS) : Digits 16 l := fun c hc => ⟨h c hc, (dig_fits c (h c hc)).2.2.2.2.2.2.2.1, fun h => by lia⟩
theorem drop_blank {l : List Nat} (h : ∀ c ∈ l, c ∈ hexS) : l.dropWhile blank = l := by
  cases l with
  | nil => rfl
  | cons c r => rw [List.dropWhile_cons, (dig_fits c (h c (List.mem_cons_self))).2.1]; rfl
theorem take_all {l : List Nat} (h : ∀ c ∈ l, c ∈ hexS) : l.takeWhile (· != 0) = l := by
  induction l with
  | nil => rfl
  | cons c r ih =>
    rw [List.takeWhile_cons, if_pos (by have := (dig_fits c (h c (List.mem_cons_self))).1; simpa using this), ih fun d hd => h d (List.mem_cons_of_mem _ hd)]
theorem fold_digs {b : Nat} : ∀ {l : List Nat}, Digits b l → ∀ (a : Array Nat) (q : Bool), (q = true ∨ l ≠ []) → l.foldlM (NumText.step b) (a, q) = some (a ++ (l.map fun c => (dig c).toNat).toArray, true)
  | [], _, a, q, h => by
    rcases h with rfl | h
    · simp [List.foldlM]
    · exact absurd rfl h
  | c :: r, hd, a, q, _ => by
    have hc := hd c (List.mem_cons_self)
    have hf := dig_fits c hc.1
    have ho : NumText.step b (a, q) c = some (a.push (dig c).toNat, true) := by
      unfold NumText.step
      rw [if_neg (by simpa using hf.2.2.2.2.1), hf.2.2.2.2.2.1]
      exact if_pos (by have := hf.2.2.2.2.2.2.1; lia)
    rw [List.foldlM_cons, ho]
    show r.foldlM (NumText.step b) (a.push (dig c).toNat, true) = _
    rw [fold_digs (fun d m => hd d (List.mem_cons_of_mem _ m)) _ true (.inl rfl)]
    simp
theorem worth_nat {b : Nat} : ∀ {l : List Nat}, Digits b l → ∀ a : Nat, (((l.map fun c => (dig c).toNat).foldl (fun acc d => acc * b + d) a : Nat) : Int) = l.foldl (fun x c => x * (b : Int) + dig c) (a : Int)
  | [], _, a => rfl
  | c :: r, hd, a => by
    have hf := dig_fits c (hd c (List.mem_cons_self)).1
    simp only [List.map_cons, List.foldl_cons]
    rw [worth_nat fun d m => hd d (List.mem_cons_of_mem _ m)]
    congr 1
    have h0 : ((dig c).toNat : Int) = dig c := Int.toNat_of_nonneg hf.2.2.2.2.2.2.1
    rw [Int.natCast_add, Int.natCast_mul, h0]
theorem based_id {b : Nat} (hb : b = 8 ∨ b = 16) {l : List Nat} (h : Digits b l) : based b l = (b, false, l) := by
  have hb0 : (b == 0) = false := by rcases hb with rfl | rfl <;> rfl
  unfold based
  split
  · rename_i p hp
    rw [hb0, Bool.false_or]
    refine if_neg ?_
    intro e
    have e := eq_of_beq e
    subst e
    unfold prefix? at hp
    split at hp
    · rename_i c r
      have hc := h c (by simp)
      have hf := dig_fits c hc.1
      rw [if_neg (by simp [hf.2.2.2.2.2.2.2.2.1, hf.2.2.2.2.2.2.2.2.2.1]), if_neg (by simp [hf.2.2.2.2.2.2.2.2.2.2.1, hf.2.2.2.2.2.2.2.2.2.2.2.1])] at hp
      split at hp
      · have := Option.some.inj hp
        lia
      · cases hp
    · cases hp
  · rw [hb0]; rfl
theorem sign_id {l : List Nat} (h : ∀ c ∈ l, c ∈ hexS) : NumText.sign l = (false, l) := by
  unfold NumText.sign
  split
  · have := dig_fits _ (h 45 (by simp)); exact absurd rfl this.2.2.1
  · have := dig_fits _ (h 43 (by simp)); exact absurd rfl this.2.2.2.1
  · rfl
theorem fine_of {b : Nat} {l : List Nat} (hb : b = 8 ∨ b = 16) (h : Digits b l) (hne : l ≠ []) (hl : l.length ≤ 640) : Fine b l (worth b l) := by
  have hx : ∀ c ∈ l, c ∈ hexS := fun c m => (h c m).1
  unfold Fine
  rw [take_all hx]
  refine ⟨hl, ?_, by simp⟩
  rw [readNumeral_eq, drop_blank hx, sign_id hx]
  simp only [based_id hb h]
  have hr : (l.reverse.dropWhile blank).reverse = l := by rw [drop_blank (fun c m => hx c (List.mem_reverse.mp m)), List.reverse_reverse]
  rw [hr]
  have hd : digits? b l = some (l.map fun c => (dig c).toNat).toArray := by
    unfold digits?
    rw [fold_digs h _ _ (.inr hne)]; simp
  rw [hd]
  have h10 : (b == 10) = false := by rcases hb with rfl | rfl <;> rfl
  unfold judge
  simp only [h10, Bool.false_and, bne_self_eq_false, Bool.and_false, Bool.false_eq_true, if_false]
  congr 1
  rw [List.foldl_toArray, worth_nat h]; rfl
theorem fine_ascii {b : Nat} {l : List Nat} (h : Digits b l) : (ofL l).cps.all (· < 128) = true := by
  have : (ofL l).cps = l.toArray := rfl
  rw [this, List.all_toArray, List.all_eq_true]
  intro c hc
  have := (dig_fits c (h c hc).1).2.2.2.2.2.2.2.2.2.2.2.2
  simpa using this
end
section
variable {prog : Program} {w : World} {X : Addr → Prop} {d : Nat} {env : Env} {h : Heap}
theorem bi_int {b : Nat} {l : List Nat} (hb : b = 8 ∨ b = 16) (hd : Digits b l) (hne : l ≠ []) (hl : l.length ≤ 640) : ∀ h' vs, Ext h h' → ConL X h' [.str (ofL l), .int (b : Int)] vs → Yl prog w X d h' (call (.type "int") vs) (.int (worth b l)) := fun h' vs _ c A Q E s g e q => by
  cases c with
  | cons c1 c2 =>
    cases c2 with
    | cons c2 c3 =>
      cases c1; cases c2; cases c3
      refine callType_new F.called_int F.newNe_int (typeCall_int_2 _ _) (newCall_int_2 _ _) (fun obj => F.args_object_init_3 obj _ _) F.entry_int_new (gives_textB hb (fine_ascii hd) ⟨by rw [ofL_list]; exact fine_of hb hd hne hl⟩).meets ?_
      exact ⟨rfl, q _ s.heap _ (.refl _) (.int _ _)⟩
theorem slc_ss {l : List Nat} {a b : Nat} (h1 : a ≤ b) (h2 : b ≤ l.length) : Txt.slice (ofL l) (some (a : Int)) (some (b : Int)) = ofL ((l.drop a).take (b - a)) := by
  have := eq_of_beq (slice_closesL (x := ofL l) (i := a) (j := b) (by lia) (by lia) (by rw [ofL_len]; lia))
  rw [this, ofL_list, Int.toNat_natCast, show ((b : Int) - a).toNat = b - a by lia]; rfl
theorem slc_ns {l : List Nat} {b : Nat} (h2 : b ≤ l.length) : Txt.slice (ofL l) none (some (b : Int)) = ofL (l.take b) := by
  have := eq_of_beq (slice_closes_toL (x := ofL l) (j := b) (by lia) (by rw [ofL_len]; lia))
  rw [this, ofL_list, show ((b : Int) - 0).toNat = b by lia]; rfl
theorem slc_sn {l : List Nat} {a : Nat} (h1 : a ≤ l.length) : Txt.slice (ofL l) (some (a : Int)) none = ofL (l.drop a) := by
  have := eq_of_beq (slice_closes_fromL (x := ofL l) (i := a) (b := (l.length : Int)) (by lia) (by rw [ofL_len]; lia) (by rw [ofL_len]))
  rw [this, ofL_list, Int.toNat_natCast, show ((l.length : Int) - a).toNat = l.length - a by lia, List.take_of_length_le (by simp)]; rfl
theorem ev_slice_ns {a j : PySem.Expr} {pos p : Pos} {x : Str} {n : Int} (ha : Ev prog w X d env h a (.str x)) (hj : Ev prog w X d env h j (.int n)) (hx : x.length ≤ 1000000) :
    Ev prog w X d env h (.Subscript a (.Slice none (some j) none p) pos) (.str (Txt.slice x none (some n))) :=
  fun A Q E s g e q => Subscript_ (ha A _ E s g e fun u h1 _ e1 c1 => by
    refine wpAny_bind (m := (pure Value.none : Sem Value)) (wpAny_pure ?_)
    refine wpAny_bind (wpAny_holding (hj A _ E _ g (e.trans e1) fun y h3 tk3 e3 c3 => ?_))
    refine wpAny_bind (wpAny_holding (wpAny_pure (newSlice ?_)))
    (first | apply c1.refG | apply c1.noneG | apply c1.boolG | (apply c1.strG; intro _) | (apply c1.intG; intro _)); clear c1; (first | apply c3.refG | apply c3.noneG | apply c3.boolG | (apply c3.strG; intro _) | (apply c3.intG; intro _)); clear c3
    obtain ⟨T, id, hl, hT, hg⟩ := (SBH.sliceItem_ns (Q := Q) (prog := prog) (w := w) (A := A) (E := E) (P := fun h4 => Ext h3 h4) (s := { s with heap := h3, toks := tk3 }) (fun h4 ob k => k.trans (Ext.push _ _)) (.refl _) (fun h4 t' k e4 => q _ h4 k (e1.trans (e3.trans e4)) (.str _ _)) (Nat.le_trans hx (by decide)))
    exact tail_any hT hl hg (by rfl))
theorem ev_slice_sn {a i : PySem.Expr} {pos p : Pos} {x : Str} {m : Int} (ha : Ev prog w X d env h a (.str x)) (hi : Ev prog w X d env h i (.int m)) (hx : x.length ≤ 1000000) :
    Ev prog w X d env h (.Subscript a (.Slice (some i) none none p) pos) (.str (Txt.slice x (some m) none)) :=
  fun A Q E s g e q => Subscript_ (ha A _ E s g e fun u h1 _ e1 c1 => by
    refine wpAny_bind (m := eval i env) (hi A _ E _ g (e.trans e1) fun v h2 tk2 e2 c2 => wpAny_bind (wpAny_holding (wpAny_pure ?_)))
    refine wpAny_bind (wpAny_holding (wpAny_pure (newSlice ?_)))
    (first | apply c1.refG | apply c1.noneG | apply c1.boolG | (apply c1.strG; intro _) | (apply c1.intG; intro _)); clear c1; (first | apply c2.refG | apply c2.noneG | apply c2.boolG | (apply c2.strG; intro _) | (apply c2.intG; intro _)); clear c2
    obtain ⟨T, id, hl, hT, hg⟩ := (SBH.sliceItem_sn (Q := Q) (prog := prog) (w := w) (A := A) (E := E) (P := fun h4 => Ext h2 h4) (s := { s with heap := h2, toks := tk2 }) (fun h4 ob k => k.trans (Ext.push _ _)) (.refl _) (fun h4 t' k e4 => q _ h4 k (e1.trans (e2.trans e4)) (.str _ _)) (Nat.le_trans hx (by decide)))
    exact tail_any hT hl hg (by rfl))
end
end
section
theorem worth_lt {b : Nat} : ∀ {l : List Nat}, Digits b l → ∀ a : Int, 0 ≤ a → 0 ≤ l.foldl (fun x c => x * (b : Int) + dig c) a ∧ l.foldl (fun x c => x * (b : Int) + dig c) a < (a + 1) * (b : Int) ^ l.length
  | [], _, a, h => ⟨h, by simp; lia⟩
  | c :: r, hd, a, h => by
    have hc := hd c List.mem_cons_self
    have hf := (dig_fits c hc.1).2.2.2.2.2.2.1
    have h1 : 0 ≤ a * (b : Int) := Int.mul_nonneg h (Int.natCast_nonneg b)
    have ih := worth_lt (fun d m => hd d (List.mem_cons_of_mem _ m)) (a * b + dig c) (by lia)
    refine ⟨ih.1, Int.lt_of_lt_of_le ih.2 ?_⟩
    rw [List.length_cons, Int.pow_succ, Int.mul_comm ((b : Int) ^ r.length) b, ← Int.mul_assoc]
    refine Int.mul_le_mul_of_nonneg_right ?_ (Int.pow_nonneg (Int.natCast_nonneg b))
    rw [Int.add_mul]; lia
theorem worth_bd {b : Nat} {l : List Nat} (h : Digits b l) : 0 ≤ worth b l ∧ worth b l < (b : Int) ^ l.length := by
  have := worth_lt h 0 (by lia)
  simpa [worth] using this
theorem worth_bd_le {b m : Nat} {l : List Nat} (h : Digits b l) (hl : l.length ≤ m) (hb : 0 < b) : 0 ≤ worth b l ∧ worth b l < (b : Int) ^ m := by
  have := worth_bd h
  refine ⟨this.1, Int.lt_of_lt_of_le this.2 ?_⟩
  have := Nat.pow_le_pow_right hb hl
  exact_mod_cast this
theorem run_mem {S : List Nat} : ∀ {l : List Nat} {n : Nat}, n ≤ run S l → ∀ c ∈ l.take n, c ∈ S
  | [], n, _, c, h => by simp at h
  | d :: r, 0, _, c, h => by simp at h
  | d :: r, n + 1, h, c, hc => by
    unfold run at h
    split at h
    · rename_i q
      rw [List.take_succ_cons] at hc
      rcases List.mem_cons.mp hc with rfl | hc
      · simpa using q
      · exact run_mem (by lia) c hc
    · lia

noncomputable def meantOf (c : Nat) : Option Nat :=
  if c = 97 then some 7 else if c = 98 then some 8 else if c = 102 then some 12 else if c = 110 then some 10 else if c = 114 then some 13 else if c = 116 then some 9 else if c = 118 then some 11 else if c = 101 then some 27
  else if c = 34 then some 34 else if c = 39 then some 39 else if c = 63 then some 63 else none
noncomputable def spotOf (c : Nat) : Int := Txt.find (Str.ofString "abfnrtve\"'?\\") (sign c)
theorem spot_in : ∀ c ∈ simpleS, c ≠ 92 → 0 ≤ spotOf c ∧ spotOf c < 11 ∧ (meantM[(spotOf c).toNat]?).map Int.toNat = meantOf c ∧ (meantOf c).isSome = true := by decide +kernel
theorem meant_nn : ∀ i ∈ meantM, 0 ≤ i ∧ i ≤ 1114111 := by decide
theorem spot_out {c : Nat} (h : c ∉ simpleS) : spotOf c < 0 ∧ meantOf c = none := by
  constructor
  · have h1 := contains_one (Str.ofString "abfnrtve\"'?\\") c
    rw [simple_lit] at h1
    have h2 : simpleS.contains c = false := by simpa using h
    rw [h2] at h1
    unfold Txt.contains at h1
    unfold spotOf Txt.find sign
    generalize Builtin.Str.occurrences _ _ _ _ _ = o at h1
    cases o with
    | nil => decide
    | cons i r => simp at h1
  · unfold simpleS at h
    simp only [List.mem_cons, List.not_mem_nil, or_false, not_or] at h
    unfold meantOf
    simp [h]
noncomputable def takeOf (l : List Nat) : Nat := if l.headD 0 = 120 then run hexS (l.drop 1) else if l.headD 0 = 117 then 4 else if l.headD 0 = 85 then 8 else 0
noncomputable def lawEsc (l : List Nat) : List Nat :=
  if 0 < run octS l then (worth 8 (l.take (min 3 (run octS l)))).toNat :: l.drop (min 3 (run octS l))
  else match meantOf (l.headD 0) with
    | some m => m :: l.drop 1
    | none => if takeOf l = 0 ∨ run hexS (l.drop 1) < takeOf l then 92 :: l else (worth 16 ((l.drop 1).take (takeOf l))).toNat :: l.drop (1 + takeOf l)
noncomputable def EscOk (l : List Nat) : Prop := 0 < takeOf l → takeOf l ≤ run hexS (l.drop 1) → worth 16 ((l.drop 1).take (takeOf l)) ≤ 1114111
noncomputable def escF (xs : List V) (z : V) : Prop := ∃ l : List Nat, l ≠ [] ∧ l.length ≤ 600 ∧ l.headD 0 ≠ 92 ∧ EscOk l ∧ xs = [.str (ofL l)] ∧ z = .str (ofL (lawEsc l))
/-- an if whose branches meet again -/
theorem s_join {K : Frag} {mg mb : Str → Option Value} {prog : Program} {w : World} {Z : Addr → Prop} {d : Nat} {env : Env} {sc : Scope} {h₀ : Heap} {σ s : Shared} {Ow : Heap → Prop} {l : List (Str × V)} {A : Around} {rest : List Stmt} {Q : Flow → Shared → Prop} {E : Value → Shared → Prop}
    (l' : List (Str × V)) {t : PySem.Expr} {b o : List Stmt} {p : Pos} {c : Bool} (F : Fs K mg mb env sc Z h₀ σ Ow l s) (g : Gd d A) (ht : Ts prog w d env s.heap t c)
    (kt : c = true → ∀ s', Fs K mg mb env sc Z h₀ σ Ow l s' → wpAny (model prog w) A (execs b env) (fun f s3 => match f with | .next => Fs K mg mb env sc Z h₀ σ Ow l' s3 | f => Q f s3) E s')
    (kf : c = false → ∀ s', Fs K mg mb env sc Z h₀ σ Ow l s' → wpAny (model prog w) A (execs o env) (fun f s3 => match f with | .next => Fs K mg mb env sc Z h₀ σ Ow l' s3 | f => Q f s3) E s')
    (k : ∀ s3, Fs K mg mb env sc Z h₀ σ Ow l' s3 → wpAny (model prog w) A (execs rest env) Q E s3) :
    wpAny (model prog w) A (execs (.If t b o p :: rest) env) Q E s :=
  s_if F g ht (fun q s' F' => wpAny_mono (kt q s' F') (fun f s3 h => by cases f <;> first | exact k s3 h | exact h) fun _ _ e => e)
    (fun q s' F' => wpAny_mono (kf q s' F') (fun f s3 h => by cases f <;> first | exact k s3 h | exact h) fun _ _ e => e)
section
variable {w : World} {mg mb : Str → Option Value} {prog : Program}
theorem escape_pf : Pf (KK w) mg mb prog w 2 301 escF := by
  have P1 := @run_pf w mg mb prog
  have P2 := @worth_pf w mg mb prog
  have P3 := @meant_pf w mg mb prog
  rintro X h xs z vs ⟨l, hne, hlen, h92, hok, rfl, rfl⟩ W xa c
  apply c.oneG; clear c; intro _ c1
  refine fn_enter (["part"].map Str.ofString) W xa (.cons c1 .nil) rfl rfl rfl (by kernel_rfl) rfl rfl (by decide) (by decide) (by decide) rfl rfl rfl rfl rfl ?_
  intro A env Z h₀ σ s Q E g F kq
  dsimp only at F kq
  have hL := ofL_len l
  refine s_assign F g (ev_bi (f := "min") (by walk_at "m_boot") (evs_cons ev_int (evs_cons (ev_call (z := .int ((run octS l : Nat) : Int)) (Fs.world F) F.xa (by walk_at "m_glob") rfl rfl P1 (by decide) (by walk_at "m_evs") ⟨ofL l, Str.ofString "01234567", by lia, rfl, by rw [oct_lit, ofL_list]⟩ rfl) evs_nil rfl) rfl) bi_min rfl rfl) rfl fun s F => ?_
  generalize ho : min 3 (run octS l) = o
  have hol : o ≤ l.length := by have := run_le octS l; lia
  have horun : o ≤ run octS l := by lia
  have F := F.to [(Str.ofString "octal", .int (o : Int)), (Str.ofString "part", .str (ofL l))] ⟨by
      show some (V.int _) = some (V.int _)
      congr 2
      split <;> lia, rfl, trivial⟩
  have hD8 : Digits 8 (l.take o) := digits_oct (run_mem horun)
  have hw8 : 0 ≤ worth 8 (l.take o) ∧ worth 8 (l.take o) < 512 := by
    have := worth_bd_le hD8 (m := 3) (by rw [List.length_take]; lia) (by decide)
    exact ⟨this.1, by have := this.2; simpa using this⟩
  have hhead : (l.headD 0) :: l.drop 1 = l := by cases l with | nil => exact absurd rfl hne | cons a b => rfl
  have hlp : 0 < l.length := by cases l with | nil => exact absurd rfl hne | cons a b => simp
  have hitem : ∀ (h0 : 0 < (ofL l).cps.toList.length), (ofL l).cps.toList[0] = l.headD 0 := by
    intro h0
    have := ofL_list l
    cases l with | nil => exact absurd rfl hne | cons a b => simp [ofL]
  have hj0 : 0 < (ofL l).cps.toList.length := by rw [ofL_list]; exact hlp
  walk_at "s_if"
  · intro q s F
    have hq : 0 < run octS l := by have := of_decide_eq_true q; lia
    refine s_ret F g (ev_bin (ev_bi (f := "chr") (by walk_at "m_boot") (evs_cons (ev_call (z := .int (worth 8 (l.take o))) (Fs.world F) F.xa (by walk_at "m_glob") rfl rfl P2 (by decide) (evs_cons (ev_slice_ns (by walk_at "m_ev") (by walk_at "m_ev") (by lia)) (evs_cons ev_int evs_nil rfl) rfl) ⟨ofL (l.take o), 8, by rw [ofL_len, List.length_take]; lia, .inl rfl, by rw [slc_ns hol], by rw [ofL_list]⟩ rfl) evs_nil rfl) (bi_chr hw8.1 (by have := hw8.2; lia)) rfl rfl)
      (ev_slice_sn (by walk_at "m_ev") (by walk_at "m_ev") (by lia)) (op_cat (by rw [slc_sn hol, ofL_len, List.length_drop]; show 1 + _ ≤ _; lia))) fun v s2 F2 c2 => kq v s2 _ _ F2 ?_
    rw [slc_sn hol] at c2
    unfold lawEsc
    rw [if_pos hq, ho]
    exact (sign_cat (worth 8 (l.take o)).toNat (l.drop o)) ▸ c2
  intro hq s F; refine s_nil ?_
  show wpAny _ _ _ _ _ _
  have hq0 : ¬ 0 < run octS l := by
    intro h
    have : ¬ (o : Int) > 0 := of_decide_eq_false hq
    lia
  refine s_assign F g (ev_find (by walk_at "m_ev") (ev_sub (by walk_at "m_ev") ev_int (it_chr (j := 0) rfl hj0 (by lia)))) rfl fun s F => ?_
  rw [hitem hj0] at F
  have hsp : Txt.find (Str.ofString "abfnrtve\"'?\\") (sign (l.headD 0)) = spotOf (l.headD 0) := rfl
  rw [hsp] at F
  walk_at "s_if"
  · intro q s F
    have hq : 0 ≤ spotOf (l.headD 0) := of_decide_eq_true q
    have hin : l.headD 0 ∈ simpleS := by
      by_cases hc : l.headD 0 ∈ simpleS
      · exact hc
      · have := (spot_out hc).1; lia
    obtain ⟨h1, h2, h3, h4⟩ := spot_in _ hin h92
    have hjm : (spotOf (l.headD 0)).toNat < meantM.length := by show _ < 11; lia
    have hmi : meantM[(spotOf (l.headD 0)).toNat]? = some meantM[(spotOf (l.headD 0)).toNat] := List.getElem?_eq_getElem hjm
    have hnn := meant_nn _ (List.getElem_mem hjm)
    refine s_ret F g (ev_bin (ev_bi (f := "chr") (by walk_at "m_boot") (evs_cons (ev_sub (by walk_at "m_call0") (by walk_at "m_ev") (it_lst (l := meantM.map .int) (z := .int meantM[(spotOf (l.headD 0)).toNat]) h1 (by rw [List.getElem?_map, hmi]; rfl) (by decide) (fun _ _ => rfl))) evs_nil rfl) (bi_chr hnn.1 hnn.2) rfl rfl)
      (ev_slice_sn (by walk_at "m_ev") ev_int (by lia)) (op_cat (by rw [show Txt.slice (ofL l) (some 1) none = _ from slc_sn (a := 1) hlp, ofL_len, List.length_drop]; show 1 + _ ≤ _; lia))) fun v s2 F2 c2 => kq v s2 _ _ F2 ?_
    rw [show Txt.slice (ofL l) (some 1) none = _ from slc_sn (a := 1) hlp] at c2
    unfold lawEsc
    rw [if_neg hq0, ← h3, hmi]
    exact (sign_cat (meantM[(spotOf (l.headD 0)).toNat]).toNat (l.drop 1)) ▸ c2
  intro q s F; refine s_nil ?_
  show wpAny _ _ _ _ _ _
  have hnm : meantOf (l.headD 0) = none := by
    by_cases hc : l.headD 0 ∈ simpleS
    · have := (spot_in _ hc h92).1
      have : ¬ spotOf (l.headD 0) ≥ 0 := of_decide_eq_false q
      lia
    · exact (spot_out hc).2
  have hs1 : Txt.slice (ofL l) (some 1) none = ofL (l.drop 1) := slc_sn (a := 1) hlp
  refine s_assign F g (ev_call (z := .int ((run hexS (l.drop 1) : Nat) : Int)) (Fs.world F) F.xa (by walk_at "m_glob") rfl rfl P1 (by decide) (evs_cons (ev_slice_sn (by walk_at "m_ev") ev_int (by lia)) (evs_cons (by walk_at "m_gs") evs_nil rfl) rfl) ⟨ofL (l.drop 1), Str.ofString "0123456789abcdefABCDEF", by rw [ofL_len, List.length_drop]; lia, by rw [hs1], by rw [hex_lit, ofL_list]⟩ rfl) rfl fun s F => ?_
  have hrl : run hexS (l.drop 1) + 1 ≤ l.length := by have := run_le hexS (l.drop 1); rw [List.length_drop] at this; lia
  refine s_assign F g ev_int rfl fun s F => ?_
  have tsx : ∀ {h : Heap} {x : Str} {k p p1 p2 p3 p4 p5}, Ev prog w Z 1 env h (.Name (Str.ofString "part") p1) (.str (ofL l)) →
      Ts prog w 1 env h (.Compare (.Subscript (.Name (Str.ofString "part") p1) (.Constant (.int 0) k p2) p3) [.Eq] [.Constant (.str x) p4 p5] p) (sign (l.headD 0) == x) := fun hp =>
    ts_cmp (ev_sub hp ev_int (it_chr (j := 0) rfl hj0 (by lia))) ev_str (by rw [hitem hj0]; exact op_eqS) (by with_unfolding_all rfl)
  have sx : ∀ (c d : Nat) (x : Str), x = sign d → (sign c == x) = decide (c = d) := by
    rintro c d x rfl
    rw [Bool.eq_iff_iff]; simp [sign]
  have lx : Str.ofString "x" = sign 120 := by decide +kernel
  have lu : Str.ofString "u" = sign 117 := by decide +kernel
  have lU : Str.ofString "U" = sign 85 := by decide +kernel
  refine s_join [(Str.ofString "take", .int (takeOf l : Int)), (Str.ofString "many", .int ((run hexS (l.drop 1) : Nat) : Int)), (Str.ofString "part", .str (ofL l))] F g (tsx (by walk_at "m_ev")) ?_ ?_ ?_
  · intro q s F
    rw [sx _ _ _ lx] at q
    have hc : l.headD 0 = 120 := of_decide_eq_true q
    refine s_assign F g (by walk_at "m_ev") rfl fun s F => s_nil (F.to _ ⟨?_, rfl, rfl, trivial⟩)
    unfold takeOf; rw [if_pos hc]; rfl
  · intro q s F
    rw [sx _ _ _ lx] at q
    have hc : ¬ l.headD 0 = 120 := of_decide_eq_false q
    refine s_if F g (tsx (by walk_at "m_ev")) ?_ ?_
    · intro q s F
      rw [sx _ _ _ lu] at q
      have hc2 : l.headD 0 = 117 := of_decide_eq_true q
      refine s_assign F g ev_int rfl fun s F => s_nil (s_nil (F.to _ ⟨?_, rfl, rfl, trivial⟩))
      unfold takeOf; rw [if_neg hc, if_pos hc2]; rfl
    · intro q s F
      rw [sx _ _ _ lu] at q
      have hc2 : ¬ l.headD 0 = 117 := of_decide_eq_false q
      refine s_if F g (tsx (by walk_at "m_ev")) ?_ ?_
      · intro q s F
        rw [sx _ _ _ lU] at q
        have hc3 : l.headD 0 = 85 := of_decide_eq_true q
        refine s_assign F g ev_int rfl fun s F => s_nil (s_nil (s_nil (F.to _ ⟨?_, rfl, rfl, trivial⟩)))
        unfold takeOf; rw [if_neg hc, if_neg hc2, if_pos hc3]; rfl
      · intro q s F
        rw [sx _ _ _ lU] at q
        have hc3 : ¬ l.headD 0 = 85 := of_decide_eq_false q
        refine s_nil (s_nil (s_nil (F.to _ ⟨?_, rfl, rfl, trivial⟩)))
        unfold takeOf; rw [if_neg hc, if_neg hc2, if_neg hc3]; rfl
  intro s F
  refine s_if F g (ts_or (by walk_at "m_ts") fun _ => ts_or (by walk_at "m_ts") fun _ => ts_or_nil) ?_ ?_
  · intro q s F
    have hq : takeOf l = 0 ∨ run hexS (l.drop 1) < takeOf l := by
      simp only [Bool.or_false, Bool.or_eq_true, beq_iff_eq, decide_eq_true_eq] at q
      lia
    refine s_ret F g (ev_bin ev_str (by walk_at "m_ev") (op_catL bs_lit (by show 1 + _ ≤ _; lia))) fun v s2 F2 c2 => kq v s2 _ _ F2 ?_
    unfold lawEsc
    rw [if_neg hq0, hnm]
    show Con Z s2.heap (.str (ofL (if takeOf l = 0 ∨ run hexS (l.drop 1) < takeOf l then _ else _))) v
    rw [if_pos hq]
    exact c2
  · intro q s F
    have hq : ¬ (takeOf l = 0 ∨ run hexS (l.drop 1) < takeOf l) := by
      simp only [Bool.or_false, Bool.or_eq_false_iff, beq_eq_false_iff_ne, decide_eq_false_iff_not] at q
      lia
    refine s_nil ?_
    show wpAny _ _ _ _ _ _
    have ht1 : 1 + takeOf l ≤ l.length := by lia
    have e1 : (1 : Int) + (takeOf l : Int) = ((1 + takeOf l : Nat) : Int) := by lia
    have hsl : Txt.slice (ofL l) (some 1) (some (1 + (takeOf l : Int))) = ofL ((l.drop 1).take (takeOf l)) := by
      rw [e1]
      have := slc_ss (l := l) (a := 1) (b := 1 + takeOf l) (by lia) ht1
      rw [show 1 + takeOf l - 1 = takeOf l by lia] at this
      exact this
    have hsf : Txt.slice (ofL l) (some (1 + (takeOf l : Int))) none = ofL (l.drop (1 + takeOf l)) := by
      rw [e1]; exact slc_sn ht1
    have hD : Digits 16 ((l.drop 1).take (takeOf l)) := digits_hex (run_mem (by lia))
    have hw := worth_bd hD
    have hw2 := hok (by lia) (by lia)
    refine s_ret F g (ev_bin (ev_bi (f := "chr") (by walk_at "m_boot") (evs_cons (ev_call (z := .int (worth 16 ((l.drop 1).take (takeOf l)))) (Fs.world F) F.xa (by walk_at "m_glob") rfl rfl P2 (by decide) (evs_cons (ev_slice_ss (by walk_at "m_ev") ev_int (by walk_at "m_ev") (by lia)) (evs_cons ev_int evs_nil rfl) rfl) ⟨ofL ((l.drop 1).take (takeOf l)), 16, by rw [ofL_len, List.length_take, List.length_drop]; lia, .inr rfl, by rw [hsl], by rw [ofL_list]⟩ rfl) evs_nil rfl) (bi_chr hw.1 hw2) rfl rfl)
      (ev_slice_sn (by walk_at "m_ev") (by walk_at "m_ev") (by lia)) (op_cat (by rw [hsf, ofL_len, List.length_drop]; show 1 + _ ≤ _; lia))) fun v s2 F2 c2 => kq v s2 _ _ F2 ?_
    rw [hsf] at c2
    unfold lawEsc
    rw [if_neg hq0, hnm]
    show Con Z s2.heap (.str (ofL (if takeOf l = 0 ∨ run hexS (l.drop 1) < takeOf l then _ else _))) v
    rw [if_neg hq]
    exact (sign_cat (worth 16 ((l.drop 1).take (takeOf l))).toNat (l.drop (1 + takeOf l))) ▸ c2
end
end
section
noncomputable def lawTail : List (List Nat) → List Nat
  | [] => []
  | [[]] => [92]
  | [] :: q :: qs => 92 :: (q ++ lawTail qs)
  | (c :: p) :: ps => lawEsc (c :: p) ++ lawTail ps
noncomputable def lawRead : List (List Nat) → List Nat
  | [] => []
  | p :: ps => p ++ lawTail ps
theorem lawEsc_len (l : List Nat) : (lawEsc l).length ≤ l.length + 1 := by
  unfold lawEsc
  split
  · simp
  · split
    · simp
    · split
      · simp
      · simp <;> lia
noncomputable def bs : Str := ⟨#[92]⟩
theorem bs_eq : Str.ofString "\\" = bs := by decide +kernel
noncomputable def readF (xs : List V) (z : V) : Prop := ∃ (l : List Nat) (ps : List (List Nat)), l.length ≤ 500 ∧ Txt.split (ofL l) bs = ps.map ofL ∧ (∀ p ∈ ps.drop 1, p ≠ [] → EscOk p) ∧ xs = [.str (ofL l)] ∧ z = .str (ofL (lawRead ps))
theorem split_ne (x y : Str) : 0 < (Txt.split x y).length := by
  unfold Txt.split
  split
  · exact Nat.zero_lt_one
  · split
    · exact Nat.zero_lt_one
    · rw [PyProof.Rows.len_partsBetween]; lia
theorem ofL_inj {a b : List Nat} (h : ofL a = ofL b) : a = b := by
  have := congrArg (fun s : Str => s.cps.toList) h
  simpa [ofL_list] using this
section
variable {w : World} {mg mb : Str → Option Value} {prog : Program}
theorem lawTail_at {ps : List (List Nat)} {k : Nat} (h : k < ps.length) : lawTail (ps.drop k) = match ps[k] with
    | [] => 92 :: ((ps.getD (k + 1) []) ++ lawTail (ps.drop (k + 2)))
    | c :: p => lawEsc (c :: p) ++ lawTail (ps.drop (k + 1)) := by
  rw [List.drop_eq_getElem_cons h]
  cases hp : ps[k] with
  | nil =>
    by_cases h2 : k + 1 < ps.length
    · rw [List.drop_eq_getElem_cons h2, List.getD_eq_getElem?_getD, List.getElem?_eq_getElem h2]
      rfl
    · rw [List.drop_eq_nil_of_le (by lia), List.drop_eq_nil_of_le (show ps.length ≤ k + 2 by lia), List.getD_eq_getElem?_getD, List.getElem?_eq_none (by lia)]
      rfl
  | cons c p => simp only [lawTail]
theorem op_icatL {X : Addr → Prop} {d : Nat} {h : Heap} {a b : List Nat} (hs : a.length + b.length ≤ 1000000) : Op2 prog w X d h (inplaceOp .Add) (.str (ofL a)) (.str (ofL b)) (.str (ofL (a ++ b))) := by
  rw [← lit_cat (ofL_list a)]
  exact op_icat (by rw [ofL_len, ofL_len]; exact hs)
theorem ev_itemN {X : Addr → Prop} {d : Nat} {env : Env} {h : Heap} {e i : PySem.Expr} {p : Pos} {l : List V} {k : Nat} {k' : Int} {z : V} (he : Ev prog w X d env h e (.lst l)) (hi : Ev prog w X d env h i (.int k')) (hk : k' = (k : Int)) (hz : l[k]? = some z) (hl : l.length ≤ 1000000)
    (hs : ∀ o v, subscripted i false o v = operate [o, v] (getItem o v)) : Ev prog w X d env h (.Subscript e i p) z := by
  subst hk
  exact ev_sub he hi (it_lst (Int.natCast_nonneg k) (by rw [Int.toNat_natCast]; exact hz) hl hs)
theorem read_pf : Pf (KK w) mg mb prog w 3 308 readF := by
  have P1 := @escape_pf w mg mb prog
  rintro X h xs z vs ⟨l, ps, hlen, hps, hok, rfl, rfl⟩ W xa c
  apply c.oneG; clear c; intro _ c1
  refine fn_enter (["text"].map Str.ofString) W xa (.cons c1 .nil) rfl rfl rfl (by kernel_rfl) rfl rfl (by decide) (by decide) (by decide) rfl rfl rfl rfl rfl ?_
  intro A env Z h₀ σ s Q E g F kq
  dsimp only at F kq
  have hL := ofL_len l
  have hshort : ∀ p ∈ ps, p.length ≤ 500 := fun p hp => by
    have := part_short (x := ofL l) (y := bs) (a := ofL p) (by rw [hps]; exact List.mem_map_of_mem hp)
    rw [ofL_len, ofL_len] at this; lia
  have hfree : ∀ p ∈ ps, 92 ∉ p := fun p hp => by
    have := StrLaws.split_free (ofL l) 92 (ofL p) (by show _ ∈ Txt.split (ofL l) bs; rw [hps]; exact List.mem_map_of_mem hp)
    rwa [ofL_list] at this
  have hcount : ps.length ≤ 501 := by
    have := split_weight (ofL l) bs (by decide)
    rw [hps, ofL_len, List.length_map] at this; lia
  have hne : 0 < ps.length := by
    have := split_ne (ofL l) bs
    rw [hps, List.length_map] at this; exact this
  have hmap : (Txt.split (ofL l) bs).map V.str = ps.map fun p => V.str (ofL p) := by rw [hps, List.map_map]; rfl
  refine s_assign F g (ev_split (x := ofL l) F.xa (by rw [hL]; lia) (by decide) (by walk_at "m_ev") ev_str) rfl fun s F => ?_
  rw [bs_eq, hmap] at F
  have hget : ∀ {k : Nat} (hk : k < ps.length), (ps.map fun p => V.str (ofL p))[k]? = some (.str (ofL ps[k])) := fun {k} hk => by
    rw [List.getElem?_map, List.getElem?_eq_getElem hk]; rfl
  have hpl : (ps.map fun p => V.str (ofL p)).length ≤ 1000000 := by rw [List.length_map]; lia
  refine s_assign F g (ev_sub (by walk_at "m_ev") ev_int (it_lst (z := .str (ofL ps[0])) (by decide) (hget hne) hpl (fun _ _ => rfl))) rfl fun s F => ?_
  refine s_assign F g ev_int rfl fun s F => ?_
  have hh : lawRead ps = ps[0] ++ lawTail (ps.drop 1) := by
    cases ps with | nil => cases hne | cons a b => rfl
  refine s_while (fun n Ow l' => ∃ (k : Nat) (o : List Nat), n = ps.length + 1 - k ∧ 1 ≤ k ∧ k ≤ ps.length + 1 ∧ lawRead ps = o ++ lawTail (ps.drop k) ∧ o.length ≤ k * 600 ∧
      l' = [(Str.ofString "at", .int (k : Nat)), (Str.ofString "out", .str (ofL o)), (Str.ofString "parts", .lst (ps.map fun p => V.str (ofL p)))])
    (F.to [(Str.ofString "at", .int (1 : Nat)), (Str.ofString "out", .str (ofL ps[0])), (Str.ofString "parts", .lst (ps.map fun p => V.str (ofL p)))] ⟨rfl, rfl, rfl, trivial⟩) g
    ⟨1, ps[0], rfl, by lia, by lia, hh, by have := hshort _ (List.getElem_mem hne); lia, rfl⟩ ?_
  intro n Ow l' s hjj F
  refine ex2 hjj fun k o r => an6 r fun z1 hk1 hk2 hrd hol z2 => ?_
  clear r hjj
  subst z1 z2
  refine ⟨_, ts_cmp (by walk_at "m_ev") (ev_bi (f := "len") (by walk_at "m_boot") (evs_cons (by walk_at "m_ev") evs_nil rfl) (bi_len_lst hpl) rfl rfl) op_lt (by with_unfolding_all rfl), ?_, ?_⟩
  · intro q s' F'
    have hq : ¬ (k : Int) < _ := of_decide_eq_false q
    rw [List.length_map] at hq
    refine s_ret F' g (by walk_at "m_ev") (fun v s2 F2 c2 => kq v s2 _ _ F2 ?_)
    rw [hrd, List.drop_eq_nil_of_le (by lia)]
    simpa [lawTail] using c2
  · intro q s' E' F'
    have hq : (k : Int) < _ := of_decide_eq_true q
    rw [List.length_map] at hq
    have hk : k < ps.length := by lia
    have hsk := hshort _ (List.getElem_mem hk)
    have hta := lawTail_at hk
    refine s_if (c := (ofL ps[k] != Str.ofString "")) F' g (ts_cmp (ev_itemN (by walk_at "m_ev") (by walk_at "m_ev") rfl (hget hk) hpl (fun _ _ => rfl)) ev_str op_neS (by with_unfolding_all rfl)) ?_ ?_
    · intro q2 s2 F2
      have hpn : ps[k] ≠ [] := by
        intro e; rw [e] at q2
        have : Str.ofString "" = ofL [] := by decide +kernel
        rw [this] at q2; simp at q2
      have hes := hok ps[k] (by
        rw [List.mem_iff_getElem]
        exact ⟨k - 1, by rw [List.length_drop]; lia, by rw [List.getElem_drop]; congr 1; lia⟩) hpn
      have h92 : ps[k].headD 0 ≠ 92 := by
        have := hfree _ (List.getElem_mem hk)
        cases hp : ps[k] with
        | nil => exact absurd hp hpn
        | cons c r => rw [hp] at this; simp at this; simp; lia
      have hel := lawEsc_len ps[k]
      refine s_aug F2 g rfl rfl (ev_call (z := .str (ofL (lawEsc ps[k]))) (Fs.world F2) F2.xa (by walk_at "m_glob") rfl rfl P1 (by decide) (evs_cons (ev_itemN (by walk_at "m_ev") (by walk_at "m_ev") rfl (hget hk) hpl (fun _ _ => rfl)) evs_nil rfl) ⟨ps[k], hpn, by lia, h92, hes, rfl, rfl⟩ rfl) (op_icatL (by lia)) fun s F => ?_
      refine s_aug F g rfl rfl ev_int op_iadd fun s F => s_nil (s_nil ⟨_, _, _, ?_, ⟨k + 1, o ++ lawEsc ps[k], rfl, by lia, by lia, ?_, ?_, rfl⟩, F.to _ ⟨rfl, rfl, rfl, trivial⟩⟩)
      · lia
      · rw [hrd, hta]
        cases hp : ps[k] with
        | nil => exact absurd hp hpn
        | cons c r => simp
      · rw [List.length_append]; lia
    · intro q2 s2 F2
      have hpn : ps[k] = [] := by
        have : Str.ofString "" = ofL [] := by decide +kernel
        rw [this] at q2
        have : ofL ps[k] = ofL [] := by simpa using q2
        exact ofL_inj this
      rw [hpn] at hta
      refine s_aug F2 g rfl rfl ev_str (op_icatL (a := o) (b := [92]) (by simp; lia)) fun s F => ?_
      refine s_join [(Str.ofString "out", .str (ofL (o ++ 92 :: ps.getD (k + 1) []))), (Str.ofString "at", .int (k : Nat)), (Str.ofString "parts", .lst (ps.map fun p => V.str (ofL p)))] F g
        (ts_cmp (ev_bin (by walk_at "m_ev") ev_int op_add) (ev_bi (f := "len") (by walk_at "m_boot") (evs_cons (by walk_at "m_ev") evs_nil rfl) (bi_len_lst hpl) rfl rfl) op_lt (by with_unfolding_all rfl)) ?_ ?_ ?_
      · intro q3 s F
        have hq3 : (k : Int) + 1 < _ := of_decide_eq_true q3
        rw [List.length_map] at hq3
        have hk1' : k + 1 < ps.length := by lia
        have hs1 := hshort _ (List.getElem_mem hk1')
        refine s_aug F g rfl rfl (ev_itemN (by walk_at "m_ev") (ev_bin (by walk_at "m_ev") ev_int op_add) (by rw [Int.natCast_add]; rfl) (hget hk1') hpl (fun _ _ => rfl)) (op_icatL (by simp; lia)) fun s F => s_nil (F.to _ ⟨?_, rfl, rfl, trivial⟩)
        show some (V.str (ofL _)) = _
        rw [List.getD_eq_getElem?_getD, List.getElem?_eq_getElem hk1']
        simp
      · intro q3 s F
        have hq3 : ¬ (k : Int) + 1 < _ := of_decide_eq_false q3
        rw [List.length_map] at hq3
        refine s_nil (F.to _ ⟨?_, rfl, rfl, trivial⟩)
        show some (V.str (ofL _)) = _
        rw [List.getD_eq_getElem?_getD, List.getElem?_eq_none (by lia)]
        rfl
      · intro s F
        refine s_aug F g rfl rfl ev_int op_iadd fun s F => s_nil (s_nil ⟨_, _, _, ?_, ⟨k + 2, o ++ 92 :: ps.getD (k + 1) [], rfl, by lia, by lia, ?_, ?_, rfl⟩, F.to _ ⟨rfl, rfl, rfl, trivial⟩⟩)
        · lia
        · rw [hrd, hta]; simp
        · have : (ps.getD (k + 1) []).length ≤ 500 := by
            rw [List.getD_eq_getElem?_getD]
            by_cases h2 : k + 1 < ps.length
            · rw [List.getElem?_eq_getElem h2]; exact hshort _ (List.getElem_mem h2)
            · rw [List.getElem?_eq_none (by lia)]; simp
          rw [List.length_append, List.length_cons]; lia
end
end
section
section
variable {K : Frag} {mg mb : Str → Option Value} {prog : Program} {w : World} {Z : Addr → Prop} {d : Nat} {env : Env} {sc : Scope} {h₀ : Heap} {σ s : Shared} {Ow : Heap → Prop} {l : List (Str × V)}
variable {A : Around} {rest : List Stmt} {Q : Flow → Shared → Prop} {E : Value → Shared → Prop}

/-- a new thing of one's own, the heap grown around it -/
theorem Fs.own (F : Fs K mg mb env sc Z h₀ σ Ow l s) {a : Addr} {h' : Heap} {tk : Nat} {Ow' : Heap → Prop} (e : Ext s.heap h') (ha : s.heap.get? a = none) (hs : (h'.get? a).isSome = true) (h : Ow' h')
    (hk : ∀ h h' : Heap, (∀ x, h.get? a = some x → h'.get? a = some x) → Ow' h → Ow' h') :
    Fs K mg mb env sc (fun b => Z b ∨ b = a) h₀ σ (fun h => Ow h ∧ Ow' h) l { s with heap := h', toks := tk } := by
  have F1 : Fs K mg mb env sc Z h₀ σ Ow l { s with heap := h', toks := tk } := F.ext e
  have hne : env.locals ≠ a := fun q => by
    obtain ⟨m, ⟨o, _, _, ho, _⟩, _⟩ := F.ns
    rw [q, ha] at ho; cases ho
  obtain ⟨fp, f1, fs, f2⟩ := F1.owf
  refine { F1 with xa := fun b q => ?_, zL := .inl F.zL, ow := ⟨F1.ow, h⟩, owf := ⟨a :: fp, ?_, ?_, fun x y k z => ⟨f2 x y (fun c hc => k c (List.mem_cons_of_mem _ hc)) z.1, hk x y (k _ (List.mem_cons_self ..)) z.2⟩⟩, ns := ?_ }
  · rcases q with q | q
    · exact F1.xa b q
    · subst q; exact hs
  · intro hm
    rcases List.mem_cons.mp hm with q | q
    · exact hne q
    · exact f1 q
  · intro b hm
    rcases List.mem_cons.mp hm with q | q
    · subst q; exact hs
    · exact fs b q
  · obtain ⟨m, a1, b⟩ := F.ns
    exact ⟨m, a1.keeps e, fun n x q => let ⟨v, p, c⟩ := b n x q; ⟨v, p, (c.more (Y := fun b => Z b ∨ b = a) (fun b y => y.elim .inl fun q => .inr (q ▸ ha))).keep e⟩⟩
theorem Fs.base_none (F : Fs K mg mb env sc Z h₀ σ Ow l s) {a : Addr} (ha : s.heap.get? a = none) : h₀.get? a = none := by
  cases e : h₀.get? a with
  | none => rfl
  | some o => rw [F.base _ _ e] at ha; cases ha
theorem Fs.loc_some (F : Fs K mg mb env sc Z h₀ σ Ow l s) : (s.heap.get? env.locals).isSome = true := F.xa _ F.zL

theorem ge_none {h : Heap} {a : Addr} (g : h.objs.size ≤ a) : h.get? a = none := by
  cases e : h.get? a with
  | none => rfl
  | some o => exact absurd (Heap.lt_size e) (Nat.not_lt.mpr g)
theorem lt_ne {h : Heap} {a b : Addr} (g : h.objs.size ≤ a) (hb : b < h.objs.size) : a ≠ b := fun e => absurd (e ▸ g) (Nat.not_le.mpr hb)
/-- a tree makes a thing of its own -/
noncomputable def Mk (prog : Program) (w : World) (d : Nat) (h : Heap) (t : Sem Value) (P : Addr → Heap → Prop) : Prop :=
  ∀ (A : Around) (Q : Value → Shared → Prop) (E : Value → Shared → Prop) (s : Shared), Gd d A → Ext h s.heap →
    (∀ a h' tk, s.heap.objs.size ≤ a → (h'.get? a).isSome = true → Ext s.heap h' → P a h' → Q (.ref a) { s with heap := h', toks := tk }) → wpAny (model prog w) A t Q E s

theorem s_assign_own {n : Str} {e : PySem.Expr} {p q : Pos} {P : Addr → Heap → Prop} (F : Fs K mg mb env sc Z h₀ σ Ow l s) (g : Gd d A) (he : Mk prog w d s.heap (eval e env) P) (hk : sc.names.lookup n = some .local)
    (hP : ∀ (a : Addr) (h h' : Heap), (∀ x, h.get? a = some x → h'.get? a = some x) → P a h → P a h')
    (k : ∀ a s', s.heap.objs.size ≤ a → h₀.get? a = none → a ≠ env.locals → Fs K mg mb env sc (fun b => Z b ∨ b = a) h₀ σ (fun h => Ow h ∧ P a h) ((n, .ref a) :: l) s' → wpAny (model prog w) A (execs rest env) Q E s')
    (hs : swapsWith e (some (.Name n p)) q.line env = pure false := by rfl) : wpAny (model prog w) A (execs (.Assign [.Name n p] e q :: rest) env) Q E s :=
  wpAny_execs_cons (wpAny_Assign_Name (he A _ E s g (.refl _) fun a h' tk hge hsm e1 hp =>
    have ha : s.heap.get? a = none := ge_none hge
    st_bind (F.own (tk := tk) e1 ha hsm hp (hP a)) (.ref a) (fun s' F' => k a s' hge (F.base_none ha) (fun q => by have := F.loc_some; rw [← q, ha] at this; cases this) F') hk) hs)

/-- one's own list -/
noncomputable def OwnL (P : List Value → Prop) (a : Addr) (h : Heap) : Prop := ∃ vs n, h.get? a = some { cls := .type "list", data := .seq vs.toArray n } ∧ P vs
theorem OwnL.keep {P : List Value → Prop} (a : Addr) (h h' : Heap) (k : ∀ x, h.get? a = some x → h'.get? a = some x) (x : OwnL P a h) : OwnL P a h' := let ⟨vs, n, e, p⟩ := x; ⟨vs, n, k _ e, p⟩
theorem mk_nil {h : Heap} {pos : Pos} : Mk prog w d h (eval (.List [] pos) env) (OwnL (fun vs => vs = [])) :=
  fun A Q E s g e q => List_ (wpAny_items_nil (wpAny_newObj_type (q _ _ _ (Nat.le_refl _) (by rw [Heap.get?_push_size _ rfl]; rfl) (Ext.push _ _) ⟨[], 0, Heap.get?_push_size _ rfl, rfl⟩) (by size_fits)))

theorem s_append {n : Str} {x : V} {a : Addr} {e : PySem.Expr} {np apos cpos q : Pos} {P : List Value → Prop} {Ow' : Heap → Prop} (F : Fs K mg mb env sc Z h₀ σ Ow l s) (g : Gd d A) (hl : l.lookup n = some (.ref a)) (hk : sc.names.lookup n = some .local) (hd : (n == ("__debug__" : Str)) = false)
    (hZ : Z a ∧ h₀.get? a = none ∧ a ≠ env.locals) (how : ∀ h, Ow h → OwnL (fun vs => P vs ∧ vs.length ≤ 1000000) a h)
    (he : Ev prog w Z d env s.heap e x)
    (hnew : ∀ h h' vs m v, Ow h → P vs → h.get? a = some { cls := .type "list", data := .seq vs.toArray m } → Heap.SameBut a h h' → h'.get? a = some { cls := .type "list", data := .seq (vs ++ [v]).toArray (m + 1) } → Con Z h x v → Ow' h')
    (fp : List Addr) (hf : env.locals ∉ fp) (hfs : ∀ h, Ow' h → ∀ b ∈ fp, (h.get? b).isSome = true) (hkp : ∀ h h' : Heap, (∀ b ∈ fp, ∀ o, h.get? b = some o → h'.get? b = some o) → Ow' h → Ow' h')
    (k : ∀ s', Fs K mg mb env sc Z h₀ σ Ow' l s' → wpAny (model prog w) A (execs rest env) Q E s')
    (hbase : attributeBase (.Name n np) "append" env (eval (.Name n np) env) = eval (.Name n np) env := by rfl) (hs : starEach [e] env = [(false, eval e env)] := by rfl) (hline : (apos.endLine == cpos.line) = true := by rfl)
    (hsw : swapsWith (.Call (.Attribute (.Name n np) "append" apos) [e] [] cpos) none q.line env = pure false := by rfl) :
    wpAny (model prog w) A (execs (.Expr (.Call (.Attribute (.Name n np) "append" apos) [e] [] cpos) q :: rest) env) Q E s := by
  refine wpAny_execs_cons (wpAny_Expr ?_ (by unfold interactive; rw [F.hsc, F.ek]; rfl) hsw)
  refine Call_method1 hbase hs hline ?_
  refine F.locR (prog := prog) (w := w) hl hk hd fun hv0 => ?_
  refine hv0 A _ E s np (.refl _) ?_
  obtain ⟨vs, m, hget, hP, hle⟩ := how _ F.ow
  refine ⟨"list", _, PySem.F.plainAttrs_list, PySem.F.slot_list_append, PySem.F.type_list_append, ⟨_, hget, rfl⟩, (fun b eq => by cases eq; exact ⟨_, hget, rfl⟩), ?_⟩
  refine callWith_builtin (by rfl) (evalArgs_plain (spliced_cons (he A _ E s g (.refl _) fun u h2 tk2 e2 c2 => spliced_nil ?_)))
  have F2 := F.ext (tk := tk2) e2
  refine append_at (e2 _ _ hget) (fun h' hsb hg' => ?_) (by show vs.toArray.size ≤ sizeLine; rw [List.size_toArray]; exact Nat.le_trans hle (by decide))
  have hOw' : Ow' h' := hnew h2 h' vs m u F2.ow hP (e2 _ _ hget) hsb (by simpa using hg') c2
  exact k _ (F2.turn (wr := [a]) (fun b hb => by rw [List.mem_singleton.mp hb]; exact hZ) (fun b o hb ho => (hsb.2 b (fun q => hb (by rw [q]; exact List.mem_singleton.mpr rfl))).trans ho)
    (fun b hb => by rw [List.mem_singleton.mp hb]; rw [hg']; rfl) hOw' fp hf (hfs h' hOw') hkp)

/-- a dict from texts to texts -/
inductive KV : List (Str × Value) → List (Str × Str) → Prop
  | nil : KV [] []
  | cons {k v : Str} {t : Tok} {a : List (Str × Value)} {b : List (Str × Str)} : KV a b → KV ((k, .str v t) :: a) ((k, v) :: b)
theorem KV.keys {a : List (Str × Value)} {b : List (Str × Str)} (x : KV a b) : a.map (·.1) = b.map (·.1) := by induction x with | nil => rfl | cons _ ih => simp [ih]
theorem KV.at {a : List (Str × Value)} {b : List (Str × Str)} (x : KV a b) (k : Str) : match b.lookup k with | some v => ∃ t, valueAt a k = some (.str v t) | none => valueAt a k = none := by
  induction x with
  | nil => rfl
  | @cons k' v t a b _ ih =>
    rw [List.lookup_cons]
    by_cases e : k = k'
    · subst e
      simp [valueAt]
    · have h1 : (k == k') = false := by simpa using e
      rw [h1]
      have h2 : valueAt ((k', Value.str v t) :: a) k = valueAt a k := by
        unfold valueAt
        rw [List.find?_cons_of_neg (by simpa using fun q => e q.symm)]
      rw [h2]; exact ih
noncomputable def DS (prog : Program) (w : World) (L : List (Str × Str)) (a : Addr) (h : Heap) : Prop := ∃ kvs, h.DictOf (strKind prog w) a kvs ∧ KV kvs L
theorem DS.keep {L : List (Str × Str)} (a : Addr) (h h' : Heap) (k : ∀ x, h.get? a = some x → h'.get? a = some x) (x : DS prog w L a h) : DS prog w L a h' := by
  obtain ⟨kvs, ⟨o, es, ep, ho, r⟩, y⟩ := x
  exact ⟨kvs, ⟨o, es, ep, k o ho, r⟩, y⟩
theorem op_inD {X : Addr → Prop} {h : Heap} {L : List (Str × Str)} {a : Addr} {x : Str} (hd : DS prog w L a h) (hs : (a == sysModules) = false) : Op2 prog w X d h (compareOp .In) (.str x) (.ref a) (.bool (L.lookup x).isSome) := fun h' u v e0 c1 c2 A Q E s g e q => by
  (first | apply c1.refG | apply c1.noneG | apply c1.boolG | (apply c1.strG; intro _) | (apply c1.intG; intro _)); clear c1; (first | apply c2.refG | apply c2.noneG | apply c2.boolG | (apply c2.strG; intro _) | (apply c2.intG; intro _)); clear c2
  obtain ⟨kvs, hk, hv⟩ := DS.keep (prog := prog) (w := w) a h s.heap (fun y => (e0.trans e) a y) hd
  refine wpAny_in_of (strKind_is prog w x _) hs hk.mapOf ?_
  have := hv.at x
  cases hL : L.lookup x with
  | none => rw [hL] at this q; simp only at this; rw [this]; exact q _ s.heap _ (.refl _) (.bool _)
  | some y => rw [hL] at this q; obtain ⟨t, ht⟩ := this; rw [ht]; exact q _ s.heap _ (.refl _) (.bool _)
theorem it_D {X : Addr → Prop} {h : Heap} {L : List (Str × Str)} {a : Addr} {x y : Str} {o i : PySem.Expr} (hd : DS prog w L a h) (hL : L.lookup x = some y) (hs : ∀ o v, subscripted i false o v = operate [o, v] (getItem o v) := by intro _ _; rfl) :
    ∀ h' u v, Ext h h' → Con X h' (.ref a) u → Con X h' (.str x) v → Yl prog w X d h' (subscriptTail o i u v) (.str y) := fun h' u v e0 c1 c2 A Q E s g e q => by
  (first | apply c1.refG | apply c1.noneG | apply c1.boolG | (apply c1.strG; intro _) | (apply c1.intG; intro _)); clear c1; (first | apply c2.refG | apply c2.noneG | apply c2.boolG | (apply c2.strG; intro _) | (apply c2.intG; intro _)); clear c2
  obtain ⟨kvs, hk, hv⟩ := DS.keep (prog := prog) (w := w) a h s.heap (fun y => (e0.trans e) a y) hd
  have := hv.at x
  rw [hL] at this
  obtain ⟨t, ht⟩ := this
  exact subscriptTail_builtin_flat hk.mapOf.typeIs slot_dict_getitem.lookup (wpAny_getItem_of (strKind_is prog w x _) hk.mapOf ht ⟨(fun _ e => nomatch e), q _ s.heap _ (.refl _) (.str _ _)⟩) (hs _ _)

/-- a dict display of texts -/
noncomputable def cStr : PySem.Expr → Option Str
  | .Constant (.str x) _ _ => some x
  | _ => none
theorem cStr_eq {e : PySem.Expr} {x : Str} (h : cStr e = some x) : ∃ k p, e = .Constant (.str x) k p := by
  unfold cStr at h
  split at h
  · cases h; exact ⟨_, _, rfl⟩
  · cases h
noncomputable def dl : List (Option PySem.Expr) → List PySem.Expr → Option (List (Str × Str))
  | [], [] => some []
  | some a :: r, b :: q => (cStr a).bind fun x => (cStr b).bind fun y => (dl r q).map fun L => (x, y) :: L
  | _, _ => none
theorem dl_run {pos : Pos} : ∀ {keys : List (Option PySem.Expr)} {values : List PySem.Expr} {L : List (Str × Str)}, dl keys values = some L →
    ∃ pairs : List (Sem Value × Sem Value), pairs.length = L.length ∧ (evalEachOpt keys env).zip ((evalEach values env).map fun v => do let x ← v; standAt pos; pure x) = pairs.map (fun p => (some p.1, p.2)) ∧
      ∀ {s : Shared} {Q : List (Value × Value) → Shared → Prop}, (∀ vs kvs tk, Carries (strKind prog w) vs kvs → KV kvs L → Q vs { s with toks := tk }) → wpAny (model prog w) A (evalPairs pairs) Q E s
  | [], [], L, h => by
    cases h
    exact ⟨[], rfl, rfl, fun q => evalPairs_nil (q [] [] _ trivial .nil)⟩
  | some a :: r, b :: q, L, h => by
    simp only [dl, Option.bind_eq_some_iff, Option.map_eq_some_iff] at h
    obtain ⟨x, hx, y, hy, L', hL, rfl⟩ := h
    obtain ⟨pairs, h1, h2, h3⟩ := dl_run (pos := pos) hL
    obtain ⟨k1, p1, rfl⟩ := cStr_eq hx
    obtain ⟨k2, p2, rfl⟩ := cStr_eq hy
    refine ⟨(eval (.Constant (.str x) k1 p1) env, do let v ← eval (.Constant (.str y) k2 p2) env; standAt pos; pure v) :: pairs, by simp [h1], ?_, fun q => evalPairs_cons (Constant_str (wpAny_bind (Constant_str (wpAny_bind (wpAny_standAt (wpAny_pure (h3 fun vs kvs tk c x =>
      q (_ :: vs) ((_, _) :: kvs) tk ⟨strKind_is prog w _ _, rfl, c⟩ (.cons x))))))))⟩
    simp only [evalEachOpt, evalEach, List.map_cons, List.zip_cons_cons]
    rw [h2]; rfl
  | [], _ :: _, _, h => by cases h
  | none :: _, _, _, h => by simp [dl] at h
  | some _ :: _, [], _, h => by cases h
theorem mk_dict {h : Heap} {keys : List (Option PySem.Expr)} {values : List PySem.Expr} {pos : Pos} (L : List (Str × Str)) (hL : dl keys values = some L) (h0 : L ≠ []) (hlen : L.length ≤ 15) (hnd : (L.map (·.1)).Nodup) :
    Mk prog w d h (eval (.Dict keys values pos) env) (DS prog w L) :=
  fun A Q E s g e q => by
    obtain ⟨pairs, h1, h2, h3⟩ := dl_run (prog := prog) (w := w) (A := A) (E := E) (env := env) (pos := pos) hL
    refine wpAny_Dict_pairs (knd := strKind prog w) h2 (by intro e; rw [e] at h1; exact h0 (List.eq_nil_of_length_eq_zero h1.symm)) (by lia) (h3 fun vs kvs tk c x => ⟨kvs, c, ?_, fun h' hd hsb => ?_⟩)
    · exact Heap.DictOf.new _
    · have hm : merged [] kvs = kvs := merged_nil_of_nodup kvs (by rw [x.keys]; exact hnd)
      rw [hm] at hd
      refine q _ h' _ (Nat.le_refl _) ?_ (fun b o ho => ?_) ⟨kvs, hd, x⟩
      · obtain ⟨o, _, _, ho, _⟩ := hd; rw [ho]; rfl
      · have hne : b ≠ s.heap.objs.size := fun q => by rw [q, get_size_none] at ho; cases ho
        exact (hsb.2 b hne).trans (Ext.push s.heap _ b o ho)

/-- join of one's own list of texts -/
theorem ev_joinO {X : Addr → Prop} {h : Heap} {o : PySem.Expr} {apos pos : Pos} {e : PySem.Expr} {a : Addr} {ys : List Str} (hok : (ys.map (·.length)).sum ≤ 1000000) (hown : OwnL (fun vs => StrsAre vs ys) a h) (ho : Ev prog w X d env h o (.str Str.empty)) (he : Ev prog w X d env h e (.ref a))
    (hbase : attributeBase o "join" env (eval o env) = eval o env := by rfl) (hs : starEach [e] env = [(false, eval e env)] := by rfl) (hline : (apos.endLine == pos.line) = true := by rfl) :
    Ev prog w X d env h (.Call (.Attribute o "join" apos) [e] [] pos) (.str (Txt.join Str.empty ys)) :=
  fun A Q E s g ex q => Call_method1 hbase hs hline (ho A _ E s g ex fun v h1 tk e1 c1 => by
    (first | apply c1.refG | apply c1.noneG | apply c1.boolG | (apply c1.strG; intro _) | (apply c1.intG; intro _)); clear c1
    refine ⟨"str", _, F.plainAttrs_str, F.slot_str_join, F.type_str_join, typeIs_str _ _ _, (fun _ e => nomatch e), ?_⟩
    refine callWith_builtin (by rfl) (evalArgs_plain (spliced_cons (he A _ E _ g (ex.trans e1) fun u h2 tk2 e2 c2 => spliced_nil ?_)))
    (first | apply c2.refG | apply c2.noneG | apply c2.boolG | (apply c2.strG; intro _) | (apply c2.intG; intro _)); clear c2
    obtain ⟨vs, n, hg, hv⟩ := hown
    exact join_list ⟨_, ((ex.trans e1).trans e2) _ _ hg, rfl, _, rfl⟩ (by simpa using hv) (by show _ + _ * 0 ≤ _; lia) fun t' k => q _ _ _ (e1.trans e2) (.str _ _))
end
end
section
noncomputable def mpOf (c : Nat) : Option Nat := if c = 92 then some 92 else meantOf c
noncomputable def stp (c : Nat) (r : List Nat) : Nat × Nat :=
  if c = 92 ∧ r ≠ [] then
    if 0 < run octS r then ((worth 8 (r.take (min 3 (run octS r)))).toNat, min 3 (run octS r))
    else if r.headD 0 = 120 ∧ 0 < run hexS (r.drop 1) then ((worth 16 ((r.drop 1).take (run hexS (r.drop 1)))).toNat, 1 + run hexS (r.drop 1))
    else match mpOf (r.headD 0) with
      | some m => (m, 1)
      | none => if r.headD 0 = 117 ∧ 4 ≤ run hexS (r.drop 1) then ((worth 16 ((r.drop 1).take 4)).toNat, 5)
        else if r.headD 0 = 85 ∧ 8 ≤ run hexS (r.drop 1) then ((worth 16 ((r.drop 1).take 8)).toNat, 9)
        else (c, 0)
  else (c, 0)
noncomputable def rep : Nat → List Nat → List Nat
  | 0, _ => []
  | _, [] => []
  | n + 1, c :: r => (stp c r).1 :: rep n (r.drop (stp c r).2)
noncomputable def OkT (t : List Nat) : Prop := ∀ j r, t.drop j = 92 :: r → (r.headD 0 = 120 → 0 < run hexS (r.drop 1) → worth 16 ((r.drop 1).take (run hexS (r.drop 1))) ≤ 1114111) ∧ (r.headD 0 = 85 → 8 ≤ run hexS (r.drop 1) → worth 16 ((r.drop 1).take 8) ≤ 1114111)
noncomputable def mpM : List (Str × Str) := [(97, 7), (98, 8), (102, 12), (110, 10), (114, 13), (116, 9), (118, 11), (101, 27), (92, 92), (34, 34), (39, 39), (63, 63)].map fun x : Nat × Nat => (sign x.1, sign x.2)
theorem sign_inj {a b : Nat} : sign a = sign b ↔ a = b := by simp [sign]
theorem sign_beq {a b : Nat} : (sign a == sign b) = decide (a = b) := by
  rw [Bool.eq_iff_iff]; simp [sign]
theorem mp_at (c : Nat) : mpM.lookup (sign c) = (mpOf c).map sign := by
  unfold mpM mpOf meantOf
  simp only [List.map_cons, List.map_nil, List.lookup_cons, List.lookup_nil, sign_beq]
  repeat' (split <;> simp_all)
theorem op_eqC {prog : Program} {w : World} {X : Addr → Prop} {d : Nat} {h : Heap} {c k : Nat} {x : Str} (hx : x = sign k) : Op2 prog w X d h (compareOp .Eq) (.str (sign c)) (.str x) (.bool (decide (c = k))) := by
  subst hx; rw [← sign_beq]; exact op_eqS
noncomputable def repF (xs : List V) (z : V) : Prop := ∃ t : List Nat, t.length ≤ 500 ∧ OkT t ∧ xs = [.str (ofL t)] ∧ z = .str (ofL (rep t.length t))
theorem join_signs (ys : List Nat) : Txt.join Str.empty (ys.map sign) = ofL ys := by
  have h : ∀ (l : List Nat) (a : Array Nat), (l.map sign).foldl (fun acc (p : Str) => acc ++ Str.empty.cps ++ p.cps) a = a ++ l.toArray := by
    intro l
    induction l with
    | nil => intro a; simp
    | cons c r ih =>
      intro a
      rw [List.map_cons, List.foldl_cons, ih]
      simp [sign, Str.empty]
  cases ys with
  | nil => rfl
  | cons c r =>
    show Str.mk _ = Str.mk _
    congr 1
    show ((r.map sign).foldl (fun acc (p : Str) => acc ++ Str.empty.cps ++ p.cps) (sign c).cps) = _
    rw [h]; simp [sign]
/-- an if whose branches meet again, with a fact -/
theorem s_joinP {K : Frag} {mg mb : Str → Option Value} {prog : Program} {w : World} {Z : Addr → Prop} {d : Nat} {env : Env} {sc : Scope} {h₀ : Heap} {σ s : Shared} {Ow : Heap → Prop} {l : List (Str × V)} {A : Around} {rest : List Stmt} {Q : Flow → Shared → Prop} {E : Value → Shared → Prop}
    (P : Prop) (l' : List (Str × V)) {t : PySem.Expr} {b o : List Stmt} {p : Pos} {c : Bool} (F : Fs K mg mb env sc Z h₀ σ Ow l s) (g : Gd d A) (ht : Ts prog w d env s.heap t c)
    (kt : c = true → ∀ s', Fs K mg mb env sc Z h₀ σ Ow l s' → wpAny (model prog w) A (execs b env) (fun f s3 => match f with | .next => P ∧ Fs K mg mb env sc Z h₀ σ Ow l' s3 | f => Q f s3) E s')
    (kf : c = false → ∀ s', Fs K mg mb env sc Z h₀ σ Ow l s' → wpAny (model prog w) A (execs o env) (fun f s3 => match f with | .next => P ∧ Fs K mg mb env sc Z h₀ σ Ow l' s3 | f => Q f s3) E s')
    (k : P → ∀ s3, Fs K mg mb env sc Z h₀ σ Ow l' s3 → wpAny (model prog w) A (execs rest env) Q E s3) :
    wpAny (model prog w) A (execs (.If t b o p :: rest) env) Q E s :=
  s_if F g ht (fun q s' F' => wpAny_mono (kt q s' F') (fun f s3 h => by cases f <;> first | exact k h.1 s3 h.2 | exact h) fun _ _ e => e)
    (fun q s' F' => wpAny_mono (kf q s' F') (fun f s3 h => by cases f <;> first | exact k h.1 s3 h.2 | exact h) fun _ _ e => e)
theorem ev_strE {prog : Program} {w : World} {X : Addr → Prop} {d : Nat} {env : Env} {h : Heap} {i x : Str} {k pos} (e : i = x) : Ev prog w X d env h (.Constant (.str i) k pos) (.str x) := by subst e; exact ev_str
theorem emp_lit : Str.ofString "" = Str.empty := by decide +kernel
/-- an if without else that goes on where it does not hold -/
theorem s_ifgo {K : Frag} {mg mb : Str → Option Value} {prog : Program} {w : World} {Z : Addr → Prop} {d : Nat} {env : Env} {sc : Scope} {h₀ : Heap} {σ s : Shared} {Ow : Heap → Prop} {l : List (Str × V)} {A : Around} {rest : List Stmt} {Q : Flow → Shared → Prop} {E : Value → Shared → Prop}
    {t : PySem.Expr} {b : List Stmt} {p : Pos} {c : Bool} (F : Fs K mg mb env sc Z h₀ σ Ow l s) (g : Gd d A) (ht : Ts prog w d env s.heap t c)
    (kt : c = true → ∀ s', Fs K mg mb env sc Z h₀ σ Ow l s' → wpAny (model prog w) A (execs b env) (fun f s3 => match f with | .next => wpAny (model prog w) A (execs rest env) Q E s3 | f => Q f s3) E s')
    (kf : c = false → ∀ s', Fs K mg mb env sc Z h₀ σ Ow l s' → wpAny (model prog w) A (execs rest env) Q E s') :
    wpAny (model prog w) A (execs (.If t b [] p :: rest) env) Q E s :=
  s_if F g ht (fun q s' F' => wpAny_mono (kt q s' F') (fun f s3 h => by cases f <;> exact h) fun _ _ e => e) (fun q s' F' => s_nil (kf q s' F'))
theorem rep_step {t : List Nat} {j m : Nat} (h : j < t.length) (hm : m ≤ j) : rep (t.length - m) (t.drop j) = (stp t[j] (t.drop (j + 1))).1 :: rep (t.length - (m + 1)) (t.drop (j + 1 + (stp t[j] (t.drop (j + 1))).2)) := by
  rw [List.drop_eq_getElem_cons h, show t.length - m = (t.length - (m + 1)) + 1 by lia, rep, List.drop_drop]
theorem strs_snoc {vs : List Value} {ys : List Str} {y : Str} {u : Tok} (h : StrsAre vs ys) : StrsAre (vs ++ [.str y u]) (ys ++ [y]) := by
  induction h with
  | nil => exact .cons _ _ .nil
  | cons _ _ _ ih => exact .cons _ _ ih
theorem strs_len {vs : List Value} {ys : List Str} (h : StrsAre vs ys) : vs.length = ys.length := by
  induction h with
  | nil => rfl
  | cons _ _ _ ih => simp [ih]
section
variable {w : World} {mg mb : Str → Option Value} {prog : Program}
noncomputable def Ow0 (prog : Program) (w : World) (m p : Addr) (ys : List Nat) (h : Heap) : Prop := (True ∧ DS prog w mpM m h) ∧ OwnL (fun vs => StrsAre vs (ys.map sign)) p h
noncomputable abbrev RL (t : List Nat) (m p : Addr) (j : Nat) : List (Str × V) := [(Str.ofString "pos", .int (j : Nat)), (Str.ofString "endpos", .int (t.length : Nat)), (Str.ofString "txt", .str (ofL t)), (Str.ofString "mp", .ref m), (Str.ofString "parts", .ref p)]
theorem rep_pf : Pf (KK w) mg mb prog w 2 58 repF := by
  have P1 := @hexEnd_pf w mg mb prog
  rintro X h xs z vs ⟨t, hlen, hok, rfl, rfl⟩ W xa c
  apply c.oneG; clear c; intro _ c1
  refine fn_enter (["txt"].map Str.ofString) W xa (.cons c1 .nil) rfl rfl rfl (by kernel_rfl) rfl rfl (by decide) (by decide) (by decide) rfl rfl rfl rfl rfl ?_
  intro A env Z h₀ σ s Q E g F kq
  dsimp only at F kq
  have hL := ofL_len t
  have F0 := F
  with_reducible refine' s_assign_own F g (mk_dict mpM ?dl ?h0 ?hlen ?hnd) ?hk DS.keep ?k ?hs
  case dl => kernel_rfl
  case h0 => exact List.cons_ne_nil _ _
  case hlen => exact Nat.le_of_ble_eq_true rfl
  case hnd => decide +kernel
  case hk => exact rfl
  case hs => exact rfl
  intro m s hm1 hm2 hm3 F
  refine s_assign F g ev_int rfl fun s F => ?_
  refine s_assign F g (ev_bi (f := "len") (by walk_at "m_boot") (evs_cons (by walk_at "m_ev") evs_nil rfl) (bi_len_str (x := ofL t) (by rw [hL]; lia)) rfl rfl) rfl fun s F => ?_
  have F1 := F
  refine s_assign_own F g mk_nil rfl OwnL.keep ?_
  intro p s hp1 hp2 hp3 F
  have hms : (m == sysModules) = false := by
    have : m ≠ sysModules := lt_ne hm1 (Nat.lt_trans (show sysModules < mainGlobals by decide) F0.world.g.lt)
    exact beq_false_of_ne this
  have hmp : m ≠ p := fun e => absurd (Heap.lt_size (Option.isSome_iff_exists.mp (F1.xa m (.inr rfl))).choose_spec) (Nat.not_lt.mpr (e ▸ hp1))
  have hZp : ((Z p ∨ p = m) ∨ p = p) ∧ h₀.get? p = none ∧ p ≠ env.locals := ⟨.inr rfl, hp2, hp3⟩
  have hOw0 : ∀ ys h, Ow0 prog w m p ys h → ∀ b ∈ [m, p], (h.get? b).isSome = true := by
    rintro ys h ⟨⟨-, kvs, ⟨o, _, _, ho, _⟩, _⟩, vs, n, hg, _⟩ b hb
    simp only [List.mem_cons, List.not_mem_nil, or_false] at hb
    rcases hb with rfl | rfl
    · rw [ho]; rfl
    · rw [hg]; rfl
  have hOwk : ∀ ys (h h' : Heap), (∀ b ∈ [m, p], ∀ o, h.get? b = some o → h'.get? b = some o) → Ow0 prog w m p ys h → Ow0 prog w m p ys h' := fun ys h h' k x =>
    ⟨⟨trivial, DS.keep m h h' (k m (by simp)) x.1.2⟩, OwnL.keep p h h' (k p (by simp)) x.2⟩
  have hfpl : env.locals ∉ [m, p] := by
    simp only [List.mem_cons, List.not_mem_nil, or_false, not_or]
    exact ⟨fun q => hm3 q.symm, fun q => hp3 q.symm⟩
  have F := F.reOw (Ow' := Ow0 prog w m p []) ⟨F.ow.1, let ⟨vs, n, a, b⟩ := F.ow.2; ⟨vs, n, a, by rw [b]; exact .nil⟩⟩ [m, p] hfpl (fun b hb => hOw0 [] _ ⟨F.ow.1, let ⟨vs, n, a, b⟩ := F.ow.2; ⟨vs, n, a, by rw [b]; exact .nil⟩⟩ b hb) (hOwk [])
  rw [hL] at F
  refine s_while (fun n Ow l' => ∃ (j : Nat) (ys : List Nat), n = t.length - j ∧ j ≤ t.length ∧ ys.length ≤ j ∧ rep t.length t = ys ++ rep (t.length - ys.length) (t.drop j) ∧ Ow = Ow0 prog w m p ys ∧ l' = RL t m p j)
    (F.to (RL t m p 0) ⟨rfl, rfl, rfl, rfl, rfl, trivial⟩) g ⟨0, [], rfl, Nat.zero_le _, Nat.le_refl _, rfl, rfl, rfl⟩ ?_
  intro n Ow l' s hjj F
  refine ex2 hjj fun j ys r => an6 r fun z1 hj hys hrep z2 z3 => ?_
  clear r hjj
  subst z1 z2 z3
  have htl := ofL_list t
  refine ⟨_, ts_cmp (by walk_at "m_ev") (by walk_at "m_ev") op_ne (by with_unfolding_all rfl), ?_, ?_⟩
  · intro q s F
    have hjt : j = t.length := by
      have : (j : Int) = (t.length : Int) := by simpa using q
      lia
    have hsum : (((ys.map sign).map (·.length)).sum) ≤ 1000000 := by
      have : (ys.map sign).map (·.length) = ys.map fun _ => 1 := by rw [List.map_map]; rfl
      rw [this, List.map_const', List.sum_replicate_nat]; lia
    refine s_ret F g (ev_joinO (ys := ys.map sign) hsum F.ow.2 (ev_strE emp_lit) (by walk_at "m_ev")) fun v s2 F2 c2 => kq v s2 _ _ (F2.less (fun a q => .inl (.inl q)) F0.zL) ?_
    rw [join_signs] at c2
    have e0 : rep (t.length - ys.length) [] = [] := by cases t.length - ys.length <;> rfl
    rw [hrep, hjt, List.drop_length, e0, List.append_nil]
    exact c2.less fun a q => .inl (.inl q)
  · intro q s E' F
    have hlt : j < t.length := by
      have : (j : Int) ≠ (t.length : Int) := by simpa using q
      lia
    have hstep := rep_step hlt hys
    have hcl : j < (ofL t).cps.toList.length := by rw [htl]; exact hlt
    have hcv : (ofL t).cps.toList[j] = t[j] := by simp [ofL]; rfl
    -- the end of a turn
    have fin : ∀ {sc : Scope} {Z' : Addr → Prop} (j' e : Nat) s, j' = j + 1 + (stp t[j] (t.drop (j + 1))).2 → j' ≤ t.length → e = (stp t[j] (t.drop (j + 1))).1 → Fs (KK w) mg mb env sc Z' h₀ σ (Ow0 prog w m p (ys ++ [e])) (RL t m p j') s →
        ∃ m_1 Ow' l', m_1 < t.length - j ∧ (∃ j ys, m_1 = t.length - j ∧ j ≤ t.length ∧ ys.length ≤ j ∧ rep t.length t = ys ++ rep (t.length - ys.length) (List.drop j t) ∧ Ow' = Ow0 prog w m p ys ∧ l' = RL t m p j) ∧ Fs (KK w) mg mb env sc Z' h₀ σ Ow' l' s := by
      intro sc Z' j' e s h1 h2 h3 F
      refine ⟨t.length - j', _, _, by lia, ⟨j', ys ++ [e], rfl, h2, by rw [List.length_append, List.length_singleton]; lia, ?_, rfl, rfl⟩, F⟩
      rw [hrep, hstep, h1, h3, List.length_append, List.length_singleton, List.append_assoc]; rfl
    refine s_assign F g (ev_sub (by walk_at "m_ev") (by walk_at "m_ev") (it_chr (j := j) rfl hcl (by rw [hL]; lia))) rfl fun s F => ?_
    rw [hcv] at F
    -- an append
    have app : ∀ {sc : Scope} {e : Nat} {l' : List (Str × V)} {s : Shared} {ex : PySem.Expr} {np apos cpos q : Pos} {rest : List Stmt} {Q : Flow → Shared → Prop} {E : Value → Shared → Prop}, Fs (KK w) mg mb env sc (fun b => (Z b ∨ b = m) ∨ b = p) h₀ σ (Ow0 prog w m p ys) l' s → l'.lookup (Str.ofString "parts") = some (.ref p) → sc.names.lookup (Str.ofString "parts") = some .local → Ev prog w (fun b => (Z b ∨ b = m) ∨ b = p) 1 env s.heap ex (.str (sign e)) →
        (∀ s', Fs (KK w) mg mb env sc (fun b => (Z b ∨ b = m) ∨ b = p) h₀ σ (Ow0 prog w m p (ys ++ [e])) l' s' → wpAny (model prog w) A (execs rest env) Q E s') → attributeBase (.Name (Str.ofString "parts") np) "append" env (eval (.Name (Str.ofString "parts") np) env) = eval (.Name (Str.ofString "parts") np) env → starEach [ex] env = [(false, eval ex env)] → (apos.endLine == cpos.line) = true →
        swapsWith (.Call (.Attribute (.Name (Str.ofString "parts") np) "append" apos) [ex] [] cpos) none q.line env = pure false →
        wpAny (model prog w) A (execs (.Expr (.Call (.Attribute (.Name (Str.ofString "parts") np) "append" apos) [ex] [] cpos) q :: rest) env) Q E s := by
      intro sc e l' s ex np apos cpos q rest Q E F hl hsc he k h1 h2 h3 h4
      refine s_append (P := fun vs => StrsAre vs (ys.map sign)) (Ow' := Ow0 prog w m p (ys ++ [e])) F g hl hsc (by decide) hZp (fun h x => ?_) he (fun h h' vs n v x hP hg hsb hg' hc => ?_) [m, p] hfpl (hOw0 _) (hOwk _) k h1 h2 h3 h4
      · obtain ⟨vs, n, a, b⟩ := x.2
        exact ⟨vs, n, a, b, by rw [strs_len b, List.length_map]; lia⟩
      · cases hc
        refine ⟨⟨trivial, DS.keep m h h' (fun o ho => (hsb.2 m hmp).trans ho) x.1.2⟩, _, _, hg', ?_⟩
        rw [List.map_append]
        exact strs_snoc hP
    generalize hr : t.drop (j + 1) = r at *
    generalize hc : t[j] = c at *
    refine s_joinP (stp c r = (c, 0)) ((Str.ofString "c", .str (sign c)) :: RL t m p j) F g (ts_and (ts_cmp (by walk_at "m_ev") ev_str (op_eqC bs_eq) (by with_unfolding_all rfl)) fun _ => ts_and (by walk_at "m_ts") fun _ => ts_and_nil) ?_ ?_ ?_
    · intro q s F
      simp only [Bool.and_true, Bool.and_eq_true, decide_eq_true_eq, bne_iff_ne, ne_eq] at q
      obtain ⟨rfl, q2⟩ := q
      have hj1 : j + 1 < t.length := by lia
      have hr0 : r ≠ [] := by rw [← hr, List.drop_eq_getElem_cons hj1]; exact List.cons_ne_nil _ _
      have hk : t[j + 1] = r.headD 0 := by rw [← hr, List.drop_eq_getElem_cons hj1]; rfl
      have hr1 : r.drop 1 = t.drop (j + 2) := by rw [← hr, List.drop_drop]
      have hrl : r.length + (j + 1) = t.length := by rw [← hr, List.length_drop]; lia
      have hcl1 : j + 1 < (ofL t).cps.toList.length := by rw [htl]; exact hj1
      have hcv1 : (ofL t).cps.toList[j + 1] = r.headD 0 := by rw [← hk]; simp [ofL] <;> rfl
      refine s_assign F g (ev_sub (by walk_at "m_ev") (by walk_at "m_ev") (it_chr (j := j + 1) (by lia) hcl1 (by rw [hL]; lia))) rfl fun s F => ?_
      rw [hcv1] at F
      generalize hkk : r.headD 0 = k at *
      refine s_ifgo F g (ts_cmp (by walk_at "m_ev") ev_str (op_inL oct_lit) (by with_unfolding_all rfl)) ?_ ?_
      · intro q s F
        have hro : 0 < run octS r := by
          rw [← hr, run_drop hj1, hk, if_pos q]; lia
        have hst : stp 92 r = ((worth 8 (r.take (min 3 (run octS r)))).toNat, min 3 (run octS r)) := by
          unfold stp; rw [if_pos ⟨rfl, hr0⟩, if_pos hro]
        generalize ho : min 3 (run octS r) = o at *
        have hol : o ≤ r.length := by have := run_le octS r; lia
        refine s_assign F g (ev_bin (by walk_at "m_ev") ev_int op_add) rfl fun s F => ?_
        refine s_while (fun n Ow l' => ∃ e : Nat, n = t.length - e ∧ j + 1 ≤ e ∧ e ≤ t.length ∧ e - (j + 1) ≤ 3 ∧ (e - (j + 1)) + min (3 - (e - (j + 1))) (run octS (t.drop e)) = o ∧ Ow = Ow0 prog w m p ys ∧ l' = (Str.ofString "end", .int (e : Nat)) :: RL t m p j)
          (F.to ((Str.ofString "end", .int ((j + 1 : Nat) : Int)) :: RL t m p j) ⟨rfl, rfl, rfl, rfl, rfl, rfl, trivial⟩) g ⟨j + 1, rfl, by lia, by lia, by lia, by rw [hr]; lia, rfl, rfl⟩ ?_
        intro n Ow l' s hjj F
        refine Exists.elim hjj fun e r => an7 r fun z1 he1 he2 he3 hinv z2 z3 => ?_
        clear r hjj
        subst z1 z2 z3
        refine ⟨(((e : Int) != (t.length : Int)) && ((decide ((e : Int) < (j : Int) + 4)) && (octS.contains (t.getD e 0) && true))), ts_and (by walk_at "m_ts") (fun q1 => ts_and (by walk_at "m_ts") fun _ => ts_and (ts_cmp (X := fun b => (Z b ∨ b = m) ∨ b = p) (x := .str (sign (t.getD e 0))) ?_ ev_str (op_inL oct_lit) (by with_unfolding_all rfl)) fun _ => ts_and_nil), ?_, ?_⟩
        · have hel : e < t.length := by simp at q1; lia
          have hcle : e < (ofL t).cps.toList.length := by rw [htl]; exact hel
          have hcve : (ofL t).cps.toList[e] = t.getD e 0 := by
            rw [List.getD_eq_getElem?_getD, List.getElem?_eq_getElem hel]; simp [ofL] <;> rfl
          rw [← hcve]
          exact ev_sub (by walk_at "m_ev") (by walk_at "m_ev") (it_chr (j := e) rfl hcle (by rw [hL]; lia))
        · intro q s F
          have heo : e = j + 1 + o := by
            by_cases h1 : e = t.length
            · rw [run_end (by lia)] at hinv; lia
            · by_cases h2 : e < j + 4
              · have hel : e < t.length := by lia
                have h3 : octS.contains (t.getD e 0) = false := by
                  have : ((e : Int) != (t.length : Int)) = true := by simp; lia
                  rw [this, decide_eq_true (show (e : Int) < (j : Int) + 4 by lia)] at q
                  simpa using q
                rw [List.getD_eq_getElem?_getD, List.getElem?_eq_getElem hel] at h3
                rw [run_drop hel, if_neg (by simpa using h3)] at hinv
                lia
              · lia
          have hD : Digits 8 (r.take o) := digits_oct (run_mem (by lia))
          have hw8 : 0 ≤ worth 8 (r.take o) ∧ worth 8 (r.take o) < 512 := by
            have := worth_bd_le hD (m := 3) (by rw [List.length_take]; lia) (by decide)
            exact ⟨this.1, by have := this.2; simpa using this⟩
          have hsl : Txt.slice (ofL t) (some ((j : Int) + 1)) (some (e : Int)) = ofL (r.take o) := by
            have := slc_ss (l := t) (a := j + 1) (b := e) he1 he2
            rw [hr, show e - (j + 1) = o by lia] at this
            rw [show ((j : Int) + 1) = ((j + 1 : Nat) : Int) by lia]; exact this
          have hlt : r.take o ≠ [] := by
            intro h
            have h2 := congrArg List.length h
            rw [List.length_take, List.length_nil] at h2; lia
          refine app F rfl rfl (ev_bi (f := "chr") (by walk_at "m_boot") (evs_cons (ev_ty (f := "int") (by walk_at "m_boot") (evs_cons (ev_slice_ss (by walk_at "m_ev") (by walk_at "m_ev") (by walk_at "m_ev") (by rw [hL]; lia)) (evs_cons ev_int evs_nil rfl) rfl) (by rw [hsl]; exact bi_int (b := 8) (.inl rfl) hD hlt (by rw [List.length_take]; lia)) rfl rfl) evs_nil rfl) (bi_chr hw8.1 (by have := hw8.2; lia)) rfl rfl) (fun s F => ?_) rfl rfl rfl rfl
          refine s_assign F g (by walk_at "m_ev") rfl fun s F => s_cont ?_
          exact fin e _ s (by rw [hst]; lia) he2 (by rw [hst] <;> rfl) (F.to _ ⟨rfl, rfl, rfl, rfl, rfl, trivial⟩)
        · intro q s E' F
          simp only [Bool.and_true, Bool.and_eq_true, decide_eq_true_eq, bne_iff_ne, ne_eq] at q
          have hel : e < t.length := by lia
          have h3 : octS.contains t[e] = true := by
            have := q.2.2
            rw [List.getD_eq_getElem?_getD, List.getElem?_eq_getElem hel] at this
            exact this
          rw [run_drop hel, if_pos h3] at hinv
          refine s_aug F g rfl rfl ev_int op_iadd fun s F => s_nil ⟨_, _, _, ?_, ⟨e + 1, rfl, by lia, by lia, by lia, ?_, rfl, rfl⟩, F.to _ ⟨rfl, rfl, rfl, rfl, rfl, rfl, trivial⟩⟩
          · lia
          · lia
      intro q s F
      have hro : ¬ 0 < run octS r := by
        rw [← hr, run_drop hj1, hk, if_neg (by simpa using q)] <;> lia
      have hH := run_le hexS (r.drop 1)
      rw [List.length_drop] at hH
      have hst0 : stp 92 r = if r.headD 0 = 120 ∧ 0 < run hexS (r.drop 1) then ((worth 16 ((r.drop 1).take (run hexS (r.drop 1)))).toNat, 1 + run hexS (r.drop 1))
          else match mpOf (r.headD 0) with
            | some m => (m, 1)
            | none => if r.headD 0 = 117 ∧ 4 ≤ run hexS (r.drop 1) then ((worth 16 ((r.drop 1).take 4)).toNat, 5)
              else if r.headD 0 = 85 ∧ 8 ≤ run hexS (r.drop 1) then ((worth 16 ((r.drop 1).take 8)).toNat, 9)
              else (92, 0) := by
        unfold stp; rw [if_pos ⟨rfl, hr0⟩, if_neg hro]
      rw [hkk] at hst0
      have hokj := hok j r ((List.drop_eq_getElem_cons hlt).trans (by show t[j] :: _ = _; exact congr (congrArg List.cons hc) hr))
      rw [hkk] at hokj
      have lx : Str.ofString "x" = sign 120 := by decide +kernel
      have lu : Str.ofString "u" = sign 117 := by decide +kernel
      have lU : Str.ofString "U" = sign 85 := by decide +kernel
      have hDH : ∀ n, n ≤ run hexS (r.drop 1) → Digits 16 ((r.drop 1).take n) := fun n hn => digits_hex (run_mem hn)
      have hlH : ∀ n, 0 < n → n ≤ run hexS (r.drop 1) → (r.drop 1).take n ≠ [] := fun n hn hn2 h => by
        have h2 := congrArg List.length h
        rw [List.length_take, List.length_drop, List.length_nil] at h2; lia
      have hslH : ∀ (n : Nat) (a b : Int), a = ((j + 2 : Nat) : Int) → b = ((j + 2 + n : Nat) : Int) → n ≤ run hexS (r.drop 1) → Txt.slice (ofL t) (some a) (some b) = ofL ((r.drop 1).take n) := by
        rintro n a b rfl rfl hn
        rw [slc_ss (by lia) (by lia), hr1, show j + 2 + n - (j + 2) = n by lia]
      refine s_ifgo F g (ts_and (ts_cmp (by walk_at "m_ev") ev_str (op_eqC lx) (by with_unfolding_all rfl)) fun _ => ts_and (ts_cmp (ev_call (z := .int ((j + 2 + run hexS (r.drop 1) : Nat) : Int)) (Fs.world F) F.xa (by walk_at "m_glob") rfl rfl P1 (by decide) (by walk_at "m_evs") ⟨ofL t, j + 2, by rw [hL]; lia, by rw [hL]; lia, by rw [hL, Int.natCast_add]; rfl, by rw [htl, hr1]⟩ rfl) (by walk_at "m_ev") op_gt (by with_unfolding_all rfl)) fun _ => ts_and_nil) ?_ ?_
      · intro q s F
        simp only [Bool.and_true, Bool.and_eq_true, decide_eq_true_eq] at q
        obtain ⟨rfl, q2⟩ := q
        have hH0 : 0 < run hexS (r.drop 1) := by lia
        rw [if_pos ⟨rfl, hH0⟩] at hst0
        have hw := worth_bd (hDH _ (Nat.le_refl _))
        refine s_assign F g (ev_call (z := .int ((j + 2 + run hexS (r.drop 1) : Nat) : Int)) (Fs.world F) F.xa (by walk_at "m_glob") rfl rfl P1 (by decide) (by walk_at "m_evs") ⟨ofL t, j + 2, by rw [hL]; lia, by rw [hL]; lia, by rw [hL, Int.natCast_add]; rfl, by rw [htl, hr1]⟩ rfl) rfl fun s F => ?_
        refine app F rfl rfl (ev_bi (f := "chr") (by walk_at "m_boot") (evs_cons (ev_ty (f := "int") (by walk_at "m_boot") (evs_cons (ev_slice_ss (by walk_at "m_ev") (by walk_at "m_ev") (by walk_at "m_ev") (by rw [hL]; lia)) (evs_cons ev_int evs_nil rfl) rfl) (by rw [hslH (run hexS (r.drop 1)) _ _ (by lia) rfl (Nat.le_refl _)]; exact bi_int (b := 16) (.inr rfl) (hDH _ (Nat.le_refl _)) (hlH _ hH0 (Nat.le_refl _)) (by rw [List.length_take]; lia)) rfl rfl) evs_nil rfl) (bi_chr hw.1 (hokj.1 rfl hH0)) rfl rfl) (fun s F => ?_) rfl rfl rfl rfl
        refine s_assign F g (by walk_at "m_ev") rfl fun s F => s_cont ?_
        exact fin (j + 2 + run hexS (r.drop 1)) _ s (by rw [hst0]; lia) (by lia) (by rw [hst0] <;> rfl) (F.to _ ⟨rfl, rfl, rfl, rfl, rfl, trivial⟩)
      intro q s F
      have hnx : ¬ (k = 120 ∧ 0 < run hexS (r.drop 1)) := by
        rintro ⟨rfl, h2⟩
        simp only [Bool.and_true, Bool.and_eq_false_iff, decide_eq_false_iff_not] at q
        rcases q with q | q
        · first | exact q rfl | exact q trivial
        · lia
      rw [if_neg hnx] at hst0
      have hmpk := mp_at k
      have hDS := F.ow.1.2
      refine s_ifgo F g (ts_cmp (by walk_at "m_ev") (by walk_at "m_ev") (op_inD hDS hms) (by with_unfolding_all rfl)) ?_ ?_
      · intro q s F
        rw [hmpk] at q
        cases hmk : mpOf k with
        | none => rw [hmk] at q; cases q
        | some mm =>
          rw [hmk] at hst0 hmpk
          dsimp only at hst0
          refine app F rfl rfl (ev_sub (by walk_at "m_ev") (by walk_at "m_ev") (it_D F.ow.1.2 hmpk (fun _ _ => rfl))) (fun s F => ?_) rfl rfl rfl rfl
          refine s_aug F g rfl rfl ev_int op_iadd fun s F => s_cont ?_
          exact fin (j + 2) mm s (by rw [hst0] <;> rfl) (by lia) (by rw [hst0] <;> rfl) (F.to _ ⟨rfl, rfl, rfl, rfl, rfl, trivial⟩)
      intro q s F
      rw [hmpk] at q
      have hmk : mpOf k = none := by
        cases h : mpOf k with
        | none => rfl
        | some x => rw [h] at q; cases q
      rw [hmk] at hst0
      dsimp only at hst0
      refine s_ifgo F g (ts_and (ts_cmp (by walk_at "m_ev") ev_str (op_eqC lu) (by with_unfolding_all rfl)) fun _ => ts_and (ts_cmp (ev_call (z := .int ((j + 2 + run hexS (r.drop 1) : Nat) : Int)) (Fs.world F) F.xa (by walk_at "m_glob") rfl rfl P1 (by decide) (by walk_at "m_evs") ⟨ofL t, j + 2, by rw [hL]; lia, by rw [hL]; lia, by rw [hL, Int.natCast_add]; rfl, by rw [htl, hr1]⟩ rfl) (by walk_at "m_ev") op_ge (by with_unfolding_all rfl)) fun _ => ts_and_nil) ?_ ?_
      · intro q s F
        simp only [Bool.and_true, Bool.and_eq_true, decide_eq_true_eq] at q
        obtain ⟨rfl, q2⟩ := q
        have hH4 : 4 ≤ run hexS (r.drop 1) := by lia
        rw [if_pos ⟨rfl, hH4⟩] at hst0
        have hw : 0 ≤ worth 16 ((r.drop 1).take 4) ∧ worth 16 ((r.drop 1).take 4) < 65536 := by
          have := worth_bd_le (hDH 4 hH4) (m := 4) (by rw [List.length_take]; lia) (by decide)
          exact ⟨this.1, by have := this.2; simpa using this⟩
        refine app F rfl rfl (ev_bi (f := "chr") (by walk_at "m_boot") (evs_cons (ev_ty (f := "int") (by walk_at "m_boot") (evs_cons (ev_slice_ss (by walk_at "m_ev") (by walk_at "m_ev") (by walk_at "m_ev") (by rw [hL]; lia)) (evs_cons ev_int evs_nil rfl) rfl) (by rw [hslH 4 _ _ (by lia) (by lia) hH4]; exact bi_int (b := 16) (.inr rfl) (hDH 4 hH4) (hlH 4 (by decide) hH4) (by rw [List.length_take]; lia)) rfl rfl) evs_nil rfl) (bi_chr hw.1 (by have := hw.2; lia)) rfl rfl) (fun s F => ?_) rfl rfl rfl rfl
        refine s_aug F g rfl rfl ev_int op_iadd fun s F => s_cont ?_
        exact fin (j + 6) _ s (by rw [hst0] <;> rfl) (by lia) (by rw [hst0] <;> rfl) (F.to _ ⟨rfl, rfl, rfl, rfl, rfl, trivial⟩)
      intro q s F
      have hnu : ¬ (k = 117 ∧ 4 ≤ run hexS (r.drop 1)) := by
        rintro ⟨rfl, h2⟩
        simp only [Bool.and_true, Bool.and_eq_false_iff, decide_eq_false_iff_not] at q
        rcases q with q | q
        · first | exact q rfl | exact q trivial
        · lia
      rw [if_neg hnu] at hst0
      refine s_ifgo F g (ts_and (ts_cmp (by walk_at "m_ev") ev_str (op_eqC lU) (by with_unfolding_all rfl)) fun _ => ts_and (ts_cmp (ev_call (z := .int ((j + 2 + run hexS (r.drop 1) : Nat) : Int)) (Fs.world F) F.xa (by walk_at "m_glob") rfl rfl P1 (by decide) (by walk_at "m_evs") ⟨ofL t, j + 2, by rw [hL]; lia, by rw [hL]; lia, by rw [hL, Int.natCast_add]; rfl, by rw [htl, hr1]⟩ rfl) (by walk_at "m_ev") op_ge (by with_unfolding_all rfl)) fun _ => ts_and_nil) ?_ ?_
      · intro q s F
        simp only [Bool.and_true, Bool.and_eq_true, decide_eq_true_eq] at q
        obtain ⟨rfl, q2⟩ := q
        have hH8 : 8 ≤ run hexS (r.drop 1) := by lia
        rw [if_pos ⟨rfl, hH8⟩] at hst0
        have hw := worth_bd (hDH 8 hH8)
        refine app F rfl rfl (ev_bi (f := "chr") (by walk_at "m_boot") (evs_cons (ev_ty (f := "int") (by walk_at "m_boot") (evs_cons (ev_slice_ss (by walk_at "m_ev") (by walk_at "m_ev") (by walk_at "m_ev") (by rw [hL]; lia)) (evs_cons ev_int evs_nil rfl) rfl) (by rw [hslH 8 _ _ (by lia) (by lia) hH8]; exact bi_int (b := 16) (.inr rfl) (hDH 8 hH8) (hlH 8 (by decide) hH8) (by rw [List.length_take]; lia)) rfl rfl) evs_nil rfl) (bi_chr hw.1 (hokj.2 rfl hH8)) rfl rfl) (fun s F => ?_) rfl rfl rfl rfl
        refine s_aug F g rfl rfl ev_int op_iadd fun s F => s_cont ?_
        exact fin (j + 10) _ s (by rw [hst0] <;> rfl) (by lia) (by rw [hst0] <;> rfl) (F.to _ ⟨rfl, rfl, rfl, rfl, rfl, trivial⟩)
      intro q s F
      have hnU : ¬ (k = 85 ∧ 8 ≤ run hexS (r.drop 1)) := by
        rintro ⟨rfl, h2⟩
        simp only [Bool.and_true, Bool.and_eq_false_iff, decide_eq_false_iff_not] at q
        rcases q with q | q
        · first | exact q rfl | exact q trivial
        · lia
      rw [if_neg hnU] at hst0
      exact s_nil ⟨hst0, F.to _ ⟨rfl, rfl, rfl, rfl, rfl, rfl, trivial⟩⟩
    · intro q s F
      refine s_nil ⟨?_, F⟩
      unfold stp
      refine if_neg ?_
      rintro ⟨rfl, h2⟩
      have : j + 1 ≠ t.length := by
        intro h; apply h2; rw [← hr, List.drop_eq_nil_of_le (by lia)]
      simp only [Bool.and_true, Bool.and_eq_false_iff, decide_eq_false_iff_not, bne_eq_false_iff_eq] at q
      rcases q with q | q
      · first | exact q rfl | exact q trivial
      · lia
    · intro hst s F
      refine app F rfl rfl (by walk_at "m_ev") (fun s F => ?_) rfl rfl rfl rfl
      refine s_aug F g rfl rfl ev_int op_iadd fun s F => s_nil ?_
      exact fin (j + 1) c s (by rw [hst] <;> rfl) (by lia) (by rw [hst] <;> rfl) (F.to _ ⟨rfl, rfl, rfl, rfl, rfl, trivial⟩)
end
end
section
noncomputable def R (l : List Nat) : List Nat := rep l.length l
theorem rep_R : ∀ (n : Nat) (l : List Nat), l.length ≤ n → rep n l = R l := by
  intro n
  induction n using Nat.strongRecOn with
  | _ n ih =>
    intro l hl
    cases l with
    | nil => cases n <;> rfl
    | cons c r =>
      cases n with
      | zero => simp at hl
      | succ n =>
        have hr : r.length ≤ n := by simpa using hl
        show (stp c r).1 :: rep n (r.drop (stp c r).2) = (stp c r).1 :: rep r.length (r.drop (stp c r).2)
        have hd : (r.drop (stp c r).2).length ≤ r.length := by rw [List.length_drop]; lia
        rw [ih n (by lia) _ (by lia), ih r.length (by lia) _ hd]
theorem R_cons (c : Nat) (r : List Nat) : R (c :: r) = (stp c r).1 :: R (r.drop (stp c r).2) := by
  show (stp c r).1 :: rep r.length (r.drop (stp c r).2) = _
  rw [rep_R _ _ (by rw [List.length_drop]; lia)]
theorem R_free : ∀ {p : List Nat} (q : List Nat), 92 ∉ p → R (p ++ q) = p ++ R q
  | [], q, _ => rfl
  | c :: p, q, h => by
    have hc : c ≠ 92 := fun e => h (by simp [e])
    have : stp c (p ++ q) = (c, 0) := by unfold stp; exact if_neg fun x => hc x.1
    rw [List.cons_append, R_cons, this]
    show c :: R (p ++ q) = _
    rw [R_free q fun m => h (List.mem_cons_of_mem _ m)]; rfl
noncomputable def tailL (ps : List (List Nat)) : List Nat := ps.flatMap fun p => 92 :: p
theorem tailL_cons (p : List Nat) (ps : List (List Nat)) : tailL (p :: ps) = 92 :: (p ++ tailL ps) := by simp [tailL]
theorem run_app {S : List Nat} (h : 92 ∉ S) (ps : List (List Nat)) : ∀ l : List Nat, run S (l ++ tailL ps) = run S l
  | [] => by
    cases ps with
    | nil => rfl
    | cons p r =>
      rw [List.nil_append, tailL_cons]
      unfold run; rw [if_neg (by simpa using h)]
  | c :: l => by
    rw [List.cons_append]
    unfold run
    rw [run_app h ps l]
theorem n92o : 92 ∉ octS := by decide
theorem n92h : 92 ∉ hexS := by decide
theorem take_app {l T : List Nat} {n : Nat} (h : n ≤ l.length) : (l ++ T).take n = l.take n := List.take_append_of_le_length h
theorem drop_app {l T : List Nat} {n : Nat} (h : n ≤ l.length) : (l ++ T).drop n = l.drop n ++ T := List.drop_append_of_le_length h
theorem R_esc {l : List Nat} (hl : l ≠ []) (hf : 92 ∉ l) (ps : List (List Nat)) : R (92 :: (l ++ tailL ps)) = lawEsc l ++ R (tailL ps) := by
  obtain ⟨c, p, rfl⟩ : ∃ c p, l = c :: p := by cases l with | nil => exact absurd rfl hl | cons c p => exact ⟨c, p, rfl⟩
  generalize hT : tailL ps = T
  have hc : c ≠ 92 := fun e => hf (by simp [e])
  have hro : run octS ((c :: p) ++ T) = run octS (c :: p) := hT ▸ run_app n92o ps _
  have hd1 : ((c :: p) ++ T).drop 1 = p ++ T := rfl
  have hrh : run hexS (p ++ T) = run hexS p := hT ▸ run_app n92h ps _
  have hol := run_le octS (c :: p)
  have hhl := run_le hexS p
  have hff : ∀ n, 92 ∉ (c :: p).drop n := fun n m => hf (List.mem_of_mem_drop m)
  rw [R_cons]
  have hst : stp 92 ((c :: p) ++ T) = if 0 < run octS (c :: p) then ((worth 8 ((c :: p).take (min 3 (run octS (c :: p))))).toNat, min 3 (run octS (c :: p)))
      else if c = 120 ∧ 0 < run hexS p then ((worth 16 (p.take (run hexS p))).toNat, 1 + run hexS p)
      else match mpOf c with
        | some m => (m, 1)
        | none => if c = 117 ∧ 4 ≤ run hexS p then ((worth 16 (p.take 4)).toNat, 5)
          else if c = 85 ∧ 8 ≤ run hexS p then ((worth 16 (p.take 8)).toNat, 9)
          else (92, 0) := by
    unfold stp
    rw [if_pos ⟨rfl, by simp⟩, hro, hd1, hrh, take_app (show min 3 (run octS (c :: p)) ≤ (c :: p).length by lia), take_app hhl]
    show (if _ then _ else if c = 120 ∧ _ then _ else match mpOf c with | some m => _ | none => if c = 117 ∧ _ then _ else if c = 85 ∧ _ then _ else _) = _
    by_cases h4 : 4 ≤ run hexS p
    · rw [take_app (show 4 ≤ p.length by lia)]
      by_cases h8 : 8 ≤ run hexS p
      · rw [take_app (show 8 ≤ p.length by lia)]; rfl
      · simp only [h8, and_false, if_false]
    · have h8 : ¬ 8 ≤ run hexS p := by lia
      simp only [h4, h8, and_false, if_false]
  rw [hst]
  have hmp : mpOf c = meantOf c := by unfold mpOf; rw [if_neg hc]
  unfold lawEsc
  by_cases h0 : 0 < run octS (c :: p)
  · rw [if_pos h0, if_pos h0]
    show _ :: R (((c :: p) ++ T).drop _) = _
    rw [drop_app (show min 3 (run octS (c :: p)) ≤ (c :: p).length by lia), R_free _ (hff _)]; rfl
  · rw [if_neg h0, if_neg h0, hmp]
    show _ = (match meantOf c with | some m => m :: p | none => if takeOf (c :: p) = 0 ∨ run hexS p < takeOf (c :: p) then 92 :: c :: p else (worth 16 (p.take (takeOf (c :: p)))).toNat :: (c :: p).drop (1 + takeOf (c :: p))) ++ R T
    by_cases h120 : c = 120
    · subst h120
      have ht : takeOf (120 :: p) = run hexS p := by unfold takeOf; exact if_pos rfl
      have hm : meantOf 120 = none := by decide
      rw [hm, ht]
      by_cases hh : 0 < run hexS p
      · rw [if_pos ⟨rfl, hh⟩]
        show _ :: R (((120 :: p) ++ T).drop _) = _
        rw [drop_app (by simp; lia), R_free _ (hff _)]
        show _ = (if run hexS p = 0 ∨ _ then _ else _) ++ _
        rw [if_neg (by lia)]; rfl
      · rw [if_neg (fun x => hh x.2)]
        show (if 120 = 117 ∧ _ then _ else if 120 = 85 ∧ _ then _ else _ : Nat × Nat).1 :: _ = _
        rw [if_neg (by lia), if_neg (by lia)]
        show 92 :: R ((120 :: p) ++ T) = (if run hexS p = 0 ∨ _ then _ else _) ++ _
        rw [R_free _ hf, if_pos (by lia)]; rfl
    · rw [if_neg (fun x => h120 x.1)]
      cases hm : meantOf c with
      | some m =>
        show m :: R ((p ++ T)) = _
        rw [R_free _ (fun m => hf (List.mem_cons_of_mem _ m))]; rfl
      | none =>
        show (if c = 117 ∧ _ then _ else if c = 85 ∧ _ then _ else _ : Nat × Nat).1 :: R (((c :: p) ++ T).drop (if c = 117 ∧ _ then _ else if c = 85 ∧ _ then _ else _ : Nat × Nat).2) = (if takeOf (c :: p) = 0 ∨ _ then _ else _) ++ _
        by_cases h117 : c = 117
        · subst h117
          have ht : takeOf (117 :: p) = 4 := by unfold takeOf; rfl
          rw [ht]
          by_cases hh : 4 ≤ run hexS p
          · rw [if_pos ⟨rfl, hh⟩, if_neg (by lia)]
            show _ :: R (((117 :: p) ++ T).drop 5) = _
            rw [drop_app (by simp; lia), R_free _ (hff _)]; rfl
          · rw [if_neg (fun x => hh x.2), if_neg (by lia), if_pos (by lia)]
            show 92 :: R ((117 :: p) ++ T) = _
            rw [R_free _ hf]; rfl
        · rw [if_neg (fun x => h117 x.1)]
          by_cases h85 : c = 85
          · subst h85
            have ht : takeOf (85 :: p) = 8 := by unfold takeOf; rfl
            rw [ht]
            by_cases hh : 8 ≤ run hexS p
            · rw [if_pos ⟨rfl, hh⟩, if_neg (by lia)]
              show _ :: R (((85 :: p) ++ T).drop 9) = _
              rw [drop_app (by simp; lia), R_free _ (hff _)]; rfl
            · rw [if_neg (fun x => hh x.2), if_pos (by lia)]
              show 92 :: R ((85 :: p) ++ T) = _
              rw [R_free _ hf]; rfl
          · have ht : takeOf (c :: p) = 0 := by unfold takeOf; show (if c = 120 then _ else if c = 117 then 4 else if c = 85 then 8 else 0) = 0; rw [if_neg h120, if_neg h117, if_neg h85]
            rw [if_neg (fun x => h85 x.1), ht, if_pos (.inl rfl)]
            show 92 :: R ((c :: p) ++ T) = _
            rw [R_free _ hf]; rfl
theorem R_tail : ∀ (ps : List (List Nat)), (∀ p ∈ ps, 92 ∉ p) → R (tailL ps) = lawTail ps
  | [], _ => rfl
  | [[]], _ => by decide
  | [] :: q :: qs, h => by
    rw [tailL_cons, tailL_cons, List.nil_append, R_cons]
    have : stp 92 (92 :: (q ++ tailL qs)) = (92, 1) := by
      unfold stp
      have h0 : run octS (92 :: (q ++ tailL qs)) = 0 := by unfold run; rw [if_neg (by decide)]
      rw [if_pos ⟨rfl, by simp⟩, h0, if_neg (by lia), if_neg (fun x => absurd (show (92 : Nat) = 120 from x.1) (by decide))]
      rfl
    rw [this]
    show 92 :: R (q ++ tailL qs) = _
    rw [R_free _ (h q (by simp)), R_tail qs fun p m => h p (by simp [m])]
    simp [lawTail]
  | (c :: p) :: ps, h => by
    rw [tailL_cons, R_esc (by simp) (h _ (by simp)), R_tail ps fun p m => h p (by simp [m])]
    simp [lawTail]
noncomputable def glueL : List (List Nat) → List Nat
  | [] => []
  | p :: ps => p ++ tailL ps
theorem R_read {ps : List (List Nat)} (h : ∀ p ∈ ps, 92 ∉ p) : R (glueL ps) = lawRead ps := by
  cases ps with
  | nil => rfl
  | cons p ps =>
    show R (p ++ tailL ps) = p ++ lawTail ps
    rw [R_free _ (h p (by simp)), R_tail ps fun q m => h q (by simp [m])]
theorem join_ofL : ∀ ps : List (List Nat), Str.join bs (ps.map ofL) = ofL (glueL ps)
  | [] => rfl
  | [p] => by simp [glueL, tailL, Str.join]
  | p :: q :: ps => by
    have ih := join_ofL (q :: ps)
    simp only [List.map_cons] at ih ⊢
    show ofL p ++ bs ++ Str.join bs (ofL q :: ps.map ofL) = _
    rw [ih]
    show ofL p ++ bs ++ ofL (q ++ tailL ps) = ofL (p ++ tailL (q :: ps))
    rw [tailL_cons]
    show Str.mk ((p.toArray ++ #[92]) ++ (q ++ tailL ps).toArray) = Str.mk (p ++ 92 :: (q ++ tailL ps)).toArray
    simp
theorem split_glue {l : List Nat} {ps : List (List Nat)} (h : Txt.split (ofL l) bs = ps.map ofL) : l = glueL ps := by
  have := StrLaws.join_split (ofL l) bs
  rw [h, join_ofL] at this
  exact (ofL_inj this).symm
theorem split_some (l : List Nat) : ∃ ps : List (List Nat), Txt.split (ofL l) bs = ps.map ofL := by
  refine ⟨(Txt.split (ofL l) bs).map fun s => s.cps.toList, ?_⟩
  rw [List.map_map]
  conv => lhs; rw [← List.map_id (Txt.split (ofL l) bs)]
  exact List.map_congr_left fun s _ => (ofL_toList s).symm
theorem split_no92 {l : List Nat} {ps : List (List Nat)} (h : Txt.split (ofL l) bs = ps.map ofL) : ∀ p ∈ ps, 92 ∉ p := fun p hp => by
  have := StrLaws.split_free (ofL l) 92 (ofL p) (by show _ ∈ Txt.split (ofL l) bs; rw [h]; exact List.mem_map_of_mem hp)
  rwa [ofL_list] at this
theorem tail_at {p : List Nat} : ∀ {ps : List (List Nat)}, p ∈ ps → ∃ a qs, tailL ps = a ++ 92 :: (p ++ tailL qs)
  | q :: ps, h => by
    rcases List.mem_cons.mp h with rfl | h
    · exact ⟨[], ps, tailL_cons _ _⟩
    · obtain ⟨a, qs, e⟩ := tail_at h
      exact ⟨92 :: (q ++ a), qs, by rw [tailL_cons, e]; simp⟩
/-- escapes of a text in order: then those of its parts are -/
theorem esc_ok {l : List Nat} {ps : List (List Nat)} (hok : OkT l) (h : Txt.split (ofL l) bs = ps.map ofL) : ∀ p ∈ ps.drop 1, p ≠ [] → EscOk p := by
  intro p hp hne
  have e := split_glue h
  obtain ⟨q, ps', rfl⟩ : ∃ q ps', ps = q :: ps' := by cases ps with | nil => simp at hp | cons q r => exact ⟨q, r, rfl⟩
  have hp : p ∈ ps' := hp
  have hf := split_no92 h p (List.mem_cons_of_mem _ hp)
  obtain ⟨a, qs, e2⟩ := tail_at hp
  have e3 : l.drop (q ++ a).length = 92 :: (p ++ tailL qs) := by
    rw [e]; show (q ++ tailL ps').drop _ = _
    rw [e2, ← List.append_assoc, List.drop_left]
  obtain ⟨c, r, rfl⟩ : ∃ c r, p = c :: r := by cases p with | nil => exact absurd rfl hne | cons c r => exact ⟨c, r, rfl⟩
  have hh := hok _ _ e3
  have hd1 : ((c :: r) ++ tailL qs).drop 1 = r ++ tailL qs := rfl
  have hrh : run hexS (r ++ tailL qs) = run hexS r := run_app n92h qs _
  have hhl := run_le hexS r
  rw [hd1, hrh] at hh
  intro ht hle
  show worth 16 (r.take (takeOf (c :: r))) ≤ _
  have hle : takeOf (c :: r) ≤ run hexS r := hle
  have hto : takeOf (c :: r) = if c = 120 then run hexS r else if c = 117 then 4 else if c = 85 then 8 else 0 := rfl
  by_cases h1 : c = 120
  · have := hh.1 h1 (by rw [hto, if_pos h1] at ht; exact ht)
    rw [take_app hhl] at this
    rw [hto, if_pos h1]; exact this
  · by_cases h2 : c = 117
    · rw [hto, if_neg h1, if_pos h2] at hle ⊢
      have := worth_bd_le (b := 16) (m := 4) (l := r.take 4) (digits_hex (run_mem hle)) (by rw [List.length_take]; lia) (by decide)
      have h3 := this.2
      have h4 : ((16 : Nat) : Int) ^ 4 = 65536 := by decide
      rw [h4] at h3
      have h5 : worth ((16 : Nat) : Int) (r.take 4) = worth 16 (r.take 4) := rfl
      lia
    · by_cases h3 : c = 85
      · rw [hto, if_neg h1, if_neg h2, if_pos h3] at hle ⊢
        have := hh.2 h3 hle
        rw [take_app (by lia)] at this; exact this
      · rw [hto, if_neg h1, if_neg h2, if_neg h3] at ht; lia
/-- the law's reading is the code's -/
theorem read_is_rep {l : List Nat} {ps : List (List Nat)} (h : Txt.split (ofL l) bs = ps.map ofL) : lawRead ps = rep l.length l := by
  have e := split_glue h
  rw [← R_read (split_no92 h), ← e]; rfl
end
section
/-- what is known of a row of at most k pieces -/
structure Good (k : Nat) (q : List Nat) : Prop where
  ok : OkT q
  rn : run hexS q ≤ k
  nx : ∀ c r, q = c :: r → c = 120 ∨ c = 85 → run hexS r ≤ k
theorem ok_nil : OkT [] := fun j r h => by simp at h
theorem ok_cons {c : Nat} {q : List Nat} (h : c ≠ 92) (o : OkT q) : OkT (c :: q) := fun j r e => by
  cases j with
  | zero => exact absurd (List.cons.inj e).1 h
  | succ j => exact o j r e
theorem ok_free {p q : List Nat} (h : 92 ∉ p) (o : OkT q) : OkT (p ++ q) := by
  induction p with
  | nil => exact o
  | cons c p ih => exact ok_cons (fun e => h (by simp [e])) (ih fun m => h (List.mem_cons_of_mem _ m))
theorem ok_bs {q : List Nat} (o : OkT q) (h : (q.headD 0 = 120 → 0 < run hexS (q.drop 1) → worth 16 ((q.drop 1).take (run hexS (q.drop 1))) ≤ 1114111) ∧ (q.headD 0 = 85 → 8 ≤ run hexS (q.drop 1) → worth 16 ((q.drop 1).take 8) ≤ 1114111)) : OkT (92 :: q) := fun j r e => by
  cases j with
  | zero => obtain rfl : q = r := (List.cons.inj e).2; exact h
  | succ j => exact o j r e
theorem good_nil : Good 0 [] := ⟨ok_nil, Nat.le_refl _, fun c r e => by cases e⟩
theorem good_quote : Good 0 [39] := ⟨ok_cons (by decide) ok_nil, by decide, fun c r e h => by
  have := (List.cons.inj e).1; lia⟩
theorem worth_small {l : List Nat} (h : run hexS l ≤ 5) : worth 16 (l.take (run hexS l)) ≤ 1114111 := by
  have := worth_bd_le (b := 16) (m := 5) (l := l.take (run hexS l)) (digits_hex (run_mem (Nat.le_refl _))) (by rw [List.length_take]; lia) (by decide)
  have h3 := this.2
  have h4 : ((16 : Nat) : Int) ^ 5 = 1048576 := by decide
  rw [h4] at h3
  have h5 : worth ((16 : Nat) : Int) (l.take (run hexS l)) = worth 16 (l.take (run hexS l)) := rfl
  lia
theorem run_stop {S l : List Nat} {c : Nat} (h : c ∈ l) (hc : c ∉ S) (q : List Nat) : run S (l ++ q) = run S l := by
  induction l with
  | nil => cases h
  | cons d l ih =>
    rw [List.cons_append]
    unfold run
    by_cases hd : S.contains d = true
    · rw [if_pos hd, if_pos hd, ih]
      rcases List.mem_cons.mp h with rfl | h
      · exact absurd (by simpa using hd) hc
      · exact h
    · rw [if_neg hd, if_neg hd]
theorem run_app_le {S l : List Nat} (q : List Nat) : run S (l ++ q) ≤ l.length + run S q := by
  induction l with
  | nil => simp
  | cons d l ih =>
    rw [List.cons_append]
    show (if S.contains d then run S (l ++ q) + 1 else 0) ≤ _
    split
    · rw [List.length_cons]; lia
    · lia
/-- a piece without a backslash -/
theorem good_free {k : Nat} {p q : List Nat} (g : Good k q) (hf : 92 ∉ p) (h1 : run hexS (p ++ q) ≤ k + 1) (h2 : ∀ c r, p = c :: r → c = 120 ∨ c = 85 → run hexS (r ++ q) ≤ k + 1) : Good (k + 1) (p ++ q) := by
  refine ⟨ok_free hf g.ok, h1, fun c r e h => ?_⟩
  cases p with
  | nil =>
    have := g.nx c r e h; lia
  | cons d p =>
    obtain ⟨rfl, rfl⟩ := List.cons.inj e
    exact h2 _ _ rfl h
/-- a piece that begins with a backslash -/
theorem good_bs {k : Nat} {p q : List Nat} (o : OkT (p ++ q)) (h : ((p ++ q).headD 0 = 120 → 0 < run hexS ((p ++ q).drop 1) → worth 16 (((p ++ q).drop 1).take (run hexS ((p ++ q).drop 1))) ≤ 1114111) ∧ ((p ++ q).headD 0 = 85 → 8 ≤ run hexS ((p ++ q).drop 1) → worth 16 (((p ++ q).drop 1).take 8) ≤ 1114111)) : Good k ((92 :: p) ++ q) := by
  refine ⟨ok_bs o h, ?_, fun c r e hc => ?_⟩
  · show run hexS (92 :: (p ++ q)) ≤ k
    unfold run; rw [if_neg (by decide)]; exact Nat.zero_le _
  · have := (List.cons.inj e).1; lia
theorem digs_mem {b : Nat} {S : List Nat} (hS : b ≤ S.length) (hb : 0 < b) : ∀ {m v : Nat} {acc : List Nat}, (∀ c ∈ acc, c ∈ S) → ∀ c ∈ digs b S m v acc, c ∈ S
  | 0, _, _, h => h
  | m + 1, v, acc, h => by
    rw [digs]
    refine digs_mem hS hb fun c hc => ?_
    rcases List.mem_cons.mp hc with rfl | hc
    · have : v % b < S.length := Nat.lt_of_lt_of_le (Nat.mod_lt _ hb) hS
      rw [List.getD_eq_getElem?_getD, List.getElem?_eq_getElem this]
      exact List.getElem_mem this
    · exact h c hc
theorem case_len (v : Nat) : (caseOf v).length = 16 := by unfold caseOf; split <;> rfl
theorem case_dig (v d : Nat) (hd : d < 16) : dig ((caseOf v).getD d 0) = (d : Int) := by
  have h1 : ∀ d < 16, dig (smallS.getD d 0) = (d : Int) := by decide +kernel
  have h2 : ∀ d < 16, dig (bigS.getD d 0) = (d : Int) := by decide +kernel
  unfold caseOf
  split
  · exact h1 d hd
  · exact h2 d hd
theorem small_oct : ∀ c ∈ smallS, c ≠ 92 := by decide
theorem case_no92 (v : Nat) : ∀ c ∈ caseOf v, c ≠ 92 := by unfold caseOf; split <;> decide
theorem digs_worth (x : Nat) : ∀ (m v : Nat) (acc : List Nat), (digs 16 (caseOf x) m v acc).foldl (fun a c => a * ((16 : Nat) : Int) + dig c) 0 = acc.foldl (fun a c => a * ((16 : Nat) : Int) + dig c) ((v % 16 ^ m : Nat) : Int)
  | 0, v, acc => by rw [digs, Nat.pow_zero, Nat.mod_one]; rfl
  | m + 1, v, acc => by
    rw [digs, digs_worth x m, List.foldl_cons, case_dig x _ (Nat.mod_lt _ (by decide))]
    congr 1
    have : v % 16 ^ (m + 1) = v % 16 + 16 * (v / 16 % 16 ^ m) := by rw [Nat.pow_succ, Nat.mul_comm, Nat.mod_mul]
    rw [this]; lia
theorem good_lone {k : Nat} {q : List Nat} (g : Good k q) (hk : k ≤ 5) : OkT (92 :: q) := by
  refine ok_bs g.ok ⟨fun h _ => worth_small ?_, fun h h8 => ?_⟩
  · cases q with
    | nil => cases h
    | cons c r => have := g.nx c r rfl (.inl h); show run hexS r ≤ 5; lia
  · cases q with
    | nil => cases h
    | cons c r =>
      have := g.nx c r rfl (.inr h)
      have h8 : 8 ≤ run hexS r := h8
      lia
noncomputable def plainOk (p : List Nat) : Bool := !p.contains 92 && (decide (p.length ≤ 1) || (p.any (fun c => !hexS.contains c) && decide (run hexS p ≤ 1))) && (!(p.headD 0 == 120 || p.headD 0 == 85) || decide (p.length = 1))
theorem plain_ok : ∀ i < 12, plainOk (plainM.getD i Str.empty).cps.toList = true := by decide +kernel
theorem good_plain {k : Nat} {p q : List Nat} (hp : plainOk p = true) (g : Good k q) : Good (k + 1) (p ++ q) := by
  unfold plainOk at hp
  simp only [Bool.and_eq_true, Bool.or_eq_true, Bool.not_eq_true', decide_eq_true_eq, List.any_eq_true, Bool.or_eq_false_iff, beq_eq_false_iff_ne, ne_eq] at hp
  obtain ⟨⟨h1, h2⟩, h3⟩ := hp
  have hr := g.rn
  refine good_free g (by simpa using h1) ?_ fun c r e hc => ?_
  · rcases h2 with h2 | ⟨⟨c, hc, hn⟩, h2⟩
    · have := run_app_le (S := hexS) (l := p) q; lia
    · rw [run_stop hc (by simpa using hn)]; lia
  · subst e
    rcases h3 with h3 | h3
    · have h3 : ¬ c = 120 ∧ ¬ c = 85 := h3
      lia
    · have : r = [] := by simpa using h3
      subst this
      show run hexS q ≤ _; lia
theorem good_up {k : Nat} {q : List Nat} (g : Good k q) : Good (k + 1) q := ⟨g.ok, Nat.le_succ_of_le g.rn, fun c r e h => Nat.le_succ_of_le (g.nx c r e h)⟩
/-- a backslash, a sign that is neither x nor U, more without backslashes -/
theorem good_other {k : Nat} {c : Nat} {p q : List Nat} (g : Good k q) (h : c ≠ 120) (h2 : c ≠ 85) (hf : 92 ∉ c :: p) : Good (k + 1) ((92 :: c :: p) ++ q) :=
  good_bs (p := c :: p) (ok_free hf g.ok) ⟨fun e => absurd e h, fun e => absurd e h2⟩
theorem simple_ok : ∀ i < 12, simpleS.getD i 0 ≠ 120 ∧ simpleS.getD i 0 ≠ 85 := by decide
theorem broken_ok : ∀ i < 5, ∃ c, (brokenM.getD i Str.empty).cps.toList = [92, c] ∧ c ≠ 92 ∧ c ≠ 85 := by
  intro i hi
  have : i = 0 ∨ i = 1 ∨ i = 2 ∨ i = 3 ∨ i = 4 := by lia
  rcases this with rfl | rfl | rfl | rfl | rfl
  · exact ⟨113, by decide +kernel, by decide, by decide⟩
  · exact ⟨120, by decide +kernel, by decide, by decide⟩
  · exact ⟨56, by decide +kernel, by decide, by decide⟩
  · exact ⟨32, by decide +kernel, by decide, by decide⟩
  · exact ⟨65, by decide +kernel, by decide, by decide⟩
theorem good_x {k : Nat} {ds q : List Nat} (g : Good k q) (hk : k ≤ 2) (hd : ds.length ≤ 3) (hf : 92 ∉ ds) : Good (k + 1) ((92 :: 120 :: ds) ++ q) := by
  refine good_bs (p := 120 :: ds) (ok_free (p := 120 :: ds) (by simpa using hf) g.ok) ⟨fun _ _ => worth_small ?_, fun e => by cases e⟩
  show run hexS (ds ++ q) ≤ 5
  have := run_app_le (S := hexS) (l := ds) q
  have := g.rn
  lia
theorem good_piece (n : Nat) {k : Nat} {q : List Nat} (hk : k ≤ 2) (g : Good k q) : Good (k + 1) (piece n ++ q) := by
  have hlt : n % 11 < 11 := Nat.mod_lt _ (by decide)
  generalize hm : n % 11 = m at hlt
  have hc : ∀ m l, digs 16 (caseOf (n / 11)) m l [] = digs 16 (caseOf (n / 11)) m l [] := fun _ _ => rfl
  have hcf : ∀ m l, 92 ∉ digs 16 (caseOf (n / 11)) m l [] := fun m l h => case_no92 _ _ (digs_mem (by rw [case_len]; exact Nat.le_refl _) (by decide) (by simp) _ h) rfl
  have hsf : ∀ m l, 92 ∉ digs 8 smallS m l [] := fun m l h => small_oct _ (digs_mem (by decide) (by decide) (by simp) _ h) rfl
  have : m = 0 ∨ m = 1 ∨ m = 2 ∨ m = 3 ∨ m = 4 ∨ m = 5 ∨ m = 6 ∨ m = 7 ∨ m = 8 ∨ m = 9 ∨ m = 10 := by lia
  rcases this with rfl | rfl | rfl | rfl | rfl | rfl | rfl | rfl | rfl | rfl | rfl
  · have e : piece n = (plainM.getD (n / 11 % 12) Str.empty).cps.toList := by simp only [piece, hm]
    rw [e]; exact good_plain (plain_ok _ (Nat.mod_lt _ (by decide))) g
  · have e : piece n = [92, simpleS.getD (n / 11 % 12) 0] := by simp only [piece, hm]
    rw [e]
    have hs := simple_ok (n / 11 % 12) (Nat.mod_lt _ (by decide))
    by_cases h92 : simpleS.getD (n / 11 % 12) 0 = 92
    · rw [h92]
      exact good_bs (p := [92]) (good_lone g (by lia)) ⟨fun e => (by cases e), fun e => (by cases e)⟩
    · exact good_other g hs.1 hs.2 (by simpa using fun e => h92 e.symm)
  · have e : piece n = 92 :: digs 8 smallS (1 + n / 11 % 3) (65 + 11 * (n / 11)) [] := by simp only [piece, hm]
    rw [e]
    have hl := digs_len (b := 8) (S := smallS) (m := 1 + n / 11 % 3) (v := 65 + 11 * (n / 11)) (acc := [])
    have hf := hsf (1 + n / 11 % 3) (65 + 11 * (n / 11))
    have hmem : ∀ c ∈ digs 8 smallS (1 + n / 11 % 3) (65 + 11 * (n / 11)) [], c ∈ smallS := digs_mem (by decide) (by decide) (by simp)
    generalize digs 8 smallS (1 + n / 11 % 3) (65 + 11 * (n / 11)) [] = ds at *
    cases ds with
    | nil => simp at hl; lia
    | cons c ds =>
      have : ∀ c ∈ smallS, c ≠ 120 ∧ c ≠ 85 := by decide
      have h2 := this c (hmem c (by simp))
      exact good_other g h2.1 h2.2 hf
  · by_cases h3 : n / 11 % 3 = 2
    · have e : piece n = 92 :: 120 :: digs 16 (caseOf (n / 11)) 1 ((1 + 5 * (n / 11)) % 13) [] := by simp only [piece, hm, h3, if_pos]
      rw [e]; exact good_x g hk (by rw [digs_len]; decide) (hcf _ _)
    · have e : piece n = 92 :: 120 :: digs 16 (caseOf (n / 11)) 2 ((65 + 37 * (n / 11)) % 208) [] := by simp only [piece, hm, if_neg h3]
      rw [e]; exact good_x g hk (by rw [digs_len]; decide) (hcf _ _)
  · have e : piece n = 92 :: 117 :: digs 16 (caseOf (n / 11)) 4 ((65 + 4099 * (n / 11)) % 55296) [] := by simp only [piece, hm]
    rw [e]; exact good_other g (by decide) (by decide) (by simpa using hcf _ _)
  · have e : piece n = 92 :: 85 :: digs 16 (caseOf (n / 11)) 8 (65536 + (62976 + 4099 * (n / 11)) % 1048576) [] := by simp only [piece, hm]
    rw [e]
    refine good_bs (p := 85 :: digs 16 (caseOf (n / 11)) 8 (65536 + (62976 + 4099 * (n / 11)) % 1048576) []) (ok_free (p := 85 :: digs 16 (caseOf (n / 11)) 8 (65536 + (62976 + 4099 * (n / 11)) % 1048576) []) (by simpa using hcf _ _) g.ok) ⟨fun e => (by cases e), fun _ _ => ?_⟩
    have hx : 65536 + (62976 + 4099 * (n / 11)) % 1048576 < 1114112 := by
      have := Nat.mod_lt (62976 + 4099 * (n / 11)) (show 0 < 1048576 by decide); lia
    generalize 65536 + (62976 + 4099 * (n / 11)) % 1048576 = x at *
    show worth 16 ((digs 16 (caseOf (n / 11)) 8 x [] ++ q).take 8) ≤ _
    rw [List.take_append_of_le_length (by rw [digs_len]; decide), List.take_of_length_le (by rw [digs_len]; decide)]
    have hw := digs_worth (n / 11) 8 x []
    have h1 : worth ((16 : Nat) : Int) (digs 16 (caseOf (n / 11)) 8 x []) = ((x % 16 ^ 8 : Nat) : Int) := hw
    have h2 : worth ((16 : Nat) : Int) (digs 16 (caseOf (n / 11)) 8 x []) = worth 16 (digs 16 (caseOf (n / 11)) 8 x []) := rfl
    have h4 : x % 16 ^ 8 ≤ x := Nat.mod_le _ _
    lia
  · have e : piece n = [92, 117, 52, 49] := by simp only [piece, hm]
    rw [e]; exact good_other g (by decide) (by decide) (by decide)
  · have e : piece n = [92, 85, 48, 48, 48, 49, 102, 54] := by simp only [piece, hm]
    rw [e]
    refine good_bs (p := [85, 48, 48, 48, 49, 102, 54]) (ok_free (p := [85, 48, 48, 48, 49, 102, 54]) (by decide) g.ok) ⟨fun e => (by cases e), fun _ h8 => ?_⟩
    have hd := digits_hex (run_mem h8)
    have hshow : (([85, 48, 48, 48, 49, 102, 54] ++ q).drop 1).take 8 = 48 :: 48 :: 48 :: 49 :: 102 :: 54 :: q.take 2 := rfl
    rw [hshow] at hd ⊢
    have hd5 : Digits 16 (49 :: 102 :: 54 :: q.take 2) := fun c hc => hd c (List.mem_cons_of_mem _ (List.mem_cons_of_mem _ (List.mem_cons_of_mem _ hc)))
    have h48 : dig 48 = 0 := by decide +kernel
    have h3 : worth 16 (48 :: 48 :: 48 :: 49 :: 102 :: 54 :: q.take 2) = worth ((16 : Nat) : Int) (49 :: 102 :: 54 :: q.take 2) := by
      show List.foldl _ 0 _ = List.foldl _ 0 _
      simp only [List.foldl_cons, h48]
      rfl
    have h4 := worth_bd_le (m := 5) hd5 (by simp; lia) (by decide)
    have h5 : ((16 : Nat) : Int) ^ 5 = 1048576 := by decide
    rw [h5] at h4
    rw [h3]; lia
  · have e : piece n = [92] := by simp only [piece, hm]
    rw [e]
    exact good_up (good_bs (p := []) g.ok (by
      have := good_lone g (by lia)
      exact this 0 q rfl))
  · have e : piece n = (brokenM.getD (n / 11 % 5) Str.empty).cps.toList := by simp only [piece, hm]
    obtain ⟨c, h1, h2, h3⟩ := broken_ok (n / 11 % 5) (Nat.mod_lt _ (by decide))
    rw [e, h1]
    by_cases h4 : c = 120
    · subst h4; exact good_x g hk (ds := []) (by decide) (by decide)
    · exact good_other g h4 h3 (by simpa using fun e => h2 e.symm)
  · have e : piece n = [] := by simp only [piece, hm]
    rw [e]; exact good_up g
theorem good_pieces : ∀ ns : List Nat, ns.length ≤ 3 → Good ns.length (ns.flatMap piece)
  | [], _ => good_nil
  | n :: ns, h => by
    rw [List.flatMap_cons]
    exact good_piece n (by simp at h; lia) (good_pieces ns (by simp at h; lia))
theorem ok_string (ns : List Nat) (h : ns.length ≤ 3) : OkT (ns.flatMap piece) := (good_pieces ns h).ok
noncomputable def charT (b : Bool) (n : Nat) : List Nat := (if b then [76] else []) ++ 39 :: (piece n ++ [39])
theorem ok_char (b : Bool) (n : Nat) : OkT (charT b n) := by
  unfold charT
  refine ok_free (by cases b <;> decide) (ok_cons (by decide) (good_piece n (by decide) good_quote).ok)
theorem piece_len (n : Nat) : (piece n).length ≤ 10 := by
  have h1 : ∀ i < 12, (plainM.getD i Str.empty).cps.toList.length ≤ 10 := by decide +kernel
  have h2 : ∀ i < 5, (brokenM.getD i Str.empty).cps.toList.length ≤ 10 := by decide +kernel
  unfold piece
  split
  · exact h1 _ (Nat.mod_lt _ (by decide))
  · exact Nat.le_of_ble_eq_true rfl
  · rw [List.length_cons, digs_len]; simp; lia
  · dsimp only
    split
    · rw [List.length_cons, List.length_cons, digs_len]; decide
    · rw [List.length_cons, List.length_cons, digs_len]; decide
  · rw [List.length_cons, List.length_cons, digs_len]; decide
  · rw [List.length_cons, List.length_cons, digs_len]; decide
  · decide
  · decide
  · decide
  · exact h2 _ (Nat.mod_lt _ (by decide))
  · decide
end
section
/-- all that lies in a heap but two -/
noncomputable def others (h : Heap) (L x : Addr) : List (Addr × Obj) := (List.range h.objs.size).filterMap fun a => if a = L ∨ a = x then none else (h.get? a).map fun o => (a, o)
theorem others_mem {h : Heap} {L x : Addr} {p : Addr × Obj} : p ∈ others h L x ↔ (p.1 ≠ L ∧ p.1 ≠ x) ∧ h.get? p.1 = some p.2 := by
  unfold others
  rw [List.mem_filterMap]
  constructor
  · rintro ⟨a, _, e⟩
    split at e
    · cases e
    · rename_i n
      obtain ⟨o, ho, rfl⟩ := Option.map_eq_some_iff.mp e
      exact ⟨not_or.mp n, ho⟩
  · rintro ⟨n, e⟩
    exact ⟨p.1, List.mem_range.mpr (Heap.lt_size e), by rw [if_neg (not_or.mpr n), e]; rfl⟩
noncomputable def noHeap : Heap := {}
theorem noHeap_get (a : Addr) : noHeap.get? a = none := by
  cases e : noHeap.get? a with
  | none => rfl
  | some o => exact absurd (Heap.lt_size e) (Nat.not_lt_zero _)
theorem br_fr {h : Heap} {L : Addr} {m : Str → Option Value} (hm : h.Ns L m) : Fr noHeap L h m := ⟨hm, (fun b o e => by rw [noHeap_get] at e; cases e), Nat.zero_le _⟩
theorem br_news {h : Heap} {L x : Addr} {ox : Obj} (hx : h.get? x = some ox) (hne : x ≠ L) : News noHeap L h ([] ++ (x, ox) :: others h L x) := fun p hp => by
  rcases List.mem_cons.mp hp with rfl | hp
  · exact ⟨hx, hne, noHeap_get _⟩
  · have := others_mem.mp hp
    exact ⟨this.2, this.1.1, noHeap_get _⟩
theorem br_back {h h' : Heap} {L x : Addr} {ox' : Obj} (N : News noHeap L h' ([] ++ (x, ox') :: others h L x)) : h'.get? x = some ox' ∧ ∀ b o, b ≠ L → b ≠ x → h.get? b = some o → h'.get? b = some o :=
  ⟨(N (x, ox') (.head _)).1, fun b o h1 h2 e => (N (b, o) (.tail _ (others_mem.mpr ⟨⟨h1, h2⟩, e⟩))).1⟩

section
variable {prog : Program} {w : World} {A : Around} {E : Value → Shared → Prop} {s : Shared} {K : Frag} {x C L p : Addr} {m : Str → Option Value} {ox od : Obj} {name : Str} {v : Value} {i : Nat}
/-- a slot is written: what lies elsewhere stands -/
theorem put_slot {Q : Unit → Shared → Prop} (X : K.In s.heap) (hm : s.heap.Ns L m) (hne : x ≠ L) (I : InstAt s.heap x ox C (some od))
    (hs : findIn K (.ref C) "__setattr__" = some (some (.builtin "object.__setattr__"))) (hp : plainOver K C = true) (ht : takerIn K C name = some (some (.ref p))) (hT : typeIn K (.ref p) = some (.type "member_descriptor")) (hi : slotIn K p C = some i) (hz : i < 1000)
    (h : ∀ h', h'.Ns L m → h'.get? x = some { ox with slots := (ox.slots ++ Array.replicate (i + 1 - ox.slots.size) none).setIfInBounds i (some v) } → (∀ b o, b ≠ L → b ≠ x → s.heap.get? b = some o → h'.get? b = some o) → Q () { s with heap := h', toks := s.toks + 1 })
    (hf : ({ ox with slots := (ox.slots ++ Array.replicate (i + 1 - ox.slots.size) none).setIfInBounds i (some v) } : Obj).isFreed = false) : wpAny (model prog w) A (setAttr (.ref x) name v) Q E s :=
  set_plain X I hs (osa_descr (s := { s with toks := s.toks + 1 }) KF.slot_mset X I hp ht hT (slot_set (s := { s with toks := s.toks + 1 }) (br_fr hm) (br_news I.at_ hne) X I hi hz (by simp) (fun q hq => (others_mem.mp hq).1.2) rfl hf fun h' F' N' =>
    h h' F'.ns (br_back N').1 (br_back N').2))
/-- a name of the object's own dict is written -/
theorem put_dict {Q : Unit → Shared → Prop} {es : List DictEntry} {n : Nat} {dx : Addr} (X : K.In s.heap) (hm : s.heap.Ns L m) (hne : dx ≠ L) (I : InstAt s.heap x ox C (some (dictOf es n))) (hd : ox.dict = some dx)
    (hs : findIn K (.ref C) "__setattr__" = some (some (.builtin "object.__setattr__"))) (hp : plainOver K C = true) (ht : takerIn K C name = some none) (hh : hasDictIn K C = true) (hl : (getL name es).isSome = true)
    (hz : (putL name (PyData.keyHash w.params name) (.str name (s.toks + 1)) v es).length ≤ 1000)
    (h : ∀ h', h'.Ns L m → h'.get? dx = some (dictOf (putL name (PyData.keyHash w.params name) (.str name (s.toks + 1)) v es) (putN name es n)) → (∀ b o, b ≠ L → b ≠ dx → s.heap.get? b = some o → h'.get? b = some o) → Q () { s with heap := h', toks := s.toks + 1 + 1 }) :
    wpAny (model prog w) A (setAttr (.ref x) name v) Q E s := by
  have hdx : s.heap.get? dx = some (dictOf es n) := by have := I.dict; rw [hd] at this; exact this
  exact set_plain X I hs (osa_dict (s := { s with toks := s.toks + 1 }) (br_fr hm) (br_news hdx hne) X I hd hp ht hh hl (by simp) (fun q hq => (others_mem.mp hq).1.2) (putName_dict _ _ _ _ _ _) rfl hz fun h' F' N' =>
    h h' F'.ns (br_back N').1 (br_back N').2)
/-- a slot is read -/
theorem take_slot {expr : Bool} {Q : Value → Shared → Prop} (X : K.In s.heap) (I : InstAt s.heap x ox C (some od)) (hg : plainGet K C name = true) (hc : isClsIn K C = true)
    (ha : findIn K (.ref C) name = some (some (.ref p))) (hn : specialIn K (.ref p) "__get__" = some (some (.builtin "member_descriptor.__get__"))) (ht : takesIn K (.ref p) = some true) (hp : slotIn K p C = some i)
    (hv : (ox.slots[i]?).join = some v) (hh : handedIn v = true) (h : Q v { s with toks := s.toks + 1 }) : wpAny (model prog w) A (getAttr (.ref x) name expr) Q E s :=
  get_bind X I (plainGet_of hg).1 (findObj_data hc ha hn ht) (plainGet_of hg).2 (wpAny_call (slot_get (s := { s with toks := s.toks + 1 }) X I hp hv (handed_on hh h)))
end
end
section
section
open Builtin Builtin.ObjectAttr Builtin.Getset_descriptor
variable {prog : Program} {w : World} {A : Around} {E : Value → Shared → Prop} {K : Frag} {x C : Addr} {ox od : Obj}
theorem class_by {tk : Tok} {Q : Value → Shared → Prop} {s : Shared} (X : K.In s.heap) (I : InstAt s.heap x ox C (some od)) (hg : plainGet K C "__class__" = true) (hm : mroIn K C (.type "object") = some true)
    (hf : findObj K C (some od) "__class__" = some (.bind (.builtin "getset_descriptor.__get__") (.builtin "object.__class__")))
    (h : Q (.ref C) s) : wpAny (model prog w) A (getAttrBy (.ref x) (.str "__class__" tk) false) Q E s := by
  obtain ⟨hh, g, d, t, os⟩ := s
  have L0 := I.type (M := model prog w)
  have L1 := looks_findIn (M := model prog w) X (plainGet_of hg).1
  have L2 := looks_find (M := model prog w) X I hf
  have L3 := looks_findIn (M := model prog w) X (plainGet_of hg).2
  unfold getAttrBy
  refine wpAny_holding (wpAny_bind (L0.at (wpAny_bind (L1.at ?_))))
  show wpAny _ _ (getAttrEveryday _ _ _) _ _ _
  refine wpAny_bind (wpAny_onRaise (wpAny_runValue (codeAny_builtin F.plainObj_entry_getattr_hooked ?_)))
  refine wpAny_bind (wpAny_pure (wpAny_bind (L0.at (wpAny_bind (L2.at (wpAny_bind (L3.at ?_)))))))
  show wpAny _ _ (holding [_] (call (.builtin "getset_descriptor.__get__") [.builtin "object.__class__", .ref x, .ref C]) >>= ret) _ _ _
  refine wpAny_bind (wpAny_holding (wpAny_call (class_get (s := ⟨hh, g, d, t, os⟩) X I hm ?_)))
  refine wpAny_pure ?_
  exact wpAny_pure h
theorem class_opt {Q : Option Value → Shared → Prop} {hh : Heap} {g : Array GenState} {d : Drawn} {t : Nat} {os : OsState} (X : K.In hh) (I : InstAt hh x ox C (some od)) (hg : plainGet K C "__class__" = true) (hm : mroIn K C (.type "object") = some true)
    (hf : findObj K C (some od) "__class__" = some (.bind (.builtin "getset_descriptor.__get__") (.builtin "object.__class__")))
    (hq : Q (some (.ref C)) ⟨hh, g, d, t + 1, os⟩) : wpAny (model prog w) A (getAttr? (.ref x) "__class__") Q E ⟨hh, g, d, t, os⟩ := by
  have hb : ∀ {A : Around} {E : Value → Shared → Prop} {tk : Tok} {Q : Value → Shared → Prop}, Q (.ref C) ⟨hh, g, d, t + 1, os⟩ → wpAny (model prog w) A (getAttrBy (.ref x) (.str "__class__" tk) false) Q E ⟨hh, g, d, t + 1, os⟩ := fun h => class_by X I hg hm hf h
  unfold getAttr? getAttrBy?
  repeat (any_goals (first | assumption | with_reducible refine hb ?_ | wp_step))
theorem isi_no_nested {D : Addr} {dep : Int} {tk : Tok} {Q : Fin → Shared → Prop} {s : Shared} (X : K.In s.heap) (I : InstAt s.heap x ox C (some od)) (hne : (Value.ref C == Value.ref D) = false) (hD : typeIn K (.ref D) = some (.type "type")) (hDt : instIn K (.ref D) (.type "type") = some true) (hDc : (clsIn K D).isSome = true)
    (hsub : subIn K (.ref C) (.ref D) = some false) (hCc : (clsIn K C).isSome = true) (hCt : instIn K (.ref C) (.type "type") = some true) (hg : plainGet K C "__class__" = true) (hm : mroIn K C (.type "object") = some true)
    (hf : findObj K C (some od) "__class__" = some (.bind (.builtin "getset_descriptor.__get__") (.builtin "object.__class__")))
    (h : Q (.done (.ret (.bool false))) { s with toks := s.toks + 1 }) : wpAny (model prog w) A (Builtin.«isinstance.nested» ⟨[.ref x, .ref D, .int dep tk], []⟩) Q E s := by
  obtain ⟨hh, g, d, tt, os⟩ := s
  have ht := I.type (M := model prog w)
  unfold Builtin.«isinstance.nested»
  refine wpAny_bind (ht.at ?_)
  rw [if_neg (by rw [hne]; exact Bool.false_ne_true)]
  have L1 := looks_typeIn (M := model prog w) X hD
  have L2 := looks_instIn (M := model prog w) X hDt
  have L3 : Looks (model prog w) hh (isInstance (.ref x) (.ref D)) false := ht.andThen (looks_subIn X hsub)
  have L4 := looks_instIn (M := model prog w) X hCt
  have L5 := looks_subIn (M := model prog w) X hsub
  refine wpAny_bind (L1.at ?_)
  rw [if_pos (by decide)]
  k_delta "plainIsInstance"
  unfold isType
  repeat lk
  obtain ⟨cD, hD'⟩ := Option.isSome_iff_exists.mp hDc
  obtain ⟨cC, hC'⟩ := Option.isSome_iff_exists.mp hCc
  unfold clsIn at hD' hC'
  split at hD'
  · rename_i ho
    cases hD'
    split at hC'
    · rename_i hoC
      cases hC'
      refine nd_load (X _ _ ho) (nd_pure (wpAny_pure ?_))
      simp only [Bool.not_true, Bool.false_eq_true, if_false]
      refine wpAny_bind (L3.at ?_)
      simp only [Bool.false_eq_true, if_false]
      refine wpAny_bind (class_opt X I hg hm hf ?_)
      dsimp only
      unfold loadHead loadPart
      repeat lk
      refine nd_load (X _ _ hoC) (nd_pure (wpAny_pure ?_))
      simp only [Bool.not_true, Bool.false_eq_true, if_false]
      refine wpAny_bind (wpAny_rule (L5.at ?_))
      exact wpAny_pure h
    · cases hC'
  · cases hD'
end
end
section
/-- what of a token never turns -/
structure TkI where
  a : Addr
  dx : Addr
  lx : Addr
  ldx : Addr
  es : List DictEntry
  n : Nat
  fn : Option Value
  ln : Option Value
  src : Option Value
  t1 : Tok
  t2 : Tok
  t3 : Tok
  sp : Str
  fst : Bool
  row : Int
  col : Int
noncomputable def tkObj (i : TkI) (typ val : Str) (t1 t2 : Tok) : Obj := { cls := .ref 199, dict := some i.dx, data := .plain, slots := #[some (.ref i.lx), some (.str typ t1), some (.str val t2)] }
noncomputable def locObj (i : TkI) : Obj := { cls := .ref 151, dict := some i.ldx, data := .plain, slots := #[some (.int i.col i.t1), i.fn, i.ln, some (.int i.row i.t2), i.src] }
structure TkC (i : TkI) (h : Heap) : Prop where
  d : h.get? i.dx = some (dictOf i.es i.n)
  sp : getL "space" i.es = some (some (.str i.sp i.t3))
  fs : getL "first" i.es = some (some (.bool i.fst))
  l : h.get? i.lx = some (locObj i)
  ld : h.get? i.ldx = some (dictOf [] 0)
noncomputable def TkM (i : TkI) (typ val : Str) (h : Heap) : Prop := ∃ t1 t2, h.get? i.a = some (tkObj i typ val t1 t2)
theorem TkC.keep {i : TkI} {h h' : Heap} (c : TkC i h) (k : Ext h h') : TkC i h' := ⟨k _ _ c.d, c.sp, c.fs, k _ _ c.l, k _ _ c.ld⟩
theorem TkM.keep {i : TkI} {typ val : Str} {h h' : Heap} (c : TkM i typ val h) (k : Ext h h') : TkM i typ val h' := let ⟨a, b, e⟩ := c; ⟨a, b, k _ _ e⟩
theorem tk_inst {i : TkI} {typ val : Str} {t1 t2 : Tok} {h : Heap} (e : h.get? i.a = some (tkObj i typ val t1 t2)) (c : TkC i h) : InstAt h i.a (tkObj i typ val t1 t2) 199 (some (dictOf i.es i.n)) := ⟨e, rfl, rfl, c.d⟩
theorem loc_inst {i : TkI} {h : Heap} (c : TkC i h) : InstAt h i.lx (locObj i) 151 (some (dictOf [] 0)) := ⟨c.l, rfl, rfl, c.ld⟩

section
variable {prog : Program} {w : World} {X : Addr → Prop} {d : Nat} {env : Env} {h : Heap}
noncomputable def Att (prog : Program) (w : World) (X : Addr → Prop) (h : Heap) (a : Addr) (name : Str) (z : V) : Prop :=
  ∀ (A : Around) (Q : Value → Shared → Prop) (E : Value → Shared → Prop) (s : Shared), Ext h s.heap → (∀ v h' tk, Ext s.heap h' → Con X h' z v → Q v { s with heap := h', toks := tk }) → wpAny (model prog w) A (getAttr (.ref a) name true) Q E s
theorem ev_att {e : PySem.Expr} {name : Str} {pos : Pos} {a : Addr} {z : V} (he : Ev prog w X d env h e (.ref a)) (ha : Att prog w X h a name z)
    (hs : eval (.Attribute e name pos) env = (do
      let o ← eval e env
      standAt pos.atName
      let r ← holding [o] (getAttr o name true)
      letTemporaryGo e o r
      pure r) := by with_unfolding_all rfl) : Ev prog w X d env h (.Attribute e name pos) z :=
  fun A Q E s g x q => Attribute_any_ (he A _ E s g x fun v h1 tk e1 c1 => by
    (first | apply c1.refG | apply c1.noneG | apply c1.boolG | (apply c1.strG; intro _) | (apply c1.intG; intro _)); clear c1
    exact ha A Q E _ (x.trans e1) fun r h2 tk2 e2 c2 => q r h2 tk2 (e1.trans e2) c2) hs
variable {i : TkI} {typ val : Str}
theorem att_typ (W : (KK w).In h) (c : TkC i h) (m : TkM i typ val h) : Att prog w X h i.a "typ" (.str typ) := fun A Q E s x q => by
  obtain ⟨t1, t2, e⟩ := m.keep x
  exact take_slot (p := 121) (i := 1) (W.keeps x) (tk_inst e (c.keep x)) (by kernel_rfl) (by kernel_rfl) (by kernel_rfl) (by kernel_rfl) (by kernel_rfl) (by kernel_rfl) (v := .str typ t1) rfl rfl (q _ s.heap _ (.refl _) (.str _ _))
theorem att_val (W : (KK w).In h) (c : TkC i h) (m : TkM i typ val h) : Att prog w X h i.a "val" (.str val) := fun A Q E s x q => by
  obtain ⟨t1, t2, e⟩ := m.keep x
  exact take_slot (p := 122) (i := 2) (W.keeps x) (tk_inst e (c.keep x)) (by kernel_rfl) (by kernel_rfl) (by kernel_rfl) (by kernel_rfl) (by kernel_rfl) (by kernel_rfl) (v := .str val t2) rfl rfl (q _ s.heap _ (.refl _) (.str _ _))
theorem att_loc (W : (KK w).In h) (c : TkC i h) (m : TkM i typ val h) : Att prog w X h i.a "loc" (.ref i.lx) := fun A Q E s x q => by
  obtain ⟨t1, t2, e⟩ := m.keep x
  exact take_slot (p := 120) (i := 0) (W.keeps x) (tk_inst e (c.keep x)) (by kernel_rfl) (by kernel_rfl) (by kernel_rfl) (by kernel_rfl) (by kernel_rfl) (by kernel_rfl) (v := .ref i.lx) rfl rfl (q _ s.heap _ (.refl _) (.ref _))
theorem att_row (W : (KK w).In h) (c : TkC i h) : Att prog w X h i.lx "row" (.int i.row) := fun A Q E s x q =>
  take_slot (p := 155) (i := 3) (W.keeps x) (loc_inst (c.keep x)) (by kernel_rfl) (by kernel_rfl) (by kernel_rfl) (by kernel_rfl) (by kernel_rfl) (by kernel_rfl) (v := .int i.row i.t2) rfl rfl (q _ s.heap _ (.refl _) (.int _ _))
theorem att_col (W : (KK w).In h) (c : TkC i h) : Att prog w X h i.lx "col" (.int i.col) := fun A Q E s x q =>
  take_slot (p := 152) (i := 0) (W.keeps x) (loc_inst (c.keep x)) (by kernel_rfl) (by kernel_rfl) (by kernel_rfl) (by kernel_rfl) (by kernel_rfl) (by kernel_rfl) (v := .int i.col i.t1) rfl rfl (q _ s.heap _ (.refl _) (.int _ _))
theorem own_find {w : World} {es : List DictEntry} {n : Nat} {name : Str} {v : Value} (hf : findIn (KK w) (.ref 199) name = some none) (hl : getL name es = some (some v)) : findObj (KK w) 199 (some (dictOf es n)) name = some (.value v) := by
  obtain ⟨cd, hc⟩ : ∃ cd, clsIn (KK w) 199 = some cd := ⟨_, rfl⟩
  have hd : cd.hasDict = true := by
    have : (clsIn (KK w) 199).any (·.hasDict) = true := by kernel_rfl
    rw [hc] at this; exact this
  unfold findObj
  rw [hc, Option.bind_some, hf]
  simp only [Option.bind_some]
  unfold PySem.W.ownOf
  rw [hd, if_pos rfl]
  dsimp only
  rw [lookIn_dict, hl]
  rfl
theorem att_space (W : (KK w).In h) (c : TkC i h) (m : TkM i typ val h) : Att prog w X h i.a "space" (.str i.sp) := fun A Q E s x q => by
  obtain ⟨t1, t2, e⟩ := m.keep x
  exact get_value (W.keeps x) (tk_inst e (c.keep x)) (by kernel_rfl) (own_find (by kernel_rfl) c.sp) rfl (q _ s.heap _ (.refl _) (.str _ _))
theorem att_first (W : (KK w).In h) (c : TkC i h) (m : TkM i typ val h) : Att prog w X h i.a "first" (.bool i.fst) := fun A Q E s x q => by
  obtain ⟨t1, t2, e⟩ := m.keep x
  exact get_value (W.keeps x) (tk_inst e (c.keep x)) (by kernel_rfl) (own_find (by kernel_rfl) c.fs) rfl (q _ s.heap _ (.refl _) (.bool _))
end
end
section
section
variable {K : Frag} {mg mb : Str → Option Value} {prog : Program} {w : World} {Z : Addr → Prop} {d : Nat} {env : Env} {sc : Scope} {h₀ : Heap} {σ s : Shared} {Ow : Heap → Prop} {l : List (Str × V)}
variable {A : Around} {rest : List Stmt} {Q : Flow → Shared → Prop} {E : Value → Shared → Prop}
/-- something of one's own has turned, the frame's names as they were -/
theorem Fs.turnN (F : Fs K mg mb env sc Z h₀ σ Ow l s) {m : Str → Option Value} (hm : ∀ n x, l.lookup n = some x → ∃ v, m n = some v ∧ Con Z s.heap x v) {x : Addr} {h' : Heap} {tk : Nat} {Ow' : Heap → Prop} (hz : Z x ∧ h₀.get? x = none ∧ x ≠ env.locals)
    (hn : h'.Ns env.locals m) (hk : ∀ b o, b ≠ env.locals → b ≠ x → s.heap.get? b = some o → h'.get? b = some o) (hsome : (h'.get? x).isSome = true)
    (h : Ow' h') (fp : List Addr) (hf : env.locals ∉ fp) (hfs : ∀ a ∈ fp, (h'.get? a).isSome = true) (hk' : ∀ h h' : Heap, (∀ b ∈ fp, ∀ o, h.get? b = some o → h'.get? b = some o) → Ow' h → Ow' h') : Fs K mg mb env sc Z h₀ σ Ow' l { s with heap := h', toks := tk } where
  same := let ⟨_, _, q⟩ := F.same; ⟨h', tk, by rw [q]⟩
  base := fun b o e => hk b o (by first | with_reducible exact neN F.nL e | exact fun q => by rw [q, F.nL] at e; cases e) (by first | with_reducible exact neN hz.2.1 e | exact fun q => by rw [q, hz.2.1] at e; cases e) (F.base b o e)
  wd := F.wd
  xa := fun a q => by
    by_cases m1 : a = x
    · subst m1; exact hsome
    · by_cases m2 : a = env.locals
      · subst m2; obtain ⟨o, _, _, ho, _⟩ := hn; show (h'.get? env.locals).isSome = true; rw [ho]; rfl
      · obtain ⟨o, ho⟩ := Option.isSome_iff_exists.mp (F.xa a q)
        show (h'.get? a).isSome = true
        rw [hk a o m2 m1 ho]; rfl
  hsc := F.hsc
  eg := F.eg
  eb := F.eb
  ek := F.ek
  zL := F.zL
  nL := F.nL
  ow := h
  owf := ⟨fp, hf, hfs, hk'⟩
  ns := ⟨m, hn, fun n y q => let ⟨v, p, c⟩ := hm n y q; ⟨v, p, c.keepX fun b o nb e => hk b o (fun q => nb (q ▸ F.zL)) (fun q => nb (q ▸ hz.1)) e⟩⟩
theorem s_setatt {x : V} {a : Addr} {e o : PySem.Expr} {name : Str} {p' q : Pos} {Ow' : Heap → Prop} (F : Fs K mg mb env sc Z h₀ σ Ow l s) (g : Gd d A) (he : Ev prog w Z d env s.heap e x) (ho : Ev prog w Z d env s.heap o (.ref a))
    (hZ : Z a ∧ h₀.get? a = none ∧ a ≠ env.locals)
    (hset : ∀ (s1 : Shared) (v : Value) (m : Str → Option Value) (Q : Unit → Shared → Prop) (E : Value → Shared → Prop), Ext s.heap s1.heap → Con Z s1.heap x v → s1.heap.Ns env.locals m →
      (∀ h' tk, h'.Ns env.locals m → (∀ b o, b ≠ env.locals → b ≠ a → s1.heap.get? b = some o → h'.get? b = some o) → (h'.get? a).isSome = true → Ow' h' → Q () { s1 with heap := h', toks := tk }) → wpAny (model prog w) A (setAttr (.ref a) name v) Q E s1)
    (fp : List Addr) (hf : env.locals ∉ fp) (hfs : ∀ h, Ow' h → ∀ b ∈ fp, (h.get? b).isSome = true) (hkp : ∀ h h' : Heap, (∀ b ∈ fp, ∀ o, h.get? b = some o → h'.get? b = some o) → Ow' h → Ow' h')
    (k : ∀ s', Fs K mg mb env sc Z h₀ σ Ow' l s' → wpAny (model prog w) A (execs rest env) Q E s')
    (hs : swapsWith e (some (.Attribute o name p')) q.line env = pure false := by rfl) : wpAny (model prog w) A (execs (.Assign [.Attribute o name p'] e q :: rest) env) Q E s := by
  refine wpAny_execs_cons (plainObj_wpAny_Assign_Attribute (he A _ E s g (.refl _) fun v h1 tk1 e1 c1 => ho A _ E _ g e1 fun u h2 tk2 e2 c2 => ?_) hs)
  (first | apply c2.refG | apply c2.noneG | apply c2.boolG | (apply c2.strG; intro _) | (apply c2.intG; intro _)); clear c2
  have F2 := F.ext (tk := tk2) (e1.trans e2)
  obtain ⟨m, hn, hv⟩ := F2.ns
  refine hset { s with heap := h2, toks := tk2 } v m _ _ (e1.trans e2) (c1.keep e2) hn fun h' tk hn' hk hsome how => ?_
  exact k _ (F2.turnN hv hZ hn' hk hsome how fp hf (hfs h' how) hkp)
theorem put_typ {w : World} {i : TkI} {typ val new : Str} {s1 : Shared} {v : Value} {m : Str → Option Value} {L : Addr} {X : Addr → Prop} {Q : Unit → Shared → Prop} (W : (KK w).In s1.heap) (c : TkC i s1.heap) (tm : TkM i typ val s1.heap) (cv : Con X s1.heap (.str new) v) (hm : s1.heap.Ns L m) (hne : i.a ≠ L)
    (h : ∀ h' tk, h'.Ns L m → (∀ b o, b ≠ L → b ≠ i.a → s1.heap.get? b = some o → h'.get? b = some o) → (h'.get? i.a).isSome = true → TkM i new val h' → Q () { s1 with heap := h', toks := tk }) : wpAny (model prog w) A (setAttr (.ref i.a) "typ" v) Q E s1 := by
  obtain ⟨t1, t2, e⟩ := tm
  cases cv
  refine put_slot (p := 121) (i := 1) W hm hne (tk_inst e c) (by kernel_rfl) (by kernel_rfl) (by kernel_rfl) (by kernel_rfl) (by kernel_rfl) (by decide) (fun h' hn hx hk => h h' _ hn hk (by rw [hx]; rfl) ⟨_, t2, hx⟩) rfl
theorem put_val {w : World} {i : TkI} {typ val new : Str} {s1 : Shared} {v : Value} {m : Str → Option Value} {L : Addr} {X : Addr → Prop} {Q : Unit → Shared → Prop} (W : (KK w).In s1.heap) (c : TkC i s1.heap) (tm : TkM i typ val s1.heap) (cv : Con X s1.heap (.str new) v) (hm : s1.heap.Ns L m) (hne : i.a ≠ L)
    (h : ∀ h' tk, h'.Ns L m → (∀ b o, b ≠ L → b ≠ i.a → s1.heap.get? b = some o → h'.get? b = some o) → (h'.get? i.a).isSome = true → TkM i typ new h' → Q () { s1 with heap := h', toks := tk }) : wpAny (model prog w) A (setAttr (.ref i.a) "val" v) Q E s1 := by
  obtain ⟨t1, t2, e⟩ := tm
  cases cv
  refine put_slot (p := 122) (i := 2) W hm hne (tk_inst e c) (by kernel_rfl) (by kernel_rfl) (by kernel_rfl) (by kernel_rfl) (by kernel_rfl) (by decide) (fun h' hn hx hk => h h' _ hn hk (by rw [hx]; rfl) ⟨t1, _, hx⟩) rfl
end
end
section
section
variable {prog : Program} {w : World} {A : Around} {R : GenEnd} {Y : Protocol} {n : Nat} {s₀ : Shared} {c : Code} {fs : List Frame} {s : Shared} {env : Env}
  {K : Flow → Sem Fin} {H : Value → Sem Fin} {gd : Bool → Bool} {lv : List Value → List Value}
/-- what stands behind a loop of its own code -/
noncomputable def backOf (env : Env) (K : Flow → Sem Fin) (H : Value → Sem Fin) (gd : Bool → Bool) (lv : List Value → List Value) (r : Result) : Sem Fin :=
  ((match r with | .ok f => (.pure f : Sem Flow) | .error e => .raise e).onRaise fun (x : Value) => do
        if (← field x 1) == Value.none then unsupported "frame.own-activation:exception-without-traceback"
        setFlight x env.frame).wrap K H gd lv
theorem seg_For {target iter : PySem.Expr} {body : List Stmt} {pos : Pos}
    (h : wpAny (model prog w) (A.over c fs) (eval iter env) (fun x s1 => wpAny (model prog w) (A.over c fs) (pyIter x) (fun it s2 => ∀ p, Seg (model prog w) A R Y n s₀ (.forLoop target it body [] env) ((model prog w).den (.forLoop target it body [] env))
      (.ret (backOf env K H gd lv) none (gd false) (lv []) c p [] :: fs) s2) (fun e s' => Seg (model prog w) A R Y n s₀ c (H e) fs s') s1) (fun e s' => Seg (model prog w) A R Y n s₀ c (H e) fs s') s)
    (hs : ∀ v, foldedSetIterable iter env v = pure v := by intro _; rfl) : Seg (model prog w) A R Y n s₀ c ((exec (.For target iter body [] pos) env).wrap K H gd lv) fs s := by
  have e : exec (.For target iter body [] pos) env = ((do standAt pos; let x ← foldedSetIterable iter env (← eval iter env); standAt iter.pos; holding [x] (pyIter x)) >>= fun it => runOwn (.forLoop target it body [] env) env : Sem Flow) := by
    show (do standAt pos; let x ← foldedSetIterable iter env (← eval iter env); standAt iter.pos; runOwn (.forLoop target (← holding [x] (pyIter x)) body [] env) env : Sem Flow) = _
    simp only [bind_assoc]
  rw [e, Sem.bind_eq_wrap', Sem.wrap_wrap]
  refine seg_wrap (wpAny_bind (wpAny_standAt (wpAny_bind (wpAny_mono h (fun x s1 h1 => ?_) fun _ _ x => x))))
  refine wpAny_bind ?_
  rw [hs]
  refine wpAny_pure (wpAny_bind (wpAny_standAt (wpAny_holding (wpAny_mono h1 (fun it s2 h2 => ?_) fun _ _ x => x))))
  exact seg_call h2
/-- what the loop does with an exception -/
noncomputable def lostAt (env : Env) (e : Value) : Sem Fin := (do noteFrame e env; theTreesLotGoes e : Sem Unit).wrap (fun _ => .raise e) .raise id id
noncomputable def turnOf (nm : Str) (tp : Pos) (it : Value) (body : List Stmt) (env : Env) : Flow → Sem Fin
  | .next | .cont => .pure (.again (.forLoop (.Name nm tp) it body [] env))
  | .brk => .pure (.done .next)
  | .ret v => .pure (.done (.ret v))
theorem seg_forLoop {nm : Str} {tp : Pos} {it : Value} {body : List Stmt}
    (h : wpAny (model prog w) (A.over (.forLoop (.Name nm tp) it body [] env) fs) (pyNext it) (fun o s1 => match o with
        | none => Seg (model prog w) A R Y n s₀ (.block [] env) ((model prog w).den (.block [] env)) fs s1
        | some v => wpAny (model prog w) (A.over (.forLoop (.Name nm tp) it body [] env) fs) (storeName env nm v) (fun _ s2 => Seg (model prog w) A R Y n s₀ (.forLoop (.Name nm tp) it body [] env) ((execs body env).wrap (turnOf nm tp it body env) (lostAt env) id id) fs s2) (fun _ _ => False) s1) (fun _ _ => False) s) :
    Seg (model prog w) A R Y n s₀ (.forLoop (.Name nm tp) it body [] env) ((model prog w).den (.forLoop (.Name nm tp) it body [] env)) fs s := by
  show Seg _ A R Y n s₀ _ ((forTurn (.Name nm tp) it body [] env).onRaise (fun x => do noteFrame x env; theTreesLotGoes x)) fs s
  rw [Sem.onRaise_eq_wrap]
  have e : forTurn (.Name nm tp) it body [] env = ((do standAt tp; (pyNext it).onRaise (fun _ => standAt { tp with line := 0 })) >>= fun o => match o with
    | none => .pure (.again (.block [] env))
    | some v => (do letOwnedTupleGo (.Name nm tp) it v; assign (.Name nm tp) env v) >>= fun _ => execs body env >>= turnOf nm tp it body env : Sem Fin) := by
    unfold forTurn
    simp only [bind_assoc]
    refine congrArg _ (funext fun _ => congrArg _ (funext fun o => ?_))
    cases o with
    | none => rfl
    | some v => exact congrArg _ (funext fun _ => congrArg _ (funext fun _ => congrArg _ (funext fun f => by cases f <;> rfl)))
  rw [e, Sem.bind_eq_wrap', Sem.wrap_wrap]
  refine seg_wrap (wpAny_bind (wpAny_standAt (wpAny_onRaise (wpAny_mono h (fun o s1 h1 => ?_) fun _ _ x => x.elim))))
  cases o with
  | none => exact seg_again rfl h1
  | some v =>
    show Seg _ A R Y n s₀ _ (Sem.wrap _ _ _ _ ((do letOwnedTupleGo (.Name nm tp) it v; assign (.Name nm tp) env v) >>= _)) fs s1
    rw [Sem.bind_eq_wrap', Sem.wrap_wrap]
    refine seg_wrap (wpAny_bind (wpAny_of_eq (a := ()) (by rfl) (PyProof.Rows.assign_Name (wpAny_mono h1 (fun _ s2 h2 => ?_) fun _ _ x => x.elim))))
    show Seg _ A R Y n s₀ _ (Sem.wrap _ _ _ _ (execs body env >>= _)) fs s2
    rw [Sem.bind_eq_wrap', Sem.wrap_wrap]
    rw [Sem.wrap_congr (execs body env) _ _ (K' := turnOf nm tp it body env) (H' := lostAt env) (fun f => by cases f <;> rfl) (fun e => by unfold lostAt; rw [← Sem.bind_eq_wrap]; rfl)]
    exact h2
end
end
section
/-- what a step may turn: its own addresses, its own generators -/
structure Chg (own : Addr → Prop) (gn : Nat → Prop) (s s' : Shared) : Prop where
  hp : ∀ b o, ¬ own b → s.heap.get? b = some o → s'.heap.get? b = some o
  gs : s'.gens.size = s.gens.size
  gk : ∀ g, ¬ gn g → s'.gens[g]? = s.gens[g]?
  dr : s'.drawn = s.drawn
  os : s'.os = s.os
theorem Chg.refl {own : Addr → Prop} {gn : Nat → Prop} (s : Shared) : Chg own gn s s := ⟨fun _ _ _ e => e, rfl, fun _ _ => rfl, rfl, rfl⟩
theorem Chg.trans {own : Addr → Prop} {gn : Nat → Prop} {a b c : Shared} (x : Chg own gn a b) (y : Chg own gn b c) : Chg own gn a c :=
  ⟨fun p o n e => y.hp p o n (x.hp p o n e), y.gs.trans x.gs, fun g n => (y.gk g n).trans (x.gk g n), y.dr.trans x.dr, y.os.trans x.os⟩
theorem Chg.more {own own' : Addr → Prop} {gn gn' : Nat → Prop} {a b : Shared} (x : Chg own gn a b) (h1 : ∀ p, own p → own' p) (h2 : ∀ g, gn g → gn' g) : Chg own' gn' a b :=
  ⟨fun p o n e => x.hp p o (fun q => n (h1 p q)) e, x.gs, fun g n => x.gk g (fun q => n (h2 g q)), x.dr, x.os⟩
theorem Chg.heap {own : Addr → Prop} {gn : Nat → Prop} {s : Shared} {h' : Heap} {tk : Nat} (h : ∀ b o, ¬ own b → s.heap.get? b = some o → h'.get? b = some o) : Chg own gn s { s with heap := h', toks := tk } := ⟨h, rfl, fun _ _ => rfl, rfl, rfl⟩
/-- what a step stands on has not turned -/
structure Agr (uses : Addr → Prop) (gn : Nat → Prop) (s s' : Shared) : Prop where
  hp : ∀ b o, uses b → s.heap.get? b = some o → s'.heap.get? b = some o
  gk : ∀ g, gn g → s'.gens[g]? = s.gens[g]?
/-- a stream: m more will come -/
structure Strm (prog : Program) (w : World) (A : Around) (I : Addr) (own uses : Nat → Addr → Prop) (gn : Nat → Prop) (em : Nat → Addr) (Inv : Nat → Shared → Prop) (Done : Shared → Prop) (Post : Nat → Shared → Prop) : Prop where
  zero : ∀ (s : Shared) (Q : Option Value → Shared → Prop) (E : Value → Shared → Prop), Inv 0 s → (∀ s', Chg (own 0) gn s s' → Done s' → Q none s') → wpAny (model prog w) A (pyNext (.ref I)) Q E s
  succ : ∀ (m : Nat) (s : Shared) (Q : Option Value → Shared → Prop) (E : Value → Shared → Prop), Inv (m + 1) s → (∀ s', Chg (own (m + 1)) gn s s' → Inv m s' → Post m s' → Q (some (.ref (em m))) s') → wpAny (model prog w) A (pyNext (.ref I)) Q E s
  iter : ∀ (m : Nat) (s : Shared) (Q : Value → Shared → Prop) (E : Value → Shared → Prop), Inv m s → Q (.ref I) s → wpAny (model prog w) A (pyIter (.ref I)) Q E s
  keep : ∀ (m : Nat) (s s' : Shared), Inv m s → Agr (uses m) gn s s' → Inv m s'
end
section
section
variable (prog : Program) (w : World) (A : Around) (I : Addr) (g : Nat) (own uses : Nat → Addr → Prop) (gn : Nat → Prop) (em : Nat → Addr) (Done : Shared → Prop) (Post : Nat → Shared → Prop)
noncomputable def GP (n : Nat) (s₀ s₁ : Shared) : Prop := n = 0 ∧ Chg (own 0) gn s₀ s₁ ∧ Done s₁
noncomputable def GY : Protocol := fun m s₀ v s₁ kap => v = .ref (em m) ∧ Chg (own (m + 1)) gn s₀ s₁ ∧ Post m s₁ ∧ ∀ s'', Agr (uses m) gn s₁ s'' → kap (.send .none) s''
noncomputable def GInv (m : Nat) (s : Shared) : Prop := s.heap.IsGen I g ∧ s.heap.NoLimit ∧ ∃ gs, s.gens[g]? = some gs ∧ ∀ s' : Shared, Agr (uses m) gn s s' → s'.gens[g]? = some gs →
    gs.Goes (model prog w) A.in1 (fun n s₀ r s₁ => r = .ok (.ret .none) ∧ GP own gn Done n s₀ s₁) (GY own uses gn em Post) m (.send .none) (s'.setGen g .running)
variable {prog w A I g own uses gn em Done Post}
theorem NoLimit_at {h h' : Heap} (x : h.NoLimit) (k : ∀ o, h.get? cStatics = some o → h'.get? cStatics = some o) : h'.NoLimit := by
  obtain ⟨mc, hns, hnn⟩ := x
  exact ⟨mc, hns.at k, hnn⟩
theorem IsGen_at {h h' : Heap} (x : h.IsGen I g) (k : ∀ o, h.get? I = some o → h'.get? I = some o) : h'.IsGen I g := let ⟨o, nm, qn, ho, r⟩ := x; ⟨o, nm, qn, k o ho, r⟩
theorem setGen_other {s : Shared} {g k : Nat} {x : GenState} (h : k ≠ g) : (s.setGen g x).gens[k]? = s.gens[k]? := by
  unfold Shared.setGen
  simp [Array.getElem?_setIfInBounds, Ne.symm h]
theorem setGen_size {s : Shared} {g : Nat} {x : GenState} : (s.setGen g x).gens.size = s.gens.size := by unfold Shared.setGen; simp
end
end
section
section
variable {M : Model} {A : Around} {R : GenEnd} {Y : Protocol} {n : Nat} {s₀ : Shared} {c : Code} {fs : List Frame} {s : Shared} {env : Env}
  {K : Flow → Sem Fin} {H : Value → Sem Fin} {gd : Bool → Bool} {lv : List Value → List Value}
theorem seg_If {test : PySem.Expr} {b o : List Stmt} {pos : Pos}
    (h : wpAny M (A.over c fs) (PySem.isTrue test env (eval test env)) (fun x s1 => if x = true then Seg M A R Y n s₀ c ((execs b env).wrap K H gd lv) fs s1 else Seg M A R Y n s₀ c ((execs o env).wrap K H gd lv) fs s1) (fun _ _ => False) s) :
    Seg M A R Y n s₀ c ((exec (.If test b o pos) env).wrap K H gd lv) fs s := by
  have e : exec (.If test b o pos) env = ((do standAt pos; PySem.isTrue test env (eval test env)) >>= fun x => if x = true then execs b env else execs o env : Sem Flow) := by
    show (do standAt pos; if ← PySem.isTrue test env (eval test env) then execs b env else execs o env : Sem Flow) = _
    simp only [bind_assoc]
  rw [e, Sem.bind_eq_wrap', Sem.wrap_wrap]
  refine seg_wrap (wpAny_bind (wpAny_standAt (wpAny_mono h (fun x s1 h1 => ?_) fun _ _ x => x.elim)))
  cases x with
  | true => exact h1
  | false => exact h1
theorem seg_Pass {pos : Pos} (h : Seg M A R Y n s₀ c (K .next) fs s) : Seg M A R Y n s₀ c ((exec (.Pass pos) env).wrap K H gd lv) fs s := seg_wrap (wpAny_Pass h)
end
end
section
section
variable {prog : Program} {w : World} {A : Around} {s : Shared}
end
end
section
open PySem PySem.W PyProof.Rows PySem.Calls PySem.SeqAt
section
variable {prog : Program} {w : World} {X : Addr → Prop} {d : Nat} {env : Env} {h : Heap}
noncomputable def sameStr (a : Str) : Value → Bool
  | .str x _ => decide (x = a)
  | _ => false
theorem strs_any {a : Str} {vs : List Value} {ys : List Str} (h : StrsAre vs ys) : vs.any (sameStr a) = ys.contains a := by
  induction h with
  | nil => rfl
  | cons x t _ ih =>
    rename_i vs ys
    rw [List.any_cons, ih, List.contains_cons]
    congr 1
    show decide (x = a) = (a == x)
    rw [Bool.eq_iff_iff]
    exact ⟨fun q => beq_iff_eq.mpr (of_decide_eq_true q).symm, fun q => decide_eq_true (beq_iff_eq.mp q).symm⟩
theorem strs_all {vs : List Value} {ys : List Str} (h : StrsAre vs ys) : ∀ y ∈ vs, ∃ x t, y = .str x t := by
  induction h with
  | nil => simp
  | cons x t _ ih =>
    intro y hy
    rcases List.mem_cons.mp hy with rfl | hy
    · exact ⟨x, t, rfl⟩
    · exact ih y hy
theorem strs_eqAt {A : Around} {s : Shared} {a : Str} {t : Tok} {vs : List Value} {ys : List Str} (h : StrsAre vs ys) : ∀ y, y ∈ vs.toArray → EqAt A s y (.str a t) (sameStr a y) := fun y hy prog w E Q hq => by
  obtain ⟨x, u, rfl⟩ := strs_all h y (by simpa using hy)
  exact (strKind prog w).eqBool (strKind_is prog w x u) (strKind_is prog w a t) hq
theorem op_inLs {a : Str} {ys : List Str} : Op2 prog w X d h (compareOp .In) (.str a) (.lst (ys.map .str)) (.bool (ys.contains a)) := fun h' u v e0 c1 c2 A Q E s g e q => by
  (first | apply c1.refG | apply c1.noneG | apply c1.boolG | (apply c1.strG; intro _) | (apply c1.intG; intro _)); clear c1
  cases c2 with
  | lst ho hx hl =>
    have hs := con_strs hl
    refine in_listAt (sameStr a) ⟨_, e _ _ ho, rfl, _, rfl⟩ (strs_eqAt hs) ?_
    rw [List.any_toArray, strs_any hs]
    exact q _ s.heap s.toks (.refl _) (.bool _)
end
end
section
section
variable {prog : Program} {w : World} {X : Addr → Prop} {d : Nat} {env : Env} {h : Heap}
/-- isinstance(token, LineInfo) -/
theorem bi_isi_mark {a : Addr} {o : Obj} (W : (KK w).In h) (ha : h.get? a = some o) (hc : o.cls = .ref 47) : ∀ A Q E (s : Shared), Ext h s.heap → Q (.bool true) s → wpAny (model prog w) A (call (.builtin "isinstance") [.ref a, .ref 47]) Q E s := fun A Q E s x q =>
  isi_call (K := KK w) (W.keeps x) (t := .ref 47) (fun M => by rw [← hc]; exact (Looks.ld (x _ _ ha)).andThen .now) (by kernel_rfl) (by intro e; cases e) q
theorem bi_isi_tok {i : TkI} {typ val : Str} (W : (KK w).In h) (c : TkC i h) (m : TkM i typ val h) : ∀ A Q E (s : Shared), Ext h s.heap → Q (.bool false) { s with toks := s.toks + 1 } → wpAny (model prog w) A (call (.builtin "isinstance") [.ref i.a, .ref 47]) Q E s := fun A Q E s x q => by
  obtain ⟨t1, t2, e⟩ := m.keep x
  refine call_isinstance (S := fun _ R s' => s' = s ∧ R (.ok (.ret (.bool false))) { s with toks := s.toks + 1 }) (fun _ _ _ _ _ hs => isinstance_outer ?_ (by intro e; cases e)) ⟨rfl, q⟩
  obtain ⟨rfl, hq⟩ := hs
  exact isi_no_nested (K := KK w) (C := 199) (W.keeps x) (tk_inst e (c.keep x)) (by decide) (by kernel_rfl) (by kernel_rfl) (by kernel_rfl) (by kernel_rfl) (by kernel_rfl) (by kernel_rfl) (by kernel_rfl) (by kernel_rfl) (findObj_data (by kernel_rfl) (by kernel_rfl) (by kernel_rfl) (by kernel_rfl)) hq
end
end
section
/-- the heap with some addresses taken out -/
noncomputable def punch (h : Heap) (zs : List Addr) : Heap := ⟨h.objs.mapIdx fun i o => if i ∈ zs then { cls := .none, data := .freed } else o, h.life⟩
theorem punch_get (h : Heap) (zs : List Addr) (a : Addr) : (punch h zs).get? a = if a ∈ zs then none else h.get? a := by
  unfold punch Heap.get?
  simp only [Array.getElem?_mapIdx]
  by_cases m : a ∈ zs
  · rw [if_pos m]
    cases h.objs[a]? with
    | none => rfl
    | some o => simp [m]
  · rw [if_neg m]
    cases h.objs[a]? with
    | none => rfl
    | some o => simp [m]
theorem punch_ext (h : Heap) (zs : List Addr) : Ext (punch h zs) h := fun b o e => by
  rw [punch_get] at e
  split at e
  · cases e
  · exact e
theorem ext_punch {hb h : Heap} {zs : List Addr} (x : Ext hb h) (n : ∀ z ∈ zs, hb.get? z = none) : Ext hb (punch h zs) := fun b o e => by
  rw [punch_get, if_neg (fun m => by rw [n b m] at e; cases e)]
  exact x b o e
theorem punch_keep {h h' : Heap} {zs : List Addr} (x : Ext (punch h zs) h') : ∀ b o, b ∉ zs → h.get? b = some o → h'.get? b = some o := fun b o n e => x b o (by rw [punch_get, if_neg n]; exact e)

section
variable {K : Frag} {mg mb : Str → Option Value} {prog : Program} {w : World} {Z : Addr → Prop} {d : Nat} {env : Env} {sc : Scope} {h₀ : Heap} {σ s : Shared} {Ow : Heap → Prop} {l : List (Str × V)}
/-- what a frame stands on -/
structure Fenv (env : Env) (sc : Scope) : Prop where
  hsc : env.scope = sc
  eg : env.globals = mainGlobals
  eb : env.builtins = builtinsNs
  ek : sc.kind = .function
/-- a frame anew: all but zs stands from here on -/
theorem mkFs {hb : Heap} {zs : List Addr} {m : Str → Option Value} (fe : Fenv env sc) (W : Wd K mg mb hb) (x : Ext hb s.heap) (hz : ∀ z ∈ zs, hb.get? z = none ∧ (s.heap.get? z).isSome = true) (hL : env.locals ∈ zs)
    (hm : s.heap.Ns env.locals m) (hl : ∀ n y, l.lookup n = some y → ∃ v, m n = some v ∧ Con (· ∈ zs) s.heap y v)
    (ow : Ow s.heap) (fp : List Addr) (hf : env.locals ∉ fp) (hfs : ∀ a ∈ fp, (s.heap.get? a).isSome = true) (hk : ∀ h h' : Heap, (∀ b ∈ fp, ∀ o, h.get? b = some o → h'.get? b = some o) → Ow h → Ow h') :
    Fs K mg mb env sc (· ∈ zs) (punch s.heap zs) s Ow l s where
  same := ⟨s.heap, s.toks, rfl⟩
  base := punch_ext _ _
  wd := W.keep (ext_punch x fun z m => (hz z m).1)
  xa := fun a m => (hz a m).2
  hsc := fe.hsc
  eg := fe.eg
  eb := fe.eb
  ek := fe.ek
  zL := hL
  nL := by rw [punch_get, if_pos hL]
  ow := ow
  owf := ⟨fp, hf, hfs, hk⟩
  ns := ⟨m, hm, hl⟩
theorem Fs.gens (F : Fs K mg mb env sc Z h₀ σ Ow l s) : s.gens = σ.gens ∧ s.drawn = σ.drawn ∧ s.os = σ.os := by
  obtain ⟨h, tk, rfl⟩ := F.same; exact ⟨rfl, rfl, rfl⟩
end

/-- what a step may turn: its own addresses, its own generators -/
structure Chg2 (own : Addr → Prop) (gn : Nat → Prop) (s s' : Shared) : Prop where
  hp : ∀ b o, ¬ own b → s.heap.get? b = some o → s'.heap.get? b = some o
  gk : ∀ g, ¬ gn g → s'.gens[g]? = s.gens[g]?
  dr : s'.drawn = s.drawn
  os : s'.os = s.os
theorem Chg2.refl {own : Addr → Prop} {gn : Nat → Prop} (s : Shared) : Chg2 own gn s s := ⟨fun _ _ _ e => e, fun _ _ => rfl, rfl, rfl⟩
theorem Chg2.trans {own : Addr → Prop} {gn : Nat → Prop} {a b c : Shared} (x : Chg2 own gn a b) (y : Chg2 own gn b c) : Chg2 own gn a c :=
  ⟨fun p o n e => y.hp p o n (x.hp p o n e), fun g n => (y.gk g n).trans (x.gk g n), y.dr.trans x.dr, y.os.trans x.os⟩
theorem Chg2.more {own own' : Addr → Prop} {gn gn' : Nat → Prop} {a b : Shared} (x : Chg2 own gn a b) (h1 : ∀ p, own p → own' p) (h2 : ∀ g, gn g → gn' g) : Chg2 own' gn' a b :=
  ⟨fun p o n e => x.hp p o (fun q => n (h1 p q)) e, fun g n => x.gk g (fun q => n (h2 g q)), x.dr, x.os⟩
theorem Chg2.heap {own : Addr → Prop} {gn : Nat → Prop} {s : Shared} {h' : Heap} {tk : Nat} (h : ∀ b o, ¬ own b → s.heap.get? b = some o → h'.get? b = some o) : Chg2 own gn s { s with heap := h', toks := tk } := ⟨h, fun _ _ => rfl, rfl, rfl⟩
/-- what a step stands on has not turned -/
structure Agr2 (uses : Addr → Prop) (gn : Nat → Prop) (s s' : Shared) : Prop where
  hp : ∀ b o, uses b → s.heap.get? b = some o → s'.heap.get? b = some o
  gk : ∀ g, gn g → s'.gens[g]? = s.gens[g]?
  gs : s'.gens.size = s.gens.size
theorem Agr2.refl {u : Addr → Prop} {gn : Nat → Prop} (s : Shared) : Agr2 u gn s s := ⟨fun _ _ _ e => e, fun _ _ => rfl, rfl⟩
theorem Agr2.less {u u' : Addr → Prop} {gn gn' : Nat → Prop} {a b : Shared} (x : Agr2 u gn a b) (h1 : ∀ p, u' p → u p) (h2 : ∀ g, gn' g → gn g) : Agr2 u' gn' a b :=
  ⟨fun p o n e => x.hp p o (h1 p n) e, fun g n => x.gk g (h2 g n), x.gs⟩
/-- a frame's own steps: all but zs stands -/
theorem Fs.agr {K : Frag} {mg mb : Str → Option Value} {Z : Addr → Prop} {env : Env} {sc : Scope} {σ s : Shared} {Ow : Heap → Prop} {l : List (Str × V)} {zs : List Addr} (F : Fs K mg mb env sc Z (punch σ.heap zs) σ Ow l s)
    {u : Addr → Prop} {gn : Nat → Prop} (hu : ∀ z ∈ zs, ¬ u z) : Agr2 u gn σ s :=
  ⟨fun b o n e => punch_keep F.base b o (fun m => hu b m n) e, fun g _ => by rw [F.gens.1], by rw [F.gens.1]⟩
theorem Fs.chg {K : Frag} {mg mb : Str → Option Value} {Z : Addr → Prop} {env : Env} {sc : Scope} {σ s : Shared} {Ow : Heap → Prop} {l : List (Str × V)} {zs : List Addr} (F : Fs K mg mb env sc Z (punch σ.heap zs) σ Ow l s)
    {own : Addr → Prop} {gn : Nat → Prop} (hu : ∀ z ∈ zs, own z) : Chg2 own gn σ s :=
  ⟨fun b o n e => punch_keep F.base b o (fun m => n (hu b m)) e, fun g _ => by rw [F.gens.1], F.gens.2.1, F.gens.2.2⟩

/-- a stream: m more will come -/
structure Strm2 (prog : Program) (w : World) (A : Around) (G : Nat) (I : Addr) (own uses : Nat → Addr → Prop) (gn : Nat → Prop) (em : Nat → Addr) (Inv : Nat → Shared → Prop) (Done : Shared → Prop) (Post : Nat → Shared → Prop) : Prop where
  zero : ∀ (s : Shared) (Q : Option Value → Shared → Prop) (E : Value → Shared → Prop), Inv 0 s → (∀ s', Chg2 (own 0) gn s s' → Done s' → s'.gens.size = G → Q none s') → wpAny (model prog w) A (pyNext (.ref I)) Q E s
  succ : ∀ (m : Nat) (s : Shared) (Q : Option Value → Shared → Prop) (E : Value → Shared → Prop), Inv (m + 1) s → (∀ s', Chg2 (own (m + 1)) gn s s' → Inv m s' → Post m s' → Q (some (.ref (em m))) s') → wpAny (model prog w) A (pyNext (.ref I)) Q E s
  iter : ∀ (m : Nat) (s : Shared) (Q : Value → Shared → Prop) (E : Value → Shared → Prop), Inv m s → Q (.ref I) s → wpAny (model prog w) A (pyIter (.ref I)) Q E s
  keep : ∀ (m : Nat) (s s' : Shared), Inv m s → Agr2 (uses m) gn s s' → Inv m s'
  size : ∀ (m : Nat) (s : Shared), Inv m s → s.gens.size = G

section
variable (prog : Program) (w : World) (A : Around) (G : Nat) (I : Addr) (g : Nat) (own uses : Nat → Addr → Prop) (gn : Nat → Prop) (em : Nat → Addr) (Done : Shared → Prop) (Post : Nat → Shared → Prop)
noncomputable def GP2 (n : Nat) (s₀ s₁ : Shared) : Prop := n = 0 ∧ Chg2 (own 0) gn s₀ s₁ ∧ Done s₁ ∧ s₁.gens.size = G
noncomputable def GY2 : Protocol := fun m s₀ v s₁ kap => v = .ref (em m) ∧ Chg2 (own (m + 1)) gn s₀ s₁ ∧ Post m s₁ ∧ s₁.gens.size = G ∧ ∀ s'', Agr2 (uses m) gn s₁ s'' → kap (.send .none) s''
noncomputable def GGo (m : Nat) (gs : GenState) (s : Shared) : Prop := gs.Goes (model prog w) A.in1 (fun n s₀ r s₁ => r = .ok (.ret .none) ∧ GP2 G own gn Done n s₀ s₁) (GY2 G own uses gn em Post) m (.send .none) s
noncomputable def GInv2 (m : Nat) (s : Shared) : Prop := s.heap.IsGen I g ∧ s.heap.NoLimit ∧ s.gens.size = G ∧ ∃ gs, s.gens[g]? = some gs ∧ ∀ s' : Shared, Agr2 (uses m) gn s s' → s'.gens[g]? = some gs → GGo prog w A G own uses gn em Done Post m gs (s'.setGen g .running)
variable {prog w A G I g own uses gn em Done Post}
theorem chg2_set {o : Addr → Prop} {s s₁ : Shared} {x y : GenState} {h' : Heap} (c : Chg2 o gn (s.setGen g x) s₁) (k : ∀ b ob, s₁.heap.get? b = some ob → h'.get? b = some ob) : Chg2 o (fun k => gn k ∨ k = g) s { s₁.setGen g y with heap := h' } := by
  refine ⟨fun b ob n e => k b ob (c.hp b ob n e), fun k n => ?_, c.dr, c.os⟩
  show (s₁.setGen g y).gens[k]? = _
  rw [setGen_other (fun e => n (.inr e)), c.gk k (fun e => n (.inl e)), setGen_other (fun e => n (.inr e))]
theorem setGen_self2 {s : Shared} {g : Nat} {x : GenState} (h : g < s.gens.size) : (s.setGen g x).gens[g]? = some x := by
  unfold Shared.setGen
  simp [Array.getElem?_setIfInBounds, h]

/-- one step of a generator, from where it stands -/
theorem gen_step {m : Nat} {s : Shared} {gs : GenState} {Q : Option Value → Shared → Prop} {E : Value → Shared → Prop} (hh : A.handled = none) (hroom : A.depth < recursionLimit) (hu : ∀ m, uses m I ∧ uses m cStatics) (ho : ∀ m, ¬ own m I ∧ ¬ own m cStatics) (hg : ¬ gn g) (hgG : g < G)
    (hdk : ∀ (s : Shared) (h' : Heap) (x : GenState), Done s → (∀ b o, s.heap.get? b = some o → h'.get? b = some o) → Done { s.setGen g x with heap := h' }) (hpk : ∀ m (s : Shared) (x : GenState), Post m s → Post m (s.setGen g x))
    (h1 : s.heap.IsGen I g) (h2 : s.heap.NoLimit) (h3 : s.gens[g]? = some gs) (h4 : GGo prog w A G own uses gn em Done Post m gs (s.setGen g .running))
    (q0 : m = 0 → ∀ s', Chg2 (own 0) (fun k => gn k ∨ k = g) s s' → Done s' → s'.gens[g]? = some .finished → s'.gens.size = G → Q none s')
    (q1 : ∀ k, m = k + 1 → ∀ s', Chg2 (own (k + 1)) (fun k => gn k ∨ k = g) s s' → GInv2 prog w A G I g own uses gn em Done Post k s' → Post k s' → Q (some (.ref (em k))) s') :
    wpAny (model prog w) A (pyNext (.ref I)) Q E s := by
  refine wpAny_pyNext_gen hh h2 hroom h1 h3 h4 (fun v s₁ gs' hy => ?_) (fun s₁ hp h' k => ?_)
  · cases m with
    | zero => exact (hy.2.2.2.2 s₁ (Agr2.refl _)).elim
    | succ m =>
      obtain ⟨rfl, hc, hpo, hsz, hk⟩ := hy
      refine q1 m rfl _ (chg2_set (h' := s₁.heap) (y := gs') hc fun _ _ e => e) ⟨IsGen_at h1 fun o e => hc.hp I o (ho _).1 e, NoLimit_at h2 fun o e => hc.hp cStatics o (ho _).2 e, ?_, gs', ?_, fun s' a e => ?_⟩ (hpk _ _ _ hpo)
      · show (s₁.setGen g gs').gens.size = G
        rw [setGen_size]; exact hsz
      · exact setGen_self2 (by rw [hsz]; exact hgG)
      · refine hk (s'.setGen g .running) ⟨fun b o u e => a.hp b o u e, fun k n => ?_, ?_⟩
        · have hne : k ≠ g := fun e => hg (e ▸ n)
          rw [setGen_other hne, a.gk k n]
          exact setGen_other hne
        · rw [setGen_size, a.gs]
          exact setGen_size
  · obtain ⟨rfl, hc, hd, hsz⟩ := hp
    refine q0 rfl _ (chg2_set hc k) (hdk _ _ _ hd k) ?_ ?_
    · show (s₁.setGen g .finished).gens[g]? = _
      exact setGen_self2 (by rw [hsz]; exact hgG)
    · show (s₁.setGen g .finished).gens.size = _
      rw [setGen_size]; exact hsz
theorem gen_strm2 (hh : A.handled = none) (hroom : A.depth < recursionLimit) (hu : ∀ m, uses m I ∧ uses m cStatics) (ho : ∀ m, ¬ own m I ∧ ¬ own m cStatics) (hg : ¬ gn g) (hgG : g < G)
    (hdk : ∀ (s : Shared) (h' : Heap) (x : GenState), Done s → (∀ b o, s.heap.get? b = some o → h'.get? b = some o) → Done { s.setGen g x with heap := h' }) (hpk : ∀ m (s : Shared) (x : GenState), Post m s → Post m (s.setGen g x)) :
    Strm2 prog w A G I own uses (fun k => gn k ∨ k = g) em (GInv2 prog w A G I g own uses gn em Done Post) (fun s => Done s ∧ s.gens[g]? = some .finished) Post := by
  refine ⟨fun s Q E h q => ?_, fun m s Q E h q => ?_, fun m s Q E h q => wpAny_pyIter_gen h.1 q, fun m s s' h a => ?_, fun m s h => h.2.2.1⟩
  · obtain ⟨h1, h2, h5, gs, h3, h4⟩ := h
    exact gen_step hh hroom hu ho hg hgG hdk hpk h1 h2 h3 (h4 s (Agr2.refl _) h3) (fun _ s' c d f z => q s' c ⟨d, f⟩ z) (fun k e => by cases e)
  · obtain ⟨h1, h2, h5, gs, h3, h4⟩ := h
    exact gen_step hh hroom hu ho hg hgG hdk hpk h1 h2 h3 (h4 s (Agr2.refl _) h3) (fun e => by cases e) (fun k e s' c i p => by cases e; exact q s' c i p)
  · obtain ⟨h1, h2, h5, gs, h3, h4⟩ := h
    refine ⟨IsGen_at h1 fun o e => a.hp I o (hu m).1 e, NoLimit_at h2 fun o e => a.hp cStatics o (hu m).2 e, a.gs.trans h5, gs, (a.gk g (.inr rfl)).trans h3, fun s'' b e => h4 s'' ⟨fun p o u e => b.hp p o u (a.hp p o u e), fun k n => (b.gk k n).trans (a.gk k (.inl n)), b.gs.trans a.gs⟩ e⟩
end
/-- the rows' iterator -/
theorem strm_list2 {prog : Program} {w : World} {A : Around} (G : Nat) (hh : A.handled = none) (I ax : Addr) (hne : ax ≠ I) (as : List Addr) :
    Strm2 prog w A G I (fun _ b => b = I) (fun _ b => b = I ∨ b = ax) (fun _ => False) (fun m => as.getD (as.length - (m + 1)) 0)
      (fun m s => m ≤ as.length ∧ (s.heap.IsListIter I ax (as.length - m) ∧ s.heap.IsList ax (as.map Value.ref).toArray) ∧ s.gens.size = G) (fun _ => True) (fun _ _ => True) := by
  have W := Walks.list (prog := prog) (w := w) hh I ax hne (as.map Value.ref).toArray
  have hsz : (as.map Value.ref).toArray.size = as.length := by simp
  refine ⟨fun s Q E h q => ?_, fun m s Q E h q => ?_, fun m s Q E h q => ?_, fun m s s' h a => ?_, fun m s h => h.2.2⟩
  · refine W.done s Q E (by rw [hsz]; simpa using h.2.1) fun h' tk hk => q _ (Chg2.heap fun b o n e => hk b o (by simpa using n) e) trivial h.2.2
  · have hlt : as.length - (m + 1) < as.length := by have := h.1; lia
    refine W.item (as.length - (m + 1)) s Q E (by rw [hsz]; exact hlt) h.2.1 fun v h' tk hP hst hk => ?_
    have hv : v = .ref (as.getD (as.length - (m + 1)) 0) := by
      rw [List.getD_eq_getElem?_getD, List.getElem?_eq_getElem hlt]
      simp only [List.getElem?_toArray, List.getElem?_map, List.getElem?_eq_getElem hlt, Option.map_some, Option.some.injEq] at hP
      rw [← hP]; rfl
    subst hv
    refine q _ (Chg2.heap fun b o n e => hk b o (by simpa using n) e) ⟨by have := h.1; lia, ?_, h.2.2⟩ trivial
    have e : as.length - (m + 1) + 1 = as.length - m := by have := h.1; lia
    rw [e] at hst; exact hst
  · exact W.self (as.length - m) s Q E h.2.1 q
  · exact ⟨h.1, W.frame _ _ _ h.2.1 fun b hb o e => a.hp b o (by simpa using hb) e, a.gs.trans h.2.2⟩
end
section
theorem gd_func {d : Nat} {A : Around} {body : List Stmt} {env : Env} (g : Gd (d + 2) A) : Gd d (A.in1.over (.func body env) []) :=
  ⟨g.hd, by have := g.dep; show A.depth + 0 + 1 + d ≤ 900; lia, by have := g.un; show A.units + 1 + 0 + 3 + 30 * d ≤ 9000; lia⟩
theorem gd_loop {d : Nat} {A : Around} {body b2 : List Stmt} {env env2 : Env} {nm : Str} {tp : Pos} {it : Value} {k : Result → Sem Fin} {p : Pos} {kp : List Value} (g : Gd (d + 2) A) : Gd d (A.in1.over (.forLoop (.Name nm tp) it b2 [] env2) [.ret k none false [] (.func body env) p kp]) :=
  ⟨g.hd, by have := g.dep; show A.depth + (1 + 0) + 0 + d ≤ 900; lia, by have := g.un; show A.units + 1 + (3 + 0) + 0 + 30 * d ≤ 9000; lia⟩

section
variable {prog : Program} {w : World} {A : Around} {R : GenEnd} {Y : Protocol} {n : Nat} {s₀ : Shared} {c : Code} {fs : List Frame} {s : Shared} {env : Env}
  {K : Flow → Sem Fin} {H : Value → Sem Fin} {gd : Bool → Bool} {lv : List Value → List Value}
theorem seg_block_end {h : Option Value} {g : Bool} {l : List Value} {p : Pos} {kp : List Value}
    (q : Seg (model prog w) A R Y n s₀ c (K .next) fs s) : Seg (model prog w) A R Y n s₀ (.block [] env) ((model prog w).den (.block [] env)) (.ret (backOf env K H gd lv) h g l c p kp :: fs) s := by
  show Seg _ A R Y n s₀ _ (leafOf (.ok .next)) _ s
  exact seg_leaf (.ok .next) q
theorem ts_go {d : Nat} {e : PySem.Expr} {b : Bool} {A : Around} {Q : Bool → Shared → Prop} {E : Value → Shared → Prop} {s : Shared} (g : Gd d A) (h : Ts prog w d env s.heap e b) (q : ∀ h' tk, Ext s.heap h' → Q b { s with heap := h', toks := tk }) : wpAny (model prog w) A (PySem.isTrue e env (eval e env)) Q E s := h A Q E s g (.refl _) q
theorem ev_go {d : Nat} {X : Addr → Prop} {e : PySem.Expr} {x : V} {A : Around} {Q : Value → Shared → Prop} {E : Value → Shared → Prop} {s : Shared} (g : Gd d A) (h : Ev prog w X d env s.heap e x) (q : ∀ v h' tk, Ext s.heap h' → Con X h' x v → Q v { s with heap := h', toks := tk }) : wpAny (model prog w) A (eval e env) Q E s := h A Q E s g (.refl _) q
theorem ev_goR {d : Nat} {X : Addr → Prop} {e : PySem.Expr} {a : Addr} {A : Around} {Q : Value → Shared → Prop} {E : Value → Shared → Prop} {s : Shared} (g : Gd d A) (h : Ev prog w X d env s.heap e (.ref a)) (q : ∀ h' tk, Ext s.heap h' → Q (.ref a) { s with heap := h', toks := tk }) : wpAny (model prog w) A (eval e env) Q E s := ev_go g h fun _ h' tk e c => c.refE ▸ q h' tk e
/-- a for over a stream -/
theorem seg_gloop {nm : Str} {tp : Pos} {it : Addr} {body : List Stmt} {G : Nat} {own uses : Nat → Addr → Prop} {gn : Nat → Prop} {em : Nat → Addr} {Inv : Nat → Shared → Prop} {Done : Shared → Prop} {Post : Nat → Shared → Prop}
    (S : Strm2 prog w (A.over (.forLoop (.Name nm tp) (.ref it) body [] env) fs) G it own uses gn em Inv Done Post) (J : Nat → Nat → Shared → Shared → Prop) (hJ : ∀ m n s₀ s, J m n s₀ s → Inv m s)
    (hz : ∀ n s₀ s s', J 0 n s₀ s → Chg2 (own 0) gn s s' → Done s' → s'.gens.size = G → Seg (model prog w) A R Y n s₀ (.block [] env) ((model prog w).den (.block [] env)) fs s')
    (hs : ∀ m n s₀ s s', J (m + 1) n s₀ s → Chg2 (own (m + 1)) gn s s' → Inv m s' → Post m s' →
      (∀ n s₀ s, J m n s₀ s → Seg (model prog w) A R Y n s₀ (.forLoop (.Name nm tp) (.ref it) body [] env) ((model prog w).den (.forLoop (.Name nm tp) (.ref it) body [] env)) fs s) →
      wpAny (model prog w) (A.over (.forLoop (.Name nm tp) (.ref it) body [] env) fs) (storeName env nm (.ref (em m))) (fun _ s2 => Seg (model prog w) A R Y n s₀ (.forLoop (.Name nm tp) (.ref it) body [] env) ((execs body env).wrap (turnOf nm tp (.ref it) body env) (lostAt env) id id) fs s2) (fun _ _ => False) s') :
    ∀ m n s₀ s, J m n s₀ s → Seg (model prog w) A R Y n s₀ (.forLoop (.Name nm tp) (.ref it) body [] env) ((model prog w).den (.forLoop (.Name nm tp) (.ref it) body [] env)) fs s
  | 0, n, s₀, s, h => seg_forLoop (S.zero s _ _ (hJ _ _ _ _ h) fun s' c d z => hz n s₀ s s' h c d z)
  | m + 1, n, s₀, s, h => seg_forLoop (S.succ m s _ _ (hJ _ _ _ _ h) fun s' c i p => hs m n s₀ s s' h c i p (seg_gloop S J hJ hz hs m))
theorem seg_turn {nm : Str} {tp : Pos} {it : Addr} {body : List Stmt} (h : Seg (model prog w) A R Y n s₀ (.forLoop (.Name nm tp) (.ref it) body [] env) ((model prog w).den (.forLoop (.Name nm tp) (.ref it) body [] env)) fs s) :
    Seg (model prog w) A R Y n s₀ (.forLoop (.Name nm tp) (.ref it) body [] env) (turnOf nm tp (.ref it) body env .next) fs s :=
  seg_again (by rfl) h
end

section
variable {w : World} {prog : Program} {K : Frag} {mg mb : Str → Option Value} {Z : Addr → Prop} {d : Nat} {env : Env} {sc : Scope} {h₀ : Heap} {σ s : Shared} {Ow : Heap → Prop} {l : List (Str × V)}
theorem ts_isi {n : Str} {a : Addr} {b : Bool} {np lp fp pos : Pos} (F : Fs (KK w) mg mb env sc Z h₀ σ Ow l s) (h1 : nsIn (KK w) mainGlobals (Str.ofString "isinstance") = some none) (h2 : sc.names.lookup (Str.ofString "isinstance") = some .globalImplicit)
    (h3 : nsIn (KK w) mainGlobals (Str.ofString "LineInfo") = some (some (.ref 47))) (h4 : sc.names.lookup (Str.ofString "LineInfo") = some .globalImplicit) (hl : l.lookup n = some (.ref a)) (hk : sc.names.lookup n = some .local) (hd : (n == ("__debug__" : Str)) = false)
    (ho : ∀ A Q E (s' : Shared), Ext s.heap s'.heap → (∀ tk, Q (.bool b) { s' with toks := tk }) → wpAny (model prog w) A (call (.builtin "isinstance") [.ref a, .ref 47]) Q E s')
    (hs : starEach [.Name n np, .Name (Str.ofString "LineInfo") lp] env = (false, eval (.Name n np) env) :: starEach [.Name (Str.ofString "LineInfo") lp] env := by rfl)
    (hp : (backTo pos (starEach [.Name (Str.ofString "LineInfo") lp] env)).any (·.1) = false := by rfl) :
    Ts prog w d env s.heap (.Call (.Name (Str.ofString "isinstance") fp) [.Name n np, .Name (Str.ofString "LineInfo") lp] [] pos) b :=
  ts_val (ev_bi (F.boot h1 (by rfl) (by decide) h2 (by rfl)) (evs_cons (ev_loc F hl hk hd) (evs_cons (ev_nm ⟨_, .ref _, F.glob h3 h4 (by rfl)⟩) evs_nil)) (fun h' vs e c A Q E s2 g x q => by
    apply c.twoG; clear c; intro _ _ c1 c2; cases c1; cases c2; exact ho A Q E s2 (e.trans x) fun tk => q _ s2.heap tk (.refl _) (.bool _)) hs hp) tr_bool (by rfl)
end
end
section
noncomputable def wsT : Str := Str.ofString "WS"
noncomputable def bolT : Str := Str.ofString "BOL"
noncomputable def strT : Str := Str.ofString "STRING"
noncomputable def charTy : Str := Str.ofString "CHAR"
noncomputable def idT : Str := Str.ofString "ID"
/-- a token's data -/
structure TkD where
  i : TkI
  typ : Str
  val : Str
inductive Rw where
  | mark (a : Addr)
  | tok (t : TkD)
noncomputable def Rw.addr : Rw → Addr
  | .mark a => a
  | .tok t => t.i.a
noncomputable def blankT (t : Str) : Bool := [wsT, bolT].contains t
/-- what is no mark and no blank -/
noncomputable def keepR : List Rw → List TkD
  | [] => []
  | .mark _ :: r => keepR r
  | .tok t :: r => if blankT t.typ then keepR r else t :: keepR r
theorem keepR_mark (a : Addr) (r : List Rw) : keepR (.mark a :: r) = keepR r := rfl
theorem keepR_blank {t : TkD} {r : List Rw} (h : blankT t.typ = true) : keepR (.tok t :: r) = keepR r := if_pos h
theorem keepR_kept {t : TkD} {r : List Rw} (h : blankT t.typ = false) : keepR (.tok t :: r) = t :: keepR r := if_neg (by rw [h]; exact Bool.false_ne_true)
noncomputable def RowOk (Hp : Heap) : Rw → Prop
  | .mark a => ∃ o, Hp.get? a = some o ∧ o.cls = .ref 47
  | .tok t => TkC t.i Hp ∧ (blankT t.typ = true → TkM t.i t.typ t.val Hp)
noncomputable def tksTo (kt : List TkD) (m : Nat) : List TkD := kt.drop (kt.length - m)
noncomputable def emA (kt : List TkD) (m : Nat) : Addr := match tksTo kt (m + 1) with | t :: _ => t.i.a | [] => 0
theorem tksTo_all (kt : List TkD) : tksTo kt kt.length = kt := by unfold tksTo; rw [Nat.sub_self]; rfl
theorem tksTo_len {kt : List TkD} {m : Nat} (h : m ≤ kt.length) : (tksTo kt m).length = m := by unfold tksTo; rw [List.length_drop]; lia
theorem tksTo_cons {kt : List TkD} {m : Nat} {t : TkD} {r : List TkD} (h : tksTo kt m = t :: r) (hm : m ≤ kt.length) : ∃ k, m = k + 1 ∧ tksTo kt k = r ∧ emA kt k = t.i.a := by
  have hl := tksTo_len hm
  rw [h] at hl
  obtain ⟨k, rfl⟩ : ∃ k, m = k + 1 := ⟨r.length, by simpa using hl.symm⟩
  refine ⟨k, rfl, ?_, by unfold emA; rw [h]⟩
  have : tksTo kt k = (tksTo kt (k + 1)).drop 1 := by unfold tksTo; rw [List.drop_drop]; congr 1; lia
  rw [this, h]; rfl
theorem tksTo_sub (kt : List TkD) (m : Nat) : ∀ t ∈ tksTo kt m, t ∈ kt := fun t h => List.mem_of_mem_drop h

noncomputable def PostT (kt : List TkD) (f : TkD → Str × Str) (m : Nat) (s : Shared) : Prop := ∀ t r, tksTo kt (m + 1) = t :: r → TkM t.i (f t).1 (f t).2 s.heap

section
variable {w : World} {prog : Program} {mg mb : Str → Option Value}
/-- what stands under all the generators -/
structure Ground2 (w : World) (mg mb : Str → Option Value) (Hp : Heap) (rows : List Rw) (I0 ax : Addr) : Prop where
  W : Wd (KK w) mg mb Hp
  ok : ∀ r ∈ rows, RowOk Hp r
  fresh : ∀ t ∈ keepR rows, Hp.get? t.i.a = none
  nodup : ((keepR rows).map (·.i.a)).Nodup
  i0 : Hp.get? I0 = none
  i0n : ∀ t ∈ keepR rows, t.i.a ≠ I0
  ax : (Hp.get? ax).isSome = true
noncomputable def ownL1 (I0 L1 : Addr) (_ : Nat) (b : Addr) : Prop := b = I0 ∨ b = L1
noncomputable def usesL1 (Hp : Heap) (kt : List TkD) (I0 L1 I1 : Addr) (m : Nat) (b : Addr) : Prop := (Hp.get? b).isSome = true ∨ b = I0 ∨ b = L1 ∨ b = I1 ∨ b ∈ (tksTo kt m).map (·.i.a)

theorem keepR_mem {rows : List Rw} {t : TkD} (h : t ∈ keepR rows) : Rw.tok t ∈ rows ∧ blankT t.typ = false := by
  induction rows with
  | nil => cases h
  | cons r rs ih =>
    cases r with
    | mark a => exact ⟨.tail _ (ih h).1, (ih h).2⟩
    | tok u =>
      unfold keepR at h
      split at h
      · exact ⟨.tail _ (ih h).1, (ih h).2⟩
      · rename_i nb
        rcases List.mem_cons.mp h with rfl | h
        · exact ⟨.head _, by simpa using nb⟩
        · exact ⟨.tail _ (ih h).1, (ih h).2⟩
theorem TkM_at {i : TkI} {typ val : Str} {h h' : Heap} (c : TkM i typ val h) (k : ∀ o, h.get? i.a = some o → h'.get? i.a = some o) : TkM i typ val h' := let ⟨a, b, e⟩ := c; ⟨a, b, k _ e⟩
theorem TkM_some {i : TkI} {typ val : Str} {h : Heap} (c : TkM i typ val h) : (h.get? i.a).isSome = true := by obtain ⟨a, b, e⟩ := c; rw [e]; rfl

/-- skip_ws -/
theorem lvl1 (w : World) : ∃ (o : Obj) (fd : FuncData) (tp it nm : Pos) (nmS : Str) (body : List Stmt) (fp : Pos), (KK w).lookup 72 = some o ∧ o.data = .func fd ∧ fd.body = .stmts [.For (.Name nmS tp) (.Name (Str.ofString "tokens") it) body [] fp] ∧
    codeIn (KK w) fd.code fd.qualname = true ∧ (∀ v, bindArgs fd ⟨[v], []⟩ = pure [(Str.ofString "tokens", v)]) ∧ (∀ x ∈ fd.scope.names, x.2 ≠ .cell) ∧ fd.scope.names.lookup (Str.ofString "tokens") = some .local ∧ fd.globals = mainGlobals ∧ fd.builtins = builtinsNs ∧
    fd.scope.isCoroutine = false ∧ fd.scope.isGenerator = true ∧ fd.scope.kind = .function ∧ (Str.ofString "tokens" == ("__debug__" : Str)) = false ∧
    ∀ {prog : Program} {mg mb : Str → Option Value} {A : Around} {G : Nat} {Hp : Heap} {rows : List Rw} {I0 ax L1 I1 : Addr} {env : Env} {p : Pos} {kp : List Value}, Gd 12 A → Ground2 w mg mb Hp rows I0 ax → Fenv env fd.scope → env.locals = L1 → Hp.get? L1 = none → (∀ t ∈ keepR rows, t.i.a ≠ L1) → L1 ≠ I0 → 
      ∀ m n s₀ s, (m ≤ rows.length ∧ n ≤ (keepR rows).length ∧ tksTo (keepR rows) n = keepR (rows.drop (rows.length - m)) ∧
          (m ≤ (rows.map Rw.addr).length ∧ (s.heap.IsListIter I0 ax ((rows.map Rw.addr).length - m) ∧ s.heap.IsList ax ((rows.map Rw.addr).map Value.ref).toArray) ∧ s.gens.size = G) ∧ (∃ mm, s.heap.Ns L1 mm) ∧ Ext Hp s.heap ∧
          (∀ t ∈ tksTo (keepR rows) n, TkM t.i t.typ t.val s.heap) ∧ Chg2 (ownL1 I0 L1 0) (fun _ => False) s₀ s) →
        Seg (model prog w) A.in1 (fun n s₀ r s₁ => r = .ok (.ret .none) ∧ GP2 G (ownL1 I0 L1) (fun _ => False) (fun _ => True) n s₀ s₁) (GY2 G (ownL1 I0 L1) (usesL1 Hp (keepR rows) I0 L1 I1) (fun _ => False) (emA (keepR rows)) (PostT (keepR rows) fun t => (t.typ, t.val))) n s₀
          (.forLoop (.Name nmS tp) (.ref I0) body [] env) ((model prog w).den (.forLoop (.Name nmS tp) (.ref I0) body [] env))
          [.ret (backOf env (fun f => match f with | .next => (execs [] env).wrap (fun f => .pure (.done (.ret (match f with | .ret v => v | _ => .none)))) (fun e => (leaving env e).wrap (fun _ => .raise e) .raise id id) id id | f => .pure (.done (.ret (match f with | .ret v => v | _ => .none)))) (fun e => (leaving env e).wrap (fun _ => .raise e) .raise id id) id id) none (id false) (id []) (.func [.For (.Name nmS tp) (.Name (Str.ofString "tokens") it) body [] fp] env) p kp] s := by
  refine ⟨_, _, _, _, ⟨0, 0, 0, 0⟩, _, _, _, rfl, rfl, rfl, by kernel_rfl, fun _ => rfl, by decide, rfl, rfl, rfl, rfl, rfl, rfl, rfl, ?_⟩
  intro prog mg mb A G Hp rows I0 ax L1 I1 env p kp gd GR fe hL hpL htL hLI
  have haxI : ax ≠ I0 := fun e => by have := GR.ax; rw [e, GR.i0] at this; cases this
  have S := strm_list2 (prog := prog) (w := w) (A := A) G gd.hd I0 ax haxI (rows.map Rw.addr)
  refine seg_gloop (strm_list2 (prog := prog) (w := w) G (gd_loop (d := 10) gd).hd I0 ax haxI (rows.map Rw.addr)) _ (fun m n s₀ s h => h.2.2.2.1) ?_ ?_
  · intro n s₀ s s' hj c _ z
    refine an8 hj fun h1 h2 h3 h4 h5 h6 h7 h8 => ?_
    clear hj
    refine seg_block_end ?_
    have : n = 0 := by
      have hl := tksTo_len h2
      rw [h3, Nat.sub_zero, List.drop_length] at hl
      exact hl.symm
    subst this
    exact seg_end (.ok (.ret .none)) ⟨rfl, rfl, h8.trans (c.more (fun p e => .inl e) fun g e => e), trivial, z⟩
  · intro m n s₀ s s' hj c i _ IH
    refine an8 hj fun h1 h2 h3 h4 hM h6 h7 h8 => Exists.elim hM fun mm h5 => ?_
    clear hM hj
    have hlt : rows.length - (m + 1) < rows.length := by lia
    have hdr : rows.drop (rows.length - (m + 1)) = rows[rows.length - (m + 1)] :: rows.drop (rows.length - m) := by
      rw [List.drop_eq_getElem_cons hlt, show rows.length - (m + 1) + 1 = rows.length - m by lia]
    have hem : (rows.map Rw.addr).getD ((rows.map Rw.addr).length - (m + 1)) 0 = (rows[rows.length - (m + 1)]).addr := by
      rw [List.length_map, List.getD_eq_getElem?_getD, List.getElem?_map, List.getElem?_eq_getElem hlt]; rfl
    have hmem : rows[rows.length - (m + 1)] ∈ rows := List.getElem_mem hlt
    have hok := GR.ok _ hmem
    rw [hdr] at h3
    generalize rows[rows.length - (m + 1)] = rw' at hdr hem hok h3 hmem
    rw [hem]
    -- the state behind the step
    have k6 : Ext Hp s'.heap := fun b o e => c.hp b o (fun q => by rw [show b = I0 from q, GR.i0] at e; cases e) (h6 b o e)
    have k5 : s'.heap.Ns L1 mm := h5.at fun o e => c.hp L1 o hLI e
    have k7 : ∀ t ∈ tksTo (keepR rows) n, TkM t.i t.typ t.val s'.heap := fun t ht => TkM_at (h7 t ht) fun o e => c.hp _ o (GR.i0n t (tksTo_sub _ _ t ht)) e
    have k8 : Chg2 (ownL1 I0 L1 0) (fun _ => False) s₀ s' := h8.trans (c.more (fun p e => .inl e) fun g e => e)
    have zok : ∀ z ∈ [L1], Hp.get? z = none ∧ (s'.heap.get? z).isSome = true := fun z hz => by
      rw [List.mem_singleton.mp hz]
      obtain ⟨o, _, _, ho, _⟩ := k5
      exact ⟨hpL, by rw [ho]; rfl⟩
    have F0 : Fs (KK w) mg mb env _ (· ∈ [L1]) (punch s'.heap [L1]) s' (fun _ => True) [] s' := mkFs fe GR.W k6 zok (by rw [hL]; exact .head _) (by rw [hL]; exact k5) (fun n y q => by cases q) trivial [] (by simp) (by simp) (fun _ _ _ _ => trivial)
    refine st_bind F0 (.ref _) (fun s2 F => ?_) rfl
    have hpx : Ext Hp (punch s'.heap [L1]) := ext_punch k6 fun z hz => (zok z hz).1
    -- what goes on
    have go : ∀ {s3 : Shared} {l : List (Str × V)} {Z : Addr → Prop} {Ow : Heap → Prop} {sc : Scope}, Fs (KK w) mg mb env sc Z (punch s'.heap [L1]) s' Ow l s3 → tksTo (keepR rows) n = keepR (rows.drop (rows.length - m)) →
        m ≤ rows.length ∧ n ≤ (keepR rows).length ∧ tksTo (keepR rows) n = keepR (rows.drop (rows.length - m)) ∧
          (m ≤ (rows.map Rw.addr).length ∧ (s3.heap.IsListIter I0 ax ((rows.map Rw.addr).length - m) ∧ s3.heap.IsList ax ((rows.map Rw.addr).map Value.ref).toArray) ∧ s3.gens.size = G) ∧ (∃ mm, s3.heap.Ns L1 mm) ∧ Ext Hp s3.heap ∧
          (∀ t ∈ tksTo (keepR rows) n, TkM t.i t.typ t.val s3.heap) ∧ Chg2 (ownL1 I0 L1 0) (fun _ => False) s₀ s3 := fun {s3 l Z Ow sc} F3 ht => by
      have nz : ∀ z ∈ [L1], ¬ (z = I0 ∨ z = ax) := fun z hz q => by
        rw [List.mem_singleton.mp hz] at q
        rcases q with q | q
        · exact hLI q
        · have := GR.ax; rw [← q, hpL] at this; cases this
      refine ⟨by lia, h2, ht, S.keep m s' s3 i (F3.agr nz), ?_, hpx.trans F3.base, fun t htt => TkM_at (k7 t htt) fun o e => punch_keep F3.base _ o (fun q => htL t (tksTo_sub _ _ t htt) (List.mem_singleton.mp q)) e, k8.trans (F3.chg fun z hz => .inr (List.mem_singleton.mp hz))⟩
      obtain ⟨m3, hm3, _⟩ := F3.ns
      rw [hL] at hm3
      exact ⟨m3, hm3⟩
    have hWd : ∀ {s3 : Shared} {l : List (Str × V)} {Z : Addr → Prop} {Ow : Heap → Prop} {sc : Scope}, Fs (KK w) mg mb env sc Z (punch s'.heap [L1]) s' Ow l s3 → (KK w).In s3.heap := fun F3 => F3.world.kin
    have back : ∀ {s3 : Shared} {l : List (Str × V)} {Z : Addr → Prop} {Ow : Heap → Prop} {sc : Scope}, Fs (KK w) mg mb env sc Z (punch s'.heap [L1]) s' Ow l s3 → Ext Hp s3.heap := fun F3 => hpx.trans F3.base
    refine seg_execs_cons (seg_If ?_)
    cases rw' with
    | mark a =>
      obtain ⟨o, ho, hc⟩ := hok
      refine ts_go (gd_loop (d := 10) gd) (ts_isi (a := a) (b := true) F (by kernel_rfl) rfl (by kernel_rfl) rfl rfl rfl rfl (fun A Q E s4 x q => bi_isi_mark (hWd F) (back F _ _ ho) hc A Q E s4 x (q s4.toks))) fun hh3 tk e3 => ?_
      rw [if_pos rfl]
      exact seg_execs_cons (seg_Pass (seg_execs_nil (seg_execs_nil (seg_turn (IH _ _ _ (go (F.ext (tk := tk) e3) h3))))))
    | tok t =>
      have hc := hok.1.keep (back F)
      have hM : TkM t.i t.typ t.val s2.heap := by
        cases hb : blankT t.typ with
        | true => exact (hok.2 hb).keep (back F)
        | false =>
          have hin : t ∈ tksTo (keepR rows) n := by rw [h3, keepR_kept hb]; exact .head _
          exact TkM_at (k7 t hin) fun o e => punch_keep F.base _ o (fun q => htL t (tksTo_sub _ _ t hin) (List.mem_singleton.mp q)) e
      refine ts_go (gd_loop (d := 10) gd) (ts_isi (a := t.i.a) (b := false) F (by kernel_rfl) rfl (by kernel_rfl) rfl rfl rfl rfl (fun A Q E s4 x q => bi_isi_tok (hWd F) hc hM A Q E s4 x (q _))) fun h3' tk e3 => ?_
      rw [if_neg Bool.false_ne_true]
      have F3 := F.ext (tk := tk) e3
      refine seg_execs_cons (seg_If ?_)
      refine ts_go (s := { s2 with heap := h3', toks := tk }) (b := blankT t.typ) (gd_loop (d := 10) gd) (ts_cmp (ev_att (ev_loc F3 rfl rfl rfl) (att_typ (hWd F3) (hc.keep e3) (hM.keep e3))) (ev_list (l := [.str wsT, .str bolT]) F3.xa (by decide) (evs_cons ev_str (evs_cons ev_str evs_nil))) (op_inLs (ys := [wsT, bolT]))) fun h4 tk4 e4 => ?_
      have F4 := F3.ext (tk := tk4) e4
      cases hb : blankT t.typ with
      | true =>
        rw [if_pos rfl]
        refine seg_execs_cons (seg_Pass (seg_execs_nil (seg_execs_nil (seg_execs_nil (seg_turn (IH _ _ _ (go F4 ?_)))))))
        rw [h3, keepR_blank hb]
      | false =>
        rw [if_neg Bool.false_ne_true]
        have hk3 : tksTo (keepR rows) n = t :: keepR (rows.drop (rows.length - m)) := by rw [h3, keepR_kept hb]
        obtain ⟨k, rfl, hk4, hem4⟩ := tksTo_cons hk3 h2
        refine seg_execs_cons (seg_Expr_Yield rfl rfl rfl ?_ (by rw [fe.hsc]) (by unfold interactive; rw [fe.hsc]; rfl))
        refine ev_goR (gd_loop (d := 10) gd) (ev_loc F4 rfl rfl rfl) fun h5 tk5 e5 => ?_
        have F5 := F4.ext (tk := tk5) e5
        intro kap hkap
        have tin : t ∈ keepR rows := tksTo_sub _ _ t (by rw [hk3]; exact .head _)
        refine ⟨by rw [hem4]; rfl, k8.trans (F5.chg fun z hz => .inr (List.mem_singleton.mp hz)), fun u r hu => ?_, ?_, fun s6 a6 => hkap .none s6 ?_⟩
        · rw [hk3] at hu; cases hu
          exact ((hM.keep e3).keep e4).keep e5
        · rw [F5.gens.1]; exact i.2.2
        · refine seg_execs_nil (seg_execs_nil (seg_execs_nil (seg_turn (IH _ _ _ ?_))))
          have nz : ∀ z ∈ [L1], ¬ (z = I0 ∨ z = ax) := fun z hz q => by
            rw [List.mem_singleton.mp hz] at q
            rcases q with q | q
            · exact hLI q
            · have := GR.ax; rw [← q, hpL] at this; cases this
          refine ⟨by lia, by lia, hk4, S.keep m _ s6 (S.keep m s' _ i (F5.agr nz)) (a6.less (fun b q => ?_) fun g q => q.elim), ?_, fun b o e => a6.hp b o (.inl (by rw [e]; rfl)) (back F5 b o e), fun u hu => ?_, Chg2.refl _⟩
          · rcases q with q | q
            · exact .inr (.inl q)
            · exact .inl (q ▸ GR.ax)
          · obtain ⟨m3, hm3, _⟩ := F5.ns
            rw [hL] at hm3
            exact ⟨m3, hm3.at fun o e => a6.hp L1 o (.inr (.inr (.inl rfl))) e⟩
          · have hu' : u ∈ tksTo (keepR rows) (k + 1) := by rw [hk3, ← hk4]; exact .tail _ hu
            have := TkM_at (h' := h5) (k7 u hu') fun o e => punch_keep F5.base _ o (fun q => htL u (tksTo_sub _ _ u hu) (List.mem_singleton.mp q)) e
            exact TkM_at this fun o e => a6.hp _ o (.inr (.inr (.inr (.inr (List.mem_map.mpr ⟨u, hu, rfl⟩))))) e
end
end
section
theorem slc_inner {q1 q2 : Nat} {l : List Nat} : Txt.slice (ofL (q1 :: (l ++ [q2]))) (some 1) (some (-1)) = ofL l := by
  have e : Builtin.Str.strSliceIndices (some 1) (some (-1)) 1 (ofL (q1 :: (l ++ [q2]))).length = Builtin.Str.strSliceIndices (some 1) (some (((l.length + 1 : Nat) : Int))) 1 (ofL (q1 :: (l ++ [q2]))).length := by
    rw [ofL_len]
    unfold Builtin.Str.strSliceIndices
    simp only [List.length_cons, List.length_append, List.length_nil]
    congr 3 <;> (rw [if_pos (by decide), if_neg (by lia)]; lia)
  have e2 : Txt.slice (ofL (q1 :: (l ++ [q2]))) (some 1) (some (-1)) = Txt.slice (ofL (q1 :: (l ++ [q2]))) (some ((1 : Nat) : Int)) (some (((l.length + 1 : Nat) : Int))) := by
    unfold Txt.slice; rw [e]; rfl
  rw [e2, slc_ss (by lia) (by simp)]
  simp
section
variable {prog : Program} {w : World} {X : Addr → Prop} {d : Nat} {env : Env} {h : Heap}
theorem ev_neg {e : PySem.Expr} {i : Int} {pos : Pos} (he : Ev prog w X d env h e (.int i)) : Ev prog w X d env h (.UnaryOp .USub e pos) (.int (-i)) :=
  fun A Q E s g x q => wpAny_UnaryOp (he A _ E s g x fun v h1 tk e1 c1 => by
    cases c1; exact P.neg_int (q _ _ _ e1 (.int _ _)))
end
section
variable {prog : Program} {w : World} {A : Around} {R : GenEnd} {Y : Protocol} {n : Nat} {s₀ : Shared} {c : Code} {fs : List Frame} {s : Shared} {env : Env}
  {K : Flow → Sem Fin} {H : Value → Sem Fin} {gd : Bool → Bool} {lv : List Value → List Value}
theorem seg_stmt {st : Stmt} {rest : List Stmt} (h : wpAny (model prog w) (A.over c fs) (execs [st] env) (fun f s' => match f with
      | .next => Seg (model prog w) A R Y n s₀ c ((execs rest env).wrap K H gd lv) fs s'
      | f => Seg (model prog w) A R Y n s₀ c (K f) fs s') (fun x s' => Seg (model prog w) A R Y n s₀ c (H x) fs s') s) : Seg (model prog w) A R Y n s₀ c ((execs (st :: rest) env).wrap K H gd lv) fs s := by
  have e : (execs (st :: rest) env).wrap K H gd lv = (execs [st] env).wrap (fun f => match f with | .next => (execs rest env).wrap K H gd lv | f => K f) H gd lv := by
    rw [execs_cons_wrap, execs_cons_wrap]
    exact Sem.wrap_congr _ _ _ (fun f => by cases f <;> rfl) (fun _ => rfl)
  rw [e]
  exact seg_wrap (wpAny_mono h (fun f s' q => by cases f <;> exact q) fun _ _ x => x)
end

section
variable {K : Frag} {mg mb : Str → Option Value} {Z : Addr → Prop} {env : Env} {sc : Scope} {h₀ : Heap} {σ s : Shared} {Ow : Heap → Prop} {l : List (Str × V)}
noncomputable abbrev Fs.like (_ : Fs K mg mb env sc Z h₀ σ Ow l s) (Ow' : Heap → Prop) (l' : List (Str × V)) (s' : Shared) : Prop := Fs K mg mb env sc Z h₀ σ Ow' l' s'
end
/-- what replace_escape_codes may be asked -/
noncomputable def ConvOk (t : TkD) : Prop := (t.typ = strT → ∃ q1 l q2, t.val = ofL (q1 :: (l ++ [q2])) ∧ l.length ≤ 400 ∧ OkT l) ∧ (t.typ = charTy → ∃ l, t.val = ofL l ∧ l.length ≤ 400 ∧ OkT l) ∧ t.val.length ≤ 1000
noncomputable def cutV (t : TkD) : Str := if t.typ = strT then ofL ((t.val.cps.toList.drop 1).dropLast) else t.val
noncomputable def convV (t : TkD) : Str := if t.typ = strT then ofL (R ((t.val.cps.toList.drop 1).dropLast)) else if t.typ = charTy then ofL (R t.val.cps.toList) else t.val
structure Toks (Hp : Heap) (kt : List TkD) : Prop where
  c : ∀ t ∈ kt, TkC t.i Hp
  fresh : ∀ t ∈ kt, Hp.get? t.i.a = none
  nd : (kt.map (·.i.a)).Nodup
/-- a new frame upon the frames below -/
structure Lv (Hp : Heap) (kt : List TkD) (fr gI : List Addr) (L : Addr) : Prop where
  hp : Hp.get? L = none
  nf : L ∉ fr
  ng : L ∉ gI
  nt : ∀ t ∈ kt, t.i.a ≠ L
  fh : ∀ b ∈ fr, Hp.get? b = none
  ft : ∀ t ∈ kt, t.i.a ∉ fr ∧ t.i.a ∉ gI
noncomputable def ownL (kt : List TkD) (fr : List Addr) (m : Nat) (b : Addr) : Prop := b ∈ fr ∨ b ∈ (tksTo kt m).map (·.i.a)
noncomputable def usesL (Hp : Heap) (kt : List TkD) (fr gI : List Addr) (m : Nat) (b : Addr) : Prop := (Hp.get? b).isSome = true ∨ b ∈ fr ∨ b ∈ gI ∨ b ∈ (tksTo kt m).map (·.i.a)
theorem tks_nd {kt : List TkD} (nd : (kt.map (·.i.a)).Nodup) {m : Nat} {t : TkD} {r : List TkD} (h : tksTo kt m = t :: r) : t.i.a ∉ r.map (·.i.a) := by
  have : ((tksTo kt m).map (·.i.a)).Nodup := by unfold tksTo; rw [List.map_drop]; exact nd.sublist (List.drop_sublist _ _)
  rw [h] at this
  exact (List.nodup_cons.mp this).1
theorem R_len (l : List Nat) : (R l).length ≤ l.length := by
  have : ∀ (n : Nat) (l : List Nat), l.length ≤ n → (R l).length ≤ l.length := fun n => by
    induction n with
    | zero => intro l h; cases l with | nil => exact Nat.le_refl _ | cons _ _ => simp at h
    | succ n ih =>
      intro l h
      cases l with
      | nil => exact Nat.le_refl _
      | cons c r =>
        rw [R_cons, List.length_cons, List.length_cons]
        have h1 := ih (r.drop (stp c r).2) (by rw [List.length_drop]; simp at h; lia)
        rw [List.length_drop] at h1
        lia
  exact this _ l (Nat.le_refl _)
theorem convV_len {t : TkD} (h : ConvOk t) : (convV t).length ≤ 1000 := by
  unfold convV
  have h3 := h.2.2
  split
  · rw [ofL_len]
    have := R_len ((t.val.cps.toList.drop 1).dropLast)
    simp only [List.length_dropLast, List.length_drop, len_toList] at this
    lia
  · split
    · rw [ofL_len]
      have := R_len t.val.cps.toList
      rw [len_toList] at this
      lia
    · exact h3

/-- string_convert -/
theorem lvl2 (w : World) : ∃ (o : Obj) (fd : FuncData) (tp it : Pos) (nmS : Str) (body : List Stmt) (fp : Pos), (KK w).lookup 79 = some o ∧ o.data = .func fd ∧ fd.body = .stmts [.For (.Name nmS tp) (.Name (Str.ofString "tokens") it) body [] fp] ∧
    codeIn (KK w) fd.code fd.qualname = true ∧ (∀ v, bindArgs fd ⟨[v], []⟩ = pure [(Str.ofString "tokens", v)]) ∧ (∀ x ∈ fd.scope.names, x.2 ≠ .cell) ∧ fd.scope.names.lookup (Str.ofString "tokens") = some .local ∧ fd.globals = mainGlobals ∧ fd.builtins = builtinsNs ∧
    fd.scope.isCoroutine = false ∧ fd.scope.isGenerator = true ∧ fd.scope.kind = .function ∧
    ∀ {prog : Program} {mg mb : Str → Option Value} {A : Around} {G : Nat} {Hp : Heap} {kt : List TkD} {fr gI : List Addr} {L I I2 : Addr} {env : Env} {p : Pos} {kp : List Value} {own1 uses1 : Nat → Addr → Prop} {gn : Nat → Prop} {Inv1 : Nat → Shared → Prop} {Done1 : Shared → Prop},
      Gd 12 A → Wd (KK w) mg mb Hp → Toks Hp kt → (∀ t ∈ kt, ConvOk t) → Lv Hp kt fr gI L → Fenv env fd.scope → env.locals = L → (∀ m b, own1 m b → b ∈ fr ∨ b ∈ (tksTo kt m).map (·.i.a)) → (∀ m b, uses1 m b → usesL Hp kt fr gI m b) →
      (∀ B : Around, B.handled = none → B.depth < recursionLimit → True) →
      Strm2 prog w (A.in1.over (.forLoop (.Name nmS tp) (.ref I) body [] env) [.ret (backOf env (fun f => match f with | .next => (execs [] env).wrap (fun f => .pure (.done (.ret (match f with | .ret v => v | _ => .none)))) (fun e => (leaving env e).wrap (fun _ => .raise e) .raise id id) id id | f => .pure (.done (.ret (match f with | .ret v => v | _ => .none)))) (fun e => (leaving env e).wrap (fun _ => .raise e) .raise id id) id id) none (id false) (id []) (.func [.For (.Name nmS tp) (.Name (Str.ofString "tokens") it) body [] fp] env) p kp]) G I own1 uses1 gn (emA kt) Inv1 Done1 (PostT kt fun t => (t.typ, t.val)) →
      ∀ m n s₀ s, (n = m ∧ m ≤ kt.length ∧ Inv1 m s ∧ (∃ mm, s.heap.Ns L mm) ∧ Ext Hp s.heap ∧ Chg2 (ownL kt (L :: fr) n) gn s₀ s) →
        Seg (model prog w) A.in1 (fun n s₀ r s₁ => r = .ok (.ret .none) ∧ GP2 G (ownL kt (L :: fr)) gn Done1 n s₀ s₁) (GY2 G (ownL kt (L :: fr)) (usesL Hp kt (L :: fr) (I2 :: gI)) gn (emA kt) (PostT kt fun t => (t.typ, convV t))) n s₀
          (.forLoop (.Name nmS tp) (.ref I) body [] env) ((model prog w).den (.forLoop (.Name nmS tp) (.ref I) body [] env))
          [.ret (backOf env (fun f => match f with | .next => (execs [] env).wrap (fun f => .pure (.done (.ret (match f with | .ret v => v | _ => .none)))) (fun e => (leaving env e).wrap (fun _ => .raise e) .raise id id) id id | f => .pure (.done (.ret (match f with | .ret v => v | _ => .none)))) (fun e => (leaving env e).wrap (fun _ => .raise e) .raise id id) id id) none (id false) (id []) (.func [.For (.Name nmS tp) (.Name (Str.ofString "tokens") it) body [] fp] env) p kp] s := by
  refine ⟨_, _, _, _, _, _, _, rfl, rfl, rfl, by kernel_rfl, fun _ => rfl, by decide, rfl, rfl, rfl, rfl, rfl, rfl, ?_⟩
  intro prog mg mb A G Hp kt fr gI L I I2 env p kp own1 uses1 gn Inv1 Done1 gd W T CO VL fe hL ho hu _ S
  refine seg_gloop S _ (fun m n s₀ s h => h.2.2.1) ?_ ?_
  · intro n s₀ s s' hj c d z
    refine an6 hj fun h1 h2 h3 h4 h5 h6 => ?_
    clear hj
    subst h1
    refine seg_block_end ?_
    exact seg_end (.ok (.ret .none)) ⟨rfl, rfl, h6.trans (c.more (fun p e => (ho 0 p e).imp (fun q => .tail _ q) id) fun g e => e), d, z⟩
  · intro m n s₀ s s' hj c i pst IH
    refine an6 hj fun h1 h2 h3 hM h5 h6 => Exists.elim hM fun mm h4 => ?_
    clear hM hj
    subst h1
    obtain ⟨t, r, htr⟩ : ∃ t r, tksTo kt (m + 1) = t :: r := by
      have := tksTo_len h2
      cases e : tksTo kt (m + 1) with
      | nil => rw [e] at this; cases this
      | cons t r => exact ⟨t, r, rfl⟩
    obtain ⟨k, hk, hr, hem⟩ := tksTo_cons htr h2
    obtain rfl : m = k := by lia
    have tin : t ∈ kt := tksTo_sub _ _ t (by rw [htr]; exact .head _)
    have tm0 : TkM t.i t.typ t.val s'.heap := pst t r htr
    rw [hem]
    have hfo : ∀ b, (∃ o, Hp.get? b = some o) → ¬ own1 (m + 1) b := fun b ⟨o, e⟩ q => by
      rcases ho _ _ q with q | q
      · rw [VL.fh b q] at e; cases e
      · obtain ⟨u, hu, rfl⟩ := List.mem_map.mp q
        rw [T.fresh u (tksTo_sub _ _ u hu)] at e; cases e
    have k5 : Ext Hp s'.heap := fun b o e => c.hp b o (hfo b ⟨o, e⟩) (h5 b o e)
    have k4 : s'.heap.Ns L mm := h4.at fun o e => c.hp L o (fun q => by
      rcases ho _ _ q with q | q
      · exact VL.nf q
      · obtain ⟨u, hu, e⟩ := List.mem_map.mp q
        exact VL.nt u (tksTo_sub _ _ u hu) e) e
    have k6 : Chg2 (ownL kt (L :: fr) (m + 1)) gn s₀ s' := h6.trans (c.more (fun p e => (ho _ p e).imp (fun q => .tail _ q) id) fun g e => e)
    have hne : t.i.a ≠ L := VL.nt t tin
    have zok : ∀ z ∈ [L, t.i.a], Hp.get? z = none ∧ (s'.heap.get? z).isSome = true := fun z hz => by
      revert z; refine al2 ?_ ?_
      · obtain ⟨o, _, _, ho, _⟩ := k4
        exact ⟨VL.hp, by rw [ho]; rfl⟩
      · exact ⟨T.fresh t tin, TkM_some tm0⟩
    have tkfp : ∀ {ty va : Str} (h h' : Heap), (∀ b ∈ [t.i.a], ∀ o, h.get? b = some o → h'.get? b = some o) → TkM t.i ty va h → TkM t.i ty va h' := fun h h' k x => TkM_at x fun o e => k _ (.head _) o e
    have tksm : ∀ {ty va : Str} (h : Heap), TkM t.i ty va h → ∀ b ∈ [t.i.a], (h.get? b).isSome = true := fun h x b hb => by rw [List.mem_singleton.mp hb]; exact TkM_some x
    have F0 : Fs (KK w) mg mb env _ (· ∈ [L, t.i.a]) (punch s'.heap [L, t.i.a]) s' (TkM t.i t.typ t.val) [] s' := mkFs fe W k5 zok (by rw [hL]; exact .head _) (by rw [hL]; exact k4) (fun n y q => by cases q) tm0 [t.i.a] (by rw [hL]; exact fun q => hne (List.mem_singleton.mp q).symm) (tksm _ tm0) tkfp
    refine st_bind F0 (.ref _) (fun s2 F => ?_) rfl
    have hpx : Ext Hp (punch s'.heap [L, t.i.a]) := ext_punch k5 fun z hz => (zok z hz).1
    have aZ : t.i.a ∈ [L, t.i.a] ∧ (punch s'.heap [L, t.i.a]).get? t.i.a = none ∧ t.i.a ≠ env.locals := ⟨.tail _ (.head _), by rw [punch_get, if_pos (.tail _ (.head _))], by rw [hL]; exact hne⟩
    have hC : ∀ {s3 : Shared} {l : List (Str × V)} {Z : Addr → Prop} {Ow : Heap → Prop} {sc : Scope}, Fs (KK w) mg mb env sc Z (punch s'.heap [L, t.i.a]) s' Ow l s3 → TkC t.i s3.heap := fun F3 => (T.c t tin).keep (hpx.trans F3.base)
    have hWd : ∀ {s3 : Shared} {l : List (Str × V)} {Z : Addr → Prop} {Ow : Heap → Prop} {sc : Scope}, Fs (KK w) mg mb env sc Z (punch s'.heap [L, t.i.a]) s' Ow l s3 → (KK w).In s3.heap := fun F3 => F3.world.kin
    have gl : ∀ {b1 b2 : List Stmt} {k : Result → Sem Fin} {nm : Str} {tp : Pos}, Gd 10 (A.in1.over (.forLoop (.Name nm tp) (.ref I) b2 [] env) [.ret k none false [] (.func b1 env) p kp]) := gd_loop gd
    -- the first test
    refine seg_stmt (wpAny_mono (Q := fun f s3 => f = .next ∧ F.like (TkM t.i t.typ (cutV t)) [(Str.ofString "token", .ref t.i.a)] s3) (E := fun _ _ => False) ?_ (fun f s3 q => ?_) fun _ _ x => x.elim)
    · refine s_if F gl (ts_cmp (ev_att (ev_loc F rfl rfl rfl) (att_typ (hWd F) (hC F) F.ow)) ev_str op_eqS) (fun q s3 F3 => ?_) (fun q s3 F3 => s_nil (s_nil ⟨rfl, ?_⟩))
      · have hq : t.typ = strT := eq_of_beq q
        obtain ⟨q1, l, q2, hv, hl, hok⟩ := (CO t tin).1 hq
        have hcut : cutV t = ofL l := by
          unfold cutV
          rw [if_pos hq, hv, ofL_list]; simp
        have hlen : t.val.length ≤ 1000000 := by rw [hv, ofL_len]; simp; lia
        refine s_setatt (x := .str (cutV t)) F3 gl ?_ (ev_loc F3 rfl rfl rfl) aZ (fun s4 v m4 Q4 E4 x4 c4 n4 q4 => put_val ((hWd F3).keeps x4) ((hC F3).keep x4) (F3.ow.keep x4) c4 n4 aZ.2.2 q4) [t.i.a] (by simpa using fun q => aZ.2.2 q.symm) (fun h x => tksm h x) tkfp (fun s4 F4 => s_nil (s_nil ⟨rfl, F4⟩))
        have hsl : cutV t = Txt.slice t.val (some 1) (some (-1)) := by rw [hcut, hv, slc_inner]
        rw [hsl]
        exact ev_slice_ss (ev_att (ev_loc F3 rfl rfl rfl) (att_val (hWd F3) (hC F3) F3.ow)) ev_int (ev_neg ev_int) hlen
      · have hq : ¬ t.typ = strT := fun e => by rw [e] at q; exact absurd q (by decide)
        have hcut : cutV t = t.val := if_neg hq
        rw [hcut]; exact F3
    obtain ⟨rfl, F3⟩ := q
    dsimp only
    refine seg_stmt (wpAny_mono (Q := fun f s3 => f = .next ∧ F.like (TkM t.i t.typ (convV t)) [(Str.ofString "token", .ref t.i.a)] s3) (E := fun _ _ => False) ?_ (fun f s4 q => ?_) fun _ _ x => x.elim)
    · refine s_if F3 gl (ts_cmp (ev_att (ev_loc F3 rfl rfl rfl) (att_typ (hWd F3) (hC F3) F3.ow)) (ev_list (l := [.str strT, .str charTy]) F3.xa (by decide) (evs_cons ev_str (evs_cons ev_str evs_nil))) (op_inLs (ys := [strT, charTy]))) (fun q s4 F4 => ?_) (fun q s4 F4 => s_nil (s_nil ⟨rfl, ?_⟩))
      · obtain ⟨l, hcut, hl, hok, hcv⟩ : ∃ l, cutV t = ofL l ∧ l.length ≤ 400 ∧ OkT l ∧ convV t = ofL (R l) := by
          by_cases hq : t.typ = strT
          · obtain ⟨q1, l, q2, hv, hl, hok⟩ := (CO t tin).1 hq
            have e : (t.val.cps.toList.drop 1).dropLast = l := by rw [hv, ofL_list]; simp
            exact ⟨l, by unfold cutV; rw [if_pos hq, e], hl, hok, by unfold convV; rw [if_pos hq, e]⟩
          · have hq2 : t.typ = charTy := by
              have : ([strT, charTy].contains t.typ) = true := q
              simp only [List.contains_cons, List.contains_nil, Bool.or_false, Bool.or_eq_true, beq_iff_eq] at this
              exact this.resolve_left hq
            obtain ⟨l, hv, hl, hok⟩ := (CO t tin).2.1 hq2
            exact ⟨l, by unfold cutV; rw [if_neg hq, hv], hl, hok, by unfold convV; rw [if_neg hq, if_pos hq2, hv, ofL_list]⟩
        refine s_setatt (x := .str (convV t)) F4 gl ?_ (ev_loc F4 rfl rfl rfl) aZ (fun s5 v m4 Q4 E4 x4 c4 n4 q4 => put_val ((hWd F4).keeps x4) ((hC F4).keep x4) (F4.ow.keep x4) c4 n4 aZ.2.2 q4) [t.i.a] (by simpa using fun q => aZ.2.2 q.symm) (fun h x => tksm h x) tkfp (fun s5 F5 => s_nil (s_nil ⟨rfl, F5⟩))
        rw [hcv]
        exact ev_call F4.world F4.xa (F4.glob (by kernel_rfl) rfl rfl) rfl rfl (rep_pf (w := w) (mg := mg) (mb := mb) (prog := prog)) (by decide) (evs_cons (ev_att (ev_loc F4 rfl rfl rfl) (att_val (hWd F4) (hC F4) F4.ow)) evs_nil) ⟨l, by lia, hok, by rw [hcut], rfl⟩
      · have hn : ¬ t.typ = strT ∧ ¬ t.typ = charTy := by
          have : ([strT, charTy].contains t.typ) = false := q
          simpa [List.contains_cons] using this
        have : convV t = cutV t := by unfold convV cutV; rw [if_neg hn.1, if_neg hn.2, if_neg hn.1]
        rw [this]; exact F4
    obtain ⟨rfl, F4⟩ := q
    dsimp only
    refine seg_execs_cons (seg_Expr_Yield rfl rfl rfl ?_ (by rw [fe.hsc]) (by unfold interactive; rw [fe.hsc]; rfl))
    refine ev_goR (gd_loop (d := 10) gd) (ev_loc F4 rfl rfl rfl) fun h5 tk5 e5 => ?_
    have F5 := F4.ext (tk := tk5) e5
    intro kap hkap
    have nz : ∀ z ∈ [L, t.i.a], ¬ uses1 m z := fun z hz q => by
      revert z; refine al2 ?_ ?_
      · intro q
        rcases hu _ _ q with q | q | q | q
        · rw [VL.hp] at q; cases q
        · exact VL.nf q
        · exact VL.ng q
        · obtain ⟨u, hu, e⟩ := List.mem_map.mp q
          exact VL.nt u (tksTo_sub _ _ u hu) e
      · intro q
        rcases hu _ _ q with q | q | q | q
        · rw [T.fresh t tin] at q; cases q
        · exact (VL.ft t tin).1 q
        · exact (VL.ft t tin).2 q
        · rw [hr] at q; exact tks_nd T.nd htr q
    refine ⟨by rw [hem], k6.trans (F5.chg fun z hz => ?_), fun u r hu => ?_, ?_, fun s6 a6 => hkap .none s6 ?_⟩
    · revert z; refine al2 ?_ ?_
      · exact .inl (.head _)
      · exact .inr (by rw [htr]; exact .head _)
    · rw [htr] at hu; cases hu
      exact F5.ow
    · rw [F5.gens.1]; exact S.size _ _ i
    · refine seg_execs_nil (seg_turn (IH _ _ _ ?_))
      refine ⟨rfl, by lia, S.keep m _ s6 (S.keep m s' _ i (F5.agr nz)) (a6.less (fun b q => ?_) fun g q => q), ?_, fun b o e => a6.hp b o (.inl (by rw [e]; rfl)) ((hpx.trans F5.base) b o e), Chg2.refl _⟩
      · rcases hu _ _ q with q | q | q | q
        · exact .inl q
        · exact .inr (.inl (.tail _ q))
        · exact .inr (.inr (.inl (.tail _ q)))
        · exact .inr (.inr (.inr q))
      · obtain ⟨m3, hm3, _⟩ := F5.ns
        rw [hL] at hm3
        exact ⟨m3, hm3.at fun o e => a6.hp L o (.inr (.inl (.head _))) e⟩
end
section
/-- the surroundings of a loop in a generator's frame -/
noncomputable def loopA (A : Around) (env : Env) : Around := A.in1.over (.forLoop (.Name (Str.ofString "x") ⟨0, 0, 0, 0⟩) .none [] [] env) [.ret (fun _ => .pure (.done .next)) none false [] (.func [] env) ⟨0, 0, 0, 0⟩ []]
noncomputable def funcA (A : Around) (env : Env) : Around := A.in1.over (.func [] env) []
theorem gd_loopA {d : Nat} {A : Around} {env : Env} (g : Gd (d + 2) A) : Gd d (loopA A env) := gd_loop g
theorem gd_funcA {d : Nat} {A : Around} {env : Env} (g : Gd (d + 2) A) : Gd d (funcA A env) := gd_func g

section
variable {prog : Program} {w : World} {A : Around} {E : Value → Shared → Prop} {s : Shared} {K : Frag} {x C : Addr} {ox : Obj} {od : Option Obj}
theorem truthy_inst {M : Model} {Q : Bool → Shared → Prop} (X : K.In s.heap) (I : InstAt s.heap x ox C od) (hs : findIn K (.ref C) "__bool__" = some none) (hl : findIn K (.ref C) "__len__" = some none)
    (h : Q true s) : wpAny M A (truthy (.ref x)) Q E s := by
  unfold truthy
  refine wpAny_bind (m := callSpecial? (.ref x) (Str.ofString "__bool__")) (wpAny_bind (wpAny_bind (I.type.here ((looks_findIn X hs).here (wpAny_pure ?_)))))
  refine wpAny_bind (wpAny_bind (I.type.here ((looks_findIn X hl).here ?_)))
  exact wpAny_pure h
theorem tr_tok {X : Addr → Prop} {d : Nat} {h : Heap} {i : TkI} {typ val : Str} (W : (KK w).In h) (c : TkC i h) (m : TkM i typ val h) : ∀ h' v, Ext h h' → Con X h' (.ref i.a) v → YlB prog w d h' (truthy v) true := fun h' v e cv A Q E s g x q => by
  cases cv
  obtain ⟨t1, t2, ho⟩ := m.keep (e.trans x)
  exact truthy_inst (W.keeps (e.trans x)) (tk_inst ho (c.keep (e.trans x))) (by kernel_rfl) (by kernel_rfl) (q s.heap s.toks (.refl _))
theorem tr_none {X : Addr → Prop} {d : Nat} {h : Heap} : ∀ h' v, Ext h h' → Con X h' .none v → YlB prog w d h' (truthy v) false := fun h' v e cv A Q E s g x q => by
  cases cv
  exact truthy_none (q s.heap s.toks (.refl _))
end

/-- the joined tokens: first token, text, what is left from it on -/
structure CtD where
  t : TkD
  v : Str
  sf : List TkD
noncomputable def catD : Option CtD → List TkD → List CtD
  | none, [] => []
  | some c, [] => [c]
  | none, t :: r => if t.typ = strT then catD (some ⟨t, convV t, t :: r⟩) r else ⟨t, convV t, t :: r⟩ :: catD none r
  | some c, t :: r => if t.typ = strT then catD (some ⟨c.t, c.v ++ convV t, c.sf⟩) r else c :: ⟨t, convV t, t :: r⟩ :: catD none r
theorem catD_ns {t : TkD} {r : List TkD} (h : t.typ = strT) : catD none (t :: r) = catD (some ⟨t, convV t, t :: r⟩) r := by rw [catD, if_pos h]
theorem catD_no {t : TkD} {r : List TkD} (h : ¬ t.typ = strT) : catD none (t :: r) = ⟨t, convV t, t :: r⟩ :: catD none r := by rw [catD, if_neg h]
theorem catD_ss {c : CtD} {t : TkD} {r : List TkD} (h : t.typ = strT) : catD (some c) (t :: r) = catD (some ⟨c.t, c.v ++ convV t, c.sf⟩) r := by rw [catD, if_pos h]
theorem catD_so {c : CtD} {t : TkD} {r : List TkD} (h : ¬ t.typ = strT) : catD (some c) (t :: r) = c :: ⟨t, convV t, t :: r⟩ :: catD none r := by rw [catD, if_neg h]
noncomputable def ctLeft (outs : List CtD) (n : Nat) : List CtD := outs.drop (outs.length - n)
noncomputable def ctEm (outs : List CtD) (n : Nat) : Addr := match ctLeft outs (n + 1) with | c :: _ => c.t.i.a | [] => 0
noncomputable def ctTk (outs : List CtD) (n : Nat) : List Addr := match ctLeft outs n with | c :: _ => c.sf.map (·.i.a) | [] => []
theorem ctLeft_len {outs : List CtD} {n : Nat} (h : n ≤ outs.length) : (ctLeft outs n).length = n := by unfold ctLeft; rw [List.length_drop]; lia
theorem ctLeft_cons {outs : List CtD} {n : Nat} {c : CtD} {r : List CtD} (h : ctLeft outs n = c :: r) (hn : n ≤ outs.length) : ∃ k, n = k + 1 ∧ ctLeft outs k = r ∧ ctEm outs k = c.t.i.a ∧ ctTk outs (k + 1) = c.sf.map (·.i.a) := by
  have hl := ctLeft_len hn
  rw [h] at hl
  obtain ⟨k, rfl⟩ : ∃ k, n = k + 1 := ⟨r.length, by simpa using hl.symm⟩
  refine ⟨k, rfl, ?_, by unfold ctEm; rw [h], by unfold ctTk; rw [h]⟩
  have : ctLeft outs k = (ctLeft outs (k + 1)).drop 1 := by unfold ctLeft; rw [List.drop_drop]; congr 1; lia
  rw [this, h]; rfl
noncomputable def ownC (outs : List CtD) (fr : List Addr) (n : Nat) (b : Addr) : Prop := b ∈ fr ∨ b ∈ ctTk outs n
noncomputable def usesC (Hp : Heap) (outs : List CtD) (fr gI : List Addr) (n : Nat) (b : Addr) : Prop := (Hp.get? b).isSome = true ∨ b ∈ fr ∨ b ∈ gI ∨ b ∈ ctTk outs n
noncomputable def PostC (outs : List CtD) (f : CtD → Str × Str) (n : Nat) (s : Shared) : Prop := ∀ c r, ctLeft outs (n + 1) = c :: r → TkM c.t.i (f c).1 (f c).2 s.heap
/-- a hold is in order -/
noncomputable def HoldOk (kt : List TkD) (m : Nat) : Option CtD → Prop
  | none => True
  | some c => c.t.typ = strT ∧ c.v.length ≤ 1000 * (kt.length - m) ∧ ∃ k mid, c.sf = tksTo kt k ∧ c.sf = c.t :: (mid ++ tksTo kt m)
noncomputable def holdV : Option CtD → V
  | none => .none
  | some c => .ref c.t.i.a
theorem catD_hold {c : CtD} : ∀ (r : List TkD) (v : Str), ∃ c' r', catD (some ⟨c.t, v, c.sf⟩) r = c' :: r' ∧ c'.t = c.t ∧ c'.sf = c.sf
  | [], v => ⟨_, _, rfl, rfl, rfl⟩
  | t :: r, v => by
    unfold catD
    split
    · exact catD_hold r _
    · exact ⟨_, _, rfl, rfl, rfl⟩
theorem ctTk_hold {outs : List CtD} {n : Nat} {c : CtD} {r : List TkD} (h : ctLeft outs n = catD (some c) r) : ctTk outs n = c.sf.map (·.i.a) := by
  obtain ⟨c', r', e, _, e2⟩ := catD_hold (c := c) r c.v
  unfold ctTk
  rw [h, e]
  dsimp only
  rw [e2]
theorem ctTk_none {outs : List CtD} {n : Nat} {r : List TkD} (h : ctLeft outs n = catD none r) : ctTk outs n = r.map (·.i.a) := by
  unfold ctTk
  rw [h]
  cases r with
  | nil => rfl
  | cons t r =>
    by_cases q : t.typ = strT
    · obtain ⟨c', r', e, _, e2⟩ := catD_hold (c := ⟨t, convV t, t :: r⟩) r (convV t)
      rw [catD_ns q]
      dsimp only at e
      rw [e]
      dsimp only
      rw [e2]
    · rw [catD_no q]
/-- the inner tokens to come are among the outer's -/
theorem ctTk_rest {outs : List CtD} {kt : List TkD} {n m : Nat} {hold : Option CtD} (h : ctLeft outs n = catD hold (tksTo kt m)) (ho : HoldOk kt m hold) : ∀ b, b ∈ (tksTo kt m).map (·.i.a) → b ∈ ctTk outs n := fun b hb => by
  cases hold with
  | none => rw [ctTk_none h]; exact hb
  | some c =>
    rw [ctTk_hold h]
    obtain ⟨_, _, k, mid, _, e⟩ := ho
    rw [e, List.map_cons, List.map_append]
    exact .tail _ (List.mem_append_right _ hb)
end
section
noncomputable def holdVal : Option CtD → Value
  | none => .none
  | some c => .ref c.t.i.a
theorem con_hold {X : Addr → Prop} {h : Heap} (o : Option CtD) : Con X h (holdV o) (holdVal o) := by
  cases o with
  | none => exact .none
  | some c => exact .ref _
theorem lk1 {n m : Str} {x y : V} (q : [(m, x)].lookup n = some y) : n = m ∧ y = x := by
  rw [List.lookup_cons] at q
  by_cases e : (n == m) = true
  · rw [e] at q
    exact ⟨by simpa using e, (Option.some.inj q).symm⟩
  · rw [Bool.not_eq_true] at e
    rw [e] at q; cases q

theorem mkFs1 {K : Frag} {mg mb : Str → Option Value} {env : Env} {sc : Scope} {hb : Heap} {s : Shared} {L : Addr} {m : Str → Option Value} {n : Str} {x : V} {v : Value} (fe : Fenv env sc) (W : Wd K mg mb hb) (e : Ext hb s.heap) (hL : env.locals = L) (hp : hb.get? L = none)
    (hm : s.heap.Ns L m) (hv : m n = some v) (c : Con (· ∈ [L]) s.heap x v) : Fs K mg mb env sc (· ∈ [L]) (punch s.heap [L]) s (fun _ => True) [(n, x)] s :=
  mkFs fe W e (al1 ⟨hp, by obtain ⟨o, _, _, ho, _⟩ := hm; rw [ho]; rfl⟩) (by rw [hL]; exact .head _) (by rw [hL]; exact hm) (fun k y q => let ⟨a, b⟩ := lk1 q; ⟨v, by rw [a]; exact hv, by rw [b]; exact c⟩) trivial [] (by simp) (by simp) (fun _ _ _ _ => trivial)
/-- string_concat -/
theorem lvl3 (w : World) : ∃ (o : Obj) (fd : FuncData) (tp it : Pos) (nmS : Str) (body : List Stmt) (fp : Pos) (st0 st2 : Stmt), (KK w).lookup 86 = some o ∧ o.data = .func fd ∧ fd.body = .stmts [st0, .For (.Name nmS tp) (.Name (Str.ofString "tokens") it) body [] fp, st2] ∧
    codeIn (KK w) fd.code fd.qualname = true ∧ (∀ v, bindArgs fd ⟨[v], []⟩ = pure [(Str.ofString "tokens", v)]) ∧ (∀ x ∈ fd.scope.names, x.2 ≠ .cell) ∧ fd.scope.names.lookup (Str.ofString "tokens") = some .local ∧ fd.globals = mainGlobals ∧ fd.builtins = builtinsNs ∧
    fd.scope.isCoroutine = false ∧ fd.scope.isGenerator = true ∧ fd.scope.kind = .function ∧
    ∀ {prog : Program} {mg mb : Str → Option Value} {A : Around} {G : Nat} {Hp : Heap} {kt : List TkD} {fr gI : List Addr} {L I I3 : Addr} {env : Env} {own1 uses1 : Nat → Addr → Prop} {gn : Nat → Prop} {Inv1 : Nat → Shared → Prop} {Done1 : Shared → Prop},
      Gd 12 A → Wd (KK w) mg mb Hp → Toks Hp kt → (∀ t ∈ kt, ConvOk t) → kt.length ≤ 100 → Lv Hp kt fr gI L → Fenv env fd.scope → env.locals = L → (∀ m b, own1 m b → b ∈ fr ∨ b ∈ (tksTo kt m).map (·.i.a)) → (∀ m b, uses1 m b → usesL Hp kt fr gI m b) →
      (∀ s s' : Shared, Done1 s → (∀ g, gn g → s'.gens[g]? = s.gens[g]?) → Done1 s') → (∀ m s A Q E, Inv1 m s → Q (.ref I) s → wpAny (model prog w) A (pyIter (.ref I)) Q E s) →
      Strm2 prog w (loopA A env) G I own1 uses1 gn (emA kt) Inv1 Done1 (PostT kt fun t => (t.typ, convV t)) →
      ∀ s, Inv1 kt.length s → (∃ mm, s.heap.Ns L mm ∧ mm (Str.ofString "tokens") = some (.ref I)) → Ext Hp s.heap →
        Seg (model prog w) A.in1 (fun n s₀ r s₁ => r = .ok (.ret .none) ∧ GP2 G (ownC (catD none kt) (L :: fr)) gn Done1 n s₀ s₁) (GY2 G (ownC (catD none kt) (L :: fr)) (usesC Hp (catD none kt) (L :: fr) (I3 :: gI)) gn (ctEm (catD none kt)) (PostC (catD none kt) fun c => (c.t.typ, c.v))) (catD none kt).length s
          (.func [st0, .For (.Name nmS tp) (.Name (Str.ofString "tokens") it) body [] fp, st2] env) ((model prog w).den (.func [st0, .For (.Name nmS tp) (.Name (Str.ofString "tokens") it) body [] fp, st2] env)) [] s := by
  refine ⟨_, _, _, _, _, _, _, _, _, rfl, rfl, rfl, by kernel_rfl, fun _ => rfl, by decide, rfl, rfl, rfl, rfl, rfl, rfl, ?_⟩
  intro prog mg mb A G Hp kt fr gI L I I3 env own1 uses1 gn Inv1 Done1 gd W T CO hkt VL fe hL ho hu hdk hit S
  generalize hou : catD none kt = outs
  -- what holds at the loop's head
  let J : Nat → Nat → Shared → Shared → Prop := fun m n s₀ s => ∃ hold : Option CtD, m ≤ kt.length ∧ n ≤ outs.length ∧ ctLeft outs n = catD hold (tksTo kt m) ∧ HoldOk kt m hold ∧ Inv1 m s ∧ (∃ mm, s.heap.Ns L mm ∧ mm (Str.ofString "string_token") = some (holdVal hold)) ∧
    (∀ c, hold = some c → TkM c.t.i c.t.typ c.v s.heap) ∧ Ext Hp s.heap ∧ Chg2 (ownC outs (L :: fr) n) gn s₀ s
  have nzL : ∀ m, ¬ uses1 m L := fun m q => by
    rcases hu _ _ q with q | q | q | q
    · rw [VL.hp] at q; cases q
    · exact VL.nf q
    · exact VL.ng q
    · obtain ⟨u, hu, e⟩ := List.mem_map.mp q
      exact VL.nt u (tksTo_sub _ _ u hu) e
  have hfo : ∀ m b, (∃ o, Hp.get? b = some o) → ¬ own1 m b := fun m b ⟨o, e⟩ q => by
    rcases ho _ _ q with q | q
    · rw [VL.fh b q] at e; cases e
    · obtain ⟨u, hu, rfl⟩ := List.mem_map.mp q
      rw [T.fresh u (tksTo_sub _ _ u hu)] at e; cases e
  have hoL : ∀ m, ¬ own1 m L := fun m q => by
    rcases ho _ _ q with q | q
    · exact VL.nf q
    · obtain ⟨u, hu, e⟩ := List.mem_map.mp q
      exact VL.nt u (tksTo_sub _ _ u hu) e
  -- a held token lies apart
  have hcin : ∀ {m : Nat} {c : CtD}, HoldOk kt m (some c) → c.t ∈ kt ∧ c.t.i.a ∉ (tksTo kt m).map (·.i.a) := fun {m c} h => by
    obtain ⟨_, _, k, mid, e1, e2⟩ := h
    have e3 : tksTo kt k = c.t :: (mid ++ tksTo kt m) := e1.symm.trans e2
    refine ⟨tksTo_sub kt k _ (by rw [e3]; exact .head _), fun q => tks_nd T.nd e3 ?_⟩
    rw [List.map_append]; exact List.mem_append_right _ q
  have nzc : ∀ {m : Nat} {c : CtD}, HoldOk kt m (some c) → ¬ uses1 m c.t.i.a := fun {m c} h q => by
    have := hcin h
    rcases hu _ _ q with q | q | q | q
    · rw [T.fresh _ this.1] at q; cases q
    · exact (VL.ft _ this.1).1 q
    · exact (VL.ft _ this.1).2 q
    · exact this.2 q
  have hoc : ∀ {m : Nat} {c : CtD}, HoldOk kt m (some c) → ¬ own1 m c.t.i.a := fun {m c} h q => by
    have := hcin h
    rcases ho _ _ q with q | q
    · exact (VL.ft _ this.1).1 q
    · exact this.2 q
  have hsub : ∀ {n m : Nat} {hold : Option CtD}, ctLeft outs n = catD hold (tksTo kt m) → HoldOk kt m hold → ∀ b, own1 m b → ownC outs (L :: fr) n b := fun h1 h2 b q => by
    rcases ho _ _ q with q | q
    · exact .inl (.tail _ q)
    · exact .inr (ctTk_rest h1 h2 b q)
  have gdl : Gd 10 (loopA A env) := gd_loopA gd
  have gdf : Gd 10 (funcA A env) := gd_funcA gd
  intro s hI ⟨mm, hns, hmm⟩ hx
  have zok0 : ∀ {s' : Shared}, (∃ m, s'.heap.Ns L m) → ∀ z ∈ [L], Hp.get? z = none ∧ (s'.heap.get? z).isSome = true := fun ⟨m, h⟩ z hz => by
    rw [List.mem_singleton.mp hz]
    obtain ⟨o, _, _, ho, _⟩ := h
    exact ⟨VL.hp, by rw [ho]; rfl⟩
  have nz1 : ∀ m, ∀ z ∈ [L], ¬ uses1 m z := fun m z hz => by rw [List.mem_singleton.mp hz]; exact nzL m
  -- the start
  have F0 : Fs (KK w) mg mb env _ (· ∈ [L]) (punch s.heap [L]) s (fun _ => True) [(Str.ofString "tokens", .ref I)] s := mkFs1 fe W hx hL VL.hp hns hmm (.ref _)
  refine seg_func (seg_stmt (s_assign F0 gdf ev_none rfl fun s1 F1 => s_nil ?_))
  dsimp only
  refine seg_execs_cons (seg_For (ev_goR gdf (ev_loc F1 rfl rfl rfl) fun h2 tk2 e2 => ?_))
  have F2 := F1.ext (tk := tk2) e2
  have hI2 : Inv1 kt.length { s1 with heap := h2, toks := tk2 } := S.keep _ _ _ hI (F2.agr (nz1 _))
  refine hit _ _ _ _ _ hI2 fun p => ?_
  have hJ0 : J kt.length outs.length s { s1 with heap := h2, toks := tk2 } := by
    refine ⟨none, Nat.le_refl _, Nat.le_refl _, ?_, trivial, hI2, ?_, (fun c q => by cases q), (ext_punch hx fun z hz => (zok0 ⟨_, hns⟩ z hz).1).trans F2.base, F2.chg fun z hz => .inl (by rw [List.mem_singleton.mp hz]; exact .head _)⟩
    · unfold ctLeft; rw [Nat.sub_self, tksTo_all, hou]; rfl
    · rw [← hL]; exact F2.nsNone rfl
  refine seg_gloop (G := G) (own := own1) (uses := uses1) (gn := gn) (em := emA kt) (Inv := Inv1) (Done := Done1) (Post := PostT kt fun t => (t.typ, convV t)) ?_ J (fun m n s₀ s ⟨_, _, _, _, _, h, _⟩ => h) ?_ ?_ _ _ _ _ hJ0
  · exact S
  · -- the end
    clear hJ0 F2 F1 F0 hI2 hns hmm hx hI
    intro n s₀ s s' hj c d z
    refine Exists.elim hj fun hold hj2 => an9 hj2 fun h1 h2 h3 h4 h5 hM h7 h8 h9 => Exists.elim hM fun mm hM2 => an2 hM2 fun h6 h6b => ?_
    clear hM2 hM hj2 hj
    refine seg_block_end ?_
    have k6 : s'.heap.Ns L mm := h6.at fun o e => c.hp L o (hoL 0) e
    have k8 : Ext Hp s'.heap := fun b o e => c.hp b o (hfo 0 b ⟨o, e⟩) (h8 b o e)
    have k9 : Chg2 (ownC outs (L :: fr) n) gn s₀ s' := h9.trans (c.more (hsub h3 h4) fun g e => e)
    have F : Fs (KK w) mg mb env _ (· ∈ [L]) (punch s'.heap [L]) s' (fun _ => True) [(Str.ofString "string_token", holdV hold)] s' := mkFs1 fe W k8 hL VL.hp k6 h6b (con_hold _)
    refine seg_execs_cons (seg_If ?_)
    cases hold with
    | none =>
      refine ts_go gdf (ts_val (ev_loc F rfl rfl rfl) tr_none (by rfl)) fun h3' tk e3 => ?_
      rw [if_neg Bool.false_ne_true]
      have F3 := F.ext (tk := tk) e3
      have hn : n = 0 := by
        have hl := ctLeft_len h2
        have h0 : tksTo kt 0 = [] := List.eq_nil_of_length_eq_zero (tksTo_len (Nat.zero_le _))
        rw [h3, h0] at hl; exact hl.symm
      subst hn
      refine seg_execs_nil (seg_execs_nil (seg_end (.ok (.ret .none)) ⟨rfl, rfl, k9.trans (F3.chg fun z hz => .inl (by rw [List.mem_singleton.mp hz]; exact .head _)), hdk _ _ d fun g _ => by rw [F3.gens.1], ?_⟩))
      rw [F3.gens.1]; exact z
    | some c' =>
      have hcl := hcin h4
      have hM : TkM c'.t.i c'.t.typ c'.v s'.heap := TkM_at (h7 c' rfl) fun o e => c.hp _ o (hoc h4) e
      have hC : TkC c'.t.i s'.heap := (T.c _ hcl.1).keep k8
      refine ts_go gdf (ts_val (ev_loc F rfl rfl rfl) (tr_tok F.world.kin hC hM) (by rfl)) fun h3' tk e3 => ?_
      rw [if_pos rfl]
      have F3 := F.ext (tk := tk) e3
      have h0 : tksTo kt 0 = [] := List.eq_nil_of_length_eq_zero (tksTo_len (Nat.zero_le _))
      have h3b : ctLeft outs n = [c'] := by rw [h3, h0]; rfl
      obtain ⟨k, rfl, hk1, hk2, hk3⟩ := ctLeft_cons h3b h2
      have hk0 : k = 0 := by
        have hl := ctLeft_len h2
        rw [h3b] at hl; simp at hl; lia
      subst hk0
      refine seg_execs_cons (seg_Expr_Yield rfl rfl rfl ?_ (by rw [fe.hsc]) (by unfold interactive; rw [fe.hsc]; rfl))
      refine ev_goR gdf (ev_loc F3 rfl rfl rfl) fun h5' tk5 e5 => ?_
      have F5 := F3.ext (tk := tk5) e5
      intro kap hkap
      refine ⟨by rw [hk2], k9.trans (F5.chg fun z hz => .inl (by rw [List.mem_singleton.mp hz]; exact .head _)), fun u r hu => ?_, ?_, fun s6 a6 => hkap .none s6 ?_⟩
      · rw [h3b] at hu; cases hu
        exact (hM.keep e3).keep e5
      · rw [F5.gens.1]; exact z
      · refine seg_execs_nil (seg_execs_nil (seg_end (.ok (.ret .none)) ⟨rfl, rfl, Chg2.refl _, hdk _ _ d fun g hg => by rw [a6.gk g hg, F5.gens.1], ?_⟩))
        rw [a6.gs, F5.gens.1]; exact z
  · -- a turn
    clear hJ0 F2 F1 F0 hI2 hns hmm hx hI
    intro m n s₀ s s' hj c i pst IH
    refine Exists.elim hj fun hold hj2 => an9 hj2 fun h1 h2 h3 h4 h5 hM h7 h8 h9 => Exists.elim hM fun mm hM2 => an2 hM2 fun h6 h6b => ?_
    clear hM2 hM hj2 hj
    obtain ⟨t, r, htr⟩ : ∃ t r, tksTo kt (m + 1) = t :: r := by
      have := tksTo_len h1
      cases e : tksTo kt (m + 1) with
      | nil => rw [e] at this; cases this
      | cons t r => exact ⟨t, r, rfl⟩
    obtain ⟨k, hk, hr, hem⟩ := tksTo_cons htr h1
    obtain rfl : m = k := by lia
    have tin : t ∈ kt := tksTo_sub _ _ t (by rw [htr]; exact .head _)
    have tm0 : TkM t.i t.typ (convV t) s'.heap := pst t r htr
    rw [hem]
    have hmk : m + 1 ≤ kt.length := h1
    have k6 : s'.heap.Ns L mm := h6.at fun o e => c.hp L o (hoL _) e
    have k8 : Ext Hp s'.heap := fun b o e => c.hp b o (hfo _ b ⟨o, e⟩) (h8 b o e)
    have k9 : Chg2 (ownC outs (L :: fr) n) gn s₀ s' := h9.trans (c.more (hsub h3 h4) fun g e => e)
    have k7 : ∀ c, hold = some c → TkM c.t.i c.t.typ c.v s'.heap := fun c' e => TkM_at (h7 c' e) fun o e2 => c.hp _ o (hoc (by subst e; exact h4)) e2
    have hne : t.i.a ≠ L := VL.nt t tin
    have tc0 : TkC t.i s'.heap := (T.c t tin).keep k8
    rw [htr] at h3
    have hlc : (convV t).length ≤ 1000 := convV_len (CO t tin)
    -- again, from a later state
    have again : ∀ {n' : Nat} {s₁ s3 : Shared} {hold' : Option CtD}, n' ≤ outs.length → ctLeft outs n' = catD hold' r → HoldOk kt m hold' → Inv1 m s3 → (∃ mm, s3.heap.Ns L mm ∧ mm (Str.ofString "string_token") = some (holdVal hold')) → (∀ c, hold' = some c → TkM c.t.i c.t.typ c.v s3.heap) → Ext Hp s3.heap → Chg2 (ownC outs (L :: fr) n') gn s₁ s3 → J m n' s₁ s3 :=
      fun a b c d e f g h => ⟨_, by lia, a, by rw [hr]; exact b, c, d, e, f, g, h⟩
    have stl : ∀ {sc : Scope} {Z : Addr → Prop} {hb : Heap} {σ s3 : Shared} {Ow : Heap → Prop} {l : List (Str × V)} {o : Option CtD}, Fs (KK w) mg mb env sc Z hb σ Ow l s3 → l.lookup (Str.ofString "string_token") = some (holdV o) → ∃ mm, s3.heap.Ns L mm ∧ mm (Str.ofString "string_token") = some (holdVal o) := fun {sc Z hb σ s3 Ow l o} F q => by
      rw [← hL]
      cases o with
      | none => exact F.nsNone q
      | some c => exact F.nsRef q
    cases hold with
    | none =>
      have F0 : Fs (KK w) mg mb env _ (· ∈ [L]) (punch s'.heap [L]) s' (fun _ => True) [(Str.ofString "string_token", .none)] s' := mkFs1 fe W k8 hL VL.hp k6 h6b (.none)
      have hpx : Ext Hp (punch s'.heap [L]) := ext_punch k8 fun z hz => (zok0 ⟨_, k6⟩ z hz).1
      have own1' : ∀ {n' : Nat}, ∀ z ∈ [L], ownC outs (L :: fr) n' z := fun z hz => .inl (by rw [List.mem_singleton.mp hz]; exact .head _)
      refine st_bind F0 (.ref _) (fun s2 F => ?_) rfl
      have tmF : ∀ {sc : Scope} {Z : Addr → Prop} {s3 : Shared} {Ow : Heap → Prop} {l : List (Str × V)}, Fs (KK w) mg mb env sc Z (punch s'.heap [L]) s' Ow l s3 → TkM t.i t.typ (convV t) s3.heap := fun F3 => TkM_at tm0 fun o e => punch_keep F3.base _ o (fun q => hne (List.mem_singleton.mp q)) e
      refine seg_execs_cons (seg_If (ts_go gdl (ts_cmp (ev_att (ev_loc F rfl rfl rfl) (att_typ F.world.kin ((T.c t tin).keep (hpx.trans F.base)) (tmF F))) ev_str op_eqS) fun h3' tk3 e3 => ?_))
      have F3 := F.ext (tk := tk3) e3
      by_cases hq : t.typ = strT
      · rw [if_pos (by rw [hq]; exact beq_self_eq_true _)]
        refine seg_stmt (s_if F3 gdl (ts_val (ev_loc F3 rfl rfl rfl) tr_none (by rfl)) ff (fun _ s4 F4 => ?_))
        refine s_assign F4 gdl (ev_loc F4 rfl rfl rfl) rfl fun s5 F5 => s_nil (s_nil ?_)
        dsimp only
        refine seg_execs_nil (seg_execs_nil (seg_turn (IH _ _ _ (again (hold' := some ⟨t, convV t, t :: r⟩) h2 (by rw [h3, catD_ns hq]) ⟨hq, ?_, m + 1, [], htr.symm, by rw [hr]; rfl⟩ (S.keep _ _ _ i (F5.agr (nz1 _))) (stl (o := some ⟨t, convV t, t :: r⟩) F5 rfl) (fun c' e => by cases e; exact tmF F5) (hpx.trans F5.base) (k9.trans (F5.chg own1'))))))
        show (convV t).length ≤ _
        lia
      · rw [if_neg (show ¬ (t.typ == Str.ofString "STRING") = true from fun q => hq (eq_of_beq q))]
        have h3b : ctLeft outs n = ⟨t, convV t, t :: r⟩ :: catD none r := by rw [h3, catD_no hq]
        obtain ⟨k, rfl, hk1, hk2, hk3⟩ := ctLeft_cons h3b h2
        refine seg_stmt (s_if F3 gdl (ts_val (ev_loc F3 rfl rfl rfl) tr_none (by rfl)) ff (fun _ s4 F4 => s_nil (s_nil ?_)))
        dsimp only
        refine seg_execs_cons (seg_Expr_Yield rfl rfl rfl ?_ (by rw [fe.hsc]) (by unfold interactive; rw [fe.hsc]; rfl))
        refine ev_goR gdl (ev_loc F4 rfl rfl rfl) fun h5' tk5 e5 => ?_
        have F5 := F4.ext (tk := tk5) e5
        intro kap hkap
        refine ⟨by rw [hk2], k9.trans (F5.chg own1'), fun u r hu => ?_, ?_, fun s6 a6 => hkap .none s6 ?_⟩
        · rw [h3b] at hu; cases hu
          exact tmF F5
        · rw [F5.gens.1]; exact S.size _ _ i
        · obtain ⟨m3, hm3, hv3⟩ := stl (o := none) F5 rfl
          refine seg_execs_nil (seg_execs_nil (seg_turn (IH _ _ _ (again (hold' := none) (by lia) hk1 trivial (S.keep _ _ _ (S.keep _ _ _ i (F5.agr (nz1 _))) (a6.less (fun b q => ?_) fun g q => q)) ⟨m3, hm3.at fun o e => a6.hp L o (.inr (.inl (.head _))) e, hv3⟩ (fun c' e => by cases e) (fun b o e => a6.hp b o (.inl (by rw [e]; rfl)) ((hpx.trans F5.base) b o e)) (Chg2.refl _)))))
          rcases hu _ _ q with q | q | q | q
          · exact .inl q
          · exact .inr (.inl (.tail _ q))
          · exact .inr (.inr (.inl (.tail _ q)))
          · exact .inr (.inr (.inr (by rw [ctTk_none hk1, ← hr]; exact q)))
    | some hc =>
      have hcl := hcin h4
      have hcne : hc.t.i.a ≠ t.i.a := fun e => hcl.2 (by rw [htr, e]; exact .head _)
      have hcL : hc.t.i.a ≠ L := VL.nt _ hcl.1
      have hcM := k7 hc rfl
      obtain ⟨hq1, hv1, kk, mid, hs1, hs2⟩ := h4
      have h4' : HoldOk kt (m + 1) (some hc) := ⟨hq1, hv1, kk, mid, hs1, hs2⟩
      have hcu : ¬ uses1 m hc.t.i.a := nzc (m := m) (c := hc) ⟨hq1, by lia, kk, mid ++ [t], hs1, by rw [hs2, htr, hr]; simp⟩
      have zok : ∀ z ∈ [L, hc.t.i.a], Hp.get? z = none ∧ (s'.heap.get? z).isSome = true := fun z hz => by
        revert z; refine al2 ?_ ?_
        · exact zok0 ⟨_, k6⟩ _ (.head _)
        · exact ⟨T.fresh _ hcl.1, TkM_some hcM⟩
      have tkfp : ∀ {ty va : Str} (h h' : Heap), (∀ b ∈ [hc.t.i.a], ∀ o, h.get? b = some o → h'.get? b = some o) → TkM hc.t.i ty va h → TkM hc.t.i ty va h' := fun h h' k x => TkM_at x fun o e => k _ (.head _) o e
      have tksm : ∀ {ty va : Str} (h : Heap), TkM hc.t.i ty va h → ∀ b ∈ [hc.t.i.a], (h.get? b).isSome = true := fun h x b hb => by rw [List.mem_singleton.mp hb]; exact TkM_some x
      have F0 : Fs (KK w) mg mb env _ (· ∈ [L, hc.t.i.a]) (punch s'.heap [L, hc.t.i.a]) s' (TkM hc.t.i hc.t.typ hc.v) [(Str.ofString "string_token", .ref hc.t.i.a)] s' := mkFs fe W k8 zok (by rw [hL]; exact .head _) (by rw [hL]; exact k6) (fun n y q => by
        obtain ⟨rfl, rfl⟩ := lk1 q; exact ⟨_, h6b, .ref _⟩) hcM [hc.t.i.a] (by rw [hL]; exact fun q => hcL (List.mem_singleton.mp q).symm) (tksm _ hcM) tkfp
      have hpx : Ext Hp (punch s'.heap [L, hc.t.i.a]) := ext_punch k8 fun z hz => (zok z hz).1
      have own1' : ∀ z ∈ [L, hc.t.i.a], ownC outs (L :: fr) n z := fun z hz => by
        revert z; refine al2 ?_ ?_
        · exact .inl (.head _)
        · refine .inr ?_
          rw [ctTk_hold h3, hs2]; exact .head _
      have nz2 : ∀ z ∈ [L, hc.t.i.a], ¬ uses1 m z := fun z hz => by
        revert z; refine al2 ?_ ?_
        · exact nzL m
        · exact hcu
      refine st_bind F0 (.ref _) (fun s2 F => ?_) rfl
      have tmF : ∀ {sc : Scope} {Z : Addr → Prop} {s3 : Shared} {Ow : Heap → Prop} {l : List (Str × V)}, Fs (KK w) mg mb env sc Z (punch s'.heap [L, hc.t.i.a]) s' Ow l s3 → TkM t.i t.typ (convV t) s3.heap := fun F3 => TkM_at tm0 fun o e => punch_keep F3.base _ o (fun q => by
        rcases List.mem_cons.mp q with q | q
        · exact hne q
        · exact hcne (List.mem_singleton.mp q).symm) e
      have tcF : ∀ {sc : Scope} {Z : Addr → Prop} {s3 : Shared} {Ow : Heap → Prop} {l : List (Str × V)}, Fs (KK w) mg mb env sc Z (punch s'.heap [L, hc.t.i.a]) s' Ow l s3 → TkC t.i s3.heap ∧ TkC hc.t.i s3.heap := fun F3 => ⟨(T.c t tin).keep (hpx.trans F3.base), (T.c _ hcl.1).keep (hpx.trans F3.base)⟩
      have aZ : hc.t.i.a ∈ [L, hc.t.i.a] ∧ (punch s'.heap [L, hc.t.i.a]).get? hc.t.i.a = none ∧ hc.t.i.a ≠ env.locals := ⟨.tail _ (.head _), by rw [punch_get, if_pos (.tail _ (.head _))], by rw [hL]; exact hcL⟩
      refine seg_execs_cons (seg_If (ts_go gdl (ts_cmp (ev_att (ev_loc F rfl rfl rfl) (att_typ F.world.kin (tcF F).1 (tmF F))) ev_str op_eqS) fun h3' tk3 e3 => ?_))
      have F3 := F.ext (tk := tk3) e3
      by_cases hq : t.typ = strT
      · rw [if_pos (by rw [hq]; exact beq_self_eq_true _)]
        refine seg_stmt (s_if F3 gdl (ts_val (ev_loc F3 rfl rfl rfl) (tr_tok F3.world.kin (tcF F3).2 F3.ow) (by rfl)) (fun _ s4 F4 => ?_) (fun q => tt q))
        have hsz : hc.v.length + (convV t).length ≤ 1000000 := by
          have : 1000 * (kt.length - (m + 1)) ≤ 1000 * 100 := Nat.mul_le_mul (Nat.le_refl _) (by lia)
          lia
        refine s_setatt (x := .str (hc.v ++ convV t)) F4 gdl (ev_bin (ev_att (ev_loc F4 rfl rfl rfl) (att_val F4.world.kin (tcF F4).2 F4.ow)) (ev_att (ev_loc F4 rfl rfl rfl) (att_val F4.world.kin (tcF F4).1 (tmF F4))) (op_cat hsz)) (ev_loc F4 rfl rfl rfl) aZ (fun s4 v m4 Q4 E4 x4 c4 n4 q4 => put_val (F4.world.kin.keeps x4) ((tcF F4).2.keep x4) (F4.ow.keep x4) c4 n4 aZ.2.2 q4) [hc.t.i.a] (by simpa using fun q => aZ.2.2 q.symm) (fun h x => tksm h x) tkfp (fun s5 F5 => s_nil (s_nil ?_))
        dsimp only
        refine seg_execs_nil (seg_execs_nil (seg_turn (IH _ _ _ (again (hold' := some ⟨hc.t, hc.v ++ convV t, hc.sf⟩) h2 (by rw [h3, catD_ss hq]) ⟨hq1, ?_, kk, mid ++ [t], hs1, by rw [hs2, htr, hr]; simp⟩ (S.keep _ _ _ i (F5.agr nz2)) (stl (o := some ⟨hc.t, hc.v ++ convV t, hc.sf⟩) F5 rfl) (fun c' e => by cases e; exact F5.ow) (hpx.trans F5.base) (k9.trans (F5.chg own1'))))))
        show (hc.v ++ convV t).length ≤ _
        have e1 : (hc.v ++ convV t).length = hc.v.length + (convV t).length := by
          show (hc.v.cps ++ (convV t).cps).size = _
          rw [Array.size_append]; rfl
        have e2 : 1000 * (kt.length - m) = 1000 * (kt.length - (m + 1)) + 1000 := by
          rw [show kt.length - m = kt.length - (m + 1) + 1 by lia, Nat.mul_add]
        lia
      · rw [if_neg (show ¬ (t.typ == Str.ofString "STRING") = true from fun q => hq (eq_of_beq q))]
        have h3b : ctLeft outs n = hc :: ⟨t, convV t, t :: r⟩ :: catD none r := by rw [h3, catD_so hq]
        obtain ⟨k, rfl, hk1, hk2, hk3⟩ := ctLeft_cons h3b h2
        refine seg_execs_cons (seg_If (ts_go gdl (ts_val (ev_loc F3 rfl rfl rfl) (tr_tok F3.world.kin (tcF F3).2 F3.ow) (by rfl)) fun h4' tk4 e4 => ?_))
        rw [if_pos rfl]
        have F4 := F3.ext (tk := tk4) e4
        refine seg_execs_cons (seg_Expr_Yield rfl rfl rfl ?_ (by rw [fe.hsc]) (by unfold interactive; rw [fe.hsc]; rfl))
        refine ev_goR gdl (ev_loc F4 rfl rfl rfl) fun h5' tk5 e5 => ?_
        have F5 := F4.ext (tk := tk5) e5
        intro kap hkap
        have hk1b : ctLeft outs k = catD none (t :: r) := by rw [hk1, catD_no hq]
        have htk : ctTk outs k = (t :: r).map (·.i.a) := ctTk_none hk1b
        refine ⟨by rw [hk2], k9.trans (F5.chg own1'), fun u r hu => ?_, ?_, fun s6 a6 => hkap .none s6 ?_⟩
        · rw [h3b] at hu; cases hu
          exact F5.ow
        · rw [F5.gens.1]; exact S.size _ _ i
        · -- the pending token
          refine Exists.elim (F5.nsRef (n := Str.ofString "token") (a := t.i.a) rfl) fun m3 r5 => an2 r5 fun hm3 hvt => ?_
          clear r5
          rw [hL] at hm3
          have u1 : ∀ b, uses1 m b → usesC Hp outs (L :: fr) (I3 :: gI) k b := fun b q => by
            rcases hu _ _ q with q | q | q | q
            · exact .inl q
            · exact .inr (.inl (.tail _ q))
            · exact .inr (.inr (.inl (.tail _ q)))
            · refine .inr (.inr (.inr ?_))
              rw [htk, List.map_cons, ← hr]; exact .tail _ q
          have i6 : Inv1 m s6 := S.keep _ _ _ (S.keep _ _ _ i (F5.agr nz2)) (a6.less u1 fun g q => q)
          have n6 : s6.heap.Ns L m3 := hm3.at fun o e => a6.hp L o (.inr (.inl (.head _))) e
          have x6 : Ext Hp s6.heap := fun b o e => a6.hp b o (.inl (by rw [e]; rfl)) ((hpx.trans F5.base) b o e)
          have t6 : TkM t.i t.typ (convV t) s6.heap := TkM_at (tmF F5) fun o e => a6.hp _ o (.inr (.inr (.inr (by rw [htk]; exact .head _)))) e
          have G0 : Fs (KK w) mg mb env _ (· ∈ [L]) (punch s6.heap [L]) s6 (fun _ => True) [(Str.ofString "token", .ref t.i.a)] s6 := mkFs1 fe W x6 hL VL.hp n6 hvt (.ref _)
          have hpx6 : Ext Hp (punch s6.heap [L]) := ext_punch x6 fun z hz => (zok0 ⟨_, n6⟩ z hz).1
          refine seg_stmt (s_assign G0 gdl ev_none rfl fun s7 F7 => s_nil ?_)
          dsimp only
          refine seg_execs_nil ?_
          dsimp only
          obtain ⟨k', rfl, hj1, hj2, hj3⟩ := ctLeft_cons hk1 (by lia)
          have own2' : ∀ z ∈ [L], ownC outs (L :: fr) (k' + 1) z := fun z hz => .inl (by rw [List.mem_singleton.mp hz]; exact .head _)
          refine seg_execs_cons (seg_Expr_Yield rfl rfl rfl ?_ (by rw [fe.hsc]) (by unfold interactive; rw [fe.hsc]; rfl))
          refine ev_goR gdl (ev_loc F7 rfl rfl rfl) fun h8' tk8 e8 => ?_
          have F8 := F7.ext (tk := tk8) e8
          intro kap2 hkap2
          refine ⟨by rw [hj2], F8.chg own2', fun u r hu => ?_, ?_, fun s9 a9 => hkap2 .none s9 ?_⟩
          · rw [hk1] at hu; cases hu
            exact TkM_at t6 fun o e => punch_keep F8.base _ o (fun q => hne (List.mem_singleton.mp q)) e
          · rw [F8.gens.1]; exact S.size _ _ i6
          · obtain ⟨m9, hm9, hv9⟩ := stl (o := none) F8 rfl
            refine seg_execs_nil (seg_execs_nil (seg_turn (IH _ _ _ (again (hold' := none) (by lia) hj1 trivial (S.keep _ _ _ (S.keep _ _ _ i6 (F8.agr (nz1 _))) (a9.less (fun b q => ?_) fun g q => q)) ⟨m9, hm9.at fun o e => a9.hp L o (.inr (.inl (.head _))) e, hv9⟩ (fun c' e => by cases e) (fun b o e => a9.hp b o (.inl (by rw [e]; rfl)) ((hpx6.trans F8.base) b o e)) (Chg2.refl _)))))
            rcases hu _ _ q with q | q | q | q
            · exact .inl q
            · exact .inr (.inl (.tail _ q))
            · exact .inr (.inr (.inl (.tail _ q)))
            · exact .inr (.inr (.inr (by rw [ctTk_none hj1, ← hr]; exact q)))
end
section
/-- how the joined tokens follow one another -/
inductive Okl (kt : List TkD) : List CtD → Prop
  | nil : Okl kt []
  | one {c : CtD} {q : List TkD} : c.sf = c.t :: q → c.sf <:+ kt → Okl kt [c]
  | cons {c c2 : CtD} {r : List CtD} {pre : List TkD} : c.sf = c.t :: (pre ++ c2.sf) → c.sf <:+ kt → Okl kt (c2 :: r) → Okl kt (c :: c2 :: r)
theorem Okl.tail {kt : List TkD} {c : CtD} {r : List CtD} (h : Okl kt (c :: r)) : Okl kt r := by
  cases h with
  | one _ _ => exact .nil
  | cons _ _ h => exact h
theorem Okl.drop {kt : List TkD} : ∀ {l : List CtD} (n : Nat), Okl kt l → Okl kt (l.drop n)
  | _, 0, h => h
  | [], _ + 1, h => .nil
  | _ :: _, n + 1, h => Okl.drop n h.tail
theorem catD_head {r : List TkD} {c2 : CtD} {q : List CtD} (h : catD none r = c2 :: q) : c2.sf = r := by
  cases r with
  | nil => cases h
  | cons t r =>
    by_cases e : t.typ = strT
    · rw [catD_ns e] at h
      obtain ⟨c', r', e2, _, e3⟩ := catD_hold (c := ⟨t, convV t, t :: r⟩) r (convV t)
      dsimp only at e2
      rw [e2] at h; cases h; exact e3
    · rw [catD_no e] at h; cases h; rfl
theorem catD_okl {kt : List TkD} : ∀ (rest : List TkD) (hold : Option CtD), rest <:+ kt → (∀ c, hold = some c → c.sf <:+ kt ∧ ∃ mid, c.sf = c.t :: (mid ++ rest)) → Okl kt (catD hold rest)
  | [], none, _, _ => .nil
  | [], some c, _, h => by obtain ⟨h1, mid, h2⟩ := h c rfl; exact .one h2 h1
  | t :: r, none, hr, _ => by
    have hr' : r <:+ kt := (List.suffix_cons t r).trans hr
    by_cases e : t.typ = strT
    · rw [catD_ns e]; exact catD_okl r _ hr' fun c q => by cases q; exact ⟨hr, [], rfl⟩
    · rw [catD_no e]
      have ih := catD_okl r none hr' fun c q => by cases q
      cases q : catD none r with
      | nil => exact .one rfl hr
      | cons c2 q2 => rw [q] at ih; exact .cons (pre := []) (by rw [catD_head q]; rfl) hr ih
  | t :: r, some c, hr, h => by
    obtain ⟨h1, mid, h2⟩ := h c rfl
    have hr' : r <:+ kt := (List.suffix_cons t r).trans hr
    by_cases e : t.typ = strT
    · rw [catD_ss e]; exact catD_okl r _ hr' fun c' q => by cases q; exact ⟨h1, mid ++ [t], by rw [h2]; simp⟩
    · rw [catD_so e]
      refine .cons (pre := mid) h2 h1 ?_
      have ih := catD_okl r none hr' fun c q => by cases q
      cases q : catD none r with
      | nil => exact .one rfl hr
      | cons c2 q2 => rw [q] at ih; exact .cons (pre := []) (by rw [catD_head q]; rfl) hr ih
theorem outs_okl (kt : List TkD) : Okl kt (catD none kt) := catD_okl kt none (List.suffix_refl _) fun c q => by cases q
theorem okl_sub {kt : List TkD} {outs : List CtD} (ho : Okl kt outs) (n : Nat) : ∀ b ∈ ctTk outs n, b ∈ kt.map (·.i.a) := fun b hb => by
  have h := ho.drop (outs.length - n)
  unfold ctTk at hb
  change Okl kt (ctLeft outs n) at h
  cases e : ctLeft outs n with
  | nil => rw [e] at hb; cases hb
  | cons c r =>
    rw [e] at hb h
    dsimp only at hb
    have hs : c.sf <:+ kt := by cases h with | one _ h => exact h | cons _ h _ => exact h
    exact (hs.map (·.i.a)).mem hb
theorem okl_at {kt : List TkD} {outs : List CtD} (ho : Okl kt outs) (nd : (kt.map (·.i.a)).Nodup) {n : Nat} {c : CtD} {r : List CtD} (h : ctLeft outs (n + 1) = c :: r) (hn : n + 1 ≤ outs.length) :
    c.t ∈ kt ∧ c.t.i.a ∈ ctTk outs (n + 1) ∧ c.t.i.a ∉ ctTk outs n ∧ ∀ b ∈ ctTk outs n, b ∈ ctTk outs (n + 1) := by
  obtain ⟨k, hk, h1, h2, h3⟩ := ctLeft_cons h hn
  obtain rfl : n = k := by lia
  have ho' := ho.drop (outs.length - (n + 1))
  change Okl kt (ctLeft outs (n + 1)) at ho'
  rw [h] at ho'
  rw [h3]
  unfold ctTk
  rw [h1]
  cases ho' with
  | one e1 e2 => exact ⟨e2.mem (by rw [e1]; exact .head _), by rw [e1]; exact .head _, by simp, fun b hb => by cases hb⟩
  | cons e1 e2 e3 =>
    rename_i c2 r2 pre
    have hnd : (c.sf.map (·.i.a)).Nodup := nd.sublist (e2.map (·.i.a)).sublist
    rw [e1, List.map_cons, List.map_append] at hnd
    refine ⟨e2.mem (by rw [e1]; exact .head _), by rw [e1]; exact .head _, fun q => (List.nodup_cons.mp hnd).1 (List.mem_append_right _ q), fun b hb => ?_⟩
    rw [e1, List.map_cons, List.map_append]
    exact .tail _ (List.mem_append_right _ hb)

/-- what may be asked of the keywords -/
noncomputable def KwOk (prog : Program) (w : World) (Hp : Heap) (words : List Str) (a : Addr) : Prop :=
  ∀ (A : Around) (Q : Value → Shared → Prop) (E : Value → Shared → Prop) (s : Shared) (x : Str) (t : Tok), Gd 5 A → Ext Hp s.heap → (∀ tk, Q (.bool (words.contains x)) { s with toks := tk }) → wpAny (model prog w) A (compareOp .In (.str x t) (.ref a)) Q E s
noncomputable def kwT (words : List Str) (typ v : Str) : Str := if typ = idT ∧ words.contains v = true then v else typ

/-- prepare_for_parsing: the loop -/
theorem lvl4 (w : World) : ∃ (o : Obj) (fd : FuncData) (tp : Pos) (nmS : Str) (body : List Stmt) (fp p1 p2 p3 p4 p5 p6 p7 : Pos), (KK w).lookup 93 = some o ∧ o.data = .func fd ∧
    fd.body = .stmts [.For (.Name nmS tp) (.Call (.Name (Str.ofString "string_concat") p1) [.Call (.Name (Str.ofString "string_convert") p2) [.Call (.Name (Str.ofString "skip_ws") p3) [.Name (Str.ofString "tokens") p4] [] p5] [] p6] [] p7) body [] fp] ∧
    codeIn (KK w) fd.code fd.qualname = true ∧ (∀ v u, bindArgs fd ⟨[v, u], []⟩ = pure [(Str.ofString "tokens", v), (Str.ofString "keywords", u)]) ∧ (∀ x ∈ fd.scope.names, x.2 ≠ .cell) ∧ fd.scope.names.lookup (Str.ofString "tokens") = some .local ∧ fd.scope.names.lookup (Str.ofString "keywords") = some .local ∧ fd.globals = mainGlobals ∧ fd.builtins = builtinsNs ∧
    fd.scope.isCoroutine = false ∧ fd.scope.isGenerator = true ∧ fd.scope.kind = .function ∧
    fd.scope.names.lookup (Str.ofString "string_concat") = some .globalImplicit ∧ fd.scope.names.lookup (Str.ofString "string_convert") = some .globalImplicit ∧ fd.scope.names.lookup (Str.ofString "skip_ws") = some .globalImplicit ∧
    ∀ {prog : Program} {mg mb : Str → Option Value} {A : Around} {G : Nat} {Hp : Heap} {kt : List TkD} {outs : List CtD} {words : List Str} {ka : Addr} {fr gI : List Addr} {L I I4 xx : Addr} {env : Env} {p : Pos} {own1 uses1 : Nat → Addr → Prop} {gn : Nat → Prop} {Inv1 : Nat → Shared → Prop} {Done1 : Shared → Prop},
      Gd 12 A → Wd (KK w) mg mb Hp → Toks Hp kt → Okl kt outs → Lv Hp kt fr gI L → KwOk prog w Hp words ka → xx ∈ gI → (∀ m, ¬ ownC outs (L :: fr) m xx) → Fenv env fd.scope → env.locals = L → (∀ m b, own1 m b → b ∈ fr ∨ b ∈ ctTk outs m) → (∀ m b, uses1 m b → usesC Hp outs fr gI m b) →
      Strm2 prog w (loopA A env) G I own1 uses1 gn (ctEm outs) Inv1 Done1 (PostC outs fun c => (c.t.typ, c.v)) →
      ∀ m n s₀ s, (n = m ∧ m ≤ outs.length ∧ Inv1 m s ∧ (∃ mm, s.heap.Ns L mm ∧ mm (Str.ofString "keywords") = some (.ref ka)) ∧ Ext Hp s.heap ∧ Chg2 (ownC outs (L :: fr) n) gn s₀ s ∧ (s.heap.get? xx).isSome = true) →
        Seg (model prog w) A.in1 (fun n s₀ r s₁ => r = .ok (.ret .none) ∧ GP2 G (ownC outs (L :: fr)) gn Done1 n s₀ s₁) (GY2 G (ownC outs (L :: fr)) (usesC Hp outs (L :: fr) (I4 :: gI)) gn (ctEm outs) (fun k s => PostC outs (fun c => (kwT words c.t.typ c.v, c.v)) k s ∧ (s.heap.get? xx).isSome = true)) n s₀
          (.forLoop (.Name nmS tp) (.ref I) body [] env) ((model prog w).den (.forLoop (.Name nmS tp) (.ref I) body [] env))
          [.ret (backOf env (fun f => match f with | .next => (execs [] env).wrap (fun f => .pure (.done (.ret (match f with | .ret v => v | _ => .none)))) (fun e => (leaving env e).wrap (fun _ => .raise e) .raise id id) id id | f => .pure (.done (.ret (match f with | .ret v => v | _ => .none)))) (fun e => (leaving env e).wrap (fun _ => .raise e) .raise id id) id id) none (id false) (id []) (.func [.For (.Name nmS tp) (.Call (.Name (Str.ofString "string_concat") p1) [.Call (.Name (Str.ofString "string_convert") p2) [.Call (.Name (Str.ofString "skip_ws") p3) [.Name (Str.ofString "tokens") p4] [] p5] [] p6] [] p7) body [] fp] env) p []] s := by
  refine ⟨_, _, _, _, _, _, _, _, _, _, _, _, _, rfl, rfl, rfl, by kernel_rfl, fun _ _ => rfl, by decide, rfl, rfl, rfl, rfl, rfl, rfl, rfl, rfl, rfl, rfl, ?_⟩
  intro prog mg mb A G Hp kt outs words ka fr gI L I I4 xx env p own1 uses1 gn Inv1 Done1 gd W T OK VL KW xg xo fe hL ho hu S
  have gdl : Gd 10 (loopA A env) := gd_loopA gd
  refine seg_gloop (G := G) (own := own1) (uses := uses1) (gn := gn) (em := ctEm outs) (Inv := Inv1) (Done := Done1) (Post := PostC outs fun c => (c.t.typ, c.v)) ?_ _ (fun m n s₀ s h => h.2.2.1) ?_ ?_
  · exact S
  · intro n s₀ s s' hj c d z
    refine an7 hj fun h1 h2 h3 h4 h5 h6 h7 => ?_
    clear hj
    subst h1
    refine seg_block_end ?_
    exact seg_end (.ok (.ret .none)) ⟨rfl, rfl, h6.trans (c.more (fun p e => (ho 0 p e).imp (fun q => .tail _ q) id) fun g e => e), d, z⟩
  · intro m n s₀ s s' hj c i pst IH
    refine an7 hj fun h1 h2 h3 hM h5 h6 h7 => Exists.elim hM fun mm hM2 => an2 hM2 fun h4 h4b => ?_
    clear hM2 hM hj
    subst h1
    obtain ⟨ct, r, htr⟩ : ∃ c r, ctLeft outs (m + 1) = c :: r := by
      have := ctLeft_len h2
      cases e : ctLeft outs (m + 1) with
      | nil => rw [e] at this; cases this
      | cons c r => exact ⟨c, r, rfl⟩
    obtain ⟨k, hk, hr, hem, _⟩ := ctLeft_cons htr h2
    obtain rfl : m = k := by lia
    obtain ⟨tin, tk1, tk2, tk3⟩ := okl_at OK T.nd htr h2
    have tm0 : TkM ct.t.i ct.t.typ ct.v s'.heap := pst ct r htr
    obtain ⟨t, cv, csf⟩ := ct
    dsimp only at tm0 tin tk1 tk2 hem
    rw [hem]
    have hkt : ∀ {n : Nat} {b : Addr}, b ∈ ctTk outs n → Hp.get? b = none ∧ b ≠ L := fun q => by
      obtain ⟨u, hu, rfl⟩ := List.mem_map.mp (okl_sub OK _ _ q)
      exact ⟨T.fresh u hu, VL.nt u hu⟩
    have hfo : ∀ b, (∃ o, Hp.get? b = some o) → ¬ own1 (m + 1) b := fun b ⟨o, e⟩ q => by
      rcases ho _ _ q with q | q
      · rw [VL.fh b q] at e; cases e
      · rw [(hkt q).1] at e; cases e
    have k5 : Ext Hp s'.heap := fun b o e => c.hp b o (hfo b ⟨o, e⟩) (h5 b o e)
    have k4 : s'.heap.Ns L mm := h4.at fun o e => c.hp L o (fun q => by
      rcases ho _ _ q with q | q
      · exact VL.nf q
      · exact (hkt q).2 rfl) e
    have k6 : Chg2 (ownC outs (L :: fr) (m + 1)) gn s₀ s' := h6.trans (c.more (fun p e => (ho _ p e).imp (fun q => .tail _ q) id) fun g e => e)
    have k7 : (s'.heap.get? xx).isSome = true := by
      obtain ⟨o, ho'⟩ := Option.isSome_iff_exists.mp h7
      rw [c.hp xx o (fun q => xo (m + 1) ((ho _ _ q).imp (fun q => .tail _ q) id)) ho']; rfl
    have hne : t.i.a ≠ L := VL.nt t tin
    have zok : ∀ z ∈ [L, t.i.a], Hp.get? z = none ∧ (s'.heap.get? z).isSome = true := fun z hz => by
      revert z; refine al2 ?_ ?_
      · obtain ⟨o, _, _, ho, _⟩ := k4
        exact ⟨VL.hp, by rw [ho]; rfl⟩
      · exact ⟨T.fresh t tin, TkM_some tm0⟩
    have tkfp : ∀ {ty va : Str} (h h' : Heap), (∀ b ∈ [t.i.a], ∀ o, h.get? b = some o → h'.get? b = some o) → TkM t.i ty va h → TkM t.i ty va h' := fun h h' k x => TkM_at x fun o e => k _ (.head _) o e
    have tksm : ∀ {ty va : Str} (h : Heap), TkM t.i ty va h → ∀ b ∈ [t.i.a], (h.get? b).isSome = true := fun h x b hb => by rw [List.mem_singleton.mp hb]; exact TkM_some x
    have F0 : Fs (KK w) mg mb env _ (· ∈ [L, t.i.a]) (punch s'.heap [L, t.i.a]) s' (TkM t.i t.typ cv) [(Str.ofString "keywords", .ref ka)] s' := mkFs fe W k5 zok (by rw [hL]; exact .head _) (by rw [hL]; exact k4) (fun n y q => by
      obtain ⟨rfl, rfl⟩ := lk1 q; exact ⟨_, h4b, .ref _⟩) tm0 [t.i.a] (by rw [hL]; exact fun q => hne (List.mem_singleton.mp q).symm) (tksm _ tm0) tkfp
    refine st_bind F0 (.ref _) (fun s2 F => ?_) rfl
    have hpx : Ext Hp (punch s'.heap [L, t.i.a]) := ext_punch k5 fun z hz => (zok z hz).1
    have aZ : t.i.a ∈ [L, t.i.a] ∧ (punch s'.heap [L, t.i.a]).get? t.i.a = none ∧ t.i.a ≠ env.locals := ⟨.tail _ (.head _), by rw [punch_get, if_pos (.tail _ (.head _))], by rw [hL]; exact hne⟩
    have hC : ∀ {s3 : Shared} {l : List (Str × V)} {Z : Addr → Prop} {Ow : Heap → Prop} {sc : Scope}, Fs (KK w) mg mb env sc Z (punch s'.heap [L, t.i.a]) s' Ow l s3 → TkC t.i s3.heap := fun F3 => (T.c t tin).keep (hpx.trans F3.base)
    have hB : ∀ {s3 : Shared} {l : List (Str × V)} {Z : Addr → Prop} {Ow : Heap → Prop} {sc : Scope}, Fs (KK w) mg mb env sc Z (punch s'.heap [L, t.i.a]) s' Ow l s3 → Ext Hp s3.heap := fun F3 => hpx.trans F3.base
    have nz : ∀ z ∈ [L, t.i.a], ¬ uses1 m z := fun z hz q => by
      revert z; refine al2 ?_ ?_
      · intro q
        rcases hu _ _ q with q | q | q | q
        · rw [VL.hp] at q; cases q
        · exact VL.nf q
        · exact VL.ng q
        · exact (hkt q).2 rfl
      · intro q
        rcases hu _ _ q with q | q | q | q
        · rw [T.fresh t tin] at q; cases q
        · exact (VL.ft t tin).1 q
        · exact (VL.ft t tin).2 q
        · exact tk2 q
    have ownz : ∀ z ∈ [L, t.i.a], ownC outs (L :: fr) (m + 1) z := fun z hz => by
      revert z; refine al2 ?_ ?_
      · exact .inl (.head _)
      · exact .inr tk1
    have xxF : ∀ {s3 : Shared} {l : List (Str × V)} {Z : Addr → Prop} {Ow : Heap → Prop} {sc : Scope}, Fs (KK w) mg mb env sc Z (punch s'.heap [L, t.i.a]) s' Ow l s3 → (s3.heap.get? xx).isSome = true := fun F3 => by
      obtain ⟨o, ho'⟩ := Option.isSome_iff_exists.mp k7
      rw [punch_keep F3.base xx o (fun q => xo (m + 1) (ownz xx q)) ho']; rfl
    -- behind the yield
    have J' : ∀ {s3 s6 : Shared} {l : List (Str × V)} {Z : Addr → Prop} {Ow : Heap → Prop} {sc : Scope}, Fs (KK w) mg mb env sc Z (punch s'.heap [L, t.i.a]) s' Ow l s3 → l.lookup (Str.ofString "keywords") = some (.ref ka) → Agr2 (usesC Hp outs (L :: fr) (I4 :: gI) m) gn s3 s6 →
        (m = m ∧ m ≤ outs.length ∧ Inv1 m s6 ∧ (∃ mm, s6.heap.Ns L mm ∧ mm (Str.ofString "keywords") = some (.ref ka)) ∧ Ext Hp s6.heap ∧ Chg2 (ownC outs (L :: fr) m) gn s6 s6 ∧ (s6.heap.get? xx).isSome = true) := fun {s3 s6 l Z Ow sc} F5 hl a6 => by
      refine ⟨rfl, by lia, S.keep m _ s6 (S.keep m s' _ i (F5.agr nz)) (a6.less (fun b q => ?_) fun g q => q), ?_, fun b o e => a6.hp b o (.inl (by rw [e]; rfl)) (hB F5 b o e), Chg2.refl _, ?_⟩
      · rcases hu _ _ q with q | q | q | q
        · exact .inl q
        · exact .inr (.inl (.tail _ q))
        · exact .inr (.inr (.inl (.tail _ q)))
        · exact .inr (.inr (.inr q))
      · refine Exists.elim (F5.nsRef hl) fun m3 r5 => an2 r5 fun hm3 hv => ?_
        rw [hL] at hm3
        exact ⟨m3, hm3.at fun o e => a6.hp L o (.inr (.inl (.head _))) e, hv⟩
      · obtain ⟨o, ho'⟩ := Option.isSome_iff_exists.mp (xxF F5)
        rw [a6.hp xx o (.inr (.inr (.inl (.tail _ xg)))) ho']; rfl
    refine seg_execs_cons (seg_If (ts_go gdl (ts_cmp (ev_att (ev_loc F rfl rfl rfl) (att_typ F.world.kin (hC F) F.ow)) ev_str op_eqS) fun h3' tk3 e3 => ?_))
    have F3 := F.ext (tk := tk3) e3
    by_cases hq : t.typ = idT
    · rw [if_pos (by rw [hq]; exact beq_self_eq_true _)]
      refine seg_stmt (wpAny_mono (Q := fun f s3 => f = .next ∧ F.like (TkM t.i (kwT words t.typ cv) cv) [(Str.ofString "token", .ref t.i.a), (Str.ofString "keywords", .ref ka)] s3) (E := fun _ _ => False) ?_ (fun f s4 q => ?_) fun _ _ x => x.elim)
      · refine s_if (c := words.contains cv) F3 gdl (ts_cmp (ev_att (ev_loc F3 rfl rfl rfl) (att_val F3.world.kin (hC F3) F3.ow)) (ev_loc F3 rfl rfl rfl) (fun h' u v e c1 c2 A Q E s g x q => by
          (first | apply c1.refG | apply c1.noneG | apply c1.boolG | (apply c1.strG; intro _) | (apply c1.intG; intro _)); clear c1; (first | apply c2.refG | apply c2.noneG | apply c2.boolG | (apply c2.strG; intro _) | (apply c2.intG; intro _)); clear c2
          exact KW A Q E s _ _ (g.le (by decide)) ((hB F3).trans (e.trans x)) fun tk => q _ s.heap tk (.refl _) (.bool _))) (fun q s4 F4 => ?_) (fun q s4 F4 => s_nil (s_nil ⟨rfl, ?_⟩))
        · have hkw : kwT words t.typ cv = cv := if_pos ⟨hq, q⟩
          rw [hkw]
          exact s_setatt (x := .str cv) F4 gdl (ev_att (ev_loc F4 rfl rfl rfl) (att_val F4.world.kin (hC F4) F4.ow)) (ev_loc F4 rfl rfl rfl) aZ (fun s4 v m4 Q4 E4 x4 c4 n4 q4 => put_typ (F4.world.kin.keeps x4) ((hC F4).keep x4) (F4.ow.keep x4) c4 n4 aZ.2.2 q4) [t.i.a] (by simpa using fun q => aZ.2.2 q.symm) (fun h x => tksm h x) tkfp (fun s5 F5 => s_nil (s_nil ⟨rfl, F5⟩))
        · have hkw : kwT words t.typ cv = t.typ := if_neg fun e => by rw [e.2] at q; cases q
          rw [hkw]; exact F4
      obtain ⟨rfl, F4⟩ := q
      dsimp only
      refine seg_execs_cons (seg_Expr_Yield rfl rfl rfl ?_ (by rw [fe.hsc]) (by unfold interactive; rw [fe.hsc]; rfl))
      refine ev_goR gdl (ev_loc F4 rfl rfl rfl) fun h5 tk5 e5 => ?_
      have F5 := Fs.ext F4 (tk := tk5) e5
      intro kap hkap
      refine ⟨by rw [hem], k6.trans (F5.chg ownz), ⟨fun u r hu => ?_, xxF F5⟩, ?_, fun s6 a6 => hkap .none s6 ?_⟩
      · rw [htr] at hu; cases hu
        exact F5.ow
      · rw [F5.gens.1]; exact S.size _ _ i
      · exact seg_execs_nil (seg_execs_nil (seg_turn (IH _ _ _ (J' F5 rfl a6))))
    · rw [if_neg (show ¬ (t.typ == Str.ofString "ID") = true from fun q => hq (eq_of_beq q))]
      refine seg_execs_cons (seg_Expr_Yield rfl rfl rfl ?_ (by rw [fe.hsc]) (by unfold interactive; rw [fe.hsc]; rfl))
      refine ev_goR gdl (ev_loc F3 rfl rfl rfl) fun h5 tk5 e5 => ?_
      have F5 := F3.ext (tk := tk5) e5
      intro kap hkap
      refine ⟨by rw [hem], k6.trans (F5.chg ownz), ⟨fun u r hu => ?_, xxF F5⟩, ?_, fun s6 a6 => hkap .none s6 ?_⟩
      · rw [htr] at hu; cases hu
        have : kwT words t.typ cv = t.typ := if_neg fun q => hq q.1
        show TkM t.i (kwT words t.typ cv) cv _
        rw [this]; exact F5.ow
      · rw [F5.gens.1]; exact S.size _ _ i
      · exact seg_execs_nil (seg_execs_nil (seg_turn (IH _ _ _ (J' F5 rfl a6))))
end
section
section
variable {prog : Program} {w : World} {A : Around} {s : Shared}
/-- a generator function is called: where its frame and its object lie -/
theorem gen_make2 {R : Result → Shared → Prop} {a : Addr} {o : Obj} {fd : FuncData} {body : List Stmt} {args : Args} {binds : List (Str × Value)}
    (hroom : A.depth < recursionLimit) (ho : s.heap.get? a = some o) (hdata : o.data = .func fd) (hlim : s.heap.NoLimit) (hcd : s.heap.CodeRec fd.code fd.qualname)
    (hbody : fd.body = .stmts body) (hbind : BindsTo s fd args binds)
    (hcell : ∀ x ∈ fd.scope.names, x.2 ≠ .cell) (hloc : ∀ x ∈ binds, fd.scope.names.lookup x.1 = some .local)
    (h : ∀ h₁ tk, h₁.Ns s.heap.objs.size (fun x => binds.reverse.lookup x) → Ext s.heap h₁ → h₁.IsGen (s.heap.objs.size + 1) s.gens.size → h₁.objs.size = s.heap.objs.size + 2 →
      R (.ok (.ret (.ref (s.heap.objs.size + 1)))) { s with heap := h₁, toks := tk, gens := s.gens.push (.fresh (.func body (callEnv fd s.heap.objs.size a))) })
    (hco : fd.scope.isCoroutine = false := by rfl) (hgen : fd.scope.isGenerator = true := by rfl) (hk : fd.scope.kind = .function := by rfl) :
    codeAny (model prog w) A (.call (.ref a) args) R s := by
  refine codeAny_call_generator hroom ho hdata hco hgen hbody hcd (hbind _ _ _ _ ?_)
  refine wpAny_newFunctionEnv hcell hloc (fun h₀ hns₀ hsb₀ => ⟨hlim.fresh _ hsb₀, ?_⟩) hk
  have e : Ext s.heap h₀ := fun b o e => hsb₀.extBut b o (Nat.ne_of_lt (Heap.lt_size e)) (Heap.get?_push_of_some _ e)
  have hz : h₀.objs.size = s.heap.objs.size + 1 := by rw [hsb₀.1, Heap.size_push]
  have := h (h₀.push { cls := .type "generator", data := .fields #[.int s.gens.size 0, .str fd.name (s.toks + binds.length), .str fd.qualname (s.toks + binds.length + 1)] }) (s.toks + binds.length + 1 + 1) (hns₀.keeps (Ext.push _ _)) (e.trans (Ext.push _ _))
    (by rw [← hz]; exact ⟨_, _, _, Heap.get?_push_size _ rfl, rfl, rfl, rfl⟩) (by rw [Heap.size_push, hz])
  rw [← hz] at this
  exact this
theorem gcall1 {env : Env} {f : Str} {a : Addr} {o : Obj} {fd : FuncData} {e : PySem.Expr} {fp pos : Pos} {Q : Value → Shared → Prop} {E : Value → Shared → Prop} (hn : NmV prog w env s.heap f (.ref a))
    (he : wpAny (model prog w) A (eval e env) (fun v s1 => (s1.heap.get? a = some o ∧ o.data = .func fd) ∧ wpAny (model prog w) A (call (.ref a) [v] []) Q E s1) E s) (hs : starEach [e] env = [(false, eval e env)] := by rfl) :
    wpAny (model prog w) A (eval (.Call (.Name f fp) [e] [] pos) env) Q E s :=
  Call_Name1 (hn A _ E s fp (.refl _) (callWith_function (evalArgs_plain (spliced_cons (wpAny_mono he (fun v s1 q => spliced_nil q) fun _ _ x => x))))) hs
end
/-- the start of a generator whose body is one loop over its argument -/
theorem seg_start {prog : Program} {w : World} {A : Around} {R : GenEnd} {Y : Protocol} {n : Nat} {s : Shared} {env : Env} {sc : Scope} {nmS : Str} {tp it fp : Pos} {body : List Stmt} {I : Addr} {mm : Str → Option Value} (fe : Fenv env sc) (hk : sc.names.lookup (Str.ofString "tokens") = some .local)
    (hns : s.heap.Ns env.locals mm) (hv : mm (Str.ofString "tokens") = some (.ref I))
    (hit : ∀ A Q E, A.handled = none → Q (.ref I) s → wpAny (model prog w) A (pyIter (.ref I)) Q E s) (hh : A.handled = none)
    (loop : ∀ p, Seg (model prog w) A R Y n s (.forLoop (.Name nmS tp) (.ref I) body [] env) ((model prog w).den (.forLoop (.Name nmS tp) (.ref I) body [] env))
          [.ret (backOf env (fun f => match f with | .next => (execs [] env).wrap (fun f => .pure (.done (.ret (match f with | .ret v => v | _ => .none)))) (fun e => (leaving env e).wrap (fun _ => .raise e) .raise id id) id id | f => .pure (.done (.ret (match f with | .ret v => v | _ => .none)))) (fun e => (leaving env e).wrap (fun _ => .raise e) .raise id id) id id) none (id false) (id []) (.func [.For (.Name nmS tp) (.Name (Str.ofString "tokens") it) body [] fp] env) p []] s) :
    Seg (model prog w) A R Y n s (.func [.For (.Name nmS tp) (.Name (Str.ofString "tokens") it) body [] fp] env) ((model prog w).den (.func [.For (.Name nmS tp) (.Name (Str.ofString "tokens") it) body [] fp] env)) [] s := by
  refine seg_func (seg_execs_cons (seg_For (wpAny_Name (wpAny_loadName_local (by rw [fe.hsc]; exact fe.ek) (by unfold Env.kindOf; rw [fe.hsc]; exact hk) hns hv ?_) (by rfl)) (by intro _; rfl)))
  exact hit _ _ _ (by show A.handled = none; exact hh) loop
end
section
theorem isGen_some {h : Heap} {a : Addr} {g : Nat} (x : h.IsGen a g) : (h.get? a).isSome = true := by obtain ⟨o, _, _, ho, _⟩ := x; rw [ho]; rfl
theorem ns_some {h : Heap} {a : Addr} {m : Str → Option Value} (x : h.Ns a m) : (h.get? a).isSome = true := by obtain ⟨o, _, _, ho, _⟩ := x; rw [ho]; rfl
theorem statics_some {h : Heap} (x : h.NoLimit) : (h.get? cStatics).isSome = true := by obtain ⟨m, hn, _⟩ := x; exact ns_some hn
noncomputable def post4 (words : List Str) (outs : List CtD) (xx : Addr) (k : Nat) (s : Shared) : Prop := PostC outs (fun c => (kwT words c.t.typ c.v, c.v)) k s ∧ (s.heap.get? xx).isSome = true
theorem push3 (a : Array GenState) (x y z : GenState) (ha : a.size = 1) : (((a.push x).push y).push z).size = 4 ∧ (((a.push x).push y).push z)[1]? = some x ∧ (((a.push x).push y).push z)[2]? = some y ∧ (((a.push x).push y).push z)[3]? = some z ∧ ∀ g, g ≠ 1 → g ≠ 2 → g ≠ 3 → (((a.push x).push y).push z)[g]? = a[g]? := by
  have e1 : ∀ g, (((a.push x).push y).push z)[g]? = if g = 3 then some z else if g = 2 then some y else if g = 1 then some x else a[g]? := fun g => by
    rw [Array.getElem?_push, Array.getElem?_push, Array.getElem?_push, Array.size_push, Array.size_push, ha]
  refine ⟨by rw [Array.size_push, Array.size_push, Array.size_push, ha], ?_, ?_, ?_, fun g h1 h2 h3 => ?_⟩
  · rw [e1, if_neg (by decide), if_neg (by decide), if_pos rfl]
  · rw [e1, if_neg (by decide), if_pos rfl]
  · rw [e1, if_pos rfl]
  · rw [e1, if_neg h3, if_neg h2, if_neg h1]
/-- prepare_for_parsing's tokens, one after another -/
theorem pipe (w : World) : ∃ (o4 : Obj) (fd4 : FuncData) (body4 : List Stmt), (KK w).lookup 93 = some o4 ∧ o4.data = .func fd4 ∧ fd4.body = .stmts body4 ∧ codeIn (KK w) fd4.code fd4.qualname = true ∧ (∀ v u, bindArgs fd4 ⟨[v, u], []⟩ = pure [(Str.ofString "tokens", v), (Str.ofString "keywords", u)]) ∧ (∀ x ∈ fd4.scope.names, x.2 ≠ .cell) ∧
    fd4.scope.names.lookup (Str.ofString "tokens") = some .local ∧ fd4.scope.names.lookup (Str.ofString "keywords") = some .local ∧ fd4.scope.isCoroutine = false ∧ fd4.scope.isGenerator = true ∧ fd4.scope.kind = .function ∧
    ∀ {prog : Program} {mg mb : Str → Option Value} {A : Around} {Hp : Heap} {rows : List Rw} {I0 ax : Addr} {words : List Str} {ka L4 I4 : Addr} {s : Shared}, Gd 40 A → Ground2 w mg mb Hp rows I0 ax → (∀ t ∈ keepR rows, ConvOk t) → (keepR rows).length ≤ 100 → KwOk prog w Hp words ka →
      Hp.get? L4 = none → Hp.get? I4 = none → L4 ≠ I0 → I4 ≠ I0 → I4 ≠ L4 → (∀ t ∈ keepR rows, t.i.a ≠ L4 ∧ t.i.a ≠ I4) → s.gens = #[.fresh (.func body4 (callEnv fd4 L4 93))] → s.heap.IsGen I4 0 → Ext Hp s.heap → s.heap.IsListIter I0 ax 0 → s.heap.IsList ax ((rows.map Rw.addr).map Value.ref).toArray →
      (∃ mm, s.heap.Ns L4 mm ∧ mm (Str.ofString "tokens") = some (.ref I0) ∧ mm (Str.ofString "keywords") = some (.ref ka)) → (∀ t ∈ keepR rows, TkM t.i t.typ t.val s.heap) →
      ∃ (gn : Nat → Prop) (Inv : Nat → Shared → Prop) (Done : Shared → Prop),
        Strm2 prog w A 4 I4 (ownC (catD none (keepR rows)) [L4, s.heap.objs.size + 4, s.heap.objs.size + 2, s.heap.objs.size, I0]) (usesC Hp (catD none (keepR rows)) [L4, s.heap.objs.size + 4, s.heap.objs.size + 2, s.heap.objs.size, I0] [I4, s.heap.objs.size + 5, s.heap.objs.size + 3, s.heap.objs.size + 1]) gn (ctEm (catD none (keepR rows))) Inv Done (post4 words (catD none (keepR rows)) (s.heap.objs.size + 5)) ∧
        (∀ s', Done s' → s'.gens[0]? = some GenState.finished ∧ s'.gens[1]? = some GenState.finished ∧ s'.gens[2]? = some GenState.finished ∧ s'.gens[3]? = some GenState.finished) ∧
        ∀ (Q : Option Value → Shared → Prop) (E : Value → Shared → Prop),
          ((catD none (keepR rows)).length = 0 → ∀ s', Chg2 (ownC (catD none (keepR rows)) [L4, s.heap.objs.size + 4, s.heap.objs.size + 2, s.heap.objs.size, I0] 0) gn s s' → Done s' → s'.gens.size = 4 → Q none s') →
          (∀ k, (catD none (keepR rows)).length = k + 1 → ∀ s', Chg2 (ownC (catD none (keepR rows)) [L4, s.heap.objs.size + 4, s.heap.objs.size + 2, s.heap.objs.size, I0] (k + 1)) gn s s' → Inv k s' → post4 words (catD none (keepR rows)) (s.heap.objs.size + 5) k s' → Q (some (.ref (ctEm (catD none (keepR rows)) k))) s') →
          wpAny (model prog w) A (pyNext (.ref I4)) Q E s := by
  refine ex8 (lvl1 w) fun o1 fd1 tp1 it1 _ nm1 b1 fp1 r => an14 r fun hK1 hd1 hb1 hcd1 hba1 hce1 hlo1 hg1 hbt1 hco1 hge1 hk1 _ T1 => ?_
  clear r
  refine ex7 (lvl2 w) fun o2 fd2 tp2 it2 nm2 b2 fp2 r => an13 r fun hK2 hd2 hb2 hcd2 hba2 hce2 hlo2 hg2 hbt2 hco2 hge2 hk2 T2 => ?_
  clear r
  refine ex9 (lvl3 w) fun o3 fd3 tp3 it3 nm3 b3 fp3 st0 st2 r => an13 r fun hK3 hd3 hb3 hcd3 hba3 hce3 hlo3 hg3 hbt3 hco3 hge3 hk3 T3 => ?_
  clear r
  refine ex13 (lvl4 w) fun o4 fd4 tp4 nm4 b4 fp4 p1 p2 p3 p4 p5 p6 p7 r => an17 r fun hK4 hd4 hb4 hcd4 hba4 hce4 hlo4 hlo4k hg4 hbt4 hco4 hge4 hk4 hn43 hn42 hn41 T4 => ?_
  clear r
  refine ⟨o4, fd4, _, hK4, hd4, hb4, hcd4, hba4, hce4, hlo4, hlo4k, hco4, hge4, hk4, ?_⟩
  intro prog mg mb A Hp rows I0 ax words ka L4 I4 s gd GR CO hlen KW hpL4 hpI4 hLI hII hIL htL hgens hIg hx hli hll ⟨mm4, hns4, hmt4, hmk4⟩ htk
  generalize hN : s.heap.objs.size = N
  have hokl : Okl (keepR rows) (catD none (keepR rows)) := outs_okl _
  have hlt : ∀ {b : Addr}, (s.heap.get? b).isSome = true → b < N := fun {b} q => by
    obtain ⟨o, ho⟩ := Option.isSome_iff_exists.mp q
    rw [← hN]; exact Heap.lt_size ho
  have hHlt : ∀ {b : Addr}, (Hp.get? b).isSome = true → b < N := fun {b} q => by
    obtain ⟨o, ho⟩ := Option.isSome_iff_exists.mp q
    exact hlt (by rw [hx _ _ ho]; rfl)
  have hI0 : I0 < N := hlt (by obtain ⟨o, ho, _⟩ := hli; rw [ho]; rfl)
  have hL4 : L4 < N := hlt (ns_some hns4)
  have hI4 : I4 < N := hlt (isGen_some hIg)
  have htN : ∀ t ∈ (keepR rows), t.i.a < N := fun t ht => hlt (TkM_some (htk t ht))
  have hTk : Toks Hp (keepR rows) := ⟨fun t ht => (GR.ok _ (keepR_mem ht).1).1, GR.fresh, GR.nodup⟩
  have hNn : ∀ {b : Addr}, N ≤ b → Hp.get? b = none := fun {b} q => by
    cases e : Hp.get? b with
    | none => rfl
    | some o => exact absurd (hHlt (by rw [e]; rfl)) (Nat.not_lt.mpr q)
  have hcs : (Hp.get? cStatics).isSome = true := statics_some GR.W.nl
  have hcsN : cStatics < N := hHlt hcs
  have ne1 : ∀ {b : Addr} (k : Nat), b < N → (N + k : Nat) ≠ b := fun {b} k q e => absurd (show (b : Nat) < N from q) (by rw [← e]; exact Nat.not_lt.mpr (Nat.le_add_right N k))
  have ne2 : ∀ {b : Addr} (k : Nat), b < N → b ≠ (N + k : Nat) := fun {b} k q e => ne1 k q e.symm
  have ne3 : ∀ (a b : Nat), a ≠ b → ((N + a : Nat) : Addr) ≠ (N + b : Nat) := fun a b q e => q (by have e' : N + a = N + b := e; lia)
  have mem4 : ∀ {b : Addr} (k : Nat), b < N → b ∉ ([N + k] : List Addr) := fun k q h => ne2 k q (List.mem_singleton.mp h)
  -- who is no token
  have ntk : ∀ {b : Addr}, (N ≤ b ∨ b = I0 ∨ b = L4 ∨ b = I4 ∨ (Hp.get? b).isSome = true) → ∀ t ∈ (keepR rows), t.i.a ≠ b := fun {b} q t ht e => by
    rcases q with q | q | q | q | q
    · exact absurd (htN t ht) (by rw [e]; exact Nat.not_lt.mpr q)
    · exact GR.i0n t ht (e.trans q)
    · exact (htL t ht).1 (e.trans q)
    · exact (htL t ht).2 (e.trans q)
    · rw [← e, GR.fresh t ht] at q; cases q
  have ntk1 : ∀ {b : Addr}, (N ≤ b ∨ b = I0 ∨ b = L4 ∨ b = I4 ∨ (Hp.get? b).isSome = true) → ∀ m, b ∉ (tksTo (keepR rows) m).map (·.i.a) := fun q m h => by
    obtain ⟨t, ht, e⟩ := List.mem_map.mp h
    exact ntk q t (tksTo_sub _ _ t ht) e
  have ntk2 : ∀ {b : Addr}, (N ≤ b ∨ b = I0 ∨ b = L4 ∨ b = I4 ∨ (Hp.get? b).isSome = true) → ∀ m, b ∉ ctTk (catD none (keepR rows)) m := fun q m h => by
    obtain ⟨t, ht, e⟩ := List.mem_map.mp (okl_sub hokl _ _ h)
    exact ntk q t ht e
  have hcI : cStatics ≠ I0 := fun e => by rw [e, GR.i0] at hcs; cases hcs
  have hcL : cStatics ≠ L4 := fun e => by rw [e, hpL4] at hcs; cases hcs
  -- the frames
  have V2 : Lv Hp (keepR rows) [N, I0] [N + 1] (N + 2) := ⟨hNn (Nat.le_add_right _ _), nM2 (ne3 2 0 (by decide)) ((ne1 2 hI0)), fun h => ne3 2 1 (by decide) (List.mem_singleton.mp h), ntk (.inl (Nat.le_add_right _ _)), al2 (hNn (Nat.le_refl _)) GR.i0, fun t ht => ⟨by simpa using ⟨ntk (.inl (Nat.le_refl _)) t ht, ntk (.inr (.inl rfl)) t ht⟩, by simpa using ntk (.inl (Nat.le_add_right _ _)) t ht⟩⟩
  have V3 : Lv Hp (keepR rows) [N + 2, N, I0] [N + 3, N + 1] (N + 4) := ⟨hNn (Nat.le_add_right _ _), nM3 (ne3 4 2 (by decide)) (ne3 4 0 (by decide)) ((ne1 4 hI0)), nM2 (ne3 4 3 (by decide)) ((ne3 4 1 (by decide))), ntk (.inl (Nat.le_add_right _ _)), al3 (hNn (Nat.le_add_right _ _)) (hNn (Nat.le_refl _)) GR.i0, fun t ht => ⟨by simpa using ⟨ntk (.inl (Nat.le_add_right _ _)) t ht, ntk (.inl (Nat.le_refl _)) t ht, ntk (.inr (.inl rfl)) t ht⟩, by simpa using ⟨ntk (.inl (Nat.le_add_right _ _)) t ht, ntk (.inl (Nat.le_add_right _ _)) t ht⟩⟩⟩
  have V4 : Lv Hp (keepR rows) [N + 4, N + 2, N, I0] [N + 5, N + 3, N + 1] L4 := ⟨hpL4, nM4 (ne2 4 hL4) (ne2 2 hL4) (ne2 0 hL4) hLI, nM3 (ne2 5 hL4) (ne2 3 hL4) ((ne2 1 hL4)), ntk (.inr (.inr (.inl rfl))), al4 (hNn (Nat.le_add_right _ _)) (hNn (Nat.le_add_right _ _)) (hNn (Nat.le_refl _)) GR.i0, fun t ht => ⟨by simpa using ⟨ntk (.inl (Nat.le_add_right _ _)) t ht, ntk (.inl (Nat.le_add_right _ _)) t ht, ntk (.inl (Nat.le_refl _)) t ht, ntk (.inr (.inl rfl)) t ht⟩, by simpa using ⟨ntk (.inl (Nat.le_add_right _ _)) t ht, ntk (.inl (Nat.le_add_right _ _)) t ht, ntk (.inl (Nat.le_add_right _ _)) t ht⟩⟩⟩
  have fe1 : Fenv (callEnv fd1 N 72) fd1.scope := ⟨rfl, hg1, hbt1, hk1⟩
  have fe2 : Fenv (callEnv fd2 (N + 2) 79) fd2.scope := ⟨rfl, hg2, hbt2, hk2⟩
  have fe3 : Fenv (callEnv fd3 (N + 4) 86) fd3.scope := ⟨rfl, hg3, hbt3, hk3⟩
  have fe4 : Fenv (callEnv fd4 L4 93) fd4.scope := ⟨rfl, hg4, hbt4, hk4⟩
  have gd3 : Gd 38 (loopA A (callEnv fd4 L4 93)) := gd_loopA gd
  have gd2 : Gd 36 (loopA (loopA A (callEnv fd4 L4 93)) (callEnv fd3 (N + 4) 86)) := gd_loopA gd3
  have gd1 : Gd 34 (loopA (loopA (loopA A (callEnv fd4 L4 93)) (callEnv fd3 (N + 4) 86)) (callEnv fd2 (N + 2) 79)) := gd_loopA gd2
  generalize hB3 : loopA A (callEnv fd4 L4 93) = B3 at gd3 gd2 gd1
  generalize hB2 : loopA B3 (callEnv fd3 (N + 4) 86) = B2 at gd2 gd1
  generalize hB1 : loopA B2 (callEnv fd2 (N + 2) 79) = B1 at gd1
  -- the streams
  have S1 := gen_strm2 (prog := prog) (w := w) (A := B1) (G := 4) (I := N + 1) (g := 1) (own := ownL1 I0 N) (uses := usesL1 Hp (keepR rows) I0 N (N + 1)) (gn := fun _ => False) (em := emA (keepR rows)) (Done := fun _ => True) (Post := PostT (keepR rows) fun t => (t.typ, t.val)) gd1.hd gd1.room
    (fun m => ⟨.inr (.inr (.inr (.inl rfl))), .inl hcs⟩) (fun m => ⟨fun q => q.elim (ne1 1 hI0) (ne3 1 0 (by decide)), fun q => q.elim hcI (ne2 0 hcsN)⟩) (fun q => q) (by decide) (fun _ _ _ _ _ => trivial) (fun _ _ _ p => p)
  have S2 := gen_strm2 (prog := prog) (w := w) (A := B2) (G := 4) (I := N + 3) (g := 2) (own := ownL (keepR rows) [N + 2, N, I0]) (uses := usesL Hp (keepR rows) [N + 2, N, I0] [N + 3, N + 1]) (gn := fun k => False ∨ k = 1) (em := emA (keepR rows)) (Done := fun s => True ∧ s.gens[1]? = some GenState.finished) (Post := PostT (keepR rows) fun t => (t.typ, convV t)) gd2.hd gd2.room
    (fun m => ⟨.inr (.inr (.inl (.head _))), .inl hcs⟩) (fun m => ⟨fun q => by
      rcases q with q | q
      · simp only [List.mem_cons, List.not_mem_nil, or_false] at q
        exact q.elim (ne3 3 2 (by decide)) fun q => q.elim (ne3 3 0 (by decide)) (ne1 3 hI0)
      · exact ntk1 (.inl (Nat.le_add_right _ _)) m q, fun q => by
      rcases q with q | q
      · simp only [List.mem_cons, List.not_mem_nil, or_false] at q
        exact q.elim (ne2 2 hcsN) fun q => q.elim (ne2 0 hcsN) hcI
      · exact ntk1 (.inr (.inr (.inr (.inr hcs)))) m q⟩) (by simp) (by decide) (fun s h' x d _ => ⟨trivial, Eq.trans (b := s.gens[1]?) (setGen_other (s := s) (g := 2) (x := x) (by decide)) d.2⟩) (fun _ _ _ p => p)
  have S3 := gen_strm2 (prog := prog) (w := w) (A := B3) (G := 4) (I := N + 5) (g := 3) (own := ownC (catD none (keepR rows)) [N + 4, N + 2, N, I0]) (uses := usesC Hp (catD none (keepR rows)) [N + 4, N + 2, N, I0] [N + 5, N + 3, N + 1]) (gn := fun k => (False ∨ k = 1) ∨ k = 2) (em := ctEm (catD none (keepR rows))) (Done := fun s => (True ∧ s.gens[1]? = some GenState.finished) ∧ s.gens[2]? = some GenState.finished) (Post := PostC (catD none (keepR rows)) fun c => (c.t.typ, c.v)) gd3.hd gd3.room
    (fun m => ⟨.inr (.inr (.inl (.head _))), .inl hcs⟩) (fun m => ⟨fun q => by
      rcases q with q | q
      · simp only [List.mem_cons, List.not_mem_nil, or_false] at q
        exact q.elim (ne3 5 4 (by decide)) fun q => q.elim (ne3 5 2 (by decide)) fun q => q.elim (ne3 5 0 (by decide)) (ne1 5 hI0)
      · exact ntk2 (.inl (Nat.le_add_right _ _)) m q, fun q => by
      rcases q with q | q
      · simp only [List.mem_cons, List.not_mem_nil, or_false] at q
        exact q.elim (ne2 4 hcsN) fun q => q.elim (ne2 2 hcsN) fun q => q.elim (ne2 0 hcsN) hcI
      · exact ntk2 (.inr (.inr (.inr (.inr hcs)))) m q⟩) (by simp) (by decide) (fun s h' x d _ => ⟨⟨trivial, Eq.trans (b := s.gens[1]?) (setGen_other (s := s) (g := 3) (x := x) (by decide)) d.1.2⟩, Eq.trans (b := s.gens[2]?) (setGen_other (s := s) (g := 3) (x := x) (by decide)) d.2⟩) (fun _ _ _ p => p)
  have hu4 : ∀ m, usesC Hp (catD none (keepR rows)) [L4, N + 4, N + 2, N, I0] [I4, N + 5, N + 3, N + 1] m I4 ∧ usesC Hp (catD none (keepR rows)) [L4, N + 4, N + 2, N, I0] [I4, N + 5, N + 3, N + 1] m cStatics := fun m => ⟨.inr (.inr (.inl (.head _))), .inl hcs⟩
  have ho4 : ∀ m, ¬ ownC (catD none (keepR rows)) [L4, N + 4, N + 2, N, I0] m I4 ∧ ¬ ownC (catD none (keepR rows)) [L4, N + 4, N + 2, N, I0] m cStatics := fun m => ⟨fun q => by
      rcases q with q | q
      · simp only [List.mem_cons, List.not_mem_nil, or_false] at q
        exact q.elim hIL fun q => q.elim (ne2 4 hI4) fun q => q.elim (ne2 2 hI4) fun q => q.elim (ne2 0 hI4) hII
      · exact ntk2 (.inr (.inr (.inr (.inl rfl)))) m q, fun q => by
      rcases q with q | q
      · simp only [List.mem_cons, List.not_mem_nil, or_false] at q
        exact q.elim hcL fun q => q.elim (ne2 4 hcsN) fun q => q.elim (ne2 2 hcsN) fun q => q.elim (ne2 0 hcsN) hcI
      · exact ntk2 (.inr (.inr (.inr (.inr hcs)))) m q⟩
  have hdk4 : ∀ (s : Shared) (h' : Heap) (x : GenState), (((True ∧ s.gens[1]? = some GenState.finished) ∧ s.gens[2]? = some GenState.finished) ∧ s.gens[3]? = some GenState.finished) → (∀ b o, s.heap.get? b = some o → h'.get? b = some o) → ((True ∧ ({ s.setGen 0 x with heap := h' } : Shared).gens[1]? = some GenState.finished) ∧ ({ s.setGen 0 x with heap := h' } : Shared).gens[2]? = some GenState.finished) ∧ ({ s.setGen 0 x with heap := h' } : Shared).gens[3]? = some GenState.finished := fun s h' x d _ =>
    ⟨⟨⟨trivial, Eq.trans (b := s.gens[1]?) (setGen_other (s := s) (g := 0) (x := x) (by decide)) d.1.1.2⟩, Eq.trans (b := s.gens[2]?) (setGen_other (s := s) (g := 0) (x := x) (by decide)) d.1.2⟩, Eq.trans (b := s.gens[3]?) (setGen_other (s := s) (g := 0) (x := x) (by decide)) d.2⟩
  have S4 := gen_strm2 (prog := prog) (w := w) (A := A) (G := 4) (I := I4) (g := 0) (own := ownC (catD none (keepR rows)) [L4, N + 4, N + 2, N, I0]) (uses := usesC Hp (catD none (keepR rows)) [L4, N + 4, N + 2, N, I0] [I4, N + 5, N + 3, N + 1]) (gn := fun k => ((False ∨ k = 1) ∨ k = 2) ∨ k = 3) (em := ctEm (catD none (keepR rows))) (Done := fun s => ((True ∧ s.gens[1]? = some GenState.finished) ∧ s.gens[2]? = some GenState.finished) ∧ s.gens[3]? = some GenState.finished) (Post := post4 words (catD none (keepR rows)) (N + 5)) gd.hd gd.room
    hu4 ho4 (by simp) (by decide) hdk4 (fun _ _ _ p => p)
  refine ⟨_, _, _, S4, fun s' d => ⟨d.2, d.1.1.1.2, d.1.1.2, d.1.2⟩, fun Q E q0 q1 => ?_⟩
  have hNL : s.heap.NoLimit := GR.W.nl.keeps hx
  refine gen_step (m := (catD none (keepR rows)).length) (gs := .fresh (.func _ (callEnv fd4 L4 93))) (own := ownC (catD none (keepR rows)) [L4, N + 4, N + 2, N, I0]) (uses := usesC Hp (catD none (keepR rows)) [L4, N + 4, N + 2, N, I0] [I4, N + 5, N + 3, N + 1]) (gn := fun k => ((False ∨ k = 1) ∨ k = 2) ∨ k = 3) (em := ctEm (catD none (keepR rows))) (Done := fun s => ((True ∧ s.gens[1]? = some GenState.finished) ∧ s.gens[2]? = some GenState.finished) ∧ s.gens[3]? = some GenState.finished) (Post := post4 words (catD none (keepR rows)) (N + 5)) gd.hd gd.room
    hu4 ho4 (by simp) (by decide) hdk4 (fun _ _ _ p => p) hIg hNL (by rw [hgens]; rfl) ⟨rfl, ?_⟩ (fun e s' c d f z => q0 e s' c ⟨d, f⟩ z) q1
  -- the key, from where all three stand
  have key : ∀ s3 : Shared, Ext s.heap s3.heap → (∃ m1, s3.heap.Ns N m1 ∧ m1 (Str.ofString "tokens") = some (.ref I0)) → (∃ m2, s3.heap.Ns (N + 2) m2 ∧ m2 (Str.ofString "tokens") = some (.ref (N + 1))) → (∃ m3, s3.heap.Ns (N + 4) m3 ∧ m3 (Str.ofString "tokens") = some (.ref (N + 3))) →
      s3.heap.IsGen (N + 1) 1 → s3.heap.IsGen (N + 3) 2 → s3.heap.IsGen (N + 5) 3 → s3.gens.size = 4 → s3.gens[1]? = some (.fresh (.func [.For (.Name nm1 tp1) (.Name (Str.ofString "tokens") it1) b1 [] fp1] (callEnv fd1 N 72))) → s3.gens[2]? = some (.fresh (.func [.For (.Name nm2 tp2) (.Name (Str.ofString "tokens") it2) b2 [] fp2] (callEnv fd2 (N + 2) 79))) → s3.gens[3]? = some (.fresh (.func [st0, .For (.Name nm3 tp3) (.Name (Str.ofString "tokens") it3) b3 [] fp3, st2] (callEnv fd3 (N + 4) 86))) →
      Chg2 (ownC (catD none (keepR rows)) [L4, N + 4, N + 2, N, I0] (catD none (keepR rows)).length) (fun k => ((False ∨ k = 1) ∨ k = 2) ∨ k = 3) (s.setGen 0 .running) s3 → ∀ p, Seg (model prog w) A.in1 (fun n s₀ r s₁ => r = .ok (.ret .none) ∧ GP2 4 (ownC (catD none (keepR rows)) [L4, N + 4, N + 2, N, I0]) (fun k => ((False ∨ k = 1) ∨ k = 2) ∨ k = 3) (fun s => ((True ∧ s.gens[1]? = some GenState.finished) ∧ s.gens[2]? = some GenState.finished) ∧ s.gens[3]? = some GenState.finished) n s₀ s₁) (GY2 4 (ownC (catD none (keepR rows)) [L4, N + 4, N + 2, N, I0]) (usesC Hp (catD none (keepR rows)) [L4, N + 4, N + 2, N, I0] [I4, N + 5, N + 3, N + 1]) (fun k => ((False ∨ k = 1) ∨ k = 2) ∨ k = 3) (ctEm (catD none (keepR rows))) (post4 words (catD none (keepR rows)) (N + 5))) (catD none (keepR rows)).length (s.setGen 0 .running)
        (.forLoop (.Name nm4 tp4) (.ref (N + 5)) b4 [] (callEnv fd4 L4 93)) ((model prog w).den (.forLoop (.Name nm4 tp4) (.ref (N + 5)) b4 [] (callEnv fd4 L4 93)))
          [.ret (backOf (callEnv fd4 L4 93) (fun f => match f with | .next => (execs [] (callEnv fd4 L4 93)).wrap (fun f => .pure (.done (.ret (match f with | .ret v => v | _ => .none)))) (fun e => (leaving (callEnv fd4 L4 93) e).wrap (fun _ => .raise e) .raise id id) id id | f => .pure (.done (.ret (match f with | .ret v => v | _ => .none)))) (fun e => (leaving (callEnv fd4 L4 93) e).wrap (fun _ => .raise e) .raise id id) id id) none (id false) (id []) (.func [.For (.Name nm4 tp4) (.Call (.Name (Str.ofString "string_concat") p1) [.Call (.Name (Str.ofString "string_convert") p2) [.Call (.Name (Str.ofString "skip_ws") p3) [.Name (Str.ofString "tokens") p4] [] p5] [] p6] [] p7) b4 [] fp4] (callEnv fd4 L4 93)) p []] s3 := by
    rintro s3 x3 ⟨m1, n1, t1⟩ ⟨m2, n2, t2⟩ ⟨m3, n3, t3⟩ g1 g2 g3 gz gf1 gf2 gf3 ch p
    have hx3 : Ext Hp s3.heap := hx.trans x3
    have nl3 : s3.heap.NoLimit := GR.W.nl.keeps hx3
    -- skip_ws stands
    have i1 : GInv2 prog w B1 4 (N + 1) 1 (ownL1 I0 N) (usesL1 Hp (keepR rows) I0 N (N + 1)) (fun _ => False) (emA (keepR rows)) (fun _ => True) (PostT (keepR rows) fun t => (t.typ, t.val)) (keepR rows).length s3 := by
      refine ⟨g1, nl3, gz, _, gf1, fun s' a e => ⟨rfl, ?_⟩⟩
      have hns' : s'.heap.Ns N m1 := n1.at fun o e => a.hp N o (.inr (.inr (.inl rfl))) e
      have hli' : s'.heap.IsListIter I0 ax 0 := by
        obtain ⟨o, ho, r⟩ := hli
        exact ⟨o, a.hp I0 o (.inr (.inl rfl)) (x3 _ _ ho), r⟩
      have hll' : s'.heap.IsList ax ((rows.map Rw.addr).map Value.ref).toArray := by
        obtain ⟨o, ho, r⟩ := hll
        exact ⟨o, a.hp ax o (.inl GR.ax) (x3 _ _ ho), r⟩
      refine seg_start (I := I0) fe1 hlo1 hns' t1 (fun A Q E hA q => ?_) gd1.hd fun p => ?_
      · have := (strm_list2 (prog := prog) (w := w) (A := A) 4 hA I0 ax (fun e => by have := GR.ax; rw [e, GR.i0] at this; cases this) (rows.map Rw.addr)).iter (rows.map Rw.addr).length (s'.setGen 1 .running) Q E ⟨Nat.le_refl _, ⟨by rw [Nat.sub_self]; exact hli', hll'⟩, ?_⟩ q
        · exact this
        · rw [setGen_size, a.gs]; exact gz
      · refine T1 (gd1.le (by decide)) GR fe1 rfl (hNn (Nat.le_refl _)) (ntk (.inl (Nat.le_refl _))) (ne1 0 hI0) rows.length (keepR rows).length _ _ ⟨Nat.le_refl _, Nat.le_refl _, ?_, ⟨by simp, ⟨by rw [List.length_map, Nat.sub_self]; exact hli', hll'⟩, ?_⟩, ⟨m1, hns'⟩, ?_, fun t ht => ?_, Chg2.refl _⟩
        · rw [tksTo_all, Nat.sub_self]; rfl
        · rw [setGen_size, a.gs]; exact gz
        · exact fun b o e => a.hp b o (.inl (by rw [e]; rfl)) (hx3 b o e)
        · rw [tksTo_all] at ht
          exact TkM_at ((htk t ht).keep x3) fun o e => a.hp _ o (.inr (.inr (.inr (.inr (by rw [tksTo_all]; exact List.mem_map.mpr ⟨t, ht, rfl⟩))))) e
    -- string_convert stands
    have i2 : GInv2 prog w B2 4 (N + 3) 2 (ownL (keepR rows) [N + 2, N, I0]) (usesL Hp (keepR rows) [N + 2, N, I0] [N + 3, N + 1]) (fun k => False ∨ k = 1) (emA (keepR rows)) (fun s => True ∧ s.gens[1]? = some GenState.finished) (PostT (keepR rows) fun t => (t.typ, convV t)) (keepR rows).length s3 := by
      refine ⟨g2, nl3, gz, _, gf2, fun s' a e => ⟨rfl, ?_⟩⟩
      have hns' : s'.heap.Ns (N + 2) m2 := n2.at fun o e => a.hp (N + 2) o (.inr (.inl (.head _))) e
      have i1' : GInv2 prog w B1 4 (N + 1) 1 (ownL1 I0 N) (usesL1 Hp (keepR rows) I0 N (N + 1)) (fun _ => False) (emA (keepR rows)) (fun _ => True) (PostT (keepR rows) fun t => (t.typ, t.val)) (keepR rows).length (s'.setGen 2 .running) := S1.keep _ s3 _ i1 ⟨fun b o u e => a.hp b o (by
          rcases u with u | u | u | u | u
          · exact .inl u
          · exact .inr (.inl (by rw [u]; exact .tail _ (.tail _ (.head _))))
          · exact .inr (.inl (by rw [u]; exact .tail _ (.head _)))
          · exact .inr (.inr (.inl (by rw [u]; exact .tail _ (.head _))))
          · exact .inr (.inr (.inr u))) e, fun g hg => (setGen_other (by rcases hg with hg | hg; exact hg.elim; lia)).trans (a.gk g hg), by rw [setGen_size]; exact a.gs⟩
      refine seg_start (I := N + 1) fe2 hlo2 hns' t2 (fun A Q E hA q => wpAny_pyIter_gen i1'.1 q) gd2.hd fun p => ?_
      refine T2 (gd2.le (by decide)) GR.W hTk CO V2 fe2 rfl (own1 := ownL1 I0 N) (uses1 := usesL1 Hp (keepR rows) I0 N (N + 1)) (fun m b q => .inl (by rcases q with q | q; rw [q]; exact .tail _ (.head _); rw [q]; exact .head _)) (fun m b u => by
          rcases u with u | u | u | u | u
          · exact .inl u
          · exact .inr (.inl (by rw [u]; exact .tail _ (.head _)))
          · exact .inr (.inl (by rw [u]; exact .head _))
          · exact .inr (.inr (.inl (by rw [u]; exact .head _)))
          · exact .inr (.inr (.inr u))) (fun _ _ _ => trivial) (by subst hB1; exact S1) (keepR rows).length (keepR rows).length _ _ ⟨rfl, Nat.le_refl _, i1', ⟨m2, hns'⟩, fun b o e => a.hp b o (.inl (by rw [e]; rfl)) (hx3 b o e), Chg2.refl _⟩
    -- string_concat stands
    have i3 : GInv2 prog w B3 4 (N + 5) 3 (ownC (catD none (keepR rows)) [N + 4, N + 2, N, I0]) (usesC Hp (catD none (keepR rows)) [N + 4, N + 2, N, I0] [N + 5, N + 3, N + 1]) (fun k => (False ∨ k = 1) ∨ k = 2) (ctEm (catD none (keepR rows))) (fun s => (True ∧ s.gens[1]? = some GenState.finished) ∧ s.gens[2]? = some GenState.finished) (PostC (catD none (keepR rows)) fun c => (c.t.typ, c.v)) (catD none (keepR rows)).length s3 := by
      refine ⟨g3, nl3, gz, _, gf3, fun s' a e => ⟨rfl, ?_⟩⟩
      have hns' : s'.heap.Ns (N + 4) m3 := n3.at fun o e => a.hp (N + 4) o (.inr (.inl (.head _))) e
      have hall : ctLeft (catD none (keepR rows)) (catD none (keepR rows)).length = catD none (keepR rows) := by unfold ctLeft; rw [Nat.sub_self]; rfl
      have i2' : GInv2 prog w B2 4 (N + 3) 2 (ownL (keepR rows) [N + 2, N, I0]) (usesL Hp (keepR rows) [N + 2, N, I0] [N + 3, N + 1]) (fun k => False ∨ k = 1) (emA (keepR rows)) (fun s => True ∧ s.gens[1]? = some GenState.finished) (PostT (keepR rows) fun t => (t.typ, convV t)) (keepR rows).length (s'.setGen 3 .running) := S2.keep _ s3 _ i2 ⟨fun b o u e => a.hp b o (by
          rcases u with u | u | u | u
          · exact .inl u
          · exact .inr (.inl (.tail _ u))
          · exact .inr (.inr (.inl (.tail _ u)))
          · refine .inr (.inr (.inr ?_))
            rw [tksTo_all] at u
            rw [ctTk_none hall]; exact u) e, fun g hg => (setGen_other (by rcases hg with (hg | hg) | hg; exact hg.elim; lia; lia)).trans (a.gk g hg), by rw [setGen_size]; exact a.gs⟩
      exact T3 (gd3.le (by decide)) GR.W hTk CO hlen V3 fe3 rfl (own1 := ownL (keepR rows) [N + 2, N, I0]) (uses1 := usesL Hp (keepR rows) [N + 2, N, I0] [N + 3, N + 1]) (fun m b q => q) (fun m b u => u) (fun s s' d h => ⟨⟨trivial, (h 1 (.inl (.inr rfl))).trans d.1.2⟩, (h 2 (.inr rfl)).trans d.2⟩) (fun m s A Q E h q => wpAny_pyIter_gen h.1 q) (by subst hB2; exact S2) _ i2' ⟨m3, hns', t3⟩ (fun b o e => a.hp b o (.inl (by rw [e]; rfl)) (hx3 b o e))
    -- the loop
    refine T4 (gd.le (by decide)) GR.W hTk hokl V4 KW (xx := N + 5) (.head _) (fun m q => ?_) fe4 rfl (own1 := ownC (catD none (keepR rows)) [N + 4, N + 2, N, I0]) (uses1 := usesC Hp (catD none (keepR rows)) [N + 4, N + 2, N, I0] [N + 5, N + 3, N + 1]) (fun m b q => q) (fun m b u => u) (by subst hB3; exact S3) (catD none (keepR rows)).length (catD none (keepR rows)).length _ s3 ⟨rfl, Nat.le_refl _, i3, ⟨mm4, hns4.keeps x3, hmk4⟩, hx3, ch, isGen_some g3⟩
    rcases q with q | q
    · simp only [List.mem_cons, List.not_mem_nil, or_false] at q
      exact q.elim (ne1 5 hL4) fun q => q.elim (ne3 5 4 (by decide)) fun q => q.elim (ne3 5 2 (by decide)) fun q => q.elim (ne3 5 0 (by decide)) (ne1 5 hI0)
    · exact ntk2 (.inl (Nat.le_add_right _ _)) m q
  have W0 : Wd (KK w) mg mb (s.setGen 0 .running).heap := GR.W.keep hx
  have hm3 : NmV prog w (callEnv fd4 L4 93) (s.setGen 0 .running).heap (Str.ofString "string_concat") (.ref 86) := nmv_glob W0 rfl hk4 hg4 (by kernel_rfl) hn43 (by rfl)
  have hm2 : NmV prog w (callEnv fd4 L4 93) (s.setGen 0 .running).heap (Str.ofString "string_convert") (.ref 79) := nmv_glob W0 rfl hk4 hg4 (by kernel_rfl) hn42 (by rfl)
  have hm1 : NmV prog w (callEnv fd4 L4 93) (s.setGen 0 .running).heap (Str.ofString "skip_ws") (.ref 72) := nmv_glob W0 rfl hk4 hg4 (by kernel_rfl) hn41 (by rfl)
  have groom : (A.in1.over (.func [.For (.Name nm4 tp4) (.Call (.Name (Str.ofString "string_concat") p1) [.Call (.Name (Str.ofString "string_convert") p2) [.Call (.Name (Str.ofString "skip_ws") p3) [.Name (Str.ofString "tokens") p4] [] p5] [] p6] [] p7) b4 [] fp4] (callEnv fd4 L4 93)) []).depth < recursionLimit := (gd_funcA gd).room
  have gsz : (s.setGen 0 .running).gens.size = 1 := by rw [setGen_size, hgens]; rfl
  refine seg_func (seg_execs_cons (seg_For (gcall1 (o := o3) (fd := fd3) hm3 (gcall1 (o := o2) (fd := fd2) hm2 (gcall1 (o := o1) (fd := fd1) hm1 (wpAny_Name (wpAny_loadName_local hk4 hlo4 hns4 hmt4 ?_) (by rfl))))) (by intro _; rfl)))
  refine ⟨⟨W0.kin _ _ hK1, hd1⟩, wpAny_call (gen_make2 groom (W0.kin _ _ hK1) hd1 W0.nl (codeRec_of W0.kin hcd1) hb1 (BindsTo.of_eq (hba1 _)) hce1 (fun x hx => by rw [List.mem_singleton.mp hx]; exact hlo1) (fun h1 tk1 n1 e1 g1 z1 => ?_) hco1 hge1 hk1)⟩
  have W1 := W0.keep e1
  refine ⟨⟨W1.kin _ _ hK2, hd2⟩, wpAny_call (gen_make2 groom (W1.kin _ _ hK2) hd2 W1.nl (codeRec_of W1.kin hcd2) hb2 (BindsTo.of_eq (hba2 _)) hce2 (fun x hx => by rw [List.mem_singleton.mp hx]; exact hlo2) (fun h2 tk2 n2 e2 g2 z2 => ?_) hco2 hge2 hk2)⟩
  have W2 := W1.keep e2
  refine ⟨⟨W2.kin _ _ hK3, hd3⟩, wpAny_call (gen_make2 groom (W2.kin _ _ hK3) hd3 W2.nl (codeRec_of W2.kin hcd3) hb3 (BindsTo.of_eq (hba3 _)) hce3 (fun x hx => by rw [List.mem_singleton.mp hx]; exact hlo3) (fun h3 tk3 n3 e3 g3 z3 => ?_) hco3 hge3 hk3)⟩
  have q1 : (s.setGen 0 .running).heap.objs.size = N := hN
  have q2 : h1.objs.size = N + 2 := by rw [z1, q1]
  have q3 : h2.objs.size = N + 4 := by rw [z2]; show h1.objs.size + 2 = _; rw [q2]
  have e32 : Ext h2 h3 := e3
  have e21 : Ext h1 h2 := e2
  have g1' : h3.IsGen (N + 1) 1 := by
    have := g1
    rw [q1, gsz] at this
    exact (this.keeps e21).keeps e32
  have g2' : h3.IsGen (N + 3) 2 := by
    have := g2
    dsimp only at this
    rw [q2, Array.size_push, gsz] at this
    exact this.keeps e32
  have g3' : h3.IsGen (N + 5) 3 := by
    have := g3
    dsimp only at this
    rw [q3, Array.size_push, Array.size_push, gsz] at this
    exact this
  have n1' : ∃ m, h3.Ns N m ∧ m (Str.ofString "tokens") = some (.ref I0) := by
    have t := n1
    rw [q1] at t
    exact ⟨_, (t.keeps e21).keeps e32, rfl⟩
  have n2' : ∃ m, h3.Ns (N + 2) m ∧ m (Str.ofString "tokens") = some (.ref (N + 1)) := by
    have t := n2
    dsimp only at t
    rw [q2, q1] at t
    exact ⟨_, t.keeps e32, rfl⟩
  have n3' : ∃ m, h3.Ns (N + 4) m ∧ m (Str.ofString "tokens") = some (.ref (N + 3)) := by
    have t := n3
    dsimp only at t
    rw [q3, q2] at t
    exact ⟨_, t, rfl⟩
  dsimp only
  rw [q3, q2, q1]
  refine wpAny_pyIter_gen (g := 3) g3' ?_
  have E3 : Ext s.heap h3 := e1.trans (e21.trans e32)
  have hG := push3 (s.setGen 0 .running).gens (.fresh (.func [.For (.Name nm1 tp1) (.Name (Str.ofString "tokens") it1) b1 [] fp1] (callEnv fd1 N 72))) (.fresh (.func [.For (.Name nm2 tp2) (.Name (Str.ofString "tokens") it2) b2 [] fp2] (callEnv fd2 (N + 2) 79))) (.fresh (.func [st0, .For (.Name nm3 tp3) (.Name (Str.ofString "tokens") it3) b3 [] fp3, st2] (callEnv fd3 (N + 4) 86))) gsz
  exact key _ E3 n1' n2' n3' g1' g2' g3' hG.1 hG.2.1 hG.2.2.1 hG.2.2.2.1 ⟨fun b o _ e => E3 b o e, fun g hg => hG.2.2.2.2 g (fun e => hg (.inl (.inl (.inr e)))) (fun e => hg (.inl (.inr e))) (fun e => hg (.inr e)), rfl, rfl⟩
end
section
noncomputable def lawStmt : Stmt := PySem.Challenge.pw_qt0004_01.main.body.getLastD (.Pass ⟨0, 0, 0, 0⟩)
noncomputable def lawBody : List Stmt := match lawStmt with | .FunctionDef _ _ b _ _ _ _ _ _ _ => b | _ => []
noncomputable def lawScope : Scope := match lawStmt with | .FunctionDef _ _ _ _ _ _ sc _ _ _ => sc | _ => { kind := .function, names := [], isGenerator := false, isCoroutine := false }
structure LawFn (h : Heap) (fa : Addr) (o : Obj) (fd : FuncData) : Prop where
  ho : h.get? fa = some o
  hd : o.data = .func fd
  cd : h.CodeRec fd.code fd.qualname
  body : fd.body = .stmts lawBody
  sc : fd.scope = lawScope
  clo : fd.closure = []
  g : fd.globals = mainGlobals
  b : fd.builtins = builtinsNs
  bind : ∀ v, bindArgs fd ⟨[v], []⟩ = pure [(Str.ofString "script", v)]
end
section
section
variable {prog : Program} {w : World} {A : Around} {E : Value → Shared → Prop} {env : Env}
theorem comp_block {elt target iter : PySem.Expr} {ifs : List PySem.Expr} {scope : Scope} {cl : List (Str × Addr)} {pos : Pos} {s₂ : Shared} {it : Value} {RR : Value → Addr → Result → Shared → Prop}
    (hcell : ∀ y ∈ scope.names, y.2 ≠ .cell) (hkind : scope.kind = .function) (hit : ∀ A Q E (s : Shared), A.handled = none → Ext s₂.heap s.heap → s.gens = s₂.gens → Q it s → wpAny (model prog w) A (pyIter it) Q E s) (hh : A.handled = none)
    (h : ∀ h₁ tk, h₁.Ns (s₂.heap.objs.size + 1) (fun _ => none) → Ext s₂.heap h₁ → h₁.get? s₂.heap.objs.size = some { cls := .type "list", data := .seq ([] : List Value).toArray } → h₁.objs.size = s₂.heap.objs.size + 2 →
      codeAny (model prog w) A (.compLoop (.ListComp elt [⟨target, iter, ifs, 0⟩] scope pos) 0 it (.ref s₂.heap.objs.size) (compEnvC scope cl (s₂.heap.objs.size + 1) env)) (RR (.ref s₂.heap.objs.size) (s₂.heap.objs.size + 1)) { s₂ with heap := h₁, toks := tk }) :
    wpAny (model prog w) A (newList []) (fun acc s₃ => wpAny (model prog w) A (newFunctionEnv scope env.globals cl [] env.qual none .none (some env)) (fun cenv s₄ =>
      codeAny (model prog w) A (.compStart (.ListComp elt [⟨target, iter, ifs, 0⟩] scope pos) 0 it acc { cenv with scope := relabel scope env }) (RR acc cenv.locals) s₄) E s₃) E s₂ := by
  refine wpAny_newObj_type (wpAny_newFunctionEnv hcell (by intro y hy; simp at hy) (fun h₁ hns₁ hsb₁ => ?_) hkind)
  dsimp only at hns₁ hsb₁ ⊢
  have hC : (s₂.heap.push { cls := .type "list", dict := none, data := .seq ([] : List Value).toArray }).objs.size = s₂.heap.objs.size + 1 := Heap.size_push ..
  rw [hC] at hns₁ hsb₁
  rw [hC]
  have e1 : Ext s₂.heap h₁ := fun b o e => hsb₁.extBut b o (Nat.ne_of_lt (Nat.lt_succ_of_lt (Heap.lt_size e))) (Heap.get?_push_of_some _ (Heap.get?_push_of_some _ e))
  have e2 : h₁.get? s₂.heap.objs.size = some { cls := .type "list", data := .seq ([] : List Value).toArray } := hsb₁.extBut _ _ (Nat.ne_of_lt (Nat.lt_succ_self _)) (Heap.get?_push_of_some _ (Heap.get?_push_size _ rfl))
  have e3 : h₁.objs.size = s₂.heap.objs.size + 2 := by rw [hsb₁.1, Heap.size_push, hC]
  have go := h h₁ (s₂.toks + ([] : List (Str × Value)).length) hns₁ e1 e2 e3
  exact codeAny_compStart_list go (hit _ _ _ _ hh e1 rfl go)

theorem ev_comp {elt target iter : PySem.Expr} {ifs : List PySem.Expr} {scope : Scope} {cl : List (Str × Addr)} {pos : Pos} {s : Shared} {Q : Value → Shared → Prop}
    (hclos : closureFor scope env = pure cl) (hcell : ∀ y ∈ scope.names, y.2 ≠ .cell) (hkind : scope.kind = .function) (hnames : ∀ y ∈ scope.names, y.2 = .local → scope.names.lookup y.1 = some .local) (hh : A.handled = none)
    (h : wpAny (model prog w) A (eval iter env) (fun xv s₁ => wpAny (model prog w) A (pyIter xv) (fun it s₂ => (∀ A Q E (s : Shared), A.handled = none → Ext s₂.heap s.heap → s.gens = s₂.gens → Q it s → wpAny (model prog w) A (pyIter it) Q E s) ∧
      ∀ h₁ tk, h₁.Ns (s₂.heap.objs.size + 1) (fun _ => none) → Ext s₂.heap h₁ → h₁.get? s₂.heap.objs.size = some { cls := .type "list", data := .seq ([] : List Value).toArray } → h₁.objs.size = s₂.heap.objs.size + 2 →
        codeAny (model prog w) A (.compLoop (.ListComp elt [⟨target, iter, ifs, 0⟩] scope pos) 0 it (.ref s₂.heap.objs.size) (compEnvC scope cl (s₂.heap.objs.size + 1) env)) (fun r s' => r = .ok .next ∧ ∃ mC, s'.heap.Ns (s₂.heap.objs.size + 1) mC ∧
          ∀ h', Heap.SameBut (s₂.heap.objs.size + 1) s'.heap h' → Q (.ref s₂.heap.objs.size) { s' with heap := h' }) { s₂ with heap := h₁, toks := tk }) E s₁) E s)
    (hs : ∀ x, foldedSetIterable iter env x = pure x := by intro _; rfl) :
    wpAny (model prog w) A (eval (.ListComp elt [⟨target, iter, ifs, 0⟩] scope pos) env) Q E s := by
  rw [eval_ListComp]
  refine wpAny_comprehension_free (use := none) rfl hs hclos hkind hnames (wpAny_mono h (fun xv s₁ h₁ => wpAny_mono h₁ (fun it s₂ h₂ => ?_) fun _ _ e => e) fun _ _ e => e)
  refine comp_block (RR := fun acc C => compPost (model prog w) A E none Q acc C) hcell hkind h₂.1 hh (fun h₁ tk a b c d => codeAny_mono (h₂.2 h₁ tk a b c d) ?_)
  rintro r s' ⟨rfl, x⟩
  exact x
theorem s_compU {elt target iter : PySem.Expr} {ifs : List PySem.Expr} {scope : Scope} {cl : List (Str × Addr)} {pos py spos : Pos} {y : Str} {s : Shared} {Q : Flow → Shared → Prop}
    (hsw : swapsWith (.ListComp elt [⟨target, iter, ifs, 0⟩] scope pos) (some (.Name y py)) spos.line env = pure true)
    (hclos : closureFor scope env = pure cl) (hcell : ∀ y ∈ scope.names, y.2 ≠ .cell) (hkind : scope.kind = .function) (hnames : ∀ y ∈ scope.names, y.2 = .local → scope.names.lookup y.1 = some .local) (hh : A.handled = none)
    (hy : env.kindOf y = some .local) (hp : (env.scope.kind == .class || (env.scope.kind == .module && env.locals != env.globals)) = false)
    (h : wpAny (model prog w) A (eval iter env) (fun xv s₁ => wpAny (model prog w) A (pyIter xv) (fun it s₂ => (∀ A Q E (s : Shared), A.handled = none → Ext s₂.heap s.heap → s.gens = s₂.gens → Q it s → wpAny (model prog w) A (pyIter it) Q E s) ∧
      ∀ h₁ tk, h₁.Ns (s₂.heap.objs.size + 1) (fun _ => none) → Ext s₂.heap h₁ → h₁.get? s₂.heap.objs.size = some { cls := .type "list", data := .seq ([] : List Value).toArray } → h₁.objs.size = s₂.heap.objs.size + 2 →
        codeAny (model prog w) A (.compLoop (.ListComp elt [⟨target, iter, ifs, 0⟩] scope pos) 0 it (.ref s₂.heap.objs.size) (compEnvC scope cl (s₂.heap.objs.size + 1) env)) (fun r s' => r = .ok .next ∧ ∃ m mC, s'.heap.Ns env.locals m ∧ s'.heap.Ns (s₂.heap.objs.size + 1) mC ∧ env.locals ≠ s₂.heap.objs.size + 1 ∧
          ∀ h' tk, h'.Ns env.locals (fun z => if z = y then some (.ref s₂.heap.objs.size) else m z) → (∀ b o, b ≠ env.locals → b ≠ s₂.heap.objs.size + 1 → s'.heap.get? b = some o → h'.get? b = some o) → Q .next { s' with heap := h', toks := tk }) { s₂ with heap := h₁, toks := tk }) E s₁) E s)
    (hs : ∀ x, foldedSetIterable iter env x = pure x := by intro _; rfl) :
    wpAny (model prog w) A (exec (.Assign [.Name y py] (.ListComp elt [⟨target, iter, ifs, 0⟩] scope pos) spos) env) Q E s := by
  rw [exec_Assign_Name_used _ _ _ _ hsw]
  refine wpAny_bind (wpAny_standAt (wpAny_bind ?_))
  show wpAny _ A (do let _ ← comprehension (.ListComp elt [⟨target, iter, ifs, 0⟩] scope pos) scope env _ (newList []) false (eval iter env) (some (assign (.Name y py) env))) _ _ s
  refine wpAny_bind (wpAny_mono (wpAny_comprehension_free (use := some (assign (.Name y py) env)) (Q := fun _ s' => Q .next s') rfl hs hclos hkind hnames
    (wpAny_mono h (fun xv s₁ h₁ => wpAny_mono h₁ (fun it s₂ h₂ => ?_) fun _ _ e => e) fun _ _ e => e)) (fun _ s' hq => wpAny_pure (wpAny_pure hq)) fun _ _ e => e)
  refine comp_block (RR := fun acc C => compPost (model prog w) A E (some (assign (.Name y py) env)) (fun _ s' => Q .next s') acc C) hcell hkind h₂.1 hh (fun h₁ tk a b c d => codeAny_mono (h₂.2 h₁ tk a b c d) ?_)
  rintro r s' ⟨rfl, m, mC, hn, hC, hne, x⟩
  show wpAny _ A (assign (.Name y py) env (.ref s₂.heap.objs.size)) _ _ _
  refine wpAny_assign_Name (wpAny_storeName_local hy hn (fun h₂ hn₂ hs₂ => ?_) hp)
  refine ⟨mC, hC.sameBut hs₂ (Ne.symm hne), fun h₃ hs₃ => x h₃ _ (hn₂.sameBut hs₃ hne) fun b o b1 b2 e => ?_⟩
  exact hs₃.extBut b o b2 (hs₂.extBut b o b1 e)
end
section
variable {prog : Program} {w : World} {env : Env} {h : Heap}
/-- a name in a cell -/
theorem nmv_cell {n : Str} {c : Addr} {v : Value} (hk : env.scope.kind = .function) (hl : env.kindOf n = some .cell) (hc : env.cells.lookup n = some c) (hv : h.IsCell c (some v)) (hd : (n == ("__debug__" : Str)) = false) : NmV prog w env h n v :=
  fun A Q E s pos e q => wpAny_Name (wpAny_loadName_cell hk hl hc (hv.keeps e) q) hd
end
theorem gd_deeper {d : Nat} {A : Around} {env : Env} (g : Gd (d + 1) A) : Gd d (A.deeper env) := g.deeper env
end
section
/-- a row that is due -/
structure DueD where
  kind : Str
  val : Str
  sp : Str
  fst : Bool
  row : Int
  col : Int
noncomputable def dueTup (d : DueD) (t1 t2 t3 t4 t5 : Tok) : List Value := [.str d.kind t1, .str d.val t2, .str d.sp t3, .bool d.fst, .int d.row t4, .int d.col t5]
noncomputable def DueAt (h : Heap) (v : Value) (d : DueD) : Prop := ∃ a t1 t2 t3 t4 t5, v = .ref a ∧ h.get? a = some { cls := .type "tuple", data := .seq (dueTup d t1 t2 t3 t4 t5).toArray }
inductive All2 {α β : Type} (F : α → β → Prop) : List α → List β → Prop
  | nil : All2 F [] []
  | cons {a b l m} : F a b → All2 F l m → All2 F (a :: l) (b :: m)
theorem All2.snoc {α β : Type} {F : α → β → Prop} {a : α} {b : β} : ∀ {l : List α} {m : List β}, All2 F l m → F a b → All2 F (l ++ [a]) (m ++ [b])
  | _, _, .nil, h => .cons h .nil
  | _, _, .cons x y, h => .cons x (y.snoc h)
theorem All2.imp {α β : Type} {F G : α → β → Prop} (k : ∀ a b, F a b → G a b) : ∀ {l : List α} {m : List β}, All2 F l m → All2 G l m
  | _, _, .nil => .nil
  | _, _, .cons x y => .cons (k _ _ x) (y.imp k)
theorem All2.len {α β : Type} {F : α → β → Prop} : ∀ {l : List α} {m : List β}, All2 F l m → l.length = m.length
  | _, _, .nil => rfl
  | _, _, .cons _ y => by simp [y.len]
noncomputable def toDue (words : List Str) (c : CtD) : DueD := ⟨kwT words c.t.typ c.v, c.v, c.t.i.sp, c.t.i.fst, c.t.i.row, c.t.i.col⟩
noncomputable def GAt (N : Nat) (h : Heap) (v : Value) (d : DueD) : Prop := ∃ a t1 t2 t3 t4 t5, v = .ref a ∧ N ≤ a ∧ h.get? a = some { cls := .type "tuple", data := .seq (dueTup d t1 t2 t3 t4 t5).toArray }
theorem GAt.due {N : Nat} {h : Heap} {v : Value} {d : DueD} (x : GAt N h v d) : DueAt h v d := let ⟨a, t1, t2, t3, t4, t5, e, _, o⟩ := x; ⟨a, t1, t2, t3, t4, t5, e, o⟩
theorem GAt.at {N : Nat} {h h' : Heap} {v : Value} {d : DueD} (x : GAt N h v d) (k : ∀ b o, N ≤ b → h.get? b = some o → h'.get? b = some o) : GAt N h' v d := let ⟨a, t1, t2, t3, t4, t5, e, n, o⟩ := x; ⟨a, t1, t2, t3, t4, t5, e, n, k a _ n o⟩

theorem outs_len (kt : List TkD) : (catD none kt).length ≤ kt.length := by
  have : ∀ (r : List TkD) (o : Option CtD), (catD o r).length ≤ r.length + (match o with | some _ => 1 | none => 0) := by
    intro r
    induction r with
    | nil => intro o; cases o <;> simp [catD]
    | cons t r ih =>
      intro o
      cases o with
      | none =>
        by_cases e : t.typ = strT
        · rw [catD_ns e]; have := ih (some ⟨t, convV t, t :: r⟩); simp only [List.length_cons] at *; lia
        · rw [catD_no e]; have := ih none; simp only [List.length_cons] at *; lia
      | some c =>
        by_cases e : t.typ = strT
        · rw [catD_ss e]; have := ih (some ⟨c.t, c.v ++ convV t, c.sf⟩); simp only [List.length_cons] at *; lia
        · rw [catD_so e]; have := ih none; simp only [List.length_cons] at *; lia
  exact this kt none

/-- the comprehension over the tokens -/
theorem got_loop (w : World) : ∃ (o4 : Obj) (fd4 : FuncData) (body4 : List Stmt), (KK w).lookup 93 = some o4 ∧ o4.data = .func fd4 ∧ fd4.body = .stmts body4 ∧ codeIn (KK w) fd4.code fd4.qualname = true ∧ (∀ v u, bindArgs fd4 ⟨[v, u], []⟩ = pure [(Str.ofString "tokens", v), (Str.ofString "keywords", u)]) ∧ (∀ x ∈ fd4.scope.names, x.2 ≠ .cell) ∧
    fd4.scope.names.lookup (Str.ofString "tokens") = some .local ∧ fd4.scope.names.lookup (Str.ofString "keywords") = some .local ∧ fd4.scope.isCoroutine = false ∧ fd4.scope.isGenerator = true ∧ fd4.scope.kind = .function ∧
    ∀ {prog : Program} {mg mb : Str → Option Value} {A : Around} {Hp : Heap} {rows : List Rw} {I0 ax : Addr} {words : List Str} {ka L4 I4 C D : Addr} {s : Shared} {env : Env} {scope : Scope} {iter : PySem.Expr} {tp pos q1 q2 q3 q4 q5 q6 q7 q8 q9 q10 q11 q12 q13 q14 q15 : Pos} {k : Nat} {R : Result → Shared → Prop},
      Gd 40 A → Ground2 w mg mb Hp rows I0 ax → (∀ t ∈ keepR rows, ConvOk t) → (keepR rows).length ≤ 100 → KwOk prog w Hp words ka →
      Hp.get? L4 = none → Hp.get? I4 = none → L4 ≠ I0 → I4 ≠ I0 → I4 ≠ L4 → (∀ t ∈ keepR rows, t.i.a ≠ L4 ∧ t.i.a ≠ I4) → s.gens = #[.fresh (.func body4 (callEnv fd4 L4 93))] → s.heap.IsGen I4 0 → Ext Hp s.heap → s.heap.IsListIter I0 ax 0 → s.heap.IsList ax ((rows.map Rw.addr).map Value.ref).toArray →
      (∃ mm, s.heap.Ns L4 mm ∧ mm (Str.ofString "tokens") = some (.ref I0) ∧ mm (Str.ofString "keywords") = some (.ref ka)) → (∀ t ∈ keepR rows, TkM t.i t.typ t.val s.heap) →
      Fenv (compEnvC scope [] C env) (relabel scope env) → scope.names.lookup (Str.ofString "t") = some .local → C ≠ D → (∀ b, b = C ∨ b = D → Hp.get? b = none ∧ b ≠ I0 ∧ b ≠ L4 ∧ b ≠ I4 ∧ ∀ t ∈ keepR rows, t.i.a ≠ b) → s.heap.get? D = some { cls := .type "list", data := .seq ([] : List Value).toArray } → (∃ mC, s.heap.Ns C mC) →
      (∀ s' vs n, s'.heap.get? D = some { cls := .type "list", data := .seq vs.toArray n } → All2 (DueAt s'.heap) vs ((catD none (keepR rows)).map (toDue words)) → (∀ b o, b ≠ L4 → b ≠ I0 → b ≠ C → b ≠ D → (∀ t ∈ keepR rows, t.i.a ≠ b) → s.heap.get? b = some o → s'.heap.get? b = some o) → s'.os = s.os → AllBare s'.gens → (∃ mC, s'.heap.Ns C mC) → R (.ok .next) s') →
      codeAny (model prog w) A (.compLoop (.ListComp (.Tuple [.Attribute (.Name (Str.ofString "t") q1) (Str.ofString "typ") q2, .Attribute (.Name (Str.ofString "t") q3) (Str.ofString "val") q4, .Attribute (.Name (Str.ofString "t") q5) (Str.ofString "space") q6, .Attribute (.Name (Str.ofString "t") q7) (Str.ofString "first") q8,
        .Attribute (.Attribute (.Name (Str.ofString "t") q9) (Str.ofString "loc") q10) (Str.ofString "row") q11, .Attribute (.Attribute (.Name (Str.ofString "t") q12) (Str.ofString "loc") q13) (Str.ofString "col") q14] k q15) [⟨.Name (Str.ofString "t") tp, iter, [], 0⟩] scope pos) 0 (.ref I4) (.ref D) (compEnvC scope [] C env)) R s := by
  refine ex3 (pipe w) fun o4 fd4 body4 r => an12 r fun h1 h2 h3 h4 h5 h6 h7 h8 h9 h10 h11 P => ?_
  clear r
  refine ⟨o4, fd4, body4, h1, h2, h3, h4, h5, h6, h7, h8, h9, h10, h11, ?_⟩
  intro prog mg mb A Hp rows I0 ax words ka L4 I4 C D s env scope iter tp pos q1 q2 q3 q4 q5 q6 q7 q8 q9 q10 q11 q12 q13 q14 q15 k R gd GR CO hlen KW hpL4 hpI4 hLI hII hIL htL hgens hIg hx hli hll hns4 htk feC hxt hCD hcd hD hC hR
  refine ex3 (P gd GR CO hlen KW hpL4 hpI4 hLI hII hIL htL hgens hIg hx hli hll hns4 htk) fun gn Inv Done r => an3 r fun S hdone hfirst => ?_
  clear r P h1 h2 h3 h4 h5 h6 h7 h8 h9 h10 h11
  have hokl := outs_okl (keepR rows)
  generalize hN : s.heap.objs.size = N at S hfirst
  have hlt : ∀ {b : Addr}, (s.heap.get? b).isSome = true → b < N := fun {b} q => by
    obtain ⟨o, ho⟩ := Option.isSome_iff_exists.mp q
    rw [← hN]; exact Heap.lt_size ho
  have hI0 : I0 < N := hlt (by obtain ⟨o, ho, _⟩ := hli; rw [ho]; rfl)
  have hL4 : L4 < N := hlt (by obtain ⟨m, h, _⟩ := hns4; exact ns_some h)
  have hDN : D < N := hlt (by rw [hD]; rfl)
  have hCN : C < N := hlt (by obtain ⟨m, h⟩ := hC; exact ns_some h)
  have htN : ∀ t ∈ keepR rows, t.i.a < N := fun t ht => hlt (TkM_some (htk t ht))
  have ne3 : ∀ (a b : Nat), a ≠ b → ((N + a : Nat) : Addr) ≠ (N + b : Nat) := fun a b q e => q (by have e' : N + a = N + b := e; lia)
  -- who is not turned by a step
  have nown : ∀ {b : Addr}, b ≠ L4 → b ≠ I0 → (∀ t ∈ keepR rows, t.i.a ≠ b) → (b < N ∨ N + 6 ≤ b) → ∀ m, ¬ ownC (catD none (keepR rows)) [L4, N + 4, N + 2, N, I0] m b := fun {b} n1 n2 n3 n4 m q => by
    rcases q with q | q
    · simp only [List.mem_cons, List.not_mem_nil, or_false] at q
      have hb : ∀ j : Nat, j < 6 → b ≠ (N + j : Nat) := fun j hj e => by
        rcases n4 with n4 | n4
        · exact absurd (show (b : Nat) < N from n4) (by rw [e]; exact Nat.not_lt.mpr (Nat.le_add_right _ _))
        · exact absurd (show N + 6 ≤ (b : Nat) from n4) (by rw [e]; lia)
      exact q.elim n1 fun q => q.elim (hb 4 (by decide)) fun q => q.elim (hb 2 (by decide)) fun q => q.elim (hb 0 (by decide)) n2
    · obtain ⟨t, ht, e⟩ := List.mem_map.mp (okl_sub hokl _ _ q)
      exact n3 t ht e
  have nownG : ∀ {b : Addr}, N + 6 ≤ b → ∀ m, ¬ ownC (catD none (keepR rows)) [L4, N + 4, N + 2, N, I0] m b := fun {b} q => by
    have hge : ∀ {c : Addr}, c < N → b ≠ c := fun {c} hc e => absurd (show (c : Nat) < N from hc) (by rw [← e]; exact Nat.not_lt.mpr (Nat.le_trans (Nat.le_add_right _ _) q))
    exact nown (hge hL4) (hge hI0) (fun t ht e => hge (htN t ht) e.symm) (.inr q)
  let I : Nat → Shared → Prop := fun m s' => m ≤ (catD none (keepR rows)).length ∧ (∃ vs n, s'.heap.get? D = some { cls := .type "list", data := .seq vs.toArray n } ∧ All2 (GAt (N + 6) s'.heap) vs (((catD none (keepR rows)).take ((catD none (keepR rows)).length - m)).map (toDue words))) ∧
    (∃ mC, s'.heap.Ns C mC) ∧ (∀ b o, b ≠ L4 → b ≠ I0 → b ≠ C → b ≠ D → (∀ t ∈ keepR rows, t.i.a ≠ b) → s.heap.get? b = some o → s'.heap.get? b = some o) ∧ s'.os = s.os ∧ ((m = (catD none (keepR rows)).length ∧ s' = s) ∨ Inv m s')
  refine codeAny_compLoop_list I (fun n s' hI => ?_) (catD none (keepR rows)).length ⟨Nat.le_refl _, ⟨[], 0, hD, by rw [Nat.sub_self]; exact .nil⟩, hC, fun _ _ _ _ _ _ _ e => e, rfl, .inl ⟨rfl, rfl⟩⟩
  refine an6 hI fun i1 hV hM i4 i5 i6 => ex2 hV fun vs nl r => an2 r fun i2 i2b => Exists.elim hM fun mC i3 => ?_
  clear r hM hV hI
  have step : ∀ (Q : Option Value → Shared → Prop) (E : Value → Shared → Prop), (n = 0 → ∀ s2, Chg2 (ownC (catD none (keepR rows)) [L4, N + 4, N + 2, N, I0] 0) gn s' s2 → Done s2 → s2.gens.size = 4 → Q none s2) →
      (∀ k, n = k + 1 → ∀ s2, Chg2 (ownC (catD none (keepR rows)) [L4, N + 4, N + 2, N, I0] (k + 1)) gn s' s2 → Inv k s2 → post4 words (catD none (keepR rows)) (N + 5) k s2 → Q (some (.ref (ctEm (catD none (keepR rows)) k))) s2) → wpAny (model prog w) A (pyNext (.ref I4)) Q E s' := fun Q E a b => by
    rcases i6 with ⟨e1, e2⟩ | i6
    · subst e2; subst e1; exact hfirst Q E a b
    · cases n with
      | zero => exact S.zero s' Q E i6 (a rfl)
      | succ k => exact S.succ k s' Q E i6 (b k rfl)
  have hDne := (hcd D (.inr rfl)).2
  have hCne := (hcd C (.inl rfl)).2
  refine step _ _ (fun hn s2 c d z => ?_) (fun k hn s2 c inv pst => ?_)
  · subst hn
    dsimp only
    refine hR s2 vs nl (c.hp D _ (nown hDne.2.1 hDne.1 hDne.2.2.2 (.inl hDN) _) i2) ?_ (fun b o b1 b2 b3 b4 b5 e => c.hp b o (nown b1 b2 b5 (.inl (hlt (by rw [e]; rfl))) _) (i4 b o b1 b2 b3 b4 b5 e)) (c.os.trans i5) ?_ ⟨mC, i3.at fun o e => c.hp C o (nown hCne.2.1 hCne.1 hCne.2.2.2 (.inl hCN) _) e⟩
    · rw [Nat.sub_zero, List.take_length] at i2b
      exact i2b.imp fun a b x => (x.at fun b o hb e => c.hp b o (nownG hb _) e).due
    · obtain ⟨g0, g1, g2, g3⟩ := hdone s2 d
      intro y hy
      obtain ⟨j, hj, rfl⟩ := Array.getElem_of_mem hy
      rw [z] at hj
      have hj4 : j = 0 ∨ j = 1 ∨ j = 2 ∨ j = 3 := by lia
      rcases hj4 with rfl | rfl | rfl | rfl
      · rw [Array.getElem?_eq_getElem (by lia)] at g0; rw [Option.some.inj g0]; rfl
      · rw [Array.getElem?_eq_getElem (by lia)] at g1; rw [Option.some.inj g1]; rfl
      · rw [Array.getElem?_eq_getElem (by lia)] at g2; rw [Option.some.inj g2]; rfl
      · rw [Array.getElem?_eq_getElem (by lia)] at g3; rw [Option.some.inj g3]; rfl
  · subst hn
    dsimp only
    have hlen2 : k + 1 ≤ (catD none (keepR rows)).length := i1
    obtain ⟨cc, r, hcr⟩ : ∃ c r, ctLeft (catD none (keepR rows)) (k + 1) = c :: r := by
      have := ctLeft_len hlen2
      cases e : ctLeft (catD none (keepR rows)) (k + 1) with
      | nil => rw [e] at this; cases this
      | cons c r => exact ⟨c, r, rfl⟩
    obtain ⟨k', hk', hk1, hk2, hk3⟩ := ctLeft_cons hcr hlen2
    obtain rfl : k = k' := by lia
    obtain ⟨tin, _, _, _⟩ := okl_at hokl GR.nodup hcr hlen2
    rw [hk2]
    have tm0 : TkM cc.t.i (kwT words cc.t.typ cc.v) cc.v s2.heap := pst.1 cc r hcr
    have hsome := pst.2
    have hHn : ∀ {b : Addr} {o : Obj}, Hp.get? b = some o → b ≠ L4 ∧ b ≠ I0 ∧ b ≠ C ∧ b ≠ D ∧ (∀ t ∈ keepR rows, t.i.a ≠ b) := fun {b o} e => by
      exact ⟨neN hpL4 e, neN GR.i0 e, neN (hcd C (.inl rfl)).1 e, neN (hcd D (.inr rfl)).1 e, fun t ht => (neN (GR.fresh t ht) e).symm⟩
    have x2 : Ext Hp s2.heap := fun b o e => by
      obtain ⟨b1, b2, b3, b4, b5⟩ := hHn e
      exact c.hp b o (nown b1 b2 b5 (.inl (hlt (by rw [hx _ _ e]; rfl))) _) (i4 b o b1 b2 b3 b4 b5 (hx _ _ e))
    have d2 : s2.heap.get? D = some { cls := .type "list", data := .seq vs.toArray nl } := c.hp D _ (nown hDne.2.1 hDne.1 hDne.2.2.2 (.inl hDN) _) i2
    have n2 : s2.heap.Ns C mC := i3.at fun o e => c.hp C o (nown hCne.2.1 hCne.1 hCne.2.2.2 (.inl hCN) _) e
    have zok : ∀ z ∈ [C, D], Hp.get? z = none ∧ (s2.heap.get? z).isSome = true := fun z hz => by
      revert z; refine al2 ?_ ?_
      · exact ⟨(hcd _ (.inl rfl)).1, ns_some n2⟩
      · exact ⟨(hcd _ (.inr rfl)).1, by rw [d2]; rfl⟩
    have F0 : Fs (KK w) mg mb (compEnvC scope [] C env) _ (· ∈ [C, D]) (punch s2.heap [C, D]) s2 (fun h => h.get? D = some { cls := .type "list", data := .seq vs.toArray nl }) [] s2 := mkFs feC GR.W x2 zok (.head _) n2 (fun n y q => by cases q) d2 [D] (fun q => hCD (List.mem_singleton.mp q)) (fun a ha => by rw [List.mem_singleton.mp ha]; rw [d2]; rfl) (fun h h' k x => k D (.head _) _ x)
    refine PyProof.Rows.assign_Name (st_bindX F0 (.ref _) (fun s3 F xF => ?_) (lookup_relabel_local hxt))
    have hpx : Ext Hp (punch s2.heap [C, D]) := ext_punch x2 fun z hz => (zok z hz).1
    have tC : TkC cc.t.i s3.heap := (GR.ok _ (keepR_mem tin).1).1.keep (hpx.trans F.base)
    have tM : TkM cc.t.i (kwT words cc.t.typ cc.v) cc.v s3.heap := TkM_at tm0 fun o e => punch_keep F.base _ o (fun q => by
      rcases List.mem_cons.mp q with q | q
      · exact hCne.2.2.2 _ tin q
      · exact hDne.2.2.2 _ tin (List.mem_singleton.mp q)) e
    have lt : (relabel scope env).names.lookup (Str.ofString "t") = some .local := lookup_relabel_local hxt
    have el : ∀ {p : Pos}, Ev prog w (· ∈ [C, D]) 30 (compEnvC scope [] C env) s3.heap (.Name (Str.ofString "t") p) (.ref cc.t.i.a) := ev_loc F rfl lt (by rfl)
    have hgd : Gd 30 A := gd.le (by decide)
    refine Tuple_ ((evs_cons (ev_att el (att_typ F.world.kin tC tM)) (evs_cons (ev_att el (att_val F.world.kin tC tM)) (evs_cons (ev_att el (att_space F.world.kin tC tM)) (evs_cons (ev_att el (att_first F.world.kin tC tM)) (evs_cons (ev_att (ev_att el (att_loc F.world.kin tC tM)) (att_row F.world.kin tC)) (evs_cons (ev_att (ev_att el (att_loc F.world.kin tC tM)) (att_col F.world.kin tC)) evs_nil)))))) A _ _ s3 hgd (.refl _) fun us h1 tk1 e1 c1 => ?_)
    apply c1.sixG; intro v1 v2 v3 v4 v5 v6 z1 z2 z3 z4 z5 z6; apply z1.strG; intro u1; apply z2.strG; intro u2; apply z3.strG; intro u3; apply z4.boolG; apply z5.intG; intro u5; apply z6.intG; intro u6
    clear z1 z2 z3 z4 z5 z6 c1 v1 v2 v3 v4 v5 v6
    refine wpAny_newObj_type ?_ (by show (6 : Nat) ≤ sizeLine; decide)
    have F1 := F.ext (tk := tk1) (e1.trans (Ext.push h1 { cls := .type "tuple", data := .seq (dueTup (toDue words cc) u1 u2 u3 u5 u6).toArray }))
    have hge : N + 6 ≤ h1.objs.size := by
      have : (h1.get? (N + 5)).isSome = true := by
        obtain ⟨o, ho⟩ := Option.isSome_iff_exists.mp hsome
        rw [e1 _ _ (punch_keep F.base _ o (fun q => ?_) ho)]; rfl
        rcases List.mem_cons.mp q with q | q
        · exact absurd (show (C : Nat) < N from hCN) (by rw [← q]; exact Nat.not_lt.mpr (Nat.le_add_right _ _))
        · exact absurd (show (D : Nat) < N from hDN) (by rw [← List.mem_singleton.mp q]; exact Nat.not_lt.mpr (Nat.le_add_right _ _))
      obtain ⟨o, ho⟩ := Option.isSome_iff_exists.mp this
      exact Nat.succ_le_of_lt (Heap.lt_size ho)
    have d3 := F1.ow
    refine append_at d3 (fun h' hsb hg' => ⟨k, by lia, ?_⟩) (by show vs.toArray.size ≤ sizeLine; rw [List.size_toArray, i2b.len, List.length_map, List.length_take]; have := outs_len (keepR rows); exact Nat.le_trans (show _ ≤ 100 by lia) (by decide))
    have hane : h1.objs.size ≠ D := fun e => absurd (show (D : Nat) < N from hDN) (by rw [← e]; exact Nat.not_lt.mpr (Nat.le_trans (Nat.le_add_right _ _) hge))
    have pres : ∀ b o, b ≠ C → b ≠ D → s2.heap.get? b = some o → h'.get? b = some o := fun b o b1 b2 e => by
      rw [hsb.2 b b2]
      exact punch_keep F1.base b o (fun q => by
        rcases List.mem_cons.mp q with q | q
        · exact b1 q
        · exact b2 (List.mem_singleton.mp q)) e
    have hnl : N + 6 ≤ N + 6 := Nat.le_refl _
    have gne : ∀ {b : Addr}, N + 6 ≤ b → b ≠ C ∧ b ≠ D := fun {b} q => ⟨fun e => absurd (show (C : Nat) < N from hCN) (by rw [← e]; exact Nat.not_lt.mpr (Nat.le_trans (Nat.le_add_right _ _) q)), fun e => absurd (show (D : Nat) < N from hDN) (by rw [← e]; exact Nat.not_lt.mpr (Nat.le_trans (Nat.le_add_right _ _) q))⟩
    refine ⟨by lia, ⟨vs ++ [.ref h1.objs.size], nl + 1, by rw [hg']; simp, ?_⟩, ?_, fun b o b1 b2 b3 b4 b5 e => pres b o b3 b4 (c.hp b o (nown b1 b2 b5 (.inl (hlt (by rw [e]; rfl))) _) (i4 b o b1 b2 b3 b4 b5 e)), ?_, .inr (S.keep k s2 _ inv ⟨fun b o u e => ?_, fun g _ => by show s3.gens[g]? = _; rw [F.gens.1], by show s3.gens.size = _; rw [F.gens.1]⟩)⟩
    · have htk : ((catD none (keepR rows)).take ((catD none (keepR rows)).length - k)) = (catD none (keepR rows)).take ((catD none (keepR rows)).length - (k + 1)) ++ [cc] := by
        have hlt2 : (catD none (keepR rows)).length - (k + 1) < (catD none (keepR rows)).length := by lia
        have : (catD none (keepR rows))[(catD none (keepR rows)).length - (k + 1)]? = some cc := by
          have e := hcr
          unfold ctLeft at e
          rw [List.drop_eq_getElem_cons hlt2] at e
          rw [List.getElem?_eq_getElem hlt2, (List.cons.inj e).1]
        rw [show (catD none (keepR rows)).length - k = (catD none (keepR rows)).length - (k + 1) + 1 by lia, List.take_add_one, this]; rfl
      rw [htk, List.map_append]
      refine (i2b.imp fun a b x => (x.at fun b o hb e => c.hp b o (nownG hb _) e).at fun b o hb e => pres b o (gne hb).1 (gne hb).2 e).snoc ?_
      exact ⟨h1.objs.size, u1, u2, u3, u5, u6, rfl, hge, by rw [hsb.2 _ hane]; exact Heap.get?_push_size _ rfl⟩
    · obtain ⟨m3, hm3, _⟩ := F1.ns
      exact ⟨m3, hm3.sameBut hsb hCD⟩
    · show s3.os = s.os
      rw [F.gens.2.2, c.os, i5]
    · have hu : b ≠ C ∧ b ≠ D := by
        have hz : ∀ z, z = C ∨ z = D → ¬ usesC Hp (catD none (keepR rows)) [L4, N + 4, N + 2, N, I0] [I4, N + 5, N + 3, N + 1] k z := fun z hz q => by
          have hzN : z < N := hz.elim (fun e => by rw [e]; exact hCN) (fun e => by rw [e]; exact hDN)
          have hb : ∀ j : Nat, z ≠ (N + j : Nat) := fun j e => absurd (show (z : Nat) < N from hzN) (by rw [e]; exact Nat.not_lt.mpr (Nat.le_add_right _ _))
          obtain ⟨z1, z2, z3, z4, z5⟩ := hcd z hz
          rcases q with q | q | q | q
          · rw [z1] at q; cases q
          · simp only [List.mem_cons, List.not_mem_nil, or_false] at q
            exact q.elim z3 fun q => q.elim (hb 4) fun q => q.elim (hb 2) fun q => q.elim (hb 0) z2
          · simp only [List.mem_cons, List.not_mem_nil, or_false] at q
            exact q.elim z4 fun q => q.elim (hb 5) fun q => q.elim (hb 3) (hb 1)
          · obtain ⟨t, ht, e⟩ := List.mem_map.mp (okl_sub hokl _ _ q)
            exact z5 t ht e
        exact ⟨fun e => hz b (.inl e) u, fun e => hz b (.inr e) u⟩
      exact pres b o hu.1 hu.2 e
end
section
open PySem PySem.W PyProof.Rows PySem.Calls PySem.SeqAt
section
variable {prog : Program} {w : World} {A : Around} {E : Value → Shared → Prop} {s : Shared}
theorem strs_at {vs : List Value} {ys : List Str} (h : StrsAre vs ys) : ∀ {i : Nat} {v : Value}, vs[i]? = some v → ∃ t, v = .str (ys.getD i Str.empty) t := by
  induction h with
  | nil => intro i v e; simp at e
  | cons x t _ ih =>
    intro i v e
    cases i with
    | zero => simp at e; exact ⟨t, e.symm⟩
    | succ i => simp at e; simpa using ih e
/-- the turns that fill a set with texts -/
theorem fill_set {R : Result → Shared → Prop} {I : Addr} {fp wr : List Addr} {n : Nat} {P : Nat → Value → Prop} {St : Nat → Heap → Prop} (W : Walks prog w A.in1 I fp wr n P St) (S : Addr) (hSf : S ∉ fp) (hSw : S ∉ wr) (ss : List Str) (hlen : ss.length = n)
    (hval : ∀ i v, P i v → ∃ t, v = .str (ss.getD i Str.empty) t) (hb : n + 1 < scanBound) :
    ∀ (k i : Nat) (s : Shared) (f : Str → Bool) (c : Nat), i + k = n → St i s.heap → s.heap.SetOf (strKind prog w) S f c → (∀ x, f x = (ss.take i).contains x) → c ≤ i →
      (∀ h' tk f' c', h'.SetOf (strKind prog w) S f' c' → (∀ x, f' x = ss.contains x) → (∀ b o, b ≠ S → b ∉ wr → s.heap.get? b = some o → h'.get? b = some o) → R (.ok (.ret .none)) { s with heap := h', toks := tk }) →
      codeAny (model prog w) A (.builtin "set.update.loop" ⟨[.ref S, .ref I], []⟩) R s
  | 0, i, s, f, c, hk, hst, hS, hf, hc, q => by
    obtain rfl : i = n := hk
    refine codeAny_builtin F.entry_set_update_loop ?_
    rw [Around.under_plainId F.plain_set_update_loop _]
    show wpAny _ A.in1 (pyNext (.ref I) >>= _) _ _ s
    refine wpAny_bind (W.done s _ _ hst fun h' tk hk => ?_)
    show wpAny _ A.in1 (ret Value.none) _ _ _
    refine wpAny_pure (q h' tk f c ?_ (fun x => by rw [hf x, ← hlen, List.take_length]) fun b o _ n e => hk b o n e)
    obtain ⟨o, es, ep, t, ho, rest⟩ := hS
    exact ⟨o, es, ep, t, hk S _ hSw ho, rest⟩
  | k + 1, i, s, f, c, hk, hst, hS, hf, hc, q => by
    have hlt : i < n := by lia
    refine codeAny_builtin F.entry_set_update_loop ?_
    rw [Around.under_plainId F.plain_set_update_loop _]
    show wpAny _ A.in1 (pyNext (.ref I) >>= _) _ _ s
    refine wpAny_bind (W.item i s _ _ hlt hst fun v h₁ tk hP hst' hk1 => ?_)
    obtain ⟨t, rfl⟩ := hval i v hP
    have hS' : h₁.SetOf (strKind prog w) S f c := by
      obtain ⟨o, es, ep, tb, ho, rest⟩ := hS
      exact ⟨o, es, ep, tb, hk1 S _ hSw ho, rest⟩
    show wpAny _ A.in1 (holding [Value.str (ss.getD i Str.empty) t] (setAdd S (.str (ss.getD i Str.empty) t)) >>= _) _ _ _
    refine wpAny_bind (wpAny_holding ?_)
    unfold setAdd
    refine wpAny_holding ?_
    refine wpAny_bind ((strKind prog w).pyHash (k := ss.getD i Str.empty) (strKind_is _ _ _ _) ?_)
    refine wpAny_setAddHashed_of (knd := strKind prog w) (s := { s with heap := h₁, toks := tk + 1 }) (strKind_is _ _ _ _) rfl hS' (by lia) fun h2 hsb hS2 => ?_
    have hi : i < ss.length := by lia
    refine wpAny_pure ⟨plainId_quiet F.plain_set_update_loop _, fill_set W S hSf hSw ss hlen hval hb k (i + 1) _ _ _ (by lia) (W.frame _ _ _ hst' fun b hb o e => ?_) hS2 (fun x => ?_) (by split <;> lia) fun h3 tk3 f3 c3 a3 b3 k3 => q h3 tk3 f3 c3 a3 b3 fun b o n1 n2 e => k3 b o n1 n2 ?_⟩
    · show h2.get? b = some o
      rw [hsb.2 b (fun h : b = S => hSf (by rw [← h]; exact hb))]; exact e
    · have e1 : ss.take (i + 1) = ss.take i ++ [ss.getD i Str.empty] := by
        rw [List.take_add_one, List.getElem?_eq_getElem hi, List.getD_eq_getElem?_getD, List.getElem?_eq_getElem hi]; rfl
      rw [hf x, e1, List.contains_append, List.contains_cons, List.contains_nil, Bool.or_false]
      congr 1
    · show h2.get? b = some o
      rw [hsb.2 b n1]; exact hk1 b o n2 e
/-- set(a list of texts) -/
theorem make_set {l : Addr} {vs : List Value} {ss : List Str} {Q : Value → Shared → Prop} (hh : A.handled = none) (hl : s.heap.IsList l vs.toArray) (hi : StrsAre vs ss) (hb : ss.length ≤ 100)
    (h : ∀ h' tk f c, h'.SetOf (strKind prog w) s.heap.objs.size f c → (∀ x, f x = ss.contains x) → Ext s.heap h' → Q (.ref s.heap.objs.size) { s with heap := h', toks := tk }) :
    wpAny (model prog w) A (call (.type "set") [.ref l]) Q E s := by
  have hvn : vs.length = ss.length := strs_len hi
  have hsz : vs.toArray.size = ss.length := by rw [List.size_toArray, hvn]
  have hsb : (100 : Nat) + 1 < scanBound := by decide
  obtain ⟨c, tl, hmro⟩ := F.called_set.mro
  have hmade := F.called_set.made
  have hsub := F.called_set.sub
  refine wpAny_call (codeAny_of_tree ?_)
  show wpAny _ _ (callAny (.type "set") _) _ _ _
  refine wpAny_pure ⟨Code.quiet_builtin _ (by decide +kernel), codeAny_builtin F.entry_type_call ?_⟩
  rw [Around.under_plain (weight_type_call_type "set" [.ref l] []) rfl]
  have h1 := F.called_set.notType
  have h2 := F.called_set.canCreate
  have hct := F.typeCall_set_1 (.ref l)
  repeat (any_goals (first | assumption | wp_step))
  refine codeAny_mono (code_set_new_1 (.ref l) (E := E) (Q₁ := fun obj s₁ => ∃ led : Bool, obj = .ref s.heap.objs.size ∧ s₁ = { s with heap := s.heap.push { cls := .type "set", dict := none, data := .set #[] 0 (.fresh 0 0 led) } }) fun led => ⟨led, rfl, rfl⟩) fun r s₁ hr => ?_
  match r, hr with
  | .error e, hr => exact hr
  | .ok (.ret obj), hr =>
    obtain ⟨led, rfl, rfl⟩ := hr
    have hS : (s.heap.push { cls := .type "set", dict := none, data := .set #[] 0 (.fresh 0 0 led) }).get? s.heap.objs.size = some { cls := .type "set", dict := none, data := .set #[] 0 (.fresh 0 0 led) } := Heap.get?_push_size _ rfl
    have hT : Shared.TypeIs { s with heap := s.heap.push { cls := .type "set", dict := none, data := .set #[] 0 (.fresh 0 0 led) } } (.ref s.heap.objs.size) "set" := ⟨_, hS, rfl⟩
    have hli := F.called_set.init.lookup
    have hbi := F.called_set.init.bind (.ref s.heap.objs.size)
    repeat (any_goals (first | assumption | wp_step))
    refine codeAny_mono (codeAny_call_builtin (R := wants (fun r s₂ => r = .none ∧ ∃ h' tk f c, s₂ = { s with heap := h', toks := tk } ∧ h'.SetOf (strKind prog w) s.heap.objs.size f c ∧ (∀ x, f x = ss.contains x) ∧ Ext s.heap h') E) F.called_set.init.plain F.entry_set_init (check_set_init_1 hT ?_)) fun r₂ s₂ hr₂ => ?_
    · have hl1 : (s.heap.push { cls := .type "set", dict := none, data := .set #[] 0 (.fresh 0 0 led) }).IsList l vs.toArray := hl.push _
      obtain ⟨ol, hol, hcl, nl, hdl⟩ := id hl
      obtain ⟨ocls, odict, odata, oslots⟩ := ol
      simp only at hcl hdl
      subst hcl; subst hdl
      have hol' : (s.heap.push { cls := .type "set", dict := none, data := .set #[] 0 (.fresh 0 0 led) }).get? l = some { cls := .type "list", dict := odict, data := .seq vs.toArray nl, slots := oslots } := Heap.get?_push_of_some _ hol
      have hsls := F.sub_list_set
      have hslf := F.sub_list_frozenset
      have hne : (Value.type "list" == Value.type "dict") = false := by decide
      unfold Builtin.«set.__init__» noKeywords Builtin.Frozenset.updateFrom
      generalize hPI : pyIter = PI
      wp_walk
      subst hPI
      refine wpAny_pyIter_list hl1 ?_
      refine wpAny_bind (wpAny_runValue ?_)
      have hh3 : A.in1.in1.in1.handled = none := by simp [hh]
      have hlN : l < s.heap.objs.size := Heap.lt_size hol
      have hIz : (s.heap.push { cls := .type "set", dict := none, data := .set #[] 0 (.fresh 0 0 led) }).objs.size = s.heap.objs.size + 1 := Heap.size_push ..
      have hneI : l ≠ (s.heap.push { cls := .type "set", dict := none, data := .set #[] 0 (.fresh 0 0 led) }).objs.size := by rw [hIz]; exact Nat.ne_of_lt (Nat.lt_succ_of_lt hlN)
      have hSI : s.heap.objs.size ≠ (s.heap.push { cls := .type "set", dict := none, data := .set #[] 0 (.fresh 0 0 led) }).objs.size := by rw [hIz]; exact Nat.ne_of_lt (Nat.lt_succ_self _)
      refine fill_set (Walks.list hh3 _ l hneI vs.toArray) s.heap.objs.size (fun q => by
        rcases List.mem_cons.mp q with q | q
        · exact hSI q
        · exact Nat.ne_of_gt hlN (List.mem_singleton.mp q)) (fun q => hSI (List.mem_singleton.mp q)) ss hsz.symm (fun i v hv => ?_) (by rw [hsz]; lia) vs.toArray.size 0 _ _ 0 (by lia) ⟨⟨_, Heap.get?_push_size _ rfl, rfl, rfl⟩, hl1.push _⟩ ((setObjOf_fresh (knd := strKind prog w) led).setOf (Heap.get?_push_of_some _ hS) (by unfold scanBound; lia)) (fun x => rfl) (Nat.le_refl _) ?_
      · exact strs_at hi (by simpa using hv)
      · intro h' tk f' c' hS' hf' hk'
        show wpAny _ _ _ _ _ _
        refine wpAny_pure ?_
        show wpAny _ _ (ret Value.none) _ _ _
        refine wpAny_pure ⟨rfl, h', tk, f', c', rfl, hS', hf', fun b o e => hk' b o (Nat.ne_of_lt (Heap.lt_size e)) ?_ (Heap.get?_push_of_some _ (Heap.get?_push_of_some _ e))⟩
        simp only [List.mem_singleton]
        rw [hIz]; exact Nat.ne_of_lt (Nat.lt_succ_of_lt (Heap.lt_size e))
    · match r₂, hr₂ with
      | .error e, hr₂ => exact hr₂
      | .ok (.ret r), hr₂ =>
        obtain ⟨rfl, h', tk, f, c', rfl, hS', hf, hk'⟩ := hr₂
        repeat (any_goals (first | assumption | wp_step))
        exact h _ _ _ _ hS' hf hk'
      | .ok .next, hr₂ => exact hr₂.elim
      | .ok .brk, hr₂ => exact hr₂.elim
      | .ok .cont, hr₂ => exact hr₂.elim
  | .ok .next, hr => exact hr.elim
  | .ok .brk, hr => exact hr.elim
  | .ok .cont, hr => exact hr.elim
end
end
section
open PySem PySem.W PyProof.Rows PySem.Calls PySem.SeqAt
/-- what the keywords may be -/
noncomputable def KwFact (prog : Program) (w : World) (words : List Str) (a : Addr) (h : Heap) : Prop :=
  (∃ vs n, h.get? a = some { cls := .type "list", data := .seq vs.toArray n } ∧ StrsAre vs words) ∨
  (∃ vs n, h.get? a = some { cls := .type "tuple", data := .seq vs.toArray n } ∧ StrsAre vs words) ∨
  (∃ f c, h.SetOf (strKind prog w) a f c ∧ ∀ x, f x = words.contains x) ∨
  (∃ kvs, h.DictOf (strKind prog w) a kvs ∧ (∀ x, kvs.any (fun kv => decide (kv.1 = x)) = words.contains x) ∧ (a == sysModules) = false)
section
variable {prog : Program} {w : World} {words : List Str} {a : Addr} {h h' : Heap}
theorem KwFact.at (x : KwFact prog w words a h) (k : ∀ o, h.get? a = some o → h'.get? a = some o) : KwFact prog w words a h' := by
  rcases x with ⟨vs, n, e, q⟩ | ⟨vs, n, e, q⟩ | ⟨f, c, ⟨o, es, ep, t, ho, r⟩, q⟩ | ⟨kvs, q, r⟩
  · exact .inl ⟨vs, n, k _ e, q⟩
  · exact .inr (.inl ⟨vs, n, k _ e, q⟩)
  · exact .inr (.inr (.inl ⟨f, c, ⟨o, es, ep, t, k _ ho, r⟩, q⟩))
  · exact .inr (.inr (.inr ⟨kvs, q.at k, r⟩))
theorem KwFact.some (x : KwFact prog w words a h) : (h.get? a).isSome = true := by
  rcases x with ⟨vs, n, e, q⟩ | ⟨vs, n, e, q⟩ | ⟨f, c, ⟨o, es, ep, t, ho, r⟩, q⟩ | ⟨kvs, ⟨o, es, ep, ho, r⟩, q⟩
  · rw [e]; rfl
  · rw [e]; rfl
  · rw [ho]; rfl
  · rw [ho]; rfl
theorem KwFact.ok (x : KwFact prog w words a h) : KwOk prog w h words a := fun A Q E s y t g e q => by
  rcases x.at (e a) with ⟨vs, n, e, hs⟩ | ⟨vs, n, e, hs⟩ | ⟨f, c, hS, hf⟩ | ⟨kvs, hk, hx, hm⟩
  · refine in_listAt (sameStr y) ⟨_, e, rfl, _, rfl⟩ (strs_eqAt hs) ?_
    rw [List.any_toArray, strs_any hs]
    exact q s.toks
  · refine in_tupleAt (sameStr y) ⟨_, e, rfl, _, rfl⟩ (strs_eqAt hs) ?_
    rw [List.any_toArray, strs_any hs]
    exact q s.toks
  · refine wpAny_inSet_of (strKind_is prog w y t) rfl hS ?_
    rw [hf]; exact q _
  · refine wpAny_in_of (strKind_is prog w y t) hm hk.mapOf ?_
    rw [valueAt_isSome_eq_any, hx]; exact q _
end
section
variable {mg mb : Str → Option Value} {prog : Program} {w : World} {Z : Addr → Prop} {d : Nat} {env : Env} {sc : Scope} {hb : Heap} {s : Shared} {words : List Str}
theorem any_stored {kvs : List (Str × Value)} {k : Str} {v : Value} (x : Str) : (stored kvs k v).any (fun kv => decide (kv.1 = x)) = (kvs.any (fun kv => decide (kv.1 = x)) || decide (k = x)) := by
  unfold stored
  split
  · rename_i q
    have e : ∀ l : List (Str × Value), (l.map (fun kv => if kv.1 = k then (kv.1, v) else kv)).any (fun kv => decide (kv.1 = x)) = l.any (fun kv => decide (kv.1 = x)) := fun l => by
      induction l with
      | nil => rfl
      | cons y r ih => rw [List.map_cons, List.any_cons, List.any_cons, ih]; congr 1; split <;> rfl
    rw [e]
    by_cases hx : k = x
    · subst hx; rw [q]; rfl
    · rw [decide_eq_false hx, Bool.or_false]
  · rw [List.any_append]; simp
theorem len_stored {kvs : List (Str × Value)} {k : Str} {v : Value} : (stored kvs k v).length ≤ kvs.length + 1 := by
  unfold stored
  split
  · rw [List.length_map]; lia
  · simp
theorem lk2 {n m1 m2 : Str} {x1 x2 y : V} (q : [(m1, x1), (m2, x2)].lookup n = some y) : (n = m1 ∧ y = x1) ∨ (n = m2 ∧ y = x2) := by
  rw [List.lookup_cons] at q
  by_cases e : (n == m1) = true
  · rw [e] at q
    exact .inl ⟨by simpa using e, (Option.some.inj q).symm⟩
  · rw [Bool.not_eq_true] at e
    rw [e] at q
    exact .inr (lk1 q)
/-- for word in words: keywords[word] = len(word) -/
theorem kw_loop {A : Around} {E : Value → Shared → Prop} {L dd l : Addr} {vs : List Value} {nl : Nat} {m₀ : Str → Option Value} {tp p1 p2 p3 p4 p5 p6 p7 p8 p9 : Pos} {Q : Flow → Shared → Prop} (g : Gd 10 A) (fe : Fenv env sc) (W : Wd (KK w) mg mb hb) (hx : Ext hb s.heap) (hL : env.locals = L) (hbL : hb.get? L = none) (hbd : hb.get? dd = none) (hLd : L ≠ dd)
    (hk1 : sc.names.lookup (Str.ofString "word") = some .local) (hk2 : sc.names.lookup (Str.ofString "keywords") = some .local) (hk3 : sc.names.lookup (Str.ofString "words") = some .local) (hk4 : sc.names.lookup (Str.ofString "len") = some .globalImplicit)
    (hm : s.heap.Ns L m₀) (hmk : m₀ (Str.ofString "keywords") = some (.ref dd)) (hmw : m₀ (Str.ofString "words") = some (.ref l)) (hl : s.heap.get? l = some { cls := .type "list", data := .seq vs.toArray nl }) (hs : StrsAre vs words) (hlL : l ≠ L) (hld : l ≠ dd) (hw : words.length ≤ 100) (hwl : ∀ x ∈ words, x.length ≤ 100)
    (hd : s.heap.DictOf (strKind prog w) dd [])
    (q : ∀ s' kvs, (∃ m, s'.heap.Ns L m ∧ m (Str.ofString "keywords") = some (.ref dd) ∧ m (Str.ofString "words") = some (.ref l)) → s'.heap.DictOf (strKind prog w) dd kvs → (∀ x, kvs.any (fun kv => decide (kv.1 = x)) = words.contains x) → (∀ b o, b ≠ L → b ≠ dd → s.heap.get? b = some o → s'.heap.get? b = some o) → s'.gens = s.gens → s'.drawn = s.drawn → s'.os = s.os → Q .next s') :
    wpAny (model prog w) A (exec (.For (.Name (Str.ofString "word") tp) (.Name (Str.ofString "words") p1) [.Assign [.Subscript (.Name (Str.ofString "keywords") p2) (.Name (Str.ofString "word") p3) p4] (.Call (.Name (Str.ofString "len") p5) [.Name (Str.ofString "word") p6] [] p7) p8] [] p9) env) Q E s := by
  have hvl : vs.length = words.length := strs_len hs
  refine wpAny_For (wpAny_Name (wpAny_loadName_local (by rw [fe.hsc]; exact fe.ek) (by unfold Env.kindOf; rw [fe.hsc]; exact hk3) (by rw [hL]; exact hm) hmw ?_) (by rfl)) (by intro _; rfl)
  have hli : s.heap.IsList l vs.toArray := ⟨_, hl, rfl, nl, rfl⟩
  refine wpAny_pyIter_list hli ?_
  generalize hI : s.heap.objs.size = I
  have hIn : s.heap.get? I = none := by rw [← hI]; exact get_size_none _
  have hlI : l ≠ I := fun e => by rw [e, hIn] at hl; cases hl
  have hLI : L ≠ I := fun e => by have := ns_some hm; rw [e, hIn] at this; cases this
  have hdI : dd ≠ I := fun e => by obtain ⟨o, _, _, ho, _⟩ := hd; rw [e, hIn] at ho; cases ho
  have hbI : hb.get? I = none := by
    cases e : hb.get? I with
    | none => rfl
    | some o => rw [hx _ _ e] at hIn; cases hIn
  have Wk := Walks.list (prog := prog) (w := w) (A := A) g.hd I l hlI vs.toArray
  let J : Nat → Shared → Prop := fun k s' => ∃ i, i + k = words.length ∧ (∃ m, s'.heap.Ns L m ∧ m (Str.ofString "keywords") = some (.ref dd) ∧ m (Str.ofString "words") = some (.ref l)) ∧ (∃ kvs, s'.heap.DictOf (strKind prog w) dd kvs ∧ (∀ x, kvs.any (fun kv => decide (kv.1 = x)) = (words.take i).contains x) ∧ kvs.length ≤ i) ∧
    (s'.heap.IsListIter I l i ∧ s'.heap.IsList l vs.toArray) ∧ (∀ b o, b ≠ L → b ≠ dd → b ≠ I → s.heap.get? b = some o → s'.heap.get? b = some o) ∧ s'.gens = s.gens ∧ s'.drawn = s.drawn ∧ s'.os = s.os
  refine codeAny_forLoop J (fun k s1 hj => Exists.elim hj fun i r1 => an8 r1 fun j1 hM hK j7 j8 j9 j10 j11 => Exists.elim hM fun m r2 => an3 r2 fun j2 j3 j3w => Exists.elim hK fun kvs r3 => an3 r3 fun j4 j5 j6 => ?_) words.length ⟨0, by lia, ⟨m₀, hm.keeps (Ext.push _ _), hmk, hmw⟩, ⟨[], hd.push _, fun _ => rfl, Nat.le_refl _⟩, ⟨by rw [← hI]; exact ⟨_, Heap.get?_push_size _ rfl, rfl, rfl⟩, hli.push _⟩, fun b o _ _ _ e => Heap.get?_push_of_some _ e, rfl, rfl, rfl⟩
  clear r3 hK r2 hM r1 hj
  have x1 : Ext hb s1.heap := fun b o e => j8 b o (by first | with_reducible exact neN hbL e | exact fun q => by rw [q, hbL] at e; cases e) (by first | with_reducible exact neN hbd e | exact fun q => by rw [q, hbd] at e; cases e) (by first | with_reducible exact neN hbI e | exact fun q => by rw [q, hbI] at e; cases e) (hx b o e)
  by_cases hlt : i < words.length
  · refine Wk.item i s1 _ _ (by rw [List.size_toArray, hvl]; exact hlt) j7 fun v h2 tk hP hst hk => ?_
    obtain ⟨u, rfl⟩ := strs_at hs (i := i) (v := v) (by simpa using hP)
    dsimp only
    have j2' : h2.Ns L m := j2.at fun o e => hk L o (fun q => hLI (List.mem_singleton.mp q)) e
    have j4' : h2.DictOf (strKind prog w) dd kvs := j4.at fun o e => hk dd o (fun q => hdI (List.mem_singleton.mp q)) e
    have zok : ∀ z ∈ [L, dd, I], hb.get? z = none ∧ (h2.get? z).isSome = true := al3 ⟨hbL, ns_some j2'⟩ ⟨hbd, by obtain ⟨o, _, _, ho, _⟩ := j4'; rw [ho]; rfl⟩ ⟨hbI, by obtain ⟨⟨o, ho, _⟩, _⟩ := hst; rw [ho]; rfl⟩
    have fpk : ∀ h h' : Heap, (∀ b ∈ [dd, I, l], ∀ o, h.get? b = some o → h'.get? b = some o) → (h.DictOf (strKind prog w) dd kvs ∧ h.IsListIter I l (i + 1) ∧ h.IsList l vs.toArray) → (h'.DictOf (strKind prog w) dd kvs ∧ h'.IsListIter I l (i + 1) ∧ h'.IsList l vs.toArray) := fun h h' k x =>
      ⟨x.1.at fun o e => k dd (.head _) o e, let ⟨o, ho, r⟩ := x.2.1; ⟨o, k I (.tail _ (.head _)) o ho, r⟩, let ⟨o, ho, r⟩ := x.2.2; ⟨o, k l (.tail _ (.tail _ (.head _))) o ho, r⟩⟩
    have F0 : Fs (KK w) mg mb env sc (· ∈ [L, dd, I]) (punch h2 [L, dd, I]) { s1 with heap := h2, toks := tk } (fun h => h.DictOf (strKind prog w) dd kvs ∧ h.IsListIter I l (i + 1) ∧ h.IsList l vs.toArray) [(Str.ofString "keywords", .ref dd), (Str.ofString "words", .ref l)] { s1 with heap := h2, toks := tk } := mkFs (s := { s1 with heap := h2, toks := tk }) (zs := [L, dd, I]) fe W (fun b o e => hk b o (fun q => by rw [List.mem_singleton.mp q, hbI] at e; cases e) (x1 b o e)) zok (by rw [hL]; exact .head _) (by rw [hL]; exact j2') (fun n y q => by
      rcases lk2 q with ⟨rfl, rfl⟩ | ⟨rfl, rfl⟩
      · exact ⟨_, j3, .ref _⟩
      · exact ⟨_, j3w, .ref _⟩) ⟨j4', hst⟩ [dd, I, l] (by rw [hL]; intro q; simp only [List.mem_cons, List.not_mem_nil, or_false] at q; exact q.elim hLd fun q => q.elim hLI fun q => hlL q.symm) (fun b hb => by
        simp only [List.mem_cons, List.not_mem_nil, or_false] at hb
        rcases hb with rfl | rfl | rfl
        · exact (zok _ (.tail _ (.head _))).2
        · exact (zok _ (.tail _ (.tail _ (.head _)))).2
        · obtain ⟨o, ho, _⟩ := hst.2; show (h2.get? b).isSome = true; rw [ho]; rfl) fpk
    refine PyProof.Rows.assign_Name (st_bind F0 (.str _ u) (fun s3 F3 => ?_) hk1)
    have hwi : (words.getD i Str.empty).length ≤ 100 := by
      rw [List.getD_eq_getElem?_getD, List.getElem?_eq_getElem hlt]
      exact hwl _ (List.getElem_mem hlt)
    refine wpAny_execs_cons (wpAny_Assign_Subscript (ev_go g (ev_bi (F3.boot (by kernel_rfl) (by rfl) (by decide) hk4 (by rfl)) (evs_cons (ev_loc F3 rfl hk1 (by rfl)) evs_nil) (bi_len_str (x := words.getD i Str.empty) (by lia))) fun v4 h4 tk4 e4 c4 => ?_))
    have F4 := F3.ext (tk := tk4) e4
    refine ev_go g (ev_loc F4 rfl hk2 (by rfl)) fun v5 h5 tk5 e5 c5 => ?_
    (first | apply c5.refG | apply c5.noneG | apply c5.boolG | (apply c5.strG; intro _) | (apply c5.intG; intro _)); clear c5
    have F5 := F4.ext (tk := tk5) e5
    refine ev_go g (ev_loc F5 rfl hk1 (by rfl)) fun v6 h6 tk6 e6 c6 => ?_
    (first | apply c6.refG | apply c6.noneG | apply c6.boolG | (apply c6.strG; intro _) | (apply c6.intG; intro _)); clear c6
    have F6 := F5.ext (tk := tk6) e6
    refine wpAny_setItem_pairs (strKind_is prog w _ _) F6.ow.1 (fun h7 hd7 hs7 => wpAny_execs_nil ?_) (Nat.le_trans j6 (Nat.le_trans (show i ≤ 100 by lia) (by decide)))
    refine ⟨k - 1, by lia, i + 1, by lia, ?_, ⟨_, hd7, fun x => ?_, Nat.le_trans len_stored (by lia)⟩, ⟨?_, ?_⟩, fun b o b1 b2 b3 e => ?_, ?_, ?_, ?_⟩
    · obtain ⟨m6, n6, hv6⟩ := F6.ns
      rw [hL] at n6
      obtain ⟨u1, hu1, cu1⟩ := hv6 (Str.ofString "keywords") (.ref dd) rfl
      obtain ⟨u2, hu2, cu2⟩ := hv6 (Str.ofString "words") (.ref l) rfl
      exact ⟨m6, n6.sameBut hs7 hLd, by rw [hu1, cu1.refE], by rw [hu2, cu2.refE]⟩
    · have e1 : words.take (i + 1) = words.take i ++ [words.getD i Str.empty] := by
        rw [List.take_add_one, List.getElem?_eq_getElem hlt, List.getD_eq_getElem?_getD, List.getElem?_eq_getElem hlt]; rfl
      rw [any_stored, j5 x, e1, List.contains_append, List.contains_cons, List.contains_nil, Bool.or_false]
      congr 1
      rw [Bool.eq_iff_iff]
      exact ⟨fun q => beq_iff_eq.mpr (of_decide_eq_true q).symm, fun q => decide_eq_true (beq_iff_eq.mp q).symm⟩
    · obtain ⟨o, ho, r⟩ := F6.ow.2.1
      exact ⟨o, (hs7.2 I (fun e => hdI e.symm)).trans ho, r⟩
    · obtain ⟨o, ho, r⟩ := F6.ow.2.2
      exact ⟨o, (hs7.2 l hld).trans ho, r⟩
    · show h7.get? b = some o
      rw [hs7.2 b b2]
      exact punch_keep F6.base b o (nM3 b1 b2 b3) (hk b o (fun q => b3 (List.mem_singleton.mp q)) (j8 b o b1 b2 b3 e))
    · exact F6.gens.1.trans j9
    · exact F6.gens.2.1.trans j10
    · exact F6.gens.2.2.trans j11
  · obtain rfl : i = words.length := by lia
    refine Wk.done s1 _ _ (by rw [List.size_toArray, hvl]; exact j7) fun h2 tk hk => wpAny_execs_nil ?_
    refine q _ kvs ⟨m, j2.at fun o e => hk L o (fun q => hLI (List.mem_singleton.mp q)) e, j3, j3w⟩ (j4.at fun o e => hk dd o (fun q => hdI (List.mem_singleton.mp q)) e) (fun x => by rw [j5 x, List.take_length]) (fun b o b1 b2 e => ?_) j9 j10 j11
    have b3 : b ≠ I := fun q => by rw [q, hIn] at e; cases e
    exact hk b o (fun q => b3 (List.mem_singleton.mp q)) (j8 b o b1 b2 b3 e)
end
end
section
section
variable {prog : Program} {w : World} {mg mb : Str → Option Value} {A : Around} {E : Value → Shared → Prop} {s : Shared} {env : Env} {sc : Scope} {hb : Heap} {m : Str → Option Value} {x C p dx L : Addr} {ox od : Obj} {name sf n : Str} {v : Value} {i : Nat}
/-- a name of the frame, its very value -/
theorem raw_name {M : Model} {pos : Pos} {Q : Value → Shared → Prop} (fe : Fenv env sc) (hk : sc.names.lookup n = some .local) (hm : s.heap.Ns env.locals m) (hv : m n = some v) (h : Q v s) (hd : (n == ("__debug__" : Str)) = false := by rfl) : wpAny M A (eval (.Name n pos) env) Q E s :=
  wpAny_Name (wpAny_loadName_local (by rw [fe.hsc]; exact fe.ek) (by unfold Env.kindOf; rw [fe.hsc]; exact hk) hm hv h) hd
/-- self.name = n, into a slot -/
theorem raw_slot {p1 p2 p3 p4 : Pos} {Q : Flow → Shared → Prop} (X : (KK w).In s.heap) (fe : Fenv env sc) (hkn : sc.names.lookup n = some .local) (hks : sc.names.lookup sf = some .local) (hm : s.heap.Ns env.locals m) (hn : m n = some v) (hself : m sf = some (.ref x)) (hne : x ≠ env.locals) (I : InstAt s.heap x ox C (some od))
    (hs : findIn (KK w) (.ref C) "__setattr__" = some (some (.builtin "object.__setattr__"))) (hp : plainOver (KK w) C = true) (ht : takerIn (KK w) C name = some (some (.ref p))) (hT : typeIn (KK w) (.ref p) = some (.type "member_descriptor")) (hi : slotIn (KK w) p C = some i) (hz : i < 1000)
    (h : ∀ h' tk, h'.Ns env.locals m → h'.get? x = some { ox with slots := (ox.slots ++ Array.replicate (i + 1 - ox.slots.size) none).setIfInBounds i (some v) } → (∀ b o, b ≠ env.locals → b ≠ x → s.heap.get? b = some o → h'.get? b = some o) → Q .next { s with heap := h', toks := tk })
    (hf : ({ ox with slots := (ox.slots ++ Array.replicate (i + 1 - ox.slots.size) none).setIfInBounds i (some v) } : Obj).isFreed = false)
    (hd1 : (n == ("__debug__" : Str)) = false := by rfl) (hd2 : (sf == ("__debug__" : Str)) = false := by rfl) : wpAny (model prog w) A (exec (.Assign [.Attribute (.Name sf p1) name p2] (.Name n p3) p4) env) Q E s :=
  plainObj_wpAny_Assign_Attribute (raw_name fe hkn hm hn (raw_name fe hks hm hself (put_slot X hm hne I hs hp ht hT hi hz (fun h' a b c => h h' _ a b c) hf) hd2) hd1) (by rfl)
theorem slot_arr (l : List (Option Value)) (i : Nat) (v : Option Value) : (l.toArray ++ Array.replicate (i + 1 - l.toArray.size) none).setIfInBounds i v = ((l ++ List.replicate (i + 1 - l.length) none).set i v).toArray := by
  apply Array.ext'
  simp
/-- the same, of a plain object -/
theorem raw_slotP {p1 p2 p3 p4 : Pos} {l l' : List (Option Value)} {Q : Flow → Shared → Prop} (X : (KK w).In s.heap) (fe : Fenv env sc) (hkn : sc.names.lookup n = some .local) (hks : sc.names.lookup sf = some .local) (hm : s.heap.Ns env.locals m) (hn : m n = some v) (hself : m sf = some (.ref x)) (hne : x ≠ env.locals)
    (e1 : s.heap.get? x = some { cls := .ref C, dict := some dx, data := .plain, slots := l.toArray }) (e2 : s.heap.get? dx = some od)
    (hs : findIn (KK w) (.ref C) "__setattr__" = some (some (.builtin "object.__setattr__"))) (hp : plainOver (KK w) C = true) (ht : takerIn (KK w) C name = some (some (.ref p))) (hT : typeIn (KK w) (.ref p) = some (.type "member_descriptor")) (hi : slotIn (KK w) p C = some i) (hz : i < 1000) (hl : (l ++ List.replicate (i + 1 - l.length) none).set i (some v) = l')
    (h : ∀ h' tk, h'.Ns env.locals m → h'.get? x = some { cls := .ref C, dict := some dx, data := .plain, slots := l'.toArray } → (∀ b o, b ≠ env.locals → b ≠ x → s.heap.get? b = some o → h'.get? b = some o) → Q .next { s with heap := h', toks := tk })
    (hd1 : (n == ("__debug__" : Str)) = false := by rfl) (hd2 : (sf == ("__debug__" : Str)) = false := by rfl) : wpAny (model prog w) A (exec (.Assign [.Attribute (.Name sf p1) name p2] (.Name n p3) p4) env) Q E s := by
  refine raw_slot X fe hkn hks hm hn hself hne ⟨e1, rfl, rfl, e2⟩ hs hp ht hT hi hz (fun h' tk a b c => h h' tk a ?_ c) rfl hd1 hd2
  rw [b]
  show some ({ cls := .ref C, dict := some dx, data := .plain, slots := (l.toArray ++ Array.replicate (i + 1 - l.toArray.size) none).setIfInBounds i (some v) } : Obj) = _
  rw [slot_arr, hl]
/-- self.name = n, into its own dict -/
theorem raw_dict {p1 p2 p3 p4 : Pos} {es : List DictEntry} {k : Nat} {Q : Flow → Shared → Prop} (X : (KK w).In s.heap) (fe : Fenv env sc) (hkn : sc.names.lookup n = some .local) (hks : sc.names.lookup sf = some .local) (hm : s.heap.Ns env.locals m) (hn : m n = some v) (hself : m sf = some (.ref x)) (hne : dx ≠ env.locals) (I : InstAt s.heap x ox C (some (dictOf es k))) (hdx : ox.dict = some dx)
    (hs : findIn (KK w) (.ref C) "__setattr__" = some (some (.builtin "object.__setattr__"))) (hp : plainOver (KK w) C = true) (ht : takerIn (KK w) C name = some none) (hh : hasDictIn (KK w) C = true) (hl : (getL name es).isSome = true) (hz : es.length ≤ 900)
    (h : ∀ h' hsh t, h'.Ns env.locals m → (∃ k', h'.get? dx = some (dictOf (putL name hsh (.str name t) v es) k')) → (∀ b o, b ≠ env.locals → b ≠ dx → s.heap.get? b = some o → h'.get? b = some o) → ∀ tk, Q .next { s with heap := h', toks := tk })
    (hd1 : (n == ("__debug__" : Str)) = false := by rfl) (hd2 : (sf == ("__debug__" : Str)) = false := by rfl) : wpAny (model prog w) A (exec (.Assign [.Attribute (.Name sf p1) name p2] (.Name n p3) p4) env) Q E s := by
  have hlen : ∀ (hsh : Int) (key : Value), (putL name hsh key v es).length ≤ es.length + 1 := fun hsh key => by
    clear h hl I
    induction es with
    | nil => exact Nat.le_refl _
    | cons e r ih => unfold putL; split <;> simp only [List.length_cons]; · lia
                     · have := ih (by simp only [List.length_cons] at hz; lia); lia
  exact plainObj_wpAny_Assign_Attribute (raw_name fe hkn hm hn (raw_name fe hks hm hself (put_dict X hm hne I hdx hs hp ht hh hl (by have := hlen (PyData.keyHash w.params name) (.str name (s.toks + 1)); lia) (fun h' a b c => h h' _ _ a ⟨_, b⟩ c _)) hd2) hd1) (by rfl)
end
theorem gd_under {d : Nat} {A : Around} {C : Addr} {rest : List Value} (g : Gd (d + 2) A) : Gd d (A.under (.builtin "type.__call__" ⟨.ref C :: rest, []⟩)) := by
  obtain ⟨h1, h2, h3⟩ := g
  refine ⟨h1, ?_, ?_⟩
  · show A.depth + Code.weight (.builtin "type.__call__" ⟨.ref C :: rest, []⟩) + d ≤ 900
    have : Code.weight (.builtin "type.__call__" ⟨.ref C :: rest, []⟩) = 1 := rfl
    lia
  · show A.units + Code.cUnits (.builtin "type.__call__" ⟨.ref C :: rest, []⟩) + 30 * d ≤ 9000
    have : Code.cUnits (.builtin "type.__call__" ⟨.ref C :: rest, []⟩) = 1 := rfl
    lia
theorem inst_of {h : Heap} {x dx C : Addr} {ox od : Obj} (e : h.get? x = some ox) (hc : ox.cls = .ref C) (hn : notCls ox = true) (hd : ox.dict = some dx) (e2 : h.get? dx = some od) : InstAt h x ox C (some od) := ⟨e, hc, hn, by rw [hd]; exact e2⟩
/-- SourceLocation(filename, row, col, ln) -/
theorem make_loc {prog : Program} {w : World} {mg mb : Str → Option Value} {A : Around} {E : Value → Shared → Prop} {s : Shared} {v1 v2 v3 v4 : Value} {Q : Value → Shared → Prop} (g : Gd 10 A) (W : Wd (KK w) mg mb s.heap)
    (q : ∀ h' tk, Ext s.heap h' → h'.get? s.heap.objs.size = some (dictOf [] 0) → h'.get? (s.heap.objs.size + 1) = some { cls := .ref 151, dict := some s.heap.objs.size, data := .plain, slots := #[some v3, some v1, some v4, some v2, some .none] } → Q (.ref (s.heap.objs.size + 1)) { s with heap := h', toks := tk }) :
    wpAny (model prog w) A (call (.ref 151) [v1, v2, v3, v4]) Q E s := by
  refine wpAny_call ?_
  obtain ⟨hh, gg, dd, tt, os⟩ := s
  dsimp only at W q
  generalize hN : hh.objs.size = N at q
  refine make_core (makes_of W.kin (C := 151) (by kernel_rfl)) (looks_findIn W.kin (show findIn (KK w) (.ref 151) "__init__" = some (some (.ref 140)) by kernel_rfl)) (fun self => bind_fn W.kin self (by kernel_rfl)) (.inl rfl) ?_
  rw [hN]
  have e1 : Ext hh ((hh.push emptyDict).push (instObj 151 N)) := (Ext.push _ _).trans (Ext.push _ _)
  have W1 := W.keep e1
  have hz1 : (hh.push emptyDict).objs.size = N + 1 := by rw [Heap.size_push, hN]
  have d1 : ((hh.push emptyDict).push (instObj 151 N)).get? N = some (dictOf [] 0) := Heap.get?_push_of_some _ (by rw [← hN]; exact Heap.get?_push_size _ rfl)
  have x1 : ((hh.push emptyDict).push (instObj 151 N)).get? (N + 1) = some (instObj 151 N) := by rw [← hz1]; exact Heap.get?_push_size _ rfl
  have z1 : ((hh.push emptyDict).push (instObj 151 N)).objs.size = N + 2 := by rw [Heap.size_push, hz1]
  generalize (hh.push emptyDict).push (instObj 151 N) = h1 at e1 W1 d1 x1 z1
  have old : ∀ {b : Addr} {o : Obj}, hh.get? b = some o → b < N := fun e => by rw [← hN]; exact Heap.lt_size e
  have ne : ∀ {b : Addr} (k : Nat), b < N → b ≠ (N + k : Nat) := fun {b} k q e => absurd (show (b : Nat) < N from q) (by rw [e]; exact Nat.not_lt.mpr (Nat.le_add_right _ _))
  refine codeAny_call_def (s := ⟨h1, gg, dd, tt, os⟩) (binds := [(Str.ofString "self", .ref (N + 1)), (Str.ofString "filename", v1), (Str.ofString "row", v2), (Str.ofString "col", v3), (Str.ofString "ln", v4), (Str.ofString "source", .none)]) (gd_under (d := 8) g).room (W1.kin 140 _ rfl) rfl W1.nl (codeRec_of W1.kin (by kernel_rfl)) rfl (kp_binds W1.kin (fun S => by kernel_rfl)) (by decide) (locs rfl) (fun h2 hns hke => ?_) rfl rfl rfl
  dsimp only at hns hke ⊢
  rw [z1] at hns ⊢
  have hne : (N + 1 : Nat) ≠ (N + 2 : Nat) := by lia
  have hne1 : (N : Nat) ≠ (N + 1 : Nat) := by lia
  have hne0 : (N : Nat) ≠ (N + 2 : Nat) := by lia
  have k2 : Ext hh h2 := e1.trans hke
  have x2 : h2.get? (N + 1 : Nat) = some { cls := .ref 151, dict := some N, data := .plain, slots := ([] : List (Option Value)).toArray } := hke _ _ x1
  have d2 := hke _ _ d1
  refine wpAny_execs_cons (raw_slotP (C := 151) (p := 153) (i := 1) (x := (N + 1 : Nat)) (W.kin.keeps k2) ⟨rfl, rfl, rfl, rfl⟩ rfl rfl hns rfl rfl hne x2 d2 (by kernel_rfl) (by kernel_rfl) (by kernel_rfl) (by kernel_rfl) (by kernel_rfl) (by decide) rfl (fun h3 t3 n3 x3 p3 => ?_))
  have d3 := p3 _ _ hne0 hne1 d2
  have k3 : Ext hh h3 := fun b o e => p3 b o (ne 2 (old e)) (ne 1 (old e)) (k2 b o e)
  refine wpAny_execs_cons (raw_slotP (C := 151) (p := 155) (i := 3) (x := (N + 1 : Nat)) (W.kin.keeps k3) ⟨rfl, rfl, rfl, rfl⟩ rfl rfl n3 rfl rfl hne x3 d3 (by kernel_rfl) (by kernel_rfl) (by kernel_rfl) (by kernel_rfl) (by kernel_rfl) (by decide) rfl (fun h4 t4 n4 x4 p4 => ?_))
  have d4 := p4 _ _ hne0 hne1 d3
  have k4 : Ext hh h4 := fun b o e => p4 b o (ne 2 (old e)) (ne 1 (old e)) (k3 b o e)
  refine wpAny_execs_cons (raw_slotP (C := 151) (p := 152) (i := 0) (x := (N + 1 : Nat)) (W.kin.keeps k4) ⟨rfl, rfl, rfl, rfl⟩ rfl rfl n4 rfl rfl hne x4 d4 (by kernel_rfl) (by kernel_rfl) (by kernel_rfl) (by kernel_rfl) (by kernel_rfl) (by decide) rfl (fun h5 t5 n5 x5 p5 => ?_))
  have d5 := p5 _ _ hne0 hne1 d4
  have k5 : Ext hh h5 := fun b o e => p5 b o (ne 2 (old e)) (ne 1 (old e)) (k4 b o e)
  refine wpAny_execs_cons (raw_slotP (C := 151) (p := 154) (i := 2) (x := (N + 1 : Nat)) (W.kin.keeps k5) ⟨rfl, rfl, rfl, rfl⟩ rfl rfl n5 rfl rfl hne x5 d5 (by kernel_rfl) (by kernel_rfl) (by kernel_rfl) (by kernel_rfl) (by kernel_rfl) (by decide) rfl (fun h6 t6 n6 x6 p6 => ?_))
  have d6 := p6 _ _ hne0 hne1 d5
  have k6 : Ext hh h6 := fun b o e => p6 b o (ne 2 (old e)) (ne 1 (old e)) (k5 b o e)
  refine wpAny_execs_cons (raw_slotP (C := 151) (p := 156) (i := 4) (x := (N + 1 : Nat)) (W.kin.keeps k6) ⟨rfl, rfl, rfl, rfl⟩ rfl rfl n6 rfl rfl hne x6 d6 (by kernel_rfl) (by kernel_rfl) (by kernel_rfl) (by kernel_rfl) (by kernel_rfl) (by decide) rfl (fun h7 t7 n7 x7 p7 => ?_))
  have d7 := p7 _ _ hne0 hne1 d6
  have k7 : Ext hh h7 := fun b o e => p7 b o (ne 2 (old e)) (ne 1 (old e)) (k6 b o e)
  exact wpAny_execs_nil ⟨rfl, q _ _ k7 d7 x7⟩
end
section
/-- LineInfo(line, filename, flags) -/
theorem make_mark {prog : Program} {w : World} {mg mb : Str → Option Value} {A : Around} {E : Value → Shared → Prop} {s : Shared} {v1 v2 v3 : Value} {Q : Value → Shared → Prop} (g : Gd 10 A) (W : Wd (KK w) mg mb s.heap)
    (q : ∀ h' tk o, Ext s.heap h' → h'.get? (s.heap.objs.size + 1) = some o → o.cls = .ref 47 → Q (.ref (s.heap.objs.size + 1)) { s with heap := h', toks := tk }) :
    wpAny (model prog w) A (call (.ref 47) [v1, v2, v3]) Q E s := by
  refine wpAny_call ?_
  obtain ⟨hh, gg, dd, tt, os⟩ := s
  dsimp only at W q
  generalize hN : hh.objs.size = N at q
  refine make_core (makes_of W.kin (C := 47) (by kernel_rfl)) (looks_findIn W.kin (show findIn (KK w) (.ref 47) "__init__" = some (some (.ref 37)) by kernel_rfl)) (fun self => bind_fn W.kin self (by kernel_rfl)) (.inl rfl) ?_
  rw [hN]
  have e1 : Ext hh ((hh.push emptyDict).push (instObj 47 N)) := (Ext.push _ _).trans (Ext.push _ _)
  have W1 := W.keep e1
  have hz1 : (hh.push emptyDict).objs.size = N + 1 := by rw [Heap.size_push, hN]
  have d1 : ((hh.push emptyDict).push (instObj 47 N)).get? N = some (dictOf [] 0) := Heap.get?_push_of_some _ (by rw [← hN]; exact Heap.get?_push_size _ rfl)
  have x1 : ((hh.push emptyDict).push (instObj 47 N)).get? (N + 1) = some (instObj 47 N) := by rw [← hz1]; exact Heap.get?_push_size _ rfl
  have z1 : ((hh.push emptyDict).push (instObj 47 N)).objs.size = N + 2 := by rw [Heap.size_push, hz1]
  generalize (hh.push emptyDict).push (instObj 47 N) = h1 at e1 W1 d1 x1 z1
  have old : ∀ {b : Addr} {o : Obj}, hh.get? b = some o → b < N := fun e => by rw [← hN]; exact Heap.lt_size e
  have ne : ∀ {b : Addr} (k : Nat), b < N → b ≠ (N + k : Nat) := fun {b} k q e => absurd (show (b : Nat) < N from q) (by rw [e]; exact Nat.not_lt.mpr (Nat.le_add_right _ _))
  refine codeAny_call_def (s := ⟨h1, gg, dd, tt, os⟩) (binds := [(Str.ofString "self", .ref (N + 1)), (Str.ofString "line", v1), (Str.ofString "filename", v2), (Str.ofString "flags", v3)]) (gd_under (d := 8) g).room (W1.kin 37 _ rfl) rfl W1.nl (codeRec_of W1.kin (by kernel_rfl)) rfl (kp_binds W1.kin (fun S => by kernel_rfl)) (by decide) (locs rfl) (fun h2 hns hke => ?_) rfl rfl rfl
  dsimp only at hns hke ⊢
  rw [z1] at hns ⊢
  have hne1 : (N + 1 : Nat) ≠ (N : Nat) := by lia
  have hne2 : (N + 1 : Nat) ≠ (N + 2 : Nat) := by lia
  have hne0 : (N : Nat) ≠ (N + 2 : Nat) := by lia
  have k2 : Ext hh h2 := e1.trans hke
  have x2 := hke _ _ x1
  have d2 := hke _ _ d1
  refine wpAny_execs_cons (raw_dict (C := 47) (dx := N) (x := (N + 1 : Nat)) (W.kin.keeps k2) ⟨rfl, rfl, rfl, rfl⟩ rfl rfl hns rfl rfl hne0 (inst_of x2 rfl rfl rfl d2) rfl (by kernel_rfl) (by kernel_rfl) (by kernel_rfl) (by kernel_rfl) (by rfl) (Nat.le_of_ble_eq_true rfl) (fun h3 hs3 u3 n3 ⟨c3, d3⟩ p3 t3 => ?_))
  have x3 := p3 _ _ hne2 hne1 x2
  have k3 : Ext hh h3 := fun b o e => p3 b o (ne 2 (old e)) (ne 0 (old e)) (k2 b o e)
  refine wpAny_execs_cons (raw_dict (C := 47) (dx := N) (x := (N + 1 : Nat)) (W.kin.keeps k3) ⟨rfl, rfl, rfl, rfl⟩ rfl rfl n3 rfl rfl hne0 (inst_of x3 rfl rfl rfl d3) rfl (by kernel_rfl) (by kernel_rfl) (by kernel_rfl) (by kernel_rfl) (by rfl) (Nat.le_of_ble_eq_true rfl) (fun h4 hs4 u4 n4 ⟨c4, d4⟩ p4 t4 => ?_))
  have x4 := p4 _ _ hne2 hne1 x3
  have k4 : Ext hh h4 := fun b o e => p4 b o (ne 2 (old e)) (ne 0 (old e)) (k3 b o e)
  refine wpAny_execs_cons (raw_dict (C := 47) (dx := N) (x := (N + 1 : Nat)) (W.kin.keeps k4) ⟨rfl, rfl, rfl, rfl⟩ rfl rfl n4 rfl rfl hne0 (inst_of x4 rfl rfl rfl d4) rfl (by kernel_rfl) (by kernel_rfl) (by kernel_rfl) (by kernel_rfl) (by rfl) (Nat.le_of_ble_eq_true rfl) (fun h5 hs5 u5 n5 ⟨c5, d5⟩ p5 t5 => ?_))
  have x5 := p5 _ _ hne2 hne1 x4
  have k5 : Ext hh h5 := fun b o e => p5 b o (ne 2 (old e)) (ne 0 (old e)) (k4 b o e)
  exact wpAny_execs_nil ⟨rfl, q _ _ _ k5 x5 rfl⟩
end
section
theorem nmv_loc {prog : Program} {w : World} {env : Env} {sc : Scope} {h : Heap} {n : Str} {v : Value} {m : Str → Option Value} (fe : Fenv env sc) (hk : sc.names.lookup n = some .local) (hm : h.Ns env.locals m) (hv : m n = some v) (hd : (n == ("__debug__" : Str)) = false := by rfl) : NmV prog w env h n v :=
  fun A Q E s pos e q => raw_name fe hk (hm.keeps e) hv q hd
/-- Token.__init__ -/
theorem tok_init {prog : Program} {w : World} {mg mb : Str → Option Value} {A : Around} {s : Shared} {hb : Heap} {R : Result → Shared → Prop} {x dx lx : Addr} {od ol : Obj} {vt vv : Value} (g : Gd 10 A) (W : Wd (KK w) mg mb hb) (hx : Ext hb s.heap) (hbx : hb.get? x = none)
    (x1 : s.heap.get? x = some { cls := .ref 199, dict := some dx, data := .plain, slots := ([] : List (Option Value)).toArray }) (d1 : s.heap.get? dx = some od) (hdx : dx ≠ x) (l1 : s.heap.get? lx = some ol) (hlc : ol.cls = .ref 151) (hlx : lx ≠ x)
    (q : ∀ h' tk, (∀ b o, b ≠ x → s.heap.get? b = some o → h'.get? b = some o) → h'.get? x = some { cls := .ref 199, dict := some dx, data := .plain, slots := [some (.ref lx), some vt, some vv].toArray } → R (.ok (.ret .none)) { s with heap := h', toks := tk }) :
    codeAny (model prog w) A (.call (.ref 108) ⟨[.ref x, vt, vv, .ref lx], []⟩) R s := by
  have W1 := W.keep hx
  generalize hN : s.heap.objs.size = N
  have old : ∀ {b : Addr} {o : Obj}, s.heap.get? b = some o → b ≠ N := fun {b o} e q => by rw [q, ← hN, get_size_none] at e; cases e
  have hxN : x ≠ N := old x1
  have hdN : dx ≠ N := old d1
  have hlN : lx ≠ N := old l1
  refine codeAny_call_def (binds := [(Str.ofString "self", .ref x), (Str.ofString "typ", vt), (Str.ofString "val", vv), (Str.ofString "loc", .ref lx)]) g.room (W1.kin 108 _ rfl) rfl W1.nl (codeRec_of W1.kin (by kernel_rfl)) rfl (kp_binds W1.kin (fun S => by kernel_rfl)) (by decide) (locs rfl) (fun h2 hns hke => ?_) rfl rfl rfl
  rw [hN] at hns ⊢
  have x2 := hke _ _ x1
  have d2 := hke _ _ d1
  have l2 := hke _ _ l1
  have k2 : Ext hb h2 := fun b o e => hke b o (hx b o e)
  have kk : ∀ {h h' : Heap}, Ext hb h → (∀ b o, b ≠ (N : Addr) → b ≠ x → h.get? b = some o → h'.get? b = some o) → Ext hb h' := fun a p b o e => p b o (old (hx b o e)) (by first | with_reducible exact neN hbx e | exact fun q => by rw [q, hbx] at e; cases e) (a b o e)
  refine wpAny_execs_cons (raw_slotP (C := 199) (p := 121) (i := 1) (x := x) (W.kin.keeps k2) ⟨rfl, rfl, rfl, rfl⟩ rfl rfl hns rfl rfl hxN x2 d2 (by kernel_rfl) (by kernel_rfl) (by kernel_rfl) (by kernel_rfl) (by kernel_rfl) (by decide) rfl (fun h3 t3 n3 x3 p3 => ?_))
  have d3 := p3 _ _ hdN hdx d2
  have l3 := p3 _ _ hlN hlx l2
  have k3 := kk k2 p3
  refine wpAny_execs_cons (raw_slotP (C := 199) (p := 122) (i := 2) (x := x) (W.kin.keeps k3) ⟨rfl, rfl, rfl, rfl⟩ rfl rfl n3 rfl rfl hxN x3 d3 (by kernel_rfl) (by kernel_rfl) (by kernel_rfl) (by kernel_rfl) (by kernel_rfl) (by decide) rfl (fun h4 t4 n4 x4 p4 => ?_))
  have d4 := p4 _ _ hdN hdx d3
  have l4 := p4 _ _ hlN hlx l3
  have k4 := kk k3 p4
  have W4 := W.keep k4
  refine wpAny_execs_cons (wpAny_Assert_holds (ts_go (gd_deeper (d := 9) g) (ts_val (X := fun _ => False) (x := .bool true) (ev_bi (xs := [.ref lx, .ref 151]) (nmv_boot W4 rfl rfl rfl rfl (by kernel_rfl) (by rfl) (by decide) rfl (by rfl)) (evs_cons (ev_nm ⟨_, .ref _, nmv_loc ⟨rfl, rfl, rfl, rfl⟩ rfl n4 rfl⟩) (evs_cons (ev_nm ⟨_, .ref _, nmv_glob W4 rfl rfl rfl (by kernel_rfl) rfl (by rfl)⟩) evs_nil)) (fun h' vs e c A Q E s2 g x q => by
    apply c.twoG; clear c; intro _ _ c1 c2; (first | apply c1.refG | apply c1.noneG | apply c1.boolG | (apply c1.strG; intro _) | (apply c1.intG; intro _)); clear c1; (first | apply c2.refG | apply c2.noneG | apply c2.boolG | (apply c2.strG; intro _) | (apply c2.intG; intro _)); clear c2; exact isi_call (K := KK w) (W4.kin.keeps (e.trans x)) (t := .ref 151) (fun M => by rw [← hlc]; exact (Looks.ld ((e.trans x) _ _ l4)).andThen .now) (by kernel_rfl) (by intro e; cases e) (q _ s2.heap s2.toks (.refl _) (.bool _)))) tr_bool (by rfl)) fun h5 t5 e5 => ⟨rfl, ?_⟩))
  have x5 := e5 _ _ x4
  have d5 := e5 _ _ d4
  have n5 := n4.keeps e5
  have k5 : Ext hb h5 := k4.trans e5
  refine wpAny_execs_cons (raw_slotP (C := 199) (p := 120) (i := 0) (x := x) (W.kin.keeps k5) ⟨rfl, rfl, rfl, rfl⟩ rfl rfl n5 rfl rfl hxN x5 d5 (by kernel_rfl) (by kernel_rfl) (by kernel_rfl) (by kernel_rfl) (by kernel_rfl) (by decide) rfl (fun h6 t6 n6 x6 p6 => ?_))
  exact wpAny_execs_nil (q h6 t6 (fun b o nb e => p6 b o (old e) nb (e5 _ _ (p4 b o (old e) nb (p3 b o (old e) nb (hke b o e))))) x6)
end
section
noncomputable abbrev PW : Program := PySem.Challenge.pw_qt0004_01
/-- a bound method is called -/
theorem callM {w : World} {prog : Program} {A : Around} {E : Value → Shared → Prop} {s : Shared} {env : Env} {X : Addr → Prop} {d : Nat} {q g : Addr} {self : Value} {pos : Pos} {e : PySem.Expr} {r : List PySem.Expr} {xs : List V} {Q : Value → Shared → Prop} (hgd : Gd d A) (W : (KK w).In s.heap) (hq : s.heap.get? q = some (methodObj (.ref g) self)) (hf : fnIn (KK w) g = true)
    (he : Evs prog w X d env s.heap pos (e :: r) xs) (k : ∀ vs h' tk, Ext s.heap h' → ConL X h' xs vs → wpAny (model prog w) A (call (.ref q) vs) Q E { s with heap := h', toks := tk })
    (hs : starEach (e :: r) env = (false, eval e env) :: starEach r env := by rfl) (hp : (backTo pos (starEach r env)).any (·.1) = false := by rfl) : wpAny (model prog w) A (callWith pos (.ref q) [] (backTo pos (starEach (e :: r) env)) []) Q E s := by
  have he' := he A (fun vs s₁ => MethP (KK w) q g self s₁.heap ∧ wpAny (model prog w) A (call (.ref q) ([] ++ vs) []) Q E s₁) E s hgd (.refl _) (fun vs h1 tk e1 c1 => ⟨⟨e1 _ _ hq, W.keeps e1⟩, k vs h1 tk e1 c1⟩)
  have e0 : backTo pos (starEach (e :: r) env) = (false, eval e env) :: backTo pos (starEach r env) := by rw [hs]; rfl
  rw [e0] at he' ⊢
  exact callWith_of (by show ((false || (backTo pos (starEach r env)).any (·.1)) || false) = false; rw [hp]; rfl) (keeps_M hf) (evalArgs_plain he')
/-- CToken(typ, val, space, first, loc) -/
theorem make_tok {w : World} {mg mb : Str → Option Value} {A : Around} {E : Value → Shared → Prop} {s : Shared} {vs vf : Value} {xt xv : Str} {tt' tv' : Tok} {ol : Obj} {lx : Addr} {Q : Value → Shared → Prop} (g : Gd 30 A) (W : Wd (KK w) mg mb s.heap) (l1 : s.heap.get? lx = some ol) (hlc : ol.cls = .ref 151)
    (q : ∀ h' tk es k u1 u2, Ext s.heap h' → h'.get? s.heap.objs.size = some (dictOf es k) → getL (Str.ofString "space") es = some (some vs) → getL (Str.ofString "first") es = some (some vf) → h'.get? (s.heap.objs.size + 1) = some { cls := .ref 199, dict := some s.heap.objs.size, data := .plain, slots := [some (.ref lx), some (.str xt u1), some (.str xv u2)].toArray } → Q (.ref (s.heap.objs.size + 1)) { s with heap := h', toks := tk }) :
    wpAny (model PW w) A (call (.ref 199) [.str xt tt', .str xv tv', vs, vf, .ref lx]) Q E s := by
  refine wpAny_call ?_
  obtain ⟨hh, gg, dd, tt, os⟩ := s
  dsimp only at W q l1
  generalize hN : hh.objs.size = N at q
  refine make_core (makes_of W.kin (C := 199) (by kernel_rfl)) (looks_findIn W.kin (show findIn (KK w) (.ref 199) "__init__" = some (some (.ref 174)) by kernel_rfl)) (fun self => bind_fn W.kin self (by kernel_rfl)) (.inl rfl) ?_
  rw [hN]
  have e1 : Ext hh ((hh.push emptyDict).push (instObj 199 N)) := (Ext.push _ _).trans (Ext.push _ _)
  have W1 := W.keep e1
  have hz1 : (hh.push emptyDict).objs.size = N + 1 := by rw [Heap.size_push, hN]
  have d1 : ((hh.push emptyDict).push (instObj 199 N)).get? N = some (dictOf [] 0) := Heap.get?_push_of_some _ (by rw [← hN]; exact Heap.get?_push_size _ rfl)
  have x1 : ((hh.push emptyDict).push (instObj 199 N)).get? (N + 1) = some (instObj 199 N) := by rw [← hz1]; exact Heap.get?_push_size _ rfl
  have z1 : ((hh.push emptyDict).push (instObj 199 N)).objs.size = N + 2 := by rw [Heap.size_push, hz1]
  have l1' := e1 _ _ l1
  generalize (hh.push emptyDict).push (instObj 199 N) = h1 at e1 W1 d1 x1 z1 l1'
  have old : ∀ {b : Addr} {o : Obj}, hh.get? b = some o → b < N := fun e => by rw [← hN]; exact Heap.lt_size e
  have ne : ∀ {b : Addr} (k : Nat), b < N → b ≠ (N + k : Nat) := fun {b} k q e => absurd (show (b : Nat) < N from q) (by rw [e]; exact Nat.not_lt.mpr (Nat.le_add_right _ _))
  have hne1 : (N + 1 : Nat) ≠ (N : Nat) := by lia
  have hne2 : (N + 1 : Nat) ≠ (N + 2 : Nat) := by lia
  have hne0 : (N : Nat) ≠ (N + 2 : Nat) := by lia
  refine ks_codeAny_call_defAt (s := ⟨h1, gg, dd, tt, os⟩) (binds := [(Str.ofString "self", .ref (N + 1)), (Str.ofString "typ", .str xt tt'), (Str.ofString "val", .str xv tv'), (Str.ofString "space", vs), (Str.ofString "first", vf), (Str.ofString "loc", .ref lx)]) (gd_under (d := 28) g).room (W1.kin 174 _ rfl) rfl W1.nl (codeRec_of W1.kin (by kernel_rfl)) rfl (kp_binds W1.kin (fun S => by kernel_rfl)) (by decide) (locs rfl) (fun h2 hns hke => ?_) rfl rfl rfl
  rw [z1] at hns ⊢
  have k2 : Ext hh h2 := e1.trans hke
  have W2 := W.keep k2
  have x2 : h2.get? (N + 1 : Nat) = some { cls := .ref 199, dict := some N, data := .plain, slots := ([] : List (Option Value)).toArray } := hke _ _ x1
  have d2 := hke _ _ d1
  have l2 := hke _ _ l1'
  refine ks_wpAt_execs_cons (ks_wpAt_Expr_any (ks_wpAt_MethodCall ?_ rfl) rfl rfl)
  obtain ⟨cd, hcd⟩ : ∃ cd, clsIn (KK w) 199 = some cd := ⟨_, rfl⟩
  obtain ⟨oD, hD1, hD2⟩ : ∃ oD, h2.get? 199 = some oD ∧ oD.data = .cls cd := by
    have hcd' := hcd
    unfold clsIn at hcd'
    split at hcd'
    · rename_i ho
      cases hcd'
      exact ⟨_, W2.kin _ _ ho, rfl⟩
    · cases hcd'
  refine ks_wpAt_super_base rfl rfl rfl rfl (W2.kin 174 _ rfl) rfl rfl rfl (W2.kin _ _ rfl) rfl rfl (by kernel_rfl) (by kernel_rfl) ?_
  refine ks_loadName_global rfl rfl (loadGlobal_builtin W2.g (mg_none_of W2.kin W2.g (by kernel_rfl)) W2.b ((W2.bi _ (by decide)).trans (by rfl)) ⟨rfl, ?_⟩)
  refine wpAny_loadName_free rfl rfl rfl ⟨_, W2.kin _ _ rfl, rfl⟩ ?_
  refine wpAny_loadName_local rfl rfl hns rfl ?_
  refine ks_wpAny_isType_cls hD1 hD2 ⟨rfl, ?_⟩
  refine ks_wpAny_call_super hD1 hD2 x2 rfl (fun c e => by cases e) (looks_mroIn W2.kin (by kernel_rfl)) (fun h3 s3 e3 => ?_)
  have k3 : Ext hh h3 := k2.trans e3
  have W3 := W.keep k3
  have hm : Looks (model PW w) h3 (mroOf (.ref 199)) cd.mro := (looks_clsIn W3.kin hcd).andThen .now
  have hal : alongIn (KK w) (Str.ofString "__init__") ((cd.mro.dropWhile (· != .ref 199)).drop 1) = some (some (.ref 108)) := by
    have : ks_superIn (KK w) 199 199 (Str.ofString "__init__") = some (some (.ref 108)) := by kernel_rfl
    unfold ks_superIn at this
    rw [hcd] at this
    exact this
  refine ks_wpAny_getMethod_super s3 (looks_opaque W3.kin (by kernel_rfl)) hm rfl W3.kin hal (W3.kin 108 _ rfl) rfl (ne 1 (old (W.kin 199 _ rfl))).symm (by rfl) ?_
  have hz3 : ∀ {h : Heap} {o : Obj}, h.get? h.objs.size = some o → False := fun e => by rw [get_size_none] at e; cases e
  generalize hq : h3.objs.size = qa
  have n3 : h3.Ns (N + 2) _ := hns.keeps e3
  have x3 := e3 _ _ x2
  have d3 := e3 _ _ d2
  have l3 := e3 _ _ l2
  have eq4 : Ext h3 (h3.push { cls := .type "method", data := .fields #[.ref 108, .ref (N + 1)] }) := Ext.push _ _
  have hqa : (h3.push { cls := .type "method", data := .fields #[.ref 108, .ref (N + 1)] }).get? qa = some (methodObj (.ref 108) (.ref (N + 1))) := by rw [← hq]; exact Heap.get?_push_size _ rfl
  generalize h3.push { cls := .type "method", data := .fields #[.ref 108, .ref (N + 1)] } = h4 at eq4 hqa
  have k4 : Ext hh h4 := k3.trans eq4
  have W4 := W.keep k4
  have n4 := n3.keeps eq4
  refine callM (X := fun _ => False) (d := 27) (xs := [.str xt, .str xv, .ref lx]) (gd_deeper (gd_under (d := 28) g)) W4.kin hqa (by kernel_rfl) (evs_cons (ev_nm ⟨_, .str _ _, nmv_loc ⟨rfl, rfl, rfl, rfl⟩ rfl n4 rfl⟩) (evs_cons (ev_nm ⟨_, .str _ _, nmv_loc ⟨rfl, rfl, rfl, rfl⟩ rfl n4 rfl⟩) (evs_cons (ev_nm ⟨_, .ref _, nmv_loc ⟨rfl, rfl, rfl, rfl⟩ rfl n4 rfl⟩) evs_nil))) fun us h5 t5 e5 c5 => ?_
  apply c5.threeG; clear c5; intro _ _ _ c1 c2 c3; (first | apply c1.refG | apply c1.noneG | apply c1.boolG | (apply c1.strG; intro _) | (apply c1.intG; intro _)); clear c1; (first | apply c2.refG | apply c2.noneG | apply c2.boolG | (apply c2.strG; intro _) | (apply c2.intG; intro _)); clear c2; (first | apply c3.refG | apply c3.noneG | apply c3.boolG | (apply c3.strG; intro _) | (apply c3.intG; intro _)); clear c3
  rename_i u1 u2
  have x5 := e5 _ _ (eq4 _ _ x3)
  have d5 := e5 _ _ (eq4 _ _ d3)
  have l5 := e5 _ _ (eq4 _ _ l3)
  have n5 := n4.keeps e5
  have k5 : Ext hh h5 := k4.trans e5
  have hx0 : hh.get? (N + 1 : Nat) = none := by
    cases e : hh.get? (N + 1 : Nat) with
    | none => rfl
    | some o => exact absurd rfl (ne 1 (old e))
  refine wpAny_call (ks_codeAny_call_bound (f := 108) (x := .ref (N + 1)) (e5 _ _ hqa) (tok_init (x := (N + 1 : Nat)) (gd_deeper (gd_under (d := 11) (g.le (by decide)))) W k5 hx0 x5 d5 hne1.symm l5 hlc (ne 1 (old l1)) (fun h6 t6 p6 x6 => ?_)))
  have d6 := p6 _ _ hne1.symm d5
  have k6 : Ext hh h6 := fun b o e => p6 b o (ne 1 (old e)) (k5 b o e)
  obtain ⟨om, es', ep', hom, rest⟩ := n5
  have n6 : h6.Ns (N + 2) _ := ⟨om, es', ep', p6 _ _ hne2.symm hom, rest⟩
  refine wpAt_of_wpAny (wpAny_execs_cons (raw_dict (C := 199) (dx := N) (x := (N + 1 : Nat)) (W.kin.keeps k6) ⟨rfl, rfl, rfl, rfl⟩ rfl rfl n6 rfl rfl hne0 (inst_of x6 rfl rfl rfl d6) rfl (by kernel_rfl) (by kernel_rfl) (by kernel_rfl) (by kernel_rfl) (by rfl) (Nat.le_of_ble_eq_true rfl) (fun h7 hs7 u7 n7 ⟨c7, d7⟩ p7 t7 => ?_)))
  have x7 := p7 _ _ hne2 hne1 x6
  have k7 : Ext hh h7 := fun b o e => p7 b o (ne 2 (old e)) (ne 0 (old e)) (k6 b o e)
  refine wpAny_execs_cons (raw_dict (C := 199) (dx := N) (x := (N + 1 : Nat)) (W.kin.keeps k7) ⟨rfl, rfl, rfl, rfl⟩ rfl rfl n7 rfl rfl hne0 (inst_of x7 rfl rfl rfl d7) rfl (by kernel_rfl) (by kernel_rfl) (by kernel_rfl) (by kernel_rfl) (by rfl) (Nat.le_of_ble_eq_true rfl) (fun h8 hs8 u8 n8 ⟨c8, d8⟩ p8 t8 => ?_))
  have x8 := p8 _ _ hne2 hne1 x7
  have k8 : Ext hh h8 := fun b o e => p8 b o (ne 2 (old e)) (ne 0 (old e)) (k7 b o e)
  exact wpAny_execs_nil ⟨rfl, q _ _ _ _ u1 u2 k8 d8 (by rfl) (by rfl) x8⟩
end
section
/-- _law_next(tape) -/
theorem next_code {prog : Program} {w : World} {mg mb : Str → Option Value} {A : Around} {s : Shared} {hb : Heap} {R : Result → Shared → Prop} {T : Addr} {vs : List Value} {n : Nat} {ns : List Int} (g : Gd 5 A) (W : Wd (KK w) mg mb hb) (hx : Ext hb s.heap) (hbT : hb.get? T = none)
    (t1 : s.heap.get? T = some { cls := .type "list", data := .seq vs.toArray n }) (hv : IntsAre vs ns) (hl : ns.length ≤ 100)
    (q : ∀ h' tk t vs' n', (∀ b o, b ≠ T → s.heap.get? b = some o → h'.get? b = some o) → h'.get? T = some { cls := .type "list", data := .seq vs'.toArray n' } → IntsAre vs' (ns.drop 1) → R (.ok (.ret (.int (ns.headD 0) t))) { s with heap := h', toks := tk }) :
    codeAny (model prog w) A (.call (.ref 266) ⟨[.ref T], []⟩) R s := by
  have W1 := W.keep hx
  have hvl := IntsAre.length hv
  refine codeAny_call_def (binds := [(Str.ofString "tape", .ref T)]) g.room (W1.kin 266 _ rfl) rfl W1.nl (codeRec_of W1.kin (by kernel_rfl)) rfl (BindsTo.of_eq rfl) (by decide) (locs rfl) (fun h2 hns hke => ?_) rfl rfl rfl
  have t2 := hke _ _ t1
  refine wpAny_execs_cons (wpAny_Return_some (IfExp_ (isTrue_plain (raw_name ⟨rfl, rfl, rfl, rfl⟩ rfl hns rfl (wpAny_truthy_list (items := vs.toArray) ⟨_, t2, rfl, n, rfl⟩ (by rw [List.size_toArray, hvl]; lia) ?_)) (by rfl))))
  cases hv with
  | nil =>
    rw [show (!(([] : List Value).toArray).isEmpty) = false from rfl, if_neg Bool.false_ne_true]
    exact wpAny_Constant_int (q _ _ _ [] n (fun b o _ e => hke b o e) t2 .nil)
  | cons i t hv' =>
    rename_i vs' ns'
    rw [show (!((Value.int i t :: vs').toArray).isEmpty) = true by simp, if_pos rfl]
    refine Call_method1 (by rfl) (by rfl) (by rfl) (raw_name ⟨rfl, rfl, rfl, rfl⟩ rfl hns rfl ⟨"list", _, PySem.F.plainAttrs_list, PySem.F.slot_list_pop, PySem.F.type_list_pop, ⟨_, t2, rfl⟩, (fun b eq => by cases eq; exact ⟨_, t2, rfl⟩), ?_⟩)
    refine P.pop_at_list (wpAny_Constant_int ⟨(Value.int i t :: vs').toArray, n, 0, _, 0, .int i t, ?_, rfl, t2, by rfl, by simp [seqIndex?], by simp, ?_⟩)
    · rw [List.size_toArray, hvl]
      exact Nat.le_trans hl (by decide)
    · have hn' := IsL.update (l := T) t2 fun xs => xs.eraseIdxIfInBounds 0
      have he : ((Value.int i t :: vs').toArray).eraseIdxIfInBounds 0 = vs'.toArray := by simp
      rw [he] at hn'
      exact q _ _ t vs' _ (fun b o nb e => ((Heap.SameBut.update _ _ _).2 b nb).trans (hke b o e)) hn' hv'
end
section
theorem closure_of {env : Env} {n : Str} {c : Addr} {sc : Scope} {pre : List (Str × NameKind)} (hn : sc.names = pre ++ [(n, .free)]) (hp : ∀ x ∈ pre, x.2 ≠ .free) (hc : env.cells.lookup n = some c) : closureFor sc env = pure [(n, c)] := by
  simp only [closureFor]
  rw [hn]
  have e : ∀ l : List (Str × NameKind), (∀ x ∈ l, x.2 ≠ .free) → ∀ (acc : List (Str × Addr)) (r : List (Str × NameKind)), (forIn (l ++ r) acc fun x c => if (x.2 == NameKind.free) = true then (do let a ← cellOf env x.1; pure (ForInStep.yield ((x.1, a) :: c))) else pure (ForInStep.yield c) : Sem (List (Str × Addr))) = forIn r acc fun x c => if (x.2 == NameKind.free) = true then (do let a ← cellOf env x.1; pure (ForInStep.yield ((x.1, a) :: c))) else pure (ForInStep.yield c) := by
    intro l
    induction l with
    | nil => intro _ acc r; rfl
    | cons y l ih =>
      intro h acc r
      have : (y.2 == NameKind.free) = false := by simpa using h y (.head _)
      rw [List.cons_append, List.forIn_cons, this, if_neg Bool.false_ne_true]
      exact ih (fun x hx => h x (.tail _ hx)) acc r
  rw [e pre hp, List.forIn_cons, if_pos (by rfl)]
  unfold cellOf
  rw [hc]
  rfl
theorem op_pow {prog : Program} {w : World} {X : Addr → Prop} {d : Nat} {h : Heap} {b : Int} (h0 : 0 ≤ b) (h1 : b ≤ 20) : Op2 prog w X d h (binaryOp .Pow) (.int 2) (.int b) (.int (2 ^ b.toNat)) := fun h' u v _ c1 c2 A Q E s g e q => by
  (first | apply c1.refG | apply c1.noneG | apply c1.boolG | (apply c1.strG; intro _) | (apply c1.intG; intro _)); clear c1; (first | apply c2.refG | apply c2.noneG | apply c2.boolG | (apply c2.strG; intro _) | (apply c2.intG; intro _)); clear c2; exact pow_int h0 (by
    have : (Builtin.Int.intBits 2 : Int) = 2 := by decide
    rw [this]; lia) (q _ _ _ (.refl _) (.int _ _))
theorem sw_cell {e : PySem.Expr} {g : List Comprehension} {sc : Scope} {p q : Pos} {t : Str} {line : Nat} {env : Env} (h : env.kindOf t = some .cell) : swapsWith (.ListComp e g sc p) (some (.Name t q)) line env = pure false := by
  show (pure (env.blockKind == .function && env.kindOf t == some .local && q.line == p.line && !(sc.names.any fun x => x.1 == t && (x.2 == .local || x.2 == .cell))) : Sem Bool) = _
  rw [h]
  have : ((some NameKind.cell == some NameKind.local) : Bool) = false := rfl
  rw [this, Bool.and_false, Bool.false_and, Bool.false_and]
theorem sw_local {e : PySem.Expr} {g : List Comprehension} {sc sc0 : Scope} {p q : Pos} {t : Str} {line : Nat} {env : Env} (fe : Fenv env sc0) (h : sc0.names.lookup t = some .local) (hl : (q.line == p.line) = true) (hn : (sc.names.any fun x => x.1 == t && (x.2 == .local || x.2 == .cell)) = false) : swapsWith (.ListComp e g sc p) (some (.Name t q)) line env = pure true := by
  show (pure (env.blockKind == .function && env.kindOf t == some .local && q.line == p.line && !(sc.names.any fun x => x.1 == t && (x.2 == .local || x.2 == .cell))) : Sem Bool) = _
  have h1 : env.kindOf t = some .local := by unfold Env.kindOf; rw [fe.hsc]; exact h
  have h2 : env.blockKind = .function := by unfold Env.blockKind; rw [fe.hsc]; rw [fe.ek]; rfl
  rw [h1, h2, hl, hn]; rfl
theorem fenv_comp {env : Env} {sc scope : Scope} {cl : List (Str × Addr)} {C : Addr} (fe : Fenv env sc) (hk : scope.kind = .function) : Fenv (compEnvC scope cl C env) (relabel scope env) := ⟨rfl, fe.eg, fe.eb, hk⟩
theorem pick_len (items : Array Value) : (slicePick items none (some 24) none).size ≤ 24 := by
  unfold slicePick
  rw [List.size_toArray]
  refine Nat.le_trans (List.length_filterMap_le _ _) (sliceRange_length_le _ _ _ _ (fun hc => ?_) fun hc => ?_)
  · simp only [sliceBounds, Option.getD_none, show (1 : Int) > 0 by decide, if_true]
    constructor
    · lia
    · rw [if_neg (by decide)]; lia
  · exact absurd (show (1 : Int) > 0 by decide) hc
/-- [n % 1000000000 for n in script[:24]] -/
theorem tape_comp {prog : Program} {w : World} {mg mb : Str → Option Value} {A : Around} {E : Value → Shared → Prop} {s : Shared} {hb : Heap} {env : Env} {sc scope : Scope} {m : Str → Option Value} {a : Addr} {vs : List Value} {ns : List Int} {tp pos p1 p2 p3 p4 p5 p6 p7 : Pos} {k k2 : Nat} {Q : Value → Shared → Prop}
    (g : Gd 20 A) (W : Wd (KK w) mg mb hb) (hx : Ext hb s.heap) (fe : Fenv env sc) (hks : sc.names.lookup (Str.ofString "script") = some .local) (hm : s.heap.Ns env.locals m) (hms : m (Str.ofString "script") = some (.ref a)) (ha : s.heap.IsList a vs.toArray) (hv : IntsAre vs ns) (hl : ns.length ≤ 63)
    (hfree : ∀ x ∈ scope.names, x.2 ≠ .free) (hcell : ∀ y ∈ scope.names, y.2 ≠ .cell) (hkind : scope.kind = .function) (hnames : ∀ y ∈ scope.names, y.2 = .local → scope.names.lookup y.1 = some .local) (hn : scope.names.lookup (Str.ofString "n") = some .local)
    (q : ∀ D h' tk us n ms, s.heap.get? D = none → Ext s.heap h' → h'.get? D = some { cls := .type "list", data := .seq us.toArray n } → IntsAre us ms → ms.length ≤ 24 → (∀ i ∈ ms, 0 ≤ i ∧ i < 1000000000) → Q (.ref D) { s with heap := h', toks := tk }) :
    wpAny (model prog w) A (eval (.ListComp (.BinOp (.Name (Str.ofString "n") p1) .Mod (.Constant (.int 1000000000) k p2) p3) [⟨.Name (Str.ofString "n") tp, .Subscript (.Name (Str.ofString "script") p4) (.Slice none (some (.Constant (.int 24) k2 p5)) none p6) p7, [], 0⟩] scope pos) env) Q E s := by
  refine ev_comp (closureFor_none hfree) hcell hkind hnames g.hd ?_ (by intro _; rfl)
  refine Subscript_ (raw_name fe hks hm hms ?_)
  refine wpAny_bind (m := (pure Value.none : Sem Value)) (wpAny_pure ?_)
  refine wpAny_bind (wpAny_holding (wpAny_Constant_int (k := k2) (pos := p5) ?_))
  refine wpAny_bind (wpAny_holding (wpAny_pure (newSlice ?_)))
  have hvl := IntsAre.length hv
  have hsz : vs.toArray.size ≤ sizeLine := by rw [List.size_toArray, hvl]; exact Nat.le_trans hl (by decide)
  refine subscriptTail_ops (Heap.IsList.typeIs (ha.push _)) list_getitem_lookup (wpAny_getItem_list_slice (ha.push _) (Heap.IsSliceOf.new ..) .none (.int _ _) .none (by simp) ?_ hsz) (by with_unfolding_all rfl) (by intro _; with_unfolding_all rfl)
  generalize hS0 : s.heap.push { cls := .type "slice", data := .fields #[.none, .int 24 _, .none] } = h0
  have x0 : Ext s.heap h0 := by rw [← hS0]; exact Ext.push _ _
  have hpi := IntsAre.pick hv none (some 24) none
  have hpl := pick_len vs.toArray
  generalize slicePick vs.toArray none (some 24) none = pk at hpi hpl
  obtain ⟨us, rfl⟩ : ∃ us : List Value, pk = us.toArray := ⟨pk.toList, by simp⟩
  rw [List.toList_toArray] at hpi
  generalize PyProof.Rows.pickNums ns none (some 24) none = ms at hpi
  rw [List.size_toArray] at hpl
  have hul := IntsAre.length hpi
  have l1 : (h0.push { cls := .type "list", data := .seq us.toArray }).get? h0.objs.size = some { cls := .type "list", data := .seq us.toArray } := Heap.get?_push_size _ rfl
  have x1 : Ext h0 (h0.push { cls := .type "list", data := .seq us.toArray }) := Ext.push _ _
  generalize hl2 : h0.objs.size = l2 at l1
  generalize h0.push { cls := .type "list", data := .seq us.toArray } = h1 at l1 x1
  dsimp only
  have hx1 : Ext s.heap h1 := x0.trans x1
  have hli : h1.IsList l2 us.toArray := ⟨_, l1, rfl, 0, rfl⟩
  refine wpAny_pyIter_list hli ?_
  generalize hI : h1.objs.size = I
  have i2 : (h1.push { cls := .type "list_iterator", data := .fields #[.ref l2, .int 0 0] }).IsListIter I l2 0 := by rw [← hI]; exact ⟨_, Heap.get?_push_size _ rfl, rfl, rfl⟩
  have hIn : h1.get? I = none := by rw [← hI]; exact get_size_none _
  have x2 : Ext h1 (h1.push { cls := .type "list_iterator", data := .fields #[.ref l2, .int 0 0] }) := Ext.push _ _
  generalize h1.push { cls := .type "list_iterator", data := .fields #[.ref l2, .int 0 0] } = h2 at i2 x2
  have hl2I : l2 ≠ I := fun e => by rw [e, hIn] at l1; cases l1
  have hli2 : h2.IsList l2 us.toArray := by obtain ⟨o, ho, r⟩ := hli; exact ⟨o, x2 _ _ ho, r⟩
  refine ⟨fun A Q E s' hA e _ q => ?_, fun h3 tk hC e3 hD hz => ?_⟩
  · obtain ⟨o, ho, r⟩ := i2
    exact wpAny_pyIter_listiter (l := l2) (i := 0) ⟨o, e _ _ ho, r⟩ q
  · dsimp only at hC e3 hD hz ⊢
    generalize hDD : h2.objs.size = D at hC hD hz ⊢
    have hDn : h2.get? D = none := by rw [← hDD]; exact get_size_none _
    have hCn : h2.get? (D + 1 : Nat) = none := by rw [← hDD]; exact ge_none (Nat.le_succ _)
    have hCD : (D + 1 : Nat) ≠ (D : Nat) := by lia
    have hsome : ∀ {b : Addr} {o : Obj}, h2.get? b = some o → b ≠ D ∧ b ≠ (D + 1 : Nat) := fun {b o} e => ⟨(by first | with_reducible exact neN hDn e | exact fun q => by rw [q, hDn] at e; cases e), (by first | with_reducible exact neN hCn e | exact fun q => by rw [q, hCn] at e; cases e)⟩
    have hI2 : ∃ o, h2.get? I = some o := by obtain ⟨o, ho, _⟩ := i2; exact ⟨o, ho⟩
    have hID := hI2.elim fun o ho => hsome ho
    have hlD := hli2.elim fun o ho => hsome ho.1
    have hbn : ∀ {b : Addr}, h1.get? b = none → hb.get? b = none := fun {b} e => by
      cases e2 : hb.get? b with
      | none => rfl
      | some o => rw [hx1 _ _ (hx _ _ e2)] at e; cases e
    have hbI : hb.get? I = none := hbn hIn
    have h1n : ∀ {b : Addr}, h2.get? b = none → h1.get? b = none := fun {b} e => by
      cases e2 : h1.get? b with
      | none => rfl
      | some o => rw [x2 _ _ e2] at e; cases e
    have Wk := Walks.list (prog := prog) (w := w) (A := A) g.hd I l2 hl2I us.toArray
    let J : Nat → Shared → Prop := fun k s' => ∃ i, i + k = us.length ∧ (∃ mC, s'.heap.Ns (D + 1) mC) ∧ (∃ ys n, s'.heap.get? D = some { cls := .type "list", data := .seq ys.toArray n } ∧ ∃ zs, IntsAre ys zs ∧ zs.length = i ∧ ∀ z ∈ zs, 0 ≤ z ∧ z < 1000000000) ∧
      (s'.heap.IsListIter I l2 i ∧ s'.heap.IsList l2 us.toArray) ∧ (∀ b o, b ≠ I → h2.get? b = some o → s'.heap.get? b = some o) ∧ s'.gens = s.gens ∧ s'.drawn = s.drawn ∧ s'.os = s.os
    refine codeAny_compLoop_list J (fun k s1 hj => Exists.elim hj fun i r1 => an8 r1 fun j1 hC2 hY j7 j8 j9 j10 j11 => Exists.elim hC2 fun mC j2 => ex2 hY fun ys n r2 => an2 r2 fun j3 r3 => Exists.elim r3 fun zs r4 => an3 r4 fun j4 j5 j6 => ?_) us.length ⟨0, by lia, ⟨_, hC⟩, ⟨[], 0, hD, [], .nil, rfl, fun z h => by cases h⟩, ⟨by obtain ⟨o, ho, r⟩ := i2; exact ⟨o, e3 _ _ ho, r⟩, by obtain ⟨o, ho, r⟩ := hli2; exact ⟨o, e3 _ _ ho, r⟩⟩, fun b o _ e => e3 b o e, rfl, rfl, rfl⟩
    clear r4 r3 r2 hY hC2 r1 hj
    by_cases hlt : i < us.length
    · refine Wk.item i s1 _ _ (by simpa using hlt) j7 fun v h4 tk4 hP hst hk => ?_
      have hk' : ∀ b o, b ≠ I → s1.heap.get? b = some o → h4.get? b = some o := fun b o nb e => hk b o (fun q => nb (List.mem_singleton.mp q)) e
      obtain ⟨ti, rfl⟩ := IntsAre.int_at hpi i v (by simpa using hP)
      dsimp only
      have hDI : D ≠ I := fun e => hID.1 e.symm
      have hCI : (D + 1 : Nat) ≠ I := fun e => hID.2 e.symm
      have c4 : h4.Ns (D + 1) mC := j2.at fun o e => hk' _ o hCI e
      have d4 : h4.get? D = some { cls := .type "list", data := .seq ys.toArray n } := hk' D _ hDI j3
      have hbD : hb.get? D = none := hbn (h1n hDn)
      have hbC : hb.get? (D + 1 : Nat) = none := hbn (h1n hCn)
      have zok : ∀ z ∈ [D + 1, D, I], hb.get? z = none ∧ (h4.get? z).isSome = true := al3 ⟨hbC, ns_some c4⟩ ⟨hbD, by rw [d4]; rfl⟩ ⟨hbI, by obtain ⟨⟨o, ho, _⟩, _⟩ := hst; rw [ho]; rfl⟩
      have xb : Ext hb h4 := fun b o e => by
        have e1 := hx1 _ _ (hx _ _ e)
        have nb : b ≠ I := fun q => by rw [q, hIn] at e1; cases e1
        exact hk' b o nb (j8 b o nb (x2 _ _ e1))
      have F0 : Fs (KK w) mg mb (compEnvC scope [] (D + 1) env) (relabel scope env) (· ∈ [D + 1, D, I]) (punch h4 [D + 1, D, I]) { s1 with heap := h4, toks := tk4 } (fun h => h.get? D = some { cls := .type "list", data := .seq ys.toArray n } ∧ h.IsListIter I l2 (i + 1)) [] { s1 with heap := h4, toks := tk4 } :=
        mkFs (s := { s1 with heap := h4, toks := tk4 }) (zs := [D + 1, D, I]) (fenv_comp fe hkind) W xb zok (.head _) c4 (fun n y q => by cases q) ⟨d4, hst.1⟩ [D, I] (fun q => by
          rcases List.mem_cons.mp q with q | q
          · exact hCD q
          · exact hCI (List.mem_singleton.mp q)) (fun b hb => by
          rcases List.mem_cons.mp hb with rfl | hb
          · exact (zok _ (.tail _ (.head _))).2
          · rw [List.mem_singleton.mp hb]; exact (zok _ (.tail _ (.tail _ (.head _)))).2) (fun h h' k x => ⟨k D (.head _) _ x.1, let ⟨o, ho, r⟩ := x.2; ⟨o, k I (.tail _ (.head _)) o ho, r⟩⟩)
      refine PyProof.Rows.assign_Name (st_bind F0 (.int _ _) (fun s5 F5 => ?_) (lookup_relabel_local hn))
      refine ev_go g (ev_bin (z := .int ((ms.getD i 0).fmod 1000000000)) (ev_loc F5 rfl (lookup_relabel_local hn) (by rfl)) ev_int (op_mod (by decide))) fun v6 h6 tk6 e6 c6 => ?_
      (first | apply c6.refG | apply c6.noneG | apply c6.boolG | (apply c6.strG; intro _) | (apply c6.intG; intro _)); clear c6
      rename_i t6
      have F6 := F5.ext (tk := tk6) e6
      have hyl : ys.length = zs.length := IntsAre.length j4
      refine append_at F6.ow.1 (fun h7 hs7 g7 => ⟨k - 1, by lia, i + 1, by lia, ?_, ⟨ys ++ [.int ((ms.getD i 0).fmod 1000000000) t6], n + 1, by rw [g7]; simp, zs ++ [(ms.getD i 0).fmod 1000000000], j4.append (.cons _ _ .nil), by rw [List.length_append, j5]; rfl, fun z hz => ?_⟩, ⟨?_, ?_⟩, fun b o nb e => ?_, ?_, ?_, ?_⟩) (by rw [List.size_toArray]; exact Nat.le_trans (show ys.length ≤ 24 by lia) (by decide))
      · obtain ⟨m6, n6, _⟩ := F6.ns
        exact ⟨m6, n6.sameBut hs7 hCD⟩
      · rcases List.mem_append.mp hz with hz | hz
        · exact j6 z hz
        · rw [List.mem_singleton.mp hz]
          rw [Int.fmod_eq_emod_of_nonneg _ (by decide)]
          exact ⟨Int.emod_nonneg _ (by decide), Int.emod_lt_of_pos _ (by decide)⟩
      · obtain ⟨o, ho, r⟩ := F6.ow.2
        exact ⟨o, (hs7.2 I hDI.symm).trans ho, r⟩
      · obtain ⟨o, ho, r⟩ := hst.2
        refine ⟨o, (hs7.2 l2 hlD.1).trans (punch_keep F6.base l2 o (fun q => ?_) ho), r⟩
        simp only [List.mem_cons, List.not_mem_nil, or_false] at q
        exact q.elim hlD.2 fun q => q.elim hlD.1 hl2I
      · have hb2 := hsome e
        refine (hs7.2 b hb2.1).trans (punch_keep F6.base b o (fun q => ?_) (hk' b o nb (j8 b o nb e)))
        simp only [List.mem_cons, List.not_mem_nil, or_false] at q
        exact q.elim hb2.2 fun q => q.elim hb2.1 nb
      · exact F6.gens.1.trans j9
      · exact F6.gens.2.1.trans j10
      · exact F6.gens.2.2.trans j11
    · obtain rfl : i = us.length := by lia
      refine Wk.done s1 _ _ (by simpa using j7) fun h4 tk4 hk => ⟨rfl, mC, j2.at fun o e => hk _ o (fun q => hID.2 (List.mem_singleton.mp q).symm) e, fun h' hsb => ?_⟩
      have d4 := (hsb.2 D hCD.symm).trans (hk D _ (fun q => hID.1 (List.mem_singleton.mp q).symm) j3)
      have hDs : s.heap.get? D = none := by
        cases e : s.heap.get? D with
        | none => rfl
        | some o => rw [x2 _ _ (hx1 _ _ e)] at hDn; cases hDn
      have := q D h' tk4 ys n zs hDs (fun b o e => (hsb.2 b (hsome (x2 _ _ (hx1 _ _ e))).2).trans (hk b o (fun q => by rw [List.mem_singleton.mp q, ] at e; rw [hx1 _ _ e] at hIn; cases hIn) (j8 b o (fun q => by rw [q] at e; rw [hx1 _ _ e] at hIn; cases hIn) (x2 _ _ (hx1 _ _ e))))) d4 j4 (by rw [j5]; lia) j6
      rw [← sh_eq j9 j10 j11]; exact this
end
section
theorem wordsM_len : ∀ x ∈ wordsM, x.length ≤ 100 := by decide +kernel
theorem pow_fits : ∀ i < 11, (2 : Int) ^ i ≠ 0 ∧ ((2 : Int) ^ i).natAbs < 1073741824 := by decide
theorem wordsM_at (i : Nat) : (wordsM.getD i Str.empty).length ≤ 100 := by
  rcases Nat.lt_or_ge i wordsM.length with h | h
  · rw [List.getD_eq_getElem?_getD, List.getElem?_eq_getElem h]; exact wordsM_len _ (List.getElem_mem h)
  · rw [List.getD_eq_getElem?_getD, List.getElem?_eq_none h]; decide
theorem con_lst {X : Addr → Prop} {h : Heap} {l : List V} {v : Value} (c : Con X h (.lst l) v) : ∃ vs a n, v = .ref a ∧ h.get? a = some { cls := .type "list", data := .seq vs.toArray n } ∧ ConL X h l vs := by
  cases c with
  | lst ho _ hc => exact ⟨_, _, _, rfl, ho, hc⟩
/-- words = [word for spot, word in enumerate(_law_WORDS()) if mask // 2 ** spot % 2 == 0] -/
theorem words_comp {prog : Program} {w : World} {mg mb : Str → Option Value} {A : Around} {E : Value → Shared → Prop} {s : Shared} {hb : Heap} {env : Env} {sc scope : Scope} {m : Str → Option Value} {c2 : Addr} {mask : Int} {mt : Tok} {pos py spos tp p1 p2 p3 p4 p5 p6 p7 p8 p9 p10 p11 p12 p13 p14 p15 p16 p17 p18 : Pos} {k k1 k2 k3 : Nat} {Q : Flow → Shared → Prop}
    (g : Gd 20 A) (W : Wd (KK w) mg mb hb) (hx : Ext hb s.heap) (fe : Fenv env sc) (hm : s.heap.Ns env.locals m) (hbL : hb.get? env.locals = none) (hcell2 : s.heap.IsCell c2 (some (.int mask mt))) (hcl : env.cells.lookup (Str.ofString "mask") = some c2) (hcL : c2 ≠ env.locals)
    (hke : sc.names.lookup (Str.ofString "enumerate") = some .globalImplicit) (hkw : sc.names.lookup (Str.ofString "_law_WORDS") = some .globalImplicit) (hky : sc.names.lookup (Str.ofString "words") = some .local) (hkm : sc.names.lookup (Str.ofString "mask") = some .cell)
    (hn0 : scope.names = [(Str.ofString ".0", .local), (Str.ofString "spot", .local), (Str.ofString "word", .local)] ++ [(Str.ofString "mask", .free)]) (hkind : scope.kind = .function) (hline : (py.line == pos.line) = true)
    (q : ∀ D h' tk us n ws m', s.heap.get? D = none → h'.Ns env.locals m' → (∀ x, x ≠ Str.ofString "words" → m' x = m x) → m' (Str.ofString "words") = some (.ref D) → (∀ b o, b ≠ env.locals → s.heap.get? b = some o → h'.get? b = some o) → h'.get? D = some { cls := .type "list", data := .seq us.toArray n } → StrsAre us ws → ws.length ≤ 11 → (∀ x ∈ ws, x.length ≤ 100) → Q .next { s with heap := h', toks := tk }) :
    wpAny (model prog w) A (exec (.Assign [.Name (Str.ofString "words") py] (.ListComp (.Name (Str.ofString "word") p1) [⟨.Tuple [.Name (Str.ofString "spot") p2, .Name (Str.ofString "word") p3] k tp, .Call (.Name (Str.ofString "enumerate") p4) [.Call (.Name (Str.ofString "_law_WORDS") p5) [] [] p6] [] p7,
      [.Compare (.BinOp (.BinOp (.Name (Str.ofString "mask") p8) .FloorDiv (.BinOp (.Constant (.int 2) k1 p9) .Pow (.Name (Str.ofString "spot") p10) p11) p12) .Mod (.Constant (.int 2) k2 p13) p14) [.Eq] [.Constant (.int 0) k3 p15] p16], 0⟩] scope pos) spos) env) Q E s := by
  refine s_compU (cl := [(Str.ofString "mask", c2)]) (sw_local fe hky hline (by rw [hn0]; rfl)) (closure_of hn0 (by decide) hcl) (by rw [hn0]; decide) hkind (by rw [hn0]; decide) g.hd (by unfold Env.kindOf; rw [fe.hsc]; exact hky) (by rw [fe.hsc, fe.ek]; rfl) ?_ (by intro _; rfl)
  have W0 : Wd (KK w) mg mb s.heap := W.keep hx
  refine PyProof.Rows.Call_Name1 (nmv_boot W0 fe.hsc fe.ek fe.eg fe.eb (by kernel_rfl) (by rfl : bootBuiltins (Str.ofString "enumerate") = some (.type "enumerate")) (by decide) hke (by rfl) A _ E s _ (.refl _) ?_) (by rfl)
  refine PyProof.Rows.callWith_type (by rfl) (evalArgs_plain (spliced_cons (ev_go g (ev_call0 (X := fun _ => False) W0 (fun _ h => h.elim) (nmv_glob W0 fe.hsc fe.ek fe.eg (by kernel_rfl) hkw (by rfl)) rfl rfl (words_pf (w := w) (mg := mg) (mb := mb) (prog := prog)) (by decide) ⟨rfl, rfl⟩) fun v h1 tk1 e1 c1 => spliced_nil ?_)))
  obtain ⟨vs, l, nl, rfl, ho, hcon⟩ := con_lst c1
  · have hs := con_strs hcon
    refine call_enumerate_list ⟨_, ho, rfl, _, rfl⟩ (fun h2 he2 hi2 hz2 k2' => ?_)
    dsimp only at he2 hi2 hz2 k2' ⊢
    refine wpAny_pyIter_enum he2 ?_
    generalize hI : h1.objs.size = I at he2 hi2 hz2 ⊢
    have hIn : h1.get? I = none := by rw [← hI]; exact get_size_none _
    have hEn : h1.get? (I + 1 : Nat) = none := by rw [← hI]; exact ge_none (Nat.le_succ _)
    have hEI : (I + 1 : Nat) ≠ (I : Nat) := by lia
    have x2 : Ext h1 h2 := k2'
    have hsl : s.heap.Ns env.locals m := hm
    have hl2 : h2.get? l = some { cls := .type "list", data := .seq vs.toArray nl } := x2 _ _ ho
    have hlI : l ≠ I ∧ l ≠ (I + 1 : Nat) := ⟨(by first | with_reducible exact neN hIn ho | exact fun q => by rw [q, hIn] at ho; cases ho), (by first | with_reducible exact neN hEn ho | exact fun q => by rw [q, hEn] at ho; cases ho)⟩
    have hvl : vs.length = wordsM.length := strs_len hs
    refine ⟨fun A Q E s' hA e _ q => wpAny_pyIter_enum (e _ _ he2) q, fun h3 tk hC e3 hD hz => ?_⟩
    dsimp only at hC e3 hD hz ⊢
    rw [hz2] at hC hD hz ⊢
    generalize hDD : I + 2 = D at hC hD hz ⊢
    have hDn : h2.get? D = none := by rw [← hDD, ← hz2]; exact get_size_none _
    have hCn : h2.get? (D + 1 : Nat) = none := by rw [← hDD, ← hz2]; exact ge_none (Nat.le_succ _)
    have hCD : (D + 1 : Nat) ≠ (D : Nat) := by lia
    have hsome : ∀ {b : Addr} {o : Obj}, h2.get? b = some o → b ≠ D ∧ b ≠ (D + 1 : Nat) := fun {b o} e => ⟨(by first | with_reducible exact neN hDn e | exact fun q => by rw [q, hDn] at e; cases e), (by first | with_reducible exact neN hCn e | exact fun q => by rw [q, hCn] at e; cases e)⟩
    have hE2 := hsome he2
    have hI2 := hi2.elim fun o ho => hsome ho.1
    have hsI : ∀ {b : Addr} {o : Obj}, s.heap.get? b = some o → b ≠ I ∧ b ≠ (I + 1 : Nat) ∧ b ≠ D ∧ b ≠ (D + 1 : Nat) := fun {b o} e => ⟨(fun q => by rw [q] at e; rw [e1 _ _ e] at hIn; cases hIn), (fun q => by rw [q] at e; rw [e1 _ _ e] at hEn; cases hEn), hsome (x2 _ _ (e1 _ _ e))⟩
    have hLI := hsl.elim fun o ho => ho.elim fun es ho => ho.elim fun ep ho => hsI ho.1
    let J : Nat → Shared → Prop := fun k s' => ∃ i, i + k = wordsM.length ∧ (∃ mC, s'.heap.Ns (D + 1) mC) ∧ (∃ us n ws, s'.heap.get? D = some { cls := .type "list", data := .seq us.toArray n } ∧ StrsAre us ws ∧ ws.length ≤ i ∧ ∀ x ∈ ws, x.length ≤ 100) ∧
      ((∃ old, IsEnum s'.heap (I + 1) I (i : Int) old) ∧ s'.heap.IsListIter I l i) ∧ (∀ b o, b ≠ I → b ≠ (I + 1 : Nat) → h2.get? b = some o → s'.heap.get? b = some o) ∧ s'.gens = s.gens ∧ s'.drawn = s.drawn ∧ s'.os = s.os
    refine kct_loop J (fun k s1 hj => Exists.elim hj fun i r1 => an8 r1 fun j1 hC2 hU hO j9 j10 j11 j12 => Exists.elim hC2 fun mC j2 => ex3 hU fun us n ws r2 => an4 r2 fun j3 j4 j5 j6 => an2 hO fun hO2 j8 => Exists.elim hO2 fun old j7 => ?_) wordsM.length ⟨0, by lia, ⟨_, hC⟩, ⟨[], 0, [], hD, .nil, Nat.le_refl _, fun z h => by cases h⟩, ⟨⟨_, e3 _ _ he2⟩, let ⟨o, ho, r⟩ := hi2; ⟨o, e3 _ _ ho, r⟩⟩, fun b o _ _ e => e3 b o e, rfl, rfl, rfl⟩
    clear hO2 hO r2 hU hC2 r1 hj
    have hls : s1.heap.IsList l vs.toArray := ⟨_, j9 _ _ hlI.1 hlI.2 hl2, rfl, nl, rfl⟩
    by_cases hlt : i < wordsM.length
    · have hxi : vs.toArray[i]? = some (vs[i]'(by lia)) := by simp [hvl, hlt]
      obtain ⟨u, hu⟩ := strs_at hs (i := i) (v := vs[i]'(by lia)) (List.getElem?_eq_getElem _)
      rw [hu] at hxi
      refine wpAny_pyNext_enum_item j7 j8 hls hxi hEI (fun h4 a4 b4 t4 z4 k4 => ?_)
      dsimp only at a4 b4 t4 z4 k4 ⊢
      refine wpAny_letOwnedTupleGo_enum a4 (fun h5 a5 s5 => ?_)
      generalize hT : s1.heap.objs.size = T at t4 ⊢
      have hTE : T ≠ (I + 1 : Nat) := fun q => by rw [q] at hT; rw [← hT] at j7; rw [IsEnum, get_size_none] at j7; cases j7
      have hTn : ∀ {b : Addr} {o : Obj}, s1.heap.get? b = some o → b ≠ T := fun {b o} e q => by rw [q, ← hT, get_size_none] at e; cases e
      have k5 : ∀ b o, b ≠ I → b ≠ (I + 1 : Nat) → s1.heap.get? b = some o → h5.get? b = some o := fun b o n1 n2 e => (s5.2 b n2).trans (k4 b o n2 n1 e)
      have c5 : h5.Ns (D + 1) mC := j2.at fun o e => k5 _ o (fun q => hI2.2 q.symm) (fun q => hE2.2 q.symm) e
      refine kcp_assign g.hd (x := .int i s1.toks) (y := .str (wordsM.getD i Str.empty) u) ⟨_, (s5.2 T hTE).trans t4, rfl, _, rfl⟩ (lookup_relabel_local (by rw [hn0]; rfl)) (lookup_relabel_local (by rw [hn0]; rfl)) (by show (scope.kind == _ || (scope.kind == _ && _)) = false; rw [hkind]; rfl) c5 (fun h6 tk6 n6 k6 => ?_)
      have hID : (I : Nat) ≠ (D : Nat) := hI2.1
      have k16 : ∀ b o, b ≠ (D + 1 : Nat) → b ≠ I → b ≠ (I + 1 : Nat) → s1.heap.get? b = some o → h6.get? b = some o := fun b o n0 n1 n2 e => k6 b o n0 (k5 b o n1 n2 e)
      have d6 : h6.get? D = some { cls := .type "list", data := .seq us.toArray n } := k16 D _ hCD.symm (fun q => hI2.1 q.symm) (fun q => hE2.1 q.symm) j3
      have en6 : IsEnum h6 (I + 1) I ((i : Int) + 1) (.str (wordsM.getD i Str.empty) u) := k6 _ _ hE2.2 a5
      have li6 : h6.IsListIter I l (i + 1) := let ⟨o, ho, r⟩ := b4; ⟨o, k6 _ _ hI2.2 ((s5.2 I hEI.symm).trans ho), r⟩
      have xb : Ext hb h6 := fun b o e => by
        have hs' := hsI (hx _ _ e)
        exact k16 b o hs'.2.2.2 hs'.1 hs'.2.1 (j9 b o hs'.1 hs'.2.1 (x2 _ _ (e1 _ _ (hx _ _ e))))
      have hbn : ∀ {b : Addr}, (b = I ∨ b = (I + 1 : Nat) ∨ b = D ∨ b = (D + 1 : Nat)) → hb.get? b = none := fun {b} q => by
        cases e : hb.get? b with
        | none => rfl
        | some o =>
          have hs' := hsI (hx _ _ e)
          exact (q.elim hs'.1 fun q => q.elim hs'.2.1 fun q => q.elim hs'.2.2.1 hs'.2.2.2).elim
      have zok : ∀ z ∈ [D + 1, D, I, I + 1], hb.get? z = none ∧ (h6.get? z).isSome = true := al4 ⟨hbn (.inr (.inr (.inr rfl))), ns_some n6⟩ ⟨hbn (.inr (.inr (.inl rfl))), by rw [d6]; rfl⟩ ⟨hbn (.inl rfl), by obtain ⟨o, ho, _⟩ := li6; rw [ho]; rfl⟩ ⟨hbn (.inr (.inl rfl)), by rw [en6]; rfl⟩
      have F0 : Fs (KK w) mg mb (compEnvC scope [(Str.ofString "mask", c2)] (D + 1) env) (relabel scope env) (· ∈ [D + 1, D, I, I + 1]) (punch h6 [D + 1, D, I, I + 1]) { s1 with heap := h6, toks := tk6 } (fun h => h.get? D = some { cls := .type "list", data := .seq us.toArray n } ∧ h.IsListIter I l (i + 1) ∧ IsEnum h (I + 1) I ((i : Int) + 1) (.str (wordsM.getD i Str.empty) u))
          [(Str.ofString "spot", .int i), (Str.ofString "word", .str (wordsM.getD i Str.empty))] { s1 with heap := h6, toks := tk6 } :=
        mkFs (s := { s1 with heap := h6, toks := tk6 }) (zs := [D + 1, D, I, I + 1]) (fenv_comp fe hkind) W xb zok (.head _) n6 (fun x y q => by
          rcases lk2 q with ⟨rfl, rfl⟩ | ⟨rfl, rfl⟩
          · exact ⟨_, rfl, .int _ _⟩
          · exact ⟨_, rfl, .str _ _⟩) ⟨d6, li6, en6⟩ [D, I, I + 1] (nM3 hCD (fun q => hI2.2 q.symm) ((fun q => hE2.2 q.symm))) (al3 ((zok _ (.tail _ (.head _))).2) ((zok _ (.tail _ (.tail _ (.head _)))).2) ((zok _ (.tail _ (.tail _ (.tail _ (.head _))))).2)) (fun h h' k x => ⟨k D (.head _) _ x.1, (let ⟨o, ho, r⟩ := x.2.1; ⟨o, k I (.tail _ (.head _)) o ho, r⟩), k (I + 1) (.tail _ (.tail _ (.head _))) _ x.2.2⟩)
      have hc6 : h6.IsCell c2 (some (.int mask mt)) := by
        obtain ⟨o, ho, r⟩ := hcell2
        have hs' := hsI ho
        exact ⟨o, k16 c2 o hs'.2.2.2 hs'.1 hs'.2.1 (j9 c2 o hs'.1 hs'.2.1 (x2 _ _ (e1 _ _ ho))), r⟩
      have hrm : (relabel scope env).names.lookup (Str.ofString "mask") = some .cell := by
        unfold relabel
        rw [hn0]
        have h1 : env.kindOf (Str.ofString "mask") = some .cell := by unfold Env.kindOf; rw [fe.hsc]; exact hkm
        have h2 : env.scope.kind = .function := by rw [fe.hsc]; exact fe.ek
        simp only [List.map_cons, List.map_append, List.map_nil, List.cons_append, List.nil_append]
        rw [h1, h2]
        rfl
      have hmn : NmV prog w (compEnvC scope [(Str.ofString "mask", c2)] (D + 1) env) h6 (Str.ofString "mask") (.int mask mt) := nmv_cell hkind hrm (by rfl) hc6 (by rfl)
      have hi11 : i < 11 := hlt
      have hpf := pow_fits i hi11
      have lsp : (relabel scope env).names.lookup (Str.ofString "spot") = some .local := lookup_relabel_local (by rw [hn0]; rfl)
      have lwo : (relabel scope env).names.lookup (Str.ofString "word") = some .local := lookup_relabel_local (by rw [hn0]; rfl)
      refine ts_go (b := ((mask.fdiv (2 ^ (i : Int).toNat)).fmod 2 == 0)) g (ts_cmp (ev_bin (ev_bin (ev_nm ⟨_, .int _ _, hmn⟩) (ev_bin ev_int (ev_loc F0 rfl lsp (by rfl)) (op_pow (by lia) (by lia))) (op_div (by rw [Int.toNat_natCast]; exact hpf.1) (by rw [Int.toNat_natCast]; exact hpf.2))) ev_int (op_mod (by decide))) ev_int op_eq) fun h7 tk7 e7 => ?_
      have F7 := F0.ext (tk := tk7) e7
      -- what holds at the next turn
      have nxt : ∀ {s9 : Shared} {us' n' ws'}, s9.heap.get? D = some { cls := .type "list", data := .seq (List.toArray us') n' } → StrsAre us' ws' → ws'.length ≤ i + 1 → (∀ x ∈ ws', x.length ≤ 100) → (∃ mC, s9.heap.Ns (D + 1) mC) → IsEnum s9.heap (I + 1) I ((i : Int) + 1) (.str (wordsM.getD i Str.empty) u) → s9.heap.IsListIter I l (i + 1) → (∀ b o, b ≠ (D + 1 : Nat) → b ≠ D → b ≠ I → b ≠ (I + 1 : Nat) → h6.get? b = some o → s9.heap.get? b = some o) → s9.gens = s1.gens → s9.drawn = s1.drawn → s9.os = s1.os → ∃ m, m < k ∧ J m s9 :=
        fun {s9 us' n' ws'} a1 a2 a3 a4 a5 a6 a7 a8 a9 a10 a11 => ⟨k - 1, by lia, i + 1, by lia, a5, ⟨us', n', ws', a1, a2, a3, a4⟩, ⟨⟨_, by push_cast; exact a6⟩, a7⟩, fun b o n1 n2 e => a8 b o (hsome e).2 (hsome e).1 n1 n2 (k16 b o (hsome e).2 n1 n2 (j9 b o n1 n2 e)), a9.trans j10, a10.trans j11, a11.trans j12⟩
      have keepF : ∀ {s9 : Shared} {l' : List (Str × V)} {Ow : Heap → Prop}, Fs (KK w) mg mb (compEnvC scope [(Str.ofString "mask", c2)] (D + 1) env) (relabel scope env) (· ∈ [D + 1, D, I, I + 1]) (punch h6 [D + 1, D, I, I + 1]) { s1 with heap := h6, toks := tk6 } Ow l' s9 → ∀ b o, b ≠ (D + 1 : Nat) → b ≠ D → b ≠ I → b ≠ (I + 1 : Nat) → h6.get? b = some o → s9.heap.get? b = some o := fun F b o n0 n1 n2 n3 e => punch_keep F.base b o (nM4 n0 n1 n2 n3) e
      cases hb : ((mask.fdiv (2 ^ (i : Int).toNat)).fmod 2 == 0) with
      | false =>
        rw [if_neg Bool.false_ne_true]
        obtain ⟨m7, n7, _⟩ := F7.ns
        exact nxt F7.ow.1 j4 (by lia) j6 ⟨m7, n7⟩ F7.ow.2.2 F7.ow.2.1 (keepF F7) F7.gens.1 F7.gens.2.1 F7.gens.2.2
      | true =>
        rw [if_pos rfl]
        refine ev_go g (ev_loc F7 rfl lwo (by rfl)) fun v8 h8 tk8 e8 c8 => ?_
        (first | apply c8.refG | apply c8.noneG | apply c8.boolG | (apply c8.strG; intro _) | (apply c8.intG; intro _)); clear c8
        rename_i u8
        have F8 := F7.ext (tk := tk8) e8
        refine append_at F8.ow.1 (fun h9 hs9 g9 => ?_) (by rw [List.size_toArray, strs_len j4]; exact Nat.le_trans (show ws.length ≤ 11 by lia) (by decide))
        obtain ⟨m8, n8, _⟩ := F8.ns
        refine nxt (us' := us ++ [.str (wordsM.getD i Str.empty) u8]) (n' := n + 1) (ws' := ws ++ [wordsM.getD i Str.empty]) (by rw [g9]; simp) (strs_snoc j4) (by rw [List.length_append]; simp; lia) (fun x hx => ?_) ⟨m8, n8.sameBut hs9 hCD⟩ ((hs9.2 _ hE2.1).trans F8.ow.2.2) (let ⟨o, ho, r⟩ := F8.ow.2.1; ⟨o, (hs9.2 I hI2.1).trans ho, r⟩) (fun b o n0 n1 n2 n3 e => (hs9.2 b n1).trans (keepF F8 b o n0 n1 n2 n3 e)) F8.gens.1 F8.gens.2.1 F8.gens.2.2
        rcases List.mem_append.mp hx with hx | hx
        · exact j6 x hx
        · rw [List.mem_singleton.mp hx]
          exact wordsM_at i
    · obtain rfl : i = wordsM.length := by lia
      have kend : ∀ {h4 : Heap}, Heap.ExtBut I s1.heap h4 → ∀ b o, s.heap.get? b = some o → h4.get? b = some o := fun k4 b o e => by
        have hs' := hsI e
        exact k4 b o hs'.1 (j9 b o hs'.1 hs'.2.1 (x2 _ _ (e1 _ _ e)))
      refine wpAny_pyNext_enum_end g.hd j7 j8 hls (by simp [hvl]) (fun h4 k4 => ⟨rfl, m, mC, ?_, ?_, hLI.2.2.2, fun h' tk' n' k' => ?_⟩)
      · exact hm.at fun o e => kend k4 _ o e
      · exact j2.at fun o e => k4 _ o (fun q => hI2.2 q.symm) e
      · have hDs : s.heap.get? D = none := by
          cases e : s.heap.get? D with
          | none => rfl
          | some o => exact absurd rfl (hsI e).2.2.1
        have := q D h' tk' us n ws _ hDs n' (fun x hx => if_neg hx) (if_pos rfl) (fun b o nb e => k' b o nb (hsI e).2.2.2 (kend k4 b o e)) (k' D _ hLI.2.2.1.symm hCD.symm (k4 D _ (fun q => hI2.1 q.symm) j3)) j4 (by exact j5) j6
        rw [← sh_eq j10 j11 j12]; exact this
end
section
/-- the tape, as it lies -/
noncomputable def TapeAt (T : Addr) (ns : List Int) (h : Heap) : Prop := (∃ vs n, h.get? T = some { cls := .type "list", data := .seq (List.toArray vs) n } ∧ IntsAre vs ns) ∧ ns.length ≤ 24 ∧ ∀ i ∈ ns, 0 ≤ i ∧ i < 1000000000
theorem TapeAt.at {T : Addr} {ns : List Int} {h h' : Heap} (x : TapeAt T ns h) (k : ∀ o, h.get? T = some o → h'.get? T = some o) : TapeAt T ns h' := let ⟨⟨vs, n, e, i⟩, r⟩ := x; ⟨⟨vs, n, k _ e, i⟩, r⟩
theorem TapeAt.some {T : Addr} {ns : List Int} {h : Heap} (x : TapeAt T ns h) : (h.get? T).isSome = true := by obtain ⟨⟨vs, n, e, i⟩, r⟩ := x; rw [e]; rfl
/-- what comes off the tape -/
noncomputable def nextN (ns : List Int) : Nat := (ns.headD 0).toNat
theorem nextN_eq {ns : List Int} (h : ∀ i ∈ ns, 0 ≤ i ∧ i < 1000000000) : ns.headD 0 = (nextN ns : Int) ∧ nextN ns < 1000000000 := by
  unfold nextN
  cases ns with
  | nil => exact ⟨rfl, by decide⟩
  | cons i r =>
    have := h i (.head _)
    show i = ((i.toNat : Nat) : Int) ∧ i.toNat < _
    lia
section
variable {prog : Program} {w : World} {mg mb : Str → Option Value} {A : Around} {E : Value → Shared → Prop} {s : Shared} {hb : Heap} {env : Env} {T : Addr} {ns : List Int} {Q : Value → Shared → Prop}
theorem ev_next {p1 p2 p3 : Pos} (g : Gd 5 A) (W : Wd (KK w) mg mb hb) (hx : Ext hb s.heap) (hbT : hb.get? T = none) (nm : NmV prog w env s.heap (Str.ofString "_law_next") (.ref 266)) (nt : NmV prog w env s.heap (Str.ofString "tape") (.ref T)) (ht : TapeAt T ns s.heap)
    (q : ∀ h' tk t, (∀ b o, b ≠ T → s.heap.get? b = some o → h'.get? b = some o) → TapeAt T (ns.drop 1) h' → Q (.int (nextN ns) t) { s with heap := h', toks := tk }) :
    wpAny (model prog w) A (eval (.Call (.Name (Str.ofString "_law_next") p1) [.Name (Str.ofString "tape") p2] [] p3) env) Q E s := by
  have W0 := W.keep hx
  obtain ⟨⟨vs, n, e, hi⟩, hl, hb'⟩ := ht
  refine PyProof.Rows.Call_Name1 (nm A _ E s _ (.refl _) (callWith_function (o := _) (fd := _) (evalArgs_plain (spliced_cons (nt A _ E s _ (.refl _) (spliced_nil ⟨⟨W0.kin 266 _ rfl, rfl⟩, wpAny_call (next_code g W hx hbT e hi (by lia) fun h' tk t vs' n' k e' hi' => ?_)⟩)))))) (by rfl)
  have hq := q h' tk t k ⟨⟨vs', n', e', hi'⟩, by rw [List.length_drop]; lia, fun i hi => hb' i (List.mem_of_mem_drop hi)⟩
  rw [← (nextN_eq hb').1] at hq
  exact hq
theorem ev_piece {p1 p2 p3 p4 p5 : Pos} (g : Gd 5 A) (W : Wd (KK w) mg mb hb) (hx : Ext hb s.heap) (hbT : hb.get? T = none) (np : NmV prog w env s.heap (Str.ofString "_law_piece") (.ref 280)) (nm : NmV prog w env s.heap (Str.ofString "_law_next") (.ref 266)) (nt : NmV prog w env s.heap (Str.ofString "tape") (.ref T)) (ht : TapeAt T ns s.heap)
    (q : ∀ h' tk t, (∀ b o, b ≠ T → s.heap.get? b = some o → h'.get? b = some o) → TapeAt T (ns.drop 1) h' → Q (.str (ofL (piece (nextN ns))) t) { s with heap := h', toks := tk }) :
    wpAny (model prog w) A (eval (.Call (.Name (Str.ofString "_law_piece") p1) [.Call (.Name (Str.ofString "_law_next") p2) [.Name (Str.ofString "tape") p3] [] p4] [] p5) env) Q E s := by
  have hn := nextN_eq ht.2.2
  obtain ⟨o, fd, ho, hfd⟩ : ∃ o fd, (KK w).lookup 280 = some o ∧ o.data = .func fd := ⟨_, _, rfl, rfl⟩
  refine PyProof.Rows.Call_Name1 (np A _ E s _ (.refl _) (callWith_function (o := o) (fd := fd) (evalArgs_plain (spliced_cons (ev_next g W hx hbT nm nt ht fun h' tk t k ht' => spliced_nil ?_))))) (by rfl)
  have x1 : Ext hb h' := fun b o e => k b o (by first | with_reducible exact neN hbT e | exact fun q => by rw [q, hbT] at e; cases e) (hx b o e)
  have W1 := W.keep x1
  refine ⟨⟨W1.kin 280 _ ho, hfd⟩, wpAny_call (piece_pf (w := w) (mg := mg) (mb := mb) (prog := prog) (fun _ => False) h' [.int (nextN ns)] (.str (ofL (piece (nextN ns)))) _ ⟨nextN ns, hn.2, rfl, rfl⟩ W1 (fun _ h => h.elim) (.cons (.int _ _) .nil) A _ _ (g.le (by decide)) (.refl _) fun v h2 tk2 e2 c2 => ?_)⟩
  (first | apply c2.refG | apply c2.noneG | apply c2.boolG | (apply c2.strG; intro _) | (apply c2.intG; intro _)); clear c2
  exact q h2 tk2 _ (fun b o nb e => e2 _ _ (k b o nb e)) (ht'.at fun o e => e2 _ _ e)
end
end
section
/-- the pieces' numbers -/
noncomputable def takeN (ns : List Int) (k : Nat) : List Nat := (List.range k).map fun i => nextN (ns.drop i)
theorem takeN_succ (ns : List Int) (k : Nat) : takeN ns (k + 1) = takeN ns k ++ [nextN (ns.drop k)] := by unfold takeN; rw [List.range_succ, List.map_append]; rfl
theorem takeN_len (ns : List Int) (k : Nat) : (takeN ns k).length = k := by simp [takeN]
theorem join_parts (ps : List (List Nat)) : Txt.join Str.empty (ps.map ofL) = ofL ps.flatten := by
  have h : ∀ (l : List (List Nat)) (a : Array Nat), (l.map ofL).foldl (fun acc (p : Str) => acc ++ Str.empty.cps ++ p.cps) a = a ++ l.flatten.toArray := by
    intro l
    induction l with
    | nil => intro a; simp
    | cons c r ih =>
      intro a
      rw [List.map_cons, List.foldl_cons, ih]
      simp [ofL, Str.empty]
  cases ps with
  | nil => rfl
  | cons c r =>
    show Str.mk _ = Str.mk _
    congr 1
    show ((r.map ofL).foldl (fun acc (p : Str) => acc ++ Str.empty.cps ++ p.cps) (ofL c).cps) = _
    rw [h]; simp [ofL]
theorem parts_sum (ns : List Int) (k : Nat) : ((((takeN ns k).map piece).map ofL).map (·.length)).sum ≤ 10 * k := by
  induction k with
  | zero => exact Nat.le_refl _
  | succ k ih =>
    rw [takeN_succ]
    simp only [List.map_append, List.map_cons, List.map_nil, List.sum_append, List.sum_cons, List.sum_nil]
    have := piece_len (nextN (ns.drop k))
    rw [ofL_len]
    lia
/-- ''.join([_law_piece(_law_next(tape)) for turn in range(..)]) -/
theorem text_comp {prog : Program} {w : World} {mg mb : Str → Option Value} {A : Around} {E : Value → Shared → Prop} {s : Shared} {hb : Heap} {env : Env} {sc scope : Scope} {X : Addr → Prop} {T c1 : Addr} {ns : List Int} {m : Nat} {er : PySem.Expr} {k : Nat} {jp ap tp pos p1 p2 p3 p4 p5 p6 p7 p8 cp : Pos} {Q : Value → Shared → Prop}
    (g : Gd 20 A) (W : Wd (KK w) mg mb hb) (hx : Ext hb s.heap) (hbT : hb.get? T = none) (fe : Fenv env sc) (hc1 : s.heap.IsCell c1 (some (.ref T))) (hcl : env.cells.lookup (Str.ofString "tape") = some c1) (ht : TapeAt T ns s.heap)
    (hkr : sc.names.lookup (Str.ofString "range") = some .globalImplicit) (hkt : sc.names.lookup (Str.ofString "tape") = some .cell) (he : Ev prog w X 20 env s.heap er (.int (m : Nat))) (hm3 : m ≤ 3)
    (hn0 : scope.names = [(Str.ofString ".0", .local), (Str.ofString "turn", .local), (Str.ofString "_law_piece", .globalImplicit), (Str.ofString "_law_next", .globalImplicit)] ++ [(Str.ofString "tape", .free)]) (hkind : scope.kind = .function)
    (hs1 : starEach [er] env = [(false, eval er env)]) (hline : (ap.endLine == cp.line) = true)
    (q : ∀ h' tk t, (∀ b o, b ≠ T → s.heap.get? b = some o → h'.get? b = some o) → TapeAt T (ns.drop m) h' → Q (.str (ofL ((takeN ns m).flatMap piece)) t) { s with heap := h', toks := tk }) :
    wpAny (model prog w) A (eval (.Call (.Attribute (.Constant (.str "") k jp) "join" ap) [.ListComp (.Call (.Name (Str.ofString "_law_piece") p1) [.Call (.Name (Str.ofString "_law_next") p2) [.Name (Str.ofString "tape") p3] [] p4] [] p5)
      [⟨.Name (Str.ofString "turn") tp, .Call (.Name (Str.ofString "range") p6) [er] [] p7, [], 0⟩] scope pos] [] cp) env) Q E s := by
  refine Call_method1 (by rfl) (by rfl) hline (Constant_str ⟨"str", _, F.plainAttrs_str, F.slot_str_join, F.type_str_join, typeIs_str _ _ _, (fun _ e => nomatch e), ?_⟩)
  refine callWith_builtin (by rfl) (evalArgs_plain (spliced_cons ?_))
  generalize hs0 : s.toks + 1 = tk0
  refine ev_comp (cl := [(Str.ofString "tape", c1)]) (closure_of hn0 (by decide) hcl) (by rw [hn0]; decide) hkind (by rw [hn0]; decide) g.hd ?_ (by intro _; rfl)
  have W0 : Wd (KK w) mg mb s.heap := W.keep hx
  refine PyProof.Rows.Call_Name1 (nmv_boot W0 fe.hsc fe.ek fe.eg fe.eb (by kernel_rfl) (by rfl : bootBuiltins (Str.ofString "range") = some (.type "range")) (by decide) hkr (by rfl) A _ E _ _ (.refl _) ?_) hs1
  refine PyProof.Rows.callWith_type (by rfl) (evalArgs_plain (spliced_cons (he A _ E _ g (.refl _) fun v h1 tk1 e1 c1' => spliced_nil ?_)))
  (first | apply c1'.refG | apply c1'.noneG | apply c1'.boolG | (apply c1'.strG; intro _) | (apply c1'.intG; intro _)); clear c1'
  rename_i t0
  refine call_range_1 ?_
  have hsz : Builtin.Range.rangeSize 0 (m : Int) 1 = (m : Int) := by rw [rangeSize_one]; split <;> lia
  have x1 : Ext h1 (h1.push { cls := .type "range", data := .fields #[.int 0 tk1, .int (m : Int) t0, .int 1 (tk1 + 1)] }) := Ext.push _ _
  refine wpAny_pyIter_range (Heap.get?_push_size _ rfl) ?_ ?_
  · have h4 : ∀ x : Int, -2000 ≤ x → x ≤ 2000 → Builtin.Range.rangeFitsLong x = true := fun x a b => by
      unfold Builtin.Range.rangeFitsLong
      simp only [Bool.and_eq_true, decide_eq_true_eq]
      lia
    unfold Builtin.Range.small
    rw [hsz]
    simp [h4 0 (by lia) (by lia), h4 m (by lia) (by lia), h4 1 (by lia) (by lia), h4 ((m : Int) + (1 - 1)) (by lia) (by lia)]
  rw [hsz]
  dsimp only
  generalize h1.push { cls := .type "range", data := .fields #[.int 0 tk1, .int (m : Int) t0, .int 1 (tk1 + 1)] } = h2 at x1
  have x2 : Ext s.heap h2 := e1.trans x1
  generalize hI : h2.objs.size = I
  have hIn : h2.get? I = none := by rw [← hI]; exact get_size_none _
  have i3 : IsRangeIter (h2.push { cls := .type "range_iterator", data := .fields #[rawInt 0, rawInt (m : Int), rawInt 1] }) I 0 m 1 := by rw [← hI]; exact Heap.get?_push_size _ rfl
  have x3 : Ext h2 (h2.push { cls := .type "range_iterator", data := .fields #[rawInt 0, rawInt (m : Int), rawInt 1] }) := Ext.push _ _
  generalize h2.push { cls := .type "range_iterator", data := .fields #[rawInt 0, rawInt (m : Int), rawInt 1] } = h3 at i3 x3
  have x03 : Ext s.heap h3 := x2.trans x3
  refine ⟨fun A Q E s' hA e _ q => wpAny_pyIter_rangeiter (x := 0) (left := m) (step := 1) (e _ _ i3) q, fun h4 tk4 hC e4 hD hz => ?_⟩
  generalize hDD : h3.objs.size = D at hC hD hz ⊢
  have hDn : h3.get? D = none := by rw [← hDD]; exact get_size_none _
  have hCn : h3.get? (D + 1 : Nat) = none := by rw [← hDD]; exact ge_none (Nat.le_succ _)
  have hCD : (D + 1 : Nat) ≠ (D : Nat) := by lia
  have hsome : ∀ {b : Addr} {o : Obj}, h3.get? b = some o → b ≠ D ∧ b ≠ (D + 1 : Nat) := fun {b o} e => ⟨(by first | with_reducible exact neN hDn e | exact fun q => by rw [q, hDn] at e; cases e), (by first | with_reducible exact neN hCn e | exact fun q => by rw [q, hCn] at e; cases e)⟩
  have hID := hsome i3
  have hsI : ∀ {b : Addr} {o : Obj}, s.heap.get? b = some o → b ≠ I ∧ b ≠ D ∧ b ≠ (D + 1 : Nat) := fun {b o} e => ⟨(fun q => by rw [q] at e; rw [x2 _ _ e] at hIn; cases hIn), hsome (x03 _ _ e)⟩
  have hTs : ∃ o, s.heap.get? T = some o := Option.isSome_iff_exists.mp ht.some
  have hT := hTs.elim fun o ho => hsI ho
  have hc1s := hc1.elim fun o ho => hsI ho.1
  have hc1T : c1 ≠ T := fun e => by
    obtain ⟨⟨vs, n, e2, _⟩, _⟩ := ht
    obtain ⟨o, ho, hd⟩ := hc1
    rw [e, e2] at ho
    rw [← Option.some.inj ho] at hd
    cases hd
  have Wk := Walks.range (prog := prog) (w := w) (A := A) g.hd I 0 1 m
  let J : Nat → Shared → Prop := fun k s' => ∃ i, i + k = m ∧ (∃ mC, s'.heap.Ns (D + 1) mC) ∧ (∃ ys n, s'.heap.get? D = some { cls := .type "list", data := .seq (List.toArray ys) n } ∧ StrsAre ys (((takeN ns i).map piece).map ofL)) ∧
      IsRangeIter s'.heap I (0 + (i : Nat) * 1) ((m : Int) - (i : Nat)) 1 ∧ TapeAt T (ns.drop i) s'.heap ∧ (∀ b o, b ≠ I → b ≠ T → h3.get? b = some o → s'.heap.get? b = some o) ∧ s'.gens = s.gens ∧ s'.drawn = s.drawn ∧ s'.os = s.os
  refine codeAny_compLoop_list J (fun k s1 hj => Exists.elim hj fun i r1 => an9 r1 fun j1 hC2 hY j7 jt j8 j9 j10 j11 => Exists.elim hC2 fun mC j2 => ex2 hY fun ys n r2 => an2 r2 fun j3 j4 => ?_) m ⟨0, by lia, ⟨_, hC⟩, ⟨[], 0, hD, .nil⟩, by simpa using e4 _ _ i3, ht.at fun o e => e4 _ _ (x03 _ _ e), fun b o _ _ e => e4 b o e, rfl, rfl, rfl⟩
  clear r2 hY hC2 r1 hj
  by_cases hlt : i < m
  · refine Wk.item i s1 _ _ hlt j7 fun v h5 tk5 hP hst hk => ?_
    have hk' : ∀ b o, b ≠ I → s1.heap.get? b = some o → h5.get? b = some o := fun b o nb e => hk b o (fun q => nb (List.mem_singleton.mp q)) e
    obtain ⟨ti, rfl⟩ := hP
    dsimp only
    have c5 : h5.Ns (D + 1) mC := j2.at fun o e => hk' _ o (fun q => hID.2 q.symm) e
    have d5 : h5.get? D = some { cls := .type "list", data := .seq ys.toArray n } := hk' D _ (fun q => hID.1 q.symm) j3
    have t5 : TapeAt T (ns.drop i) h5 := jt.at fun o e => hk' _ o hT.1 e
    have hbn : ∀ {b : Addr}, h3.get? b = none → hb.get? b = none := fun {b} e => by
      cases e2 : hb.get? b with
      | none => rfl
      | some o => rw [x03 _ _ (hx _ _ e2)] at e; cases e
    have hbI : hb.get? I = none := by
      cases e2 : hb.get? I with
      | none => rfl
      | some o => rw [x2 _ _ (hx _ _ e2)] at hIn; cases hIn
    have zok : ∀ z ∈ [D + 1, D, I, T], hb.get? z = none ∧ (h5.get? z).isSome = true := al4 ⟨hbn hCn, ns_some c5⟩ ⟨hbn hDn, by rw [d5]; rfl⟩ ⟨hbI, by rw [hst]; rfl⟩ ⟨hbT, t5.some⟩
    have k35 : ∀ b o, b ≠ I → b ≠ T → h3.get? b = some o → h5.get? b = some o := fun b o n1 n2 e => hk' b o n1 (j8 b o n1 n2 e)
    have xb : Ext hb h5 := fun b o e => by
      have e1 := hx _ _ e
      exact k35 b o (hsI e1).1 (by first | with_reducible exact neN hbT e | exact fun q => by rw [q, hbT] at e; cases e) (x03 _ _ e1)
    have F0 : Fs (KK w) mg mb (compEnvC scope [(Str.ofString "tape", c1)] (D + 1) env) (relabel scope env) (· ∈ [D + 1, D, I, T]) (punch h5 [D + 1, D, I, T]) { s1 with heap := h5, toks := tk5 } (fun h => h.get? D = some { cls := .type "list", data := .seq ys.toArray n } ∧ IsRangeIter h I (0 + ((i + 1 : Nat) : Int) * 1) ((m : Int) - ((i + 1 : Nat) : Int)) 1 ∧ TapeAt T (ns.drop i) h) [] { s1 with heap := h5, toks := tk5 } :=
      mkFs (s := { s1 with heap := h5, toks := tk5 }) (zs := [D + 1, D, I, T]) (fenv_comp fe hkind) W xb zok (.head _) c5 (fun n y q => by cases q) ⟨d5, hst, t5⟩ [D, I, T] (nM3 hCD (fun q => hID.2 q.symm) ((fun q => hT.2.2 q.symm))) (al3 ((zok _ (.tail _ (.head _))).2) ((zok _ (.tail _ (.tail _ (.head _)))).2) ((zok _ (.tail _ (.tail _ (.tail _ (.head _))))).2)) (fun h h' k x => ⟨k D (.head _) _ x.1, k I (.tail _ (.head _)) _ x.2.1, x.2.2.at fun o e => k T (.tail _ (.tail _ (.head _))) o e⟩)
    have ltu : (relabel scope env).names.lookup (Str.ofString "turn") = some .local := lookup_relabel_local (by rw [hn0]; rfl)
    refine PyProof.Rows.assign_Name (st_bind F0 (.int _ _) (fun s6 F6 => ?_) ltu)
    have hrt : (relabel scope env).names.lookup (Str.ofString "tape") = some .cell ∧ (relabel scope env).names.lookup (Str.ofString "_law_piece") = some .globalImplicit ∧ (relabel scope env).names.lookup (Str.ofString "_law_next") = some .globalImplicit := by
      unfold relabel
      rw [hn0]
      have h1 : env.kindOf (Str.ofString "tape") = some .cell := by unfold Env.kindOf; rw [fe.hsc]; exact hkt
      have h2 : env.scope.kind = .function := by rw [fe.hsc]; exact fe.ek
      simp only [List.map_cons, List.map_append, List.map_nil, List.cons_append, List.nil_append]
      rw [h1, h2]
      exact ⟨rfl, rfl, rfl⟩
    have k56 : ∀ b o, b ≠ (D + 1 : Nat) → b ≠ D → b ≠ I → b ≠ T → h5.get? b = some o → s6.heap.get? b = some o := fun b o n0 n1 n2 n3 e => punch_keep F6.base b o (nM4 n0 n1 n2 n3) e
    have hc6 : s6.heap.IsCell c1 (some (.ref T)) := by
      obtain ⟨o, ho, r⟩ := hc1
      exact ⟨o, k56 c1 o hc1s.2.2 hc1s.2.1 hc1s.1 hc1T (k35 c1 o hc1s.1 hc1T (x03 _ _ ho)), r⟩
    have htn : NmV prog w (compEnvC scope [(Str.ofString "tape", c1)] (D + 1) env) s6.heap (Str.ofString "tape") (.ref T) := nmv_cell hkind hrt.1 (by rfl) hc6 (by rfl)
    have x6 : Ext (punch h5 [D + 1, D, I, T]) s6.heap := F6.base
    refine ev_piece (hb := punch h5 [D + 1, D, I, T]) (g.le (by decide)) F6.wd x6 (by rw [punch_get, if_pos (by simp)]) (F6.glob (by kernel_rfl) hrt.2.1 (by rfl)) (F6.glob (by kernel_rfl) hrt.2.2 (by rfl)) htn F6.ow.2.2 fun h7 tk7 t7 k7 ht7 => ?_
    have d7 : h7.get? D = some { cls := .type "list", data := .seq ys.toArray n } := k7 D _ (fun q => hT.2.1 q.symm) F6.ow.1
    have hyl : ys.length = i := by rw [strs_len j4]; simp [takeN_len]
    refine append_at d7 (fun h8 hs8 g8 => ⟨k - 1, by lia, i + 1, by lia, ?_, ⟨ys ++ [.str (ofL (piece (nextN (ns.drop i)))) t7], n + 1, by rw [g8]; simp, ?_⟩, ?_, ?_, fun b o n1 n2 e => ?_, ?_, ?_, ?_⟩) (by rw [List.size_toArray]; exact Nat.le_trans (show ys.length ≤ 3 by lia) (by decide))
    · obtain ⟨m6, n6, _⟩ := F6.ns
      exact ⟨m6, (n6.at fun o e => k7 _ o (fun q => hT.2.2 q.symm) e).sameBut hs8 hCD⟩
    · rw [takeN_succ, List.map_append, List.map_append]
      exact strs_snoc j4
    · exact (hs8.2 I hID.1).trans (k7 I _ (fun q => hT.1 q.symm) F6.ow.2.1)
    · rw [List.drop_drop] at ht7
      exact ht7.at fun o e => (hs8.2 T hT.2.1).trans e
    · have hb2 := hsome e
      exact (hs8.2 b hb2.1).trans (k7 b o n2 (k56 b o hb2.2 hb2.1 n1 n2 (k35 b o n1 n2 e)))
    · exact F6.gens.1.trans j9
    · exact F6.gens.2.1.trans j10
    · exact F6.gens.2.2.trans j11
  · obtain rfl : i = m := by lia
    refine Wk.done s1 _ _ j7 fun h5 tk5 hk => ⟨rfl, mC, j2.at fun o e => hk _ o (fun q => hID.2 (List.mem_singleton.mp q).symm) e, fun h6 hsb => spliced_nil ?_⟩
    have k56 : ∀ b o, b ≠ (D + 1 : Nat) → b ≠ I → s1.heap.get? b = some o → h6.get? b = some o := fun b o n1 n2 e => (hsb.2 b n1).trans (hk b o (fun q => n2 (List.mem_singleton.mp q)) e)
    have hd6 := k56 D _ hCD.symm (fun q => hID.1 q.symm) j3
    refine join_list (s := { s1 with heap := h6, toks := tk5 }) (D := D) (items := ys.toArray) ⟨_, hd6, rfl, _, rfl⟩ (ys := ((takeN ns i).map piece).map ofL) j4 (by
      have h1 := parts_sum ns i
      have h2 : (Str.ofString "").length = 0 := by decide +kernel
      rw [h2, Nat.mul_zero, Nat.add_zero]
      have h3 : 10 * i ≤ 16777216 := Nat.le_trans (Nat.mul_le_mul_left 10 hm3) (by decide)
      exact Nat.le_trans h1 h3) fun t' k => ?_
    have ej : Txt.join (Str.ofString "") (((takeN ns i).map piece).map ofL) = ofL ((takeN ns i).flatMap piece) := by rw [emp_lit, join_parts, List.flatMap_def]
    have := q h6 k t' (fun b o nb e => k56 b o (hsI e).2.2 (hsI e).1 (j8 b o (hsI e).1 nb (x03 _ _ e))) (jt.at fun o e => k56 T o hT.2.2 hT.1 e)
    rw [← ej] at this
    rw [← sh_eq j9 j10 j11]; exact this
end
section
theorem none_of_ext {hb h : Heap} {b : Addr} (x : Ext hb h) (e : h.get? b = none) : hb.get? b = none := by
  cases e2 : hb.get? b with
  | none => rfl
  | some o => rw [x _ _ e2] at e; cases e
theorem cell_some {h : Heap} {c : Addr} {v : Option Value} (x : h.IsCell c v) : ∃ o, h.get? c = some o := let ⟨o, ho, _⟩ := x; ⟨o, ho⟩
/-- the law's frame -/
structure LawEnv (env : Env) (L c1 c2 : Addr) : Prop where
  fe : Fenv env lawScope
  hL : env.locals = L
  l1 : env.cells.lookup (Str.ofString "tape") = some c1
  l2 : env.cells.lookup (Str.ofString "mask") = some c2
  n12 : c1 ≠ c2
  n1 : c1 ≠ L
  n2 : c2 ≠ L
/-- the law's first six statements: tape .. keywords -/
theorem law_p1 {prog : Program} {w : World} {mg mb : Str → Option Value} {A : Around} {E : Value → Shared → Prop} {s : Shared} {hb : Heap} {env : Env} {L c1 c2 : Addr} {m : Str → Option Value} {a : Addr} {vs : List Value} {ns : List Int} {Q : Flow → Shared → Prop}
    (g : Gd 60 A) (W : Wd (KK w) mg mb hb) (hx : Ext hb s.heap) (le : LawEnv env L c1 c2) (bL : hb.get? L = none) (b1 : hb.get? c1 = none) (b2 : hb.get? c2 = none)
    (hm : s.heap.Ns L m) (hms : m (Str.ofString "script") = some (.ref a)) (e1 : s.heap.IsCell c1 none) (e2 : s.heap.IsCell c2 none) (ha : hb.IsList a vs.toArray) (hv : IntsAre vs ns) (hl : ns.length ≤ 63)
    (k : ∀ s' T ms ws lw lk us n m', Ext hb s'.heap → hb.get? T = none → hb.get? lw = none → hb.get? lk = none → T ≠ L → T ≠ c1 → lw ≠ L → lk ≠ L → T ≠ lw → T ≠ lk → s'.heap.IsCell c1 (some (.ref T)) → TapeAt T ms s'.heap → s'.heap.Ns L m' → m' (Str.ofString "words") = some (.ref lw) → m' (Str.ofString "keywords") = some (.ref lk) →
      s'.heap.get? lw = some { cls := .type "list", data := .seq (List.toArray us) n } → StrsAre us ws → ws.length ≤ 11 → KwFact prog w ws lk s'.heap → s'.gens = s.gens → s'.drawn = s.drawn → s'.os = s.os → wpAny (model prog w) A (execs (lawBody.drop 6) env) Q E s') :
    wpAny (model prog w) A (execs lawBody env) Q E s := by
  rw [show lawBody = _ :: _ :: _ :: _ :: _ :: _ :: lawBody.drop 6 from rfl]
  have fe := le.fe
  have hL := le.hL
  have kin : ∀ n kd, lawScope.names.lookup n = some kd → env.kindOf n = some kd := fun n kd e => by unfold Env.kindOf; rw [fe.hsc]; exact e
  have hpl : (env.scope.kind == .class || (env.scope.kind == .module && env.locals != env.globals)) = false := by rw [fe.hsc]; rfl
  have hfk : env.scope.kind = .function := by rw [fe.hsc]; exact fe.ek
  have k1 : env.kindOf (Str.ofString "tape") = some .cell := kin _ _ rfl
  have k2 : env.kindOf (Str.ofString "mask") = some .cell := kin _ _ rfl
  -- tape
  refine wpAny_execs_cons (wpAny_Assign_Name (tape_comp (g.le (by decide)) W hx fe rfl (by rw [hL]; exact hm) hms (let ⟨o, ho, r⟩ := ha; ⟨o, hx _ _ ho, r⟩) hv hl (by decide) (by decide) rfl (by decide) rfl fun T h1 tk1 us1 n1 ms hT x1 ht hus hml hmb => ?_) (sw_cell k1))
  have xb1 : Ext hb h1 := hx.trans x1
  have hTL : T ≠ L := fun e => by have := ns_some hm; rw [← e, hT] at this; cases this
  have hT1 : T ≠ c1 := fun e => by obtain ⟨o, ho⟩ := cell_some e1; rw [← e, hT] at ho; cases ho
  have hT2 : T ≠ c2 := fun e => by obtain ⟨o, ho⟩ := cell_some e2; rw [← e, hT] at ho; cases ho
  have bT : hb.get? T = none := none_of_ext hx hT
  refine wpAny_storeName_cell hfk k1 le.l1 (e1.keeps x1) fun h2 i2 s2 => ?_
  have t2 : TapeAt T ms h2 := ⟨⟨us1, n1, (s2.2 T hT1).trans ht, hus⟩, hml, hmb⟩
  have k02 : ∀ b o, b ≠ c1 → s.heap.get? b = some o → h2.get? b = some o := fun b o nb e => (s2.2 b nb).trans (x1 b o e)
  have xb2 : Ext hb h2 := fun b o e => k02 b o (by first | with_reducible exact neN b1 e | exact fun q => by rw [q, b1] at e; cases e) (hx b o e)
  have hm2 : h2.Ns L m := hm.at fun o e => k02 L o le.n1.symm e
  have W2 := W.keep xb2
  -- shape
  refine wpAny_execs_cons (wpAny_Assign_Name (wpAny_BinOp (ev_next (g.le (by decide)) W xb2 bT (nmv_glob W2 fe.hsc fe.ek fe.eg (by kernel_rfl) rfl (by rfl)) (nmv_cell hfk k1 le.l1 i2 (by rfl)) t2 fun h3 tk3 t3 k3 T3 => ?_)) (by rfl))
  refine wpAny_Constant_int ?_
  have op := op_mod (prog := prog) (w := w) (X := fun _ => False) (d := 20) (h := h3) (a := (nextN ms : Int)) (b := 4) (by decide) h3 _ _ (.refl _) (.int _ t3) (.int _ tk3)
  refine op A _ E _ (g.le (by decide)) (.refl _) fun v4 h4 tk4 x4 c4 => ?_
  (first | apply c4.refG | apply c4.noneG | apply c4.boolG | (apply c4.strG; intro _) | (apply c4.intG; intro _)); clear c4
  have k04 : ∀ b o, b ≠ c1 → b ≠ T → s.heap.get? b = some o → h4.get? b = some o := fun b o n1 n2 e => x4 b o (k3 b o n2 (k02 b o n1 e))
  have hm4 : h4.Ns L m := hm.at fun o e => k04 L o le.n1.symm hTL.symm e
  refine wpAny_storeName_local (kin _ _ rfl) (by rw [hL]; exact hm4) (fun h5 n5 s5 => ?_) hpl
  rw [hL] at n5 s5
  have t5 : TapeAt T (ms.drop 1) h5 := T3.at fun o e => (s5.2 T hTL).trans (x4 _ _ e)
  have i5 : h5.IsCell c1 (some (.ref T)) := by
    obtain ⟨o, ho, r⟩ := i2
    exact ⟨o, (s5.2 c1 le.n1).trans (x4 _ _ (k3 c1 o hT1.symm ho)), r⟩
  have k05 : ∀ b o, b ≠ c1 → b ≠ T → b ≠ L → s.heap.get? b = some o → h5.get? b = some o := fun b o n1 n2 n3 e => (s5.2 b n3).trans (k04 b o n1 n2 e)
  have xb5 : Ext hb h5 := fun b o e => k05 b o (by first | with_reducible exact neN b1 e | exact fun q => by rw [q, b1] at e; cases e) (by first | with_reducible exact neN bT e | exact fun q => by rw [q, bT] at e; cases e) (by first | with_reducible exact neN bL e | exact fun q => by rw [q, bL] at e; cases e) (hx b o e)
  have W5 := W.keep xb5
  have e5 : h5.IsCell c2 none := by obtain ⟨o, ho, r⟩ := e2; exact ⟨o, k05 c2 o le.n12.symm hT2.symm le.n2 ho, r⟩
  -- mask
  refine wpAny_execs_cons (wpAny_Assign_Name (ev_next (g.le (by decide)) W xb5 bT (nmv_glob W5 fe.hsc fe.ek fe.eg (by kernel_rfl) rfl (by rfl)) (nmv_cell hfk k1 le.l1 i5 (by rfl)) t5 fun h6 tk6 t6 k6 T6 => ?_) (by rfl))
  have e6 : h6.IsCell c2 none := by obtain ⟨o, ho, r⟩ := e5; exact ⟨o, k6 c2 o hT2.symm ho, r⟩
  refine wpAny_storeName_cell hfk k2 le.l2 e6 fun h7 i7 s7 => ?_
  have k57 : ∀ b o, b ≠ T → b ≠ c2 → h5.get? b = some o → h7.get? b = some o := fun b o n1 n2 e => (s7.2 b n2).trans (k6 b o n1 e)
  have t7 : TapeAt T ((ms.drop 1).drop 1) h7 := T6.at fun o e => (s7.2 T hT2).trans e
  have c7 : h7.IsCell c1 (some (.ref T)) := by obtain ⟨o, ho, r⟩ := i5; exact ⟨o, k57 c1 o hT1.symm le.n12 ho, r⟩
  have xb7 : Ext hb h7 := fun b o e => k57 b o (by first | with_reducible exact neN bT e | exact fun q => by rw [q, bT] at e; cases e) (by first | with_reducible exact neN b2 e | exact fun q => by rw [q, b2] at e; cases e) (xb5 b o e)
  have n7 := n5.at (h' := h7) fun o e => k57 L o hTL.symm le.n2.symm e
  -- words
  refine wpAny_execs_cons (words_comp (p17 := ⟨0, 0, 0, 0⟩) (p18 := ⟨0, 0, 0, 0⟩) (g.le (by decide)) W xb7 fe (by rw [hL]; exact n7) (by rw [hL]; exact bL) i7 le.l2 (by rw [hL]; exact le.n2) rfl rfl rfl rfl rfl rfl (by rfl) fun lw h8 tk8 us n ws m8 hlw n8 hmo hmw k8 hlist hus8 hwl hwb => ?_)
  rw [hL] at n8 k8
  have hlwL : lw ≠ L := fun e => by have := ns_some n7; rw [← e, hlw] at this; cases this
  have hTlw : T ≠ lw := fun e => by have := t7.some; rw [e, hlw] at this; cases this
  have blw : hb.get? lw = none := none_of_ext xb7 hlw
  have xb8 : Ext hb h8 := fun b o e => k8 b o (by first | with_reducible exact neN bL e | exact fun q => by rw [q, bL] at e; cases e) (xb7 b o e)
  have t8 : TapeAt T ((ms.drop 1).drop 1) h8 := t7.at fun o e => k8 T o hTL e
  have c8 : h8.IsCell c1 (some (.ref T)) := by obtain ⟨o, ho, r⟩ := c7; exact ⟨o, k8 c1 o le.n1 ho, r⟩
  have hsh8 : m8 (Str.ofString "shape") = some (.int ((nextN ms : Int).fmod 4) _) := (hmo _ (by decide)).trans (if_pos rfl)
  -- keywords = words
  refine wpAny_execs_cons (wpAny_Assign_Name (raw_name fe rfl (by rw [hL]; exact n8) hmw (wpAny_storeName_local (kin _ _ rfl) (by rw [hL]; exact n8) (fun h9 n9 s9 => ?_) hpl)) (by rfl))
  rw [hL] at n9 s9
  have xb9 : Ext hb h9 := fun b o e => (s9.2 b (by first | with_reducible exact neN bL e | exact fun q => by rw [q, bL] at e; cases e)).trans (xb8 b o e)
  have t9 : TapeAt T ((ms.drop 1).drop 1) h9 := t8.at fun o e => (s9.2 T hTL).trans e
  have c9 : h9.IsCell c1 (some (.ref T)) := by obtain ⟨o, ho, r⟩ := c8; exact ⟨o, (s9.2 c1 le.n1).trans ho, r⟩
  have l9 : h9.get? lw = some { cls := .type "list", data := .seq us.toArray n } := (s9.2 lw hlwL).trans hlist
  have hsh9 : (fun x => if x = Str.ofString "keywords" then some (Value.ref lw) else m8 x) (Str.ofString "shape") = _ := (if_neg (by decide)).trans hsh8
  have hmw9 : (fun x => if x = Str.ofString "keywords" then some (Value.ref lw) else m8 x) (Str.ofString "words") = _ := (if_neg (by decide)).trans hmw
  have hmk9 : (fun x => if x = Str.ofString "keywords" then some (Value.ref lw) else m8 x) (Str.ofString "keywords") = some (Value.ref lw) := if_pos rfl
  generalize (fun x => if x = Str.ofString "keywords" then some (Value.ref lw) else m8 x) = m9 at n9 hsh9 hmw9 hmk9
  have fin : ∀ s' lk m', (∀ b o, b ≠ L → h9.get? b = some o → s'.heap.get? b = some o) → hb.get? lk = none → lk ≠ L → T ≠ lk → s'.heap.Ns L m' → m' (Str.ofString "words") = some (.ref lw) → m' (Str.ofString "keywords") = some (.ref lk) → KwFact prog w ws lk s'.heap → s'.gens = s.gens → s'.drawn = s.drawn → s'.os = s.os → wpAny (model prog w) A (execs (lawBody.drop 6) env) Q E s' :=
    fun s' lk m' kk a1 a2 a3 a4 a5 a6 a7 a8 a9 a10 => k s' T _ ws lw lk us n m' (fun b o e => kk b o (by first | with_reducible exact neN bL e | exact fun q => by rw [q, bL] at e; cases e) (xb9 b o e)) bT blw a1 hTL hT1 hlwL a2 hTlw a3 (let ⟨o, ho, r⟩ := c9; ⟨o, kk c1 o le.n1 ho, r⟩) (t9.at fun o e => kk T o hTL e) a4 a5 a6 (kk lw _ hlwL l9) hus8 hwl a7 a8 a9 a10
  dsimp only
  have W9 := W.keep xb9
  have vsh : ∀ {h : Heap}, Ext h9 h → NmV prog w env h (Str.ofString "shape") (.int ((nextN ms : Int).fmod 4) _) := fun {h} x => nmv_loc fe rfl (by rw [hL]; exact n9.keeps x) hsh9
  have vwo : ∀ {h : Heap}, Ext h9 h → NmV prog w env h (Str.ofString "words") (.ref lw) := fun {h} x => nmv_loc fe rfl (by rw [hL]; exact n9.keeps x) hmw9
  refine wpAny_execs_cons (wpAny_If (ts_go (b := ((nextN ms : Int).fmod 4 == 1)) (d := 20) (g.le (by decide)) (ts_cmp (X := fun _ => False) (ev_nm ⟨_, .int _ _, vsh (.refl _)⟩) ev_int op_eq) fun h10 tk10 x10 => ?_))
  cases hb1 : ((nextN ms : Int).fmod 4 == 1) with
  | true =>
    rw [if_pos rfl]
    refine wpAny_execs_cons (wpAny_Assign_Name (PyProof.Rows.Call_Name1 (nmv_boot (W9.keep x10) fe.hsc fe.ek fe.eg fe.eb (by kernel_rfl) (by rfl : bootBuiltins (Str.ofString "tuple") = some (.type "tuple")) (by decide) rfl (by rfl) A _ E _ _ (.refl _) ?_) (by rfl)) (by rfl))
    refine PyProof.Rows.callWith_type (by rfl) (evalArgs_plain (spliced_cons (vwo x10 A _ E _ _ (.refl _) (spliced_nil ?_))))
    refine call_tuple_list (items := us.toArray) ⟨_, x10 _ _ l9, rfl, _, rfl⟩ (fun h11 x11 => ?_) (by rw [List.size_toArray, strs_len hus8]; exact Nat.le_trans hwl (by decide))
    dsimp only
    have x9 : Ext h9 (h11.push { cls := .type "tuple", data := .seq us.toArray }) := (x10.trans x11).trans (Ext.push _ _)
    refine wpAny_storeName_local (kin _ _ rfl) (by rw [hL]; exact n9.keeps x9) (fun h12 n12 s12 => wpAny_execs_nil ?_) hpl
    rw [hL] at n12 s12
    have ha : h11.get? h11.objs.size = none := get_size_none _
    have hn9 : h9.get? h11.objs.size = none := none_of_ext (x10.trans x11) ha
    have hkL : h11.objs.size ≠ L := fun e => by have := ns_some n9; rw [← e, hn9] at this; cases this
    exact fin _ h11.objs.size _ (fun b o nb e => (s12.2 b nb).trans (x9 b o e)) (none_of_ext xb9 hn9) hkL (fun e => by have := t9.some; rw [e, hn9] at this; cases this) n12 ((if_neg (by decide)).trans hmw9) (if_pos rfl) (.inr (.inl ⟨us, 0, (s12.2 _ hkL).trans (Heap.get?_push_size _ rfl), hus8⟩)) rfl rfl rfl
  | false =>
  rw [if_neg Bool.false_ne_true]
  refine wpAny_execs_cons (wpAny_If (ts_go (b := ((nextN ms : Int).fmod 4 == 2)) (d := 20) (g.le (by decide)) (ts_cmp (X := fun _ => False) (ev_nm ⟨_, .int _ _, vsh x10⟩) ev_int op_eq) fun h11 tk11 x11 => ?_))
  have x9 : Ext h9 h11 := x10.trans x11
  cases hb2 : ((nextN ms : Int).fmod 4 == 2) with
  | true =>
    rw [if_pos rfl]
    refine wpAny_execs_cons (wpAny_Assign_Name (PyProof.Rows.Call_Name1 (nmv_boot (W9.keep x9) fe.hsc fe.ek fe.eg fe.eb (by kernel_rfl) (by rfl : bootBuiltins (Str.ofString "set") = some (.type "set")) (by decide) rfl (by rfl) A _ E _ _ (.refl _) ?_) (by rfl)) (by rfl))
    refine PyProof.Rows.callWith_type (by rfl) (evalArgs_plain (spliced_cons (vwo x9 A _ E _ _ (.refl _) (spliced_nil ?_))))
    refine make_set (vs := us) (ss := ws) g.hd ⟨_, x9 _ _ l9, rfl, _, rfl⟩ hus8 (by lia) fun h12 tk12 f c hS hf x12 => ?_
    dsimp only at hS x12 ⊢
    have x9' : Ext h9 h12 := x9.trans x12
    refine wpAny_storeName_local (kin _ _ rfl) (by rw [hL]; exact n9.keeps x9') (fun h13 n13 s13 => wpAny_execs_nil (wpAny_execs_nil ?_)) hpl
    rw [hL] at n13 s13
    have ha : h11.get? h11.objs.size = none := get_size_none _
    have hn9 : h9.get? h11.objs.size = none := none_of_ext x9 ha
    have hkL : h11.objs.size ≠ L := fun e => by have := ns_some n9; rw [← e, hn9] at this; cases this
    refine fin { s with heap := h13, toks := _ } h11.objs.size (fun x => if x = Str.ofString "keywords" then some (.ref h11.objs.size) else m9 x) (fun b o nb e => (s13.2 b nb).trans (x9' b o e)) (none_of_ext xb9 hn9) hkL (fun e => by have := t9.some; rw [e, hn9] at this; cases this) n13 ((if_neg (by decide)).trans hmw9) (if_pos rfl) (KwFact.at (h := h12) (.inr (.inr (.inl ⟨f, c, hS, hf⟩))) fun o e => (s13.2 _ hkL).trans e) rfl rfl rfl
  | false =>
  rw [if_neg Bool.false_ne_true]
  refine wpAny_execs_cons (wpAny_If (ts_go (b := ((nextN ms : Int).fmod 4 == 3)) (d := 20) (g.le (by decide)) (ts_cmp (X := fun _ => False) (ev_nm ⟨_, .int _ _, vsh x9⟩) ev_int op_eq) fun h12 tk12 x12 => ?_))
  have x9' : Ext h9 h12 := x9.trans x12
  cases hb3 : ((nextN ms : Int).fmod 4 == 3) with
  | false =>
    rw [if_neg Bool.false_ne_true]
    refine wpAny_execs_nil (wpAny_execs_nil (wpAny_execs_nil ?_))
    exact fin _ lw m9 (fun b o _ e => x9' b o e) blw hlwL hTlw (n9.keeps x9') hmw9 hmk9 (.inl ⟨us, n, x9' _ _ l9, hus8⟩) rfl rfl rfl
  | true =>
    rw [if_pos rfl]
    refine wpAny_execs_cons (wpAny_Assign_Name (wpAny_Dict_empty ?_) (by rfl))
    have xD : Ext h12 (h12.push { cls := .type "dict", data := .dict #[] }) := Ext.push _ _
    have hD : (h12.push { cls := .type "dict", data := .dict #[] }).DictOf (strKind prog w) h12.objs.size [] := Heap.DictOf.new _
    dsimp only
    generalize h12.push { cls := .type "dict", data := .dict #[] } = h13 at xD hD
    have hdn : h12.get? h12.objs.size = none := get_size_none _
    have hms : (h12.objs.size == sysModules) = false := by
      have : h12.objs.size ≠ sysModules := lt_ne (Nat.le_refl _) (Nat.lt_trans (show sysModules < mainGlobals by decide) (W9.keep x9').g.lt)
      simpa using this
    generalize h12.objs.size = dd at hD hdn hms ⊢
    have x93 : Ext h9 h13 := x9'.trans xD
    refine wpAny_storeName_local (kin _ _ rfl) (by rw [hL]; exact n9.keeps x93) (fun h14 n14 s14 => ?_) hpl
    rw [hL] at n14 s14
    have hn9 : h9.get? dd = none := none_of_ext x9' hdn
    have hkL : dd ≠ L := fun e => by have := ns_some n9; rw [← e, hn9] at this; cases this
    have hdw : lw ≠ dd := fun e => by rw [e, hn9] at l9; cases l9
    have x14 : Ext hb h14 := fun b o e => (s14.2 b (by first | with_reducible exact neN bL e | exact fun q => by rw [q, bL] at e; cases e)).trans (x93 b o (xb9 b o e))
    refine wpAny_execs_cons (kw_loop (hb := hb) (mg := mg) (mb := mb) (sc := lawScope) (L := L) (dd := dd) (l := lw) (vs := us) (words := ws) (nl := n) (g.le (by decide)) fe W x14 hL bL (none_of_ext xb9 hn9) hkL.symm rfl rfl rfl rfl n14 (if_pos rfl) ((if_neg (by decide)).trans hmw9) ((s14.2 lw hlwL).trans (x93 _ _ l9)) hus8 hlwL hdw (by lia) hwb (hD.at fun o e => (s14.2 dd hkL).trans e) fun s5 kvs hn5 hd5 hx5 k5 g5 dr5 os5 => wpAny_execs_nil (wpAny_execs_nil (wpAny_execs_nil ?_)))
    obtain ⟨m5, n5, mk5, mw5⟩ := hn5
    refine fin s5 dd m5 (fun b o nb e => k5 b o nb (by first | with_reducible exact neN hn9 e | exact fun q => by rw [q, hn9] at e; cases e) ((s14.2 b nb).trans (x93 b o e))) (none_of_ext xb9 hn9) hkL (fun e => by have := t9.some; rw [e, hn9] at this; cases this) n5 mw5 mk5 (.inr (.inr (.inr ⟨kvs, hd5, hx5, hms⟩))) g5 dr5 os5
end
section
/-- what the law holds due -/
noncomputable def dueOf (ws : List Str) (kt : List TkD) : List DueD := (catD none kt).map (toDue ws)
noncomputable def bump (d : DueD) (x : Str) : DueD := { d with val := d.val ++ x }
noncomputable def lastS (hold : Bool) (l : List TkD) : Bool := match l.getLast? with | some u => decide (u.typ = strT) | none => hold
theorem lastS_cons (b : Bool) (u : TkD) (l : List TkD) : lastS b (u :: l) = lastS (decide (u.typ = strT)) l := by
  cases l with
  | nil => rfl
  | cons v l => unfold lastS; rw [List.getLast?_cons_cons]; rfl
theorem lastS_snoc (b : Bool) (l : List TkD) (t : TkD) : lastS b (l ++ [t]) = decide (t.typ = strT) := by unfold lastS; rw [List.getLast?_concat]
theorem kwT_str (ws : List Str) (v : Str) : kwT ws strT v = strT := by
  unfold kwT
  rw [if_neg]
  intro h
  exact absurd h.1 (by decide)
noncomputable def dueT (ws : List Str) (t : TkD) (v : Str) : DueD := ⟨kwT ws t.typ v, v, t.i.sp, t.i.fst, t.i.row, t.i.col⟩
noncomputable def dueE (ws : List Str) : Option (TkD × Str) → List TkD → List DueD
  | none, [] => []
  | some c, [] => [dueT ws c.1 c.2]
  | none, t :: r => if t.typ = strT then dueE ws (some (t, convV t)) r else dueT ws t (convV t) :: dueE ws none r
  | some c, t :: r => if t.typ = strT then dueE ws (some (c.1, c.2 ++ convV t)) r else dueT ws c.1 c.2 :: dueT ws t (convV t) :: dueE ws none r
theorem dE_ns {ws : List Str} {t : TkD} {r : List TkD} (h : t.typ = strT) : dueE ws none (t :: r) = dueE ws (some (t, convV t)) r := if_pos h
theorem dE_no {ws : List Str} {t : TkD} {r : List TkD} (h : ¬ t.typ = strT) : dueE ws none (t :: r) = dueT ws t (convV t) :: dueE ws none r := if_neg h
theorem dE_ss {ws : List Str} {c : TkD × Str} {t : TkD} {r : List TkD} (h : t.typ = strT) : dueE ws (some c) (t :: r) = dueE ws (some (c.1, c.2 ++ convV t)) r := if_pos h
theorem dE_so {ws : List Str} {c : TkD × Str} {t : TkD} {r : List TkD} (h : ¬ t.typ = strT) : dueE ws (some c) (t :: r) = dueT ws c.1 c.2 :: dueT ws t (convV t) :: dueE ws none r := if_neg h
theorem dueE_cat (ws : List Str) : ∀ (l : List TkD) (hold : Option CtD), (catD hold l).map (toDue ws) = dueE ws (hold.map fun c => (c.t, c.v)) l
  | [], none => rfl
  | [], some c => rfl
  | t :: r, none => by
    by_cases e : t.typ = strT
    · rw [catD_ns e, dueE_cat ws r]; show _ = dueE ws none (t :: r); rw [dueE, if_pos e]; rfl
    · rw [catD_no e, List.map_cons, dueE_cat ws r]; show _ = dueE ws none (t :: r); rw [dueE, if_neg e]; rfl
  | t :: r, some c => by
    by_cases e : t.typ = strT
    · rw [catD_ss e, dueE_cat ws r]; show _ = dueE ws (some (c.t, c.v)) (t :: r); rw [dueE, if_pos e]; rfl
    · rw [catD_so e, List.map_cons, List.map_cons, dueE_cat ws r]; show _ = dueE ws (some (c.t, c.v)) (t :: r); rw [dueE, if_neg e]; rfl
theorem dueE_snoc (ws : List Str) (t : TkD) : ∀ (l : List TkD) (hold : Option (TkD × Str)), (∀ c, hold = some c → c.1.typ = strT) →
    (lastS hold.isSome l = true → t.typ = strT → ∃ ds d, dueE ws hold l = ds ++ [d] ∧ d.kind = strT ∧ dueE ws hold (l ++ [t]) = ds ++ [bump d (convV t)]) ∧
    (¬ (lastS hold.isSome l = true ∧ t.typ = strT) → dueE ws hold (l ++ [t]) = dueE ws hold l ++ [dueT ws t (convV t)]) := by
  intro l
  induction l with
  | nil =>
    intro hold ho
    cases hold with
    | none =>
      refine ⟨(fun h => by cases h), fun _ => ?_⟩
      by_cases e : t.typ = strT
      · exact dE_ns e
      · exact dE_no e
    | some c =>
      have hc := ho c rfl
      refine ⟨fun _ e => ⟨[], dueT ws c.1 c.2, rfl, ?_, ?_⟩, fun h => ?_⟩
      · show kwT ws c.1.typ c.2 = strT; rw [hc]; exact kwT_str _ _
      · refine (dE_ss e).trans ?_
        show [dueT ws c.1 (c.2 ++ convV t)] = [] ++ [bump (dueT ws c.1 c.2) (convV t)]
        unfold dueT bump
        rw [hc, kwT_str, kwT_str]; rfl
      · have e : ¬ t.typ = strT := fun e => h ⟨rfl, e⟩
        exact dE_so e
  | cons u l ih =>
    intro hold ho
    rw [lastS_cons, List.cons_append]
    have pre : ∀ (p : List DueD) (b : Bool) (h2 : Option (TkD × Str)), h2.isSome = b → (∀ c, h2 = some c → c.1.typ = strT) → dueE ws hold (u :: l) = p ++ dueE ws h2 l → dueE ws hold (u :: (l ++ [t])) = p ++ dueE ws h2 (l ++ [t]) →
        (lastS b l = true → t.typ = strT → ∃ ds d, dueE ws hold (u :: l) = ds ++ [d] ∧ d.kind = strT ∧ dueE ws hold (u :: (l ++ [t])) = ds ++ [bump d (convV t)]) ∧
        (¬ (lastS b l = true ∧ t.typ = strT) → dueE ws hold (u :: (l ++ [t])) = dueE ws hold (u :: l) ++ [dueT ws t (convV t)]) := fun p b h2 hb hc e1 e2 => by
      obtain ⟨i1, i2⟩ := ih h2 hc
      rw [hb] at i1 i2
      refine ⟨fun a1 a2 => ?_, fun a => ?_⟩
      · obtain ⟨ds, d, x1, x2, x3⟩ := i1 a1 a2
        exact ⟨p ++ ds, d, by rw [e1, x1, List.append_assoc], x2, by rw [e2, x3, List.append_assoc]⟩
      · rw [e2, i2 a, e1, List.append_assoc]
    by_cases e : u.typ = strT
    · rw [decide_eq_true e]
      cases hold with
      | none => exact pre [] true (some (u, convV u)) rfl (fun c q => by cases q; exact e) (dE_ns e) (dE_ns e)
      | some c => exact pre [] true (some (c.1, c.2 ++ convV u)) rfl (fun c' q => by cases q; exact ho c rfl) (dE_ss e) (dE_ss e)
    · rw [decide_eq_false e]
      cases hold with
      | none => exact pre [dueT ws u (convV u)] false none rfl (fun c q => by cases q) (dE_no e) (dE_no e)
      | some c => exact pre [dueT ws c.1 c.2, dueT ws u (convV u)] false none rfl (fun c' q => by cases q) (dE_so e) (dE_so e)
theorem due_join (ws : List Str) (kt : List TkD) (t : TkD) (h : lastS false kt = true) (e : t.typ = strT) : ∃ ds d, dueOf ws kt = ds ++ [d] ∧ d.kind = strT ∧ dueOf ws (kt ++ [t]) = ds ++ [bump d (convV t)] := by
  unfold dueOf
  rw [dueE_cat, dueE_cat]
  exact (dueE_snoc ws t kt none fun c q => by cases q).1 h e
theorem due_add (ws : List Str) (kt : List TkD) (t : TkD) (h : ¬ (lastS false kt = true ∧ t.typ = strT)) : dueOf ws (kt ++ [t]) = dueOf ws kt ++ [dueT ws t (convV t)] := by
  unfold dueOf
  rw [dueE_cat, dueE_cat]
  exact (dueE_snoc ws t kt none fun c q => by cases q).2 h
theorem keepR_app : ∀ (a b : List Rw), keepR (a ++ b) = keepR a ++ keepR b
  | [], _ => rfl
  | .mark _ :: r, b => keepR_app r b
  | .tok t :: r, b => by
    show (if blankT t.typ then keepR (r ++ b) else t :: keepR (r ++ b)) = (if blankT t.typ then keepR r else t :: keepR r) ++ keepR b
    rw [keepR_app r b]
    split <;> rfl
end
section
noncomputable def loopBody : List Stmt := match lawBody.getD 9 (.Pass ⟨0, 0, 0, 0⟩) with | .While _ b _ _ => b | _ => []
/-- what stands during the loop -/
structure Stat (prog : Program) (w : World) (mg mb : Str → Option Value) (hb : Heap) (env : Env) (L c1 c2 T R D lw lk : Addr) (ws : List Str) (us : List Value) (nw : Nat) : Prop where
  le : LawEnv env L c1 c2
  W : Wd (KK w) mg mb hb
  nn : ∀ z ∈ [L, T, R, D], hb.get? z = none
  LT : T ≠ L
  LR : R ≠ L
  LD : D ≠ L
  TR : R ≠ T
  TD : D ≠ T
  RD : D ≠ R
  cell : hb.IsCell c1 (some (.ref T))
  wl : hb.get? lw = some { cls := .type "list", data := .seq us.toArray nw }
  wus : StrsAre us ws
  wlen : ws.length ≤ 11
  kw : KwFact prog w ws lk hb
noncomputable def refs (rows : List Rw) : List Value := (rows.map Rw.addr).map Value.ref
theorem refs_len (rows : List Rw) : (refs rows).length = rows.length := by simp [refs]
structure OwT (T R D : Addr) (ms : List Int) (rows : List Rw) (vs : List Value) (h : Heap) : Prop where
  t : TapeAt T ms h
  r : ∃ n, h.get? R = some { cls := .type "list", data := .seq (refs rows).toArray n }
  d : ∃ n, h.get? D = some { cls := .type "list", data := .seq vs.toArray n }
theorem OwT.at {T R D : Addr} {ms : List Int} {rows : List Rw} {vs : List Value} {h h' : Heap} (x : OwT T R D ms rows vs h) (k : ∀ b ∈ [T, R, D], ∀ o, h.get? b = some o → h'.get? b = some o) : OwT T R D ms rows vs h' :=
  ⟨x.t.at fun o e => k T (.head _) o e, let ⟨n, e⟩ := x.r; ⟨n, k R (.tail _ (.head _)) _ e⟩, let ⟨n, e⟩ := x.d; ⟨n, k D (.tail _ (.tail _ (.head _))) _ e⟩⟩
theorem OwT.some {T R D : Addr} {ms : List Int} {rows : List Rw} {vs : List Value} {h : Heap} (x : OwT T R D ms rows vs h) : ∀ b ∈ [T, R, D], (h.get? b).isSome = true := fun b hb => by
  simp only [List.mem_cons, List.not_mem_nil, or_false] at hb
  rcases hb with rfl | rfl | rfl
  · exact x.t.some
  · obtain ⟨n, e⟩ := x.r; rw [e]; rfl
  · obtain ⟨n, e⟩ := x.d; rw [e]; rfl
theorem ext_pp {h h' : Heap} {zs : List Addr} (x : Ext (punch h zs) h') : Ext (punch h zs) (punch h' zs) := fun b o e => by
  rw [punch_get]
  have hb : b ∉ zs := fun q => by rw [punch_get, if_pos q] at e; cases e
  rw [if_neg hb]
  exact x b o e
noncomputable abbrev FsT (w : World) (mg mb : Str → Option Value) (env : Env) (L T R D : Addr) (σ : Shared) (ms : List Int) (rows : List Rw) (vs : List Value) (l : List (Str × V)) (s : Shared) : Prop :=
  Fs (KK w) mg mb env lawScope (· ∈ [L, T, R, D]) (punch σ.heap [L, T, R, D]) σ (OwT T R D ms rows vs) l s
section
variable {prog : Program} {w : World} {mg mb : Str → Option Value} {A : Around} {E : Value → Shared → Prop} {Q : Flow → Shared → Prop} {hb : Heap} {env : Env} {L c1 c2 T R D lw lk : Addr} {ws : List Str} {us : List Value} {nw : Nat} {σ s : Shared} {ms : List Int} {rows : List Rw} {vs : List Value} {l : List (Str × V)} {ds : List DueD}
/-- a turn's state, founded anew -/
structure LJ (w : World) (mg mb : Str → Option Value) (hb : Heap) (env : Env) (L T R D : Addr) (σ : Shared) (ms : List Int) (rows : List Rw) (vs : List Value) (ds : List DueD) (l : List (Str × V)) (s : Shared) : Prop where
  fs : FsT w mg mb env L T R D s ms rows vs l s
  x : Ext hb s.heap
  du : All2 (DueAt (punch s.heap [L, T, R, D])) vs ds
  ok : ∀ r ∈ rows, RowOk (punch s.heap [L, T, R, D]) r
  tm : ∀ t ∈ keepR rows, TkM t.i t.typ t.val (punch s.heap [L, T, R, D]) ∧ ConvOk t
  nd : ((keepR rows).map (·.i.a)).Nodup
  fr : ∀ t ∈ keepR rows, hb.get? t.i.a = none
  gn : s.gens = σ.gens ∧ s.drawn = σ.drawn ∧ s.os = σ.os
theorem RowOk.ext {h h' : Heap} {r : Rw} (x : Ext h h') (k : RowOk h r) : RowOk h' r := by
  cases r with
  | mark a => obtain ⟨o, e, c⟩ := k; exact ⟨o, x _ _ e, c⟩
  | tok t => exact ⟨k.1.keep x, fun b => (k.2 b).keep x⟩
theorem DueAt.ext {h h' : Heap} {v : Value} {d : DueD} (x : Ext h h') (k : DueAt h v d) : DueAt h' v d := let ⟨a, t1, t2, t3, t4, t5, e, o⟩ := k; ⟨a, t1, t2, t3, t4, t5, e, x _ _ o⟩
theorem Stat.rebase (S : Stat prog w mg mb hb env L c1 c2 T R D lw lk ws us nw) (xb : Ext hb s.heap) {m : Str → Option Value} (hm : s.heap.Ns L m) (hl : ∀ n y, l.lookup n = some y → ∃ v, m n = some v ∧ Con (· ∈ [L, T, R, D]) s.heap y v) (ow : OwT T R D ms rows vs s.heap) : FsT w mg mb env L T R D s ms rows vs l s := by
  have hL := S.le.hL
  refine mkFs (s := s) (zs := [L, T, R, D]) S.le.fe S.W xb (fun z hz => ⟨S.nn z hz, ?_⟩) (by rw [hL]; exact .head _) (by rw [hL]; exact hm) hl ow [T, R, D] (fun q => ?_) ow.some fun h h' k x => x.at k
  · rcases List.mem_cons.mp hz with rfl | hz
    · exact ns_some hm
    · exact ow.some z hz
  · rw [hL] at q
    simp only [List.mem_cons, List.not_mem_nil, or_false] at q
    exact q.elim (fun q => S.LT q.symm) fun q => q.elim (fun q => S.LR q.symm) fun q => S.LD q.symm
/-- steps that only read and make -/
theorem LJ.step (S : Stat prog w mg mb hb env L c1 c2 T R D lw lk ws us nw) {σ0 : Shared} {ms' : List Int} {l' : List (Str × V)} {s' : Shared} (J : LJ w mg mb hb env L T R D σ0 ms rows vs ds l s) (F : FsT w mg mb env L T R D s ms' rows vs l' s') : LJ w mg mb hb env L T R D σ0 ms' rows vs ds l' s' := by
  have xp := ext_pp F.base
  have xb : Ext hb s'.heap := (ext_punch J.x fun z hz => S.nn z hz).trans F.base
  obtain ⟨m, hm, hl⟩ := F.ns
  rw [S.le.hL] at hm
  have gg := F.gens
  exact ⟨S.rebase xb hm hl F.ow, xb, J.du.imp fun a b k => k.ext xp, fun r hr => (J.ok r hr).ext xp, fun t ht => ⟨(J.tm t ht).1.keep xp, (J.tm t ht).2⟩, J.nd, J.fr, ⟨gg.1.trans J.gn.1, gg.2.1.trans J.gn.2.1, gg.2.2.trans J.gn.2.2⟩⟩
/-- the tape was read -/
theorem FsT.tape (S : Stat prog w mg mb hb env L c1 c2 T R D lw lk ws us nw) (F : FsT w mg mb env L T R D σ ms rows vs l s) {h' : Heap} {tk : Nat} {ms' : List Int} (k : ∀ b o, b ≠ T → s.heap.get? b = some o → h'.get? b = some o) (ht : TapeAt T ms' h') : FsT w mg mb env L T R D σ ms' rows vs l { s with heap := h', toks := tk } := by
  have ow : OwT T R D ms' rows vs h' := ⟨ht, let ⟨n, e⟩ := F.ow.r; ⟨n, k R _ S.TR e⟩, let ⟨n, e⟩ := F.ow.d; ⟨n, k D _ S.TD e⟩⟩
  refine F.turn (wr := [T]) (fun a ha => ?_) (fun b o nb e => k b o (fun q => nb (List.mem_singleton.mpr q)) e) (fun a ha => ?_) ow [T, R, D] (fun q => ?_) ow.some fun h h' k x => x.at k
  · rw [List.mem_singleton.mp ha]
    exact ⟨.tail _ (.head _), by rw [punch_get, if_pos (.tail _ (.head _))], by rw [S.le.hL]; exact S.LT⟩
  · rw [List.mem_singleton.mp ha]; exact ht.some
  · rw [S.le.hL] at q
    simp only [List.mem_cons, List.not_mem_nil, or_false] at q
    exact q.elim (fun q => S.LT q.symm) fun q => q.elim (fun q => S.LR q.symm) fun q => S.LD q.symm
theorem FsT.cell (S : Stat prog w mg mb hb env L c1 c2 T R D lw lk ws us nw) (x : Ext hb s.heap) : NmV prog w env s.heap (Str.ofString "tape") (.ref T) :=
  nmv_cell (by rw [S.le.fe.hsc]; rfl) (by unfold Env.kindOf; rw [S.le.fe.hsc]; rfl) S.le.l1 (S.cell.keeps x) (by rfl)
theorem bi_len_ref {X : Addr → Prop} {d : Nat} {h : Heap} {a : Addr} {vs : List Value} {n : Nat} (e : h.get? a = some { cls := .type "list", data := .seq vs.toArray n }) (hx : vs.length ≤ 1000000) : ∀ h' us, Ext h h' → ConL X h' [.ref a] us → Yl prog w X d h' (call (.builtin "len") us) (.int vs.length) := fun h' us x c A Q E s g e2 q => by
  cases c with | cons c1 c2 => cases c1; cases c2; exact len_list ⟨_, e2 _ _ (x _ _ e), rfl, n, rfl⟩ (by rw [List.size_toArray]; lia) (by rw [List.size_toArray]; exact q _ s.heap _ (.refl _) (.int _ _))
noncomputable def lB (lw lk R D : Addr) (j : Bool) : List (Str × V) := [(Str.ofString "words", .ref lw), (Str.ofString "keywords", .ref lk), (Str.ofString "rows", .ref R), (Str.ofString "due", .ref D), (Str.ofString "joins", .bool j)]
noncomputable def spN (n : Nat) : Str := Txt.mul (Str.ofString " ") ((n % 3 : Nat) : Int)
noncomputable def lH (n rl : Nat) (r : List (Str × V)) : List (Str × V) := (Str.ofString "column", .int (1 + 3 * (rl : Int))) :: (Str.ofString "line", .int (1 + ((rl / 4 : Nat) : Int))) :: (Str.ofString "first", .bool (n % 7 == 0)) :: (Str.ofString "space", .str (spN n)) ::
  (Str.ofString "sort", .int ((n % 10 : Nat) : Int)) :: (Str.ofString "rest", .int ((n / 10 : Nat) : Int)) :: r
/-- a turn's first three statements -/
theorem turn_head (g : Gd 40 A) (S : Stat prog w mg mb hb env L c1 c2 T R D lw lk ws us nw) {j : Bool} (J : LJ w mg mb hb env L T R D σ ms rows vs ds (lB lw lk R D j) s) (hrl : rows.length ≤ 100)
    (k : ∀ s', LJ w mg mb hb env L T R D σ (ms.drop 1) rows vs ds (lH (nextN ms) rows.length (lB lw lk R D j)) s' → wpAny (model prog w) A (execs (loopBody.drop 3) env) Q E s') :
    wpAny (model prog w) A (execs loopBody env) Q E s := by
  rw [show loopBody = _ :: _ :: _ :: loopBody.drop 3 from rfl]
  have F0 := J.fs
  have g0 := g.le (show 20 ≤ 40 by decide)
  have hn := nextN_eq F0.ow.t.2.2
  refine wpAny_execs_cons (wpAny_Assign_Name (ev_next (hb := punch s.heap [L, T, R, D]) (g.le (by decide)) F0.wd F0.base (by rw [punch_get, if_pos (.tail _ (.head _))]) (F0.glob (by kernel_rfl) rfl (by rfl)) (FsT.cell S J.x) F0.ow.t fun h1 tk1 t1 k1 ht1 => ?_) (by rfl))
  refine st_bind (FsT.tape S F0 (tk := tk1) k1 ht1) (.int _ _) (fun s F => ?_) rfl
  clear F0
  generalize hnn : nextN ms = n at F hn k
  walk_at "s_pair"
  intro s F
  have F := F.to ((Str.ofString "sort", .int ((n % 10 : Nat) : Int)) :: (Str.ofString "rest", .int ((n / 10 : Nat) : Int)) :: (Str.ofString "n", .int (n : Int)) :: lB lw lk R D j) ⟨by rw [← mod_nat]; rfl, by rw [← div_nat]; rfl, rfl, rfl, rfl, rfl, rfl, rfl, trivial⟩
  obtain ⟨nr, hR⟩ := F.ow.r
  have e3 : (n : Int).fmod 3 = ((n % 3 : Nat) : Int) := mod_nat
  have e7 : (n : Int).fmod 7 = ((n % 7 : Nat) : Int) := mod_nat
  have hlen := bi_len_ref (prog := prog) (w := w) (X := (· ∈ [L, T, R, D])) (d := 20) hR (by rw [refs_len]; lia)
  refine s_four F g0 (ev_tuple F.xa (Nat.le_of_ble_eq_true rfl) (evs_cons (ev_bin ev_str (ev_bin (by walk_at "m_ev") ev_int (op_mod (by decide))) (op_reps (by rw [e3]; lia) (by rw [e3]; lia) (by decide))) (evs_cons (ev_cmp (ev_bin (by walk_at "m_ev") ev_int (op_mod (by decide))) ev_int op_eq (by with_unfolding_all rfl)) (evs_cons (ev_bin ev_int (ev_bin (ev_bi (by walk_at "m_boot") (evs_cons (by walk_at "m_ev") evs_nil rfl) hlen rfl rfl) ev_int (op_div (by decide) (by decide))) op_add) (evs_cons (ev_bin ev_int (ev_bin ev_int (ev_bi (by walk_at "m_boot") (evs_cons (by walk_at "m_ev") evs_nil rfl) hlen rfl rfl) (op_mul (.of_left (by decide)))) op_add) evs_nil rfl) rfl) rfl) rfl)) rfl rfl rfl rfl ?_ (fun s F => ?_) rfl
  · rfl
  · refine k s (LJ.step S J (F.to _ ⟨?_, ?_, ?_, ?_, rfl, rfl, rfl, rfl, rfl, rfl, rfl, trivial⟩))
    · rw [← refs_len rows]; rfl
    · have e4 : ((rows.length : Nat) : Int).fdiv 4 = ((rows.length / 4 : Nat) : Int) := div_nat
      rw [← e4, ← refs_len rows]; rfl
    · show some (V.bool ((n : Int).fmod 7 == 0)) = some (V.bool (n % 7 == 0))
      rw [e7]
      congr 2
      rw [Bool.eq_iff_iff, beq_iff_eq, beq_iff_eq]; lia
    · show some (V.str (Txt.mul _ ((n : Int).fmod 3))) = some (V.str (Txt.mul _ _))
      rw [e3]
end
end
section
section
variable {prog : Program} {w : World} {mg mb : Str → Option Value} {A : Around} {E : Value → Shared → Prop} {Q : Flow → Shared → Prop} {hb : Heap} {env : Env} {L c1 c2 T R D lw lk : Addr} {ws : List Str} {us : List Value} {nw : Nat} {σ s : Shared} {ms : List Int} {rows : List Rw} {vs : List Value} {l : List (Str × V)} {ds : List DueD} {rest : List Stmt}
theorem refs_snoc (rows : List Rw) (r : Rw) : refs (rows ++ [r]) = refs rows ++ [.ref r.addr] := by simp [refs]
/-- rows.append(..) of a new row -/
theorem s_appR (S : Stat prog w mg mb hb env L c1 c2 T R D lw lk ws us nw) (J : LJ w mg mb hb env L T R D σ ms rows vs ds l s) (hlk : l.lookup (Str.ofString "rows") = some (.ref R)) (hrl : rows.length ≤ 100) (P : Rw → Prop) {e : PySem.Expr} {np ap cp q : Pos}
    (he : wpAny (model prog w) A (eval e env) (fun v s1 => ∃ r h1 tk, v = .ref r.addr ∧ s1 = { s with heap := h1, toks := tk } ∧ Ext s.heap h1 ∧ s.heap.get? r.addr = none ∧ RowOk h1 r ∧ (∀ t ∈ keepR [r], TkM t.i t.typ t.val h1 ∧ ConvOk t) ∧ (∀ t, r = .tok t → s.heap.get? t.i.dx = none ∧ s.heap.get? t.i.lx = none ∧ s.heap.get? t.i.ldx = none) ∧ P r) E s)
    (k : ∀ s' r, P r → LJ w mg mb hb env L T R D σ ms (rows ++ [r]) vs ds l s' → wpAny (model prog w) A (execs rest env) Q E s')
    (hs : starEach [e] env = [(false, eval e env)] := by rfl) (hline : (ap.endLine == cp.line) = true := by rfl)
    (hsw : swapsWith (.Call (.Attribute (.Name (Str.ofString "rows") np) "append" ap) [e] [] cp) none q.line env = pure false := by rfl) :
    wpAny (model prog w) A (execs (.Expr (.Call (.Attribute (.Name (Str.ofString "rows") np) "append" ap) [e] [] cp) q :: rest) env) Q E s := by
  have F0 := J.fs
  refine wpAny_execs_cons (wpAny_Expr ?_ (by unfold interactive; rw [F0.hsc]; rfl) hsw)
  refine Call_method1 (by rfl) hs hline ?_
  refine F0.locR (prog := prog) (w := w) hlk rfl (by rfl) fun hv0 => ?_
  refine hv0 A _ E s np (.refl _) ?_
  obtain ⟨n, hget⟩ := F0.ow.r
  refine ⟨"list", _, PySem.F.plainAttrs_list, PySem.F.slot_list_append, PySem.F.type_list_append, ⟨_, hget, rfl⟩, (fun b eq => by cases eq; exact ⟨_, hget, rfl⟩), ?_⟩
  refine callWith_builtin (by rfl) (evalArgs_plain (spliced_cons (wpAny_mono he (fun v s1 hv => ?_) fun _ _ x => x)))
  obtain ⟨r, h1, tk, rfl, rfl, x1, hrn, hok, htk, hdl, hP⟩ := hv
  have F1 : FsT w mg mb env L T R D s ms rows vs l { s with heap := h1, toks := tk } := F0.ext x1
  have J1 := LJ.step S J F1
  refine spliced_nil (append_at (x1 _ _ hget) (fun h2 hs2 hg2 => ?_) (by show (refs rows).toArray.size ≤ sizeLine; rw [List.size_toArray, refs_len]; exact Nat.le_trans hrl (by decide)))
  refine k _ r hP ?_
  -- the new state
  have hzs : ∀ z ∈ [L, T, R, D], (s.heap.get? z).isSome = true := fun z hz => F0.xa z hz
  have hnz : ∀ {b : Addr}, s.heap.get? b = none → b ∉ [L, T, R, D] := fun {b} e hz => by have := hzs b hz; rw [e] at this; cases this
  have x12 : Ext (punch h1 [L, T, R, D]) h2 := fun b o e => by
    have hb : b ∉ [L, T, R, D] := fun q => by rw [punch_get, if_pos q] at e; cases e
    rw [punch_get, if_neg hb] at e
    exact (hs2.2 b (fun q => hb (by rw [q]; simp))).trans e
  have xp := ext_pp x12
  have xb : Ext hb h2 := (ext_punch J1.x fun z hz => S.nn z hz).trans x12
  obtain ⟨m, hm, hl⟩ := F1.ns
  rw [S.le.hL] at hm
  have hm2 : h2.Ns L m := hm.at fun o e => (hs2.2 L (fun q => S.LR q.symm)).trans e
  have hl2 : ∀ n y, l.lookup n = some y → ∃ v, m n = some v ∧ Con (· ∈ [L, T, R, D]) h2 y v := fun n y q => by
    obtain ⟨v, a, c⟩ := hl n y q
    exact ⟨v, a, c.keepX fun b o nb e => (hs2.2 b (fun q => nb (by rw [q]; simp))).trans e⟩
  have ow2 : OwT T R D ms (rows ++ [r]) vs h2 := ⟨F1.ow.t.at fun o e => (hs2.2 T (fun q => S.TR q.symm)).trans e, ⟨n + 1, by rw [hg2, refs_snoc]; simp⟩, let ⟨n', e⟩ := F1.ow.d; ⟨n', (hs2.2 D S.RD).trans e⟩⟩
  have hold : ∀ t ∈ keepR rows, (s.heap.get? t.i.a).isSome = true := fun t ht => by
    obtain ⟨t1, t2, e⟩ := (J.tm t ht).1
    rw [punch_ext _ _ _ _ e]; rfl
  have hrz : r.addr ∉ [L, T, R, D] := hnz hrn
  have pk : ∀ {b : Addr} {o : Obj}, b ∉ [L, T, R, D] → h1.get? b = some o → (punch h2 [L, T, R, D]).get? b = some o := fun {b o} nb e => xp b o (by rw [punch_get, if_neg nb]; exact e)
  refine ⟨S.rebase (s := { s with heap := h2, toks := tk }) xb hm2 hl2 ow2, xb, J1.du.imp fun a b k => k.ext xp, fun r' hr' => ?_, fun t ht => ?_, ?_, fun t ht => ?_, J.gn⟩
  · rcases List.mem_append.mp hr' with hr' | hr'
    · exact (J1.ok r' hr').ext xp
    · obtain rfl := List.mem_singleton.mp hr'
      cases hr : r' with
      | mark a =>
        subst hr
        obtain ⟨o, e, c⟩ := hok
        exact ⟨o, pk hrz e, c⟩
      | tok t =>
        subst hr
        obtain ⟨d1, d2, d3⟩ := hdl t rfl
        exact ⟨⟨pk (hnz d1) hok.1.d, hok.1.sp, hok.1.fs, pk (hnz d2) hok.1.l, pk (hnz d3) hok.1.ld⟩, fun b => let ⟨t1, t2, e⟩ := hok.2 b; ⟨t1, t2, pk hrz e⟩⟩
  · rw [keepR_app] at ht
    rcases List.mem_append.mp ht with ht | ht
    · exact ⟨(J1.tm t ht).1.keep xp, (J1.tm t ht).2⟩
    · have hrt := (keepR_mem ht).1
      obtain rfl := List.mem_singleton.mp hrt
      exact ⟨let ⟨t1, t2, e⟩ := (htk t ht).1; ⟨t1, t2, pk hrz e⟩, (htk t ht).2⟩
  · rw [keepR_app, List.map_append]
    refine List.nodup_append.mpr ⟨J.nd, ?_, ?_⟩
    · cases r with
      | mark a => exact List.nodup_nil
      | tok t =>
        unfold keepR
        split
        · exact List.nodup_nil
        · exact List.nodup_cons.mpr ⟨List.not_mem_nil, List.nodup_nil⟩
    · intro a ha b hb e
      subst e
      obtain ⟨t, ht, rfl⟩ := List.mem_map.mp ha
      obtain ⟨t', ht', e⟩ := List.mem_map.mp hb
      have hrt := (keepR_mem ht').1
      obtain rfl := List.mem_singleton.mp hrt
      have := hold t ht
      rw [← e] at this
      have e2 : s.heap.get? t'.i.a = none := hrn
      rw [e2] at this; cases this
  · rw [keepR_app] at ht
    rcases List.mem_append.mp ht with ht | ht
    · exact J.fr t ht
    · have hrt := (keepR_mem ht).1
      obtain rfl := List.mem_singleton.mp hrt
      exact none_of_ext J.x hrn
/-- sort 3: a LineInfo -/
theorem turn_mark (g : Gd 40 A) (S : Stat prog w mg mb hb env L c1 c2 T R D lw lk ws us nw) {j : Bool} {n : Nat} (J : LJ w mg mb hb env L T R D σ ms rows vs ds (lH n rows.length (lB lw lk R D j)) s) (hrl : rows.length ≤ 100)
    (q3 : n % 10 = 3 → ∀ s' a, LJ w mg mb hb env L T R D σ ms (rows ++ [.mark a]) vs ds (lH n rows.length (lB lw lk R D j)) s' → Q .cont s')
    (k : n % 10 ≠ 3 → ∀ s', LJ w mg mb hb env L T R D σ ms rows vs ds (lH n rows.length (lB lw lk R D j)) s' → wpAny (model prog w) A (execs (loopBody.drop 4) env) Q E s') :
    wpAny (model prog w) A (execs (loopBody.drop 3) env) Q E s := by
  rw [show loopBody.drop 3 = _ :: loopBody.drop 4 from rfl]
  have F := J.fs
  have g0 := g.le (show 20 ≤ 40 by decide)
  have P1 := @flags_pf w mg mb prog
  refine s_if (c := (((n % 10 : Nat) : Int) == 3)) F g0 (ts_cmp (by walk_at "m_ev") ev_int op_eq (by with_unfolding_all rfl)) ?_ ?_
  · intro h s F
    have h3 : n % 10 = 3 := by have := eq_of_beq h; lia
    have J := LJ.step S J F
    have W := F.world
    refine s_appR S J rfl hrl (fun r => ∃ a, r = .mark a) ?_ (fun s' r hr J' => ?_)
    · refine PyProof.Rows.Call_Name rfl (F.glob (v := .ref 47) (by kernel_rfl) rfl (by rfl) A _ E s _ (.refl _) ?_)
      have e3 : ((n / 10 : Nat) : Int).fmod 3 = ((n / 10 % 3 : Nat) : Int) := mod_nat
      have hj : n / 10 % 3 < 3 := Nat.mod_lt _ (by decide)
      have hfl : ∃ z, (flagsM.map fun x => V.tup (x.map .int))[(((n / 10 % 3 : Nat) : Int)).toNat]? = some z := by
        rw [Int.toNat_natCast]
        exact ⟨_, List.getElem?_eq_getElem (by show _ < 3; exact hj)⟩
      obtain ⟨z, hz⟩ := hfl
      have hl3 : (flagsM.map fun x => V.tup (x.map .int)).length ≤ 1000000 := Nat.le_trans (show 3 ≤ 3 from Nat.le_refl 3) (by decide)
      generalize hFl : (flagsM.map fun x => V.tup (x.map .int)) = Fl at hz hl3
      have P1' : Pf (KK w) mg mb prog w 1 259 (fun xs z => xs = [] ∧ z = V.lst Fl) := by rw [← hFl]; exact P1
      clear P1
      have ev1 : Ev prog w (· ∈ [L, T, R, D]) 20 env s.heap _ (.lst Fl) := ev_call0 (fp := ⟨261, 46, 261, 56⟩) (pos := ⟨261, 46, 261, 58⟩) F.world F.xa (F.glob (n := Str.ofString "_law_FLAGS") (v := .ref 259) (by kernel_rfl) rfl (by rfl)) rfl rfl P1' (by decide) ⟨rfl, rfl⟩
      have ev2 : Ev prog w (· ∈ [L, T, R, D]) 20 env s.heap (.BinOp (.Name (Str.ofString "rest") ⟨261, 59, 261, 63⟩) .Mod (.Constant (.int 3) 0 ⟨261, 66, 261, 67⟩) ⟨261, 59, 261, 67⟩) (.int ((n / 10 % 3 : Nat) : Int)) := by rw [← e3]; exact ev_bin (by walk_at "m_ev") ev_int (op_mod (by decide))
      have ev3 : Ev prog w (· ∈ [L, T, R, D]) 20 env s.heap _ z := ev_sub (pos := ⟨261, 46, 261, 68⟩) ev1 ev2 (it_lst (Int.natCast_nonneg _) hz hl3 (fun _ _ => rfl))
      have hev := evs_cons (pos := ⟨261, 24, 261, 69⟩) (show Ev prog w (· ∈ [L, T, R, D]) 20 env s.heap (.Name (Str.ofString "line") ⟨261, 33, 261, 37⟩) _ from by walk_at "m_ev") (evs_cons (ev_str (i := Str.ofString "t.c") (k := 0) (pos := ⟨261, 39, 261, 44⟩)) (evs_cons ev3 evs_nil rfl) rfl) rfl
      refine callWith_K W.kin (by kernel_rfl) (hev A _ E s g0 (.refl _) fun ws h1 tk1 e1 c1 => ⟨W.kin.keeps e1, ?_⟩)
      apply c1.threeG; clear c1; intro _ _ _ d1 d2 d3
      refine make_mark (g.le (by decide)) (W.keep e1) fun h2 tk2 o x2 ho hc => ⟨.mark (h1.objs.size + 1), h2, tk2, rfl, rfl, e1.trans x2, ?_, ⟨o, ho, hc⟩, (fun t ht => by cases ht), (fun t ht => by cases ht), _, rfl⟩
      exact none_of_ext e1 (ge_none (Nat.le_succ _))
    · obtain ⟨a, rfl⟩ := hr
      exact s_cont (q3 h3 _ a J')
  · intro h s F
    have h3 : n % 10 ≠ 3 := fun e => by rw [e] at h; cases h
    exact s_nil (k h3 _ (LJ.step S J F))
end
end
section
theorem ofL_app (a b : List Nat) : ofL a ++ ofL b = ofL (a ++ b) := lit_cat (ofL_list a)
theorem len_app (a b : Str) : (a ++ b).length = a.length + b.length := by show (a.cps ++ b.cps).size = _; rw [Array.size_append]; rfl
inductive KindO : Nat → Str → Str → Prop
  | blank {n : Nat} {typ val : Str} : n = 4 → blankT typ = true → typ ≠ strT → typ ≠ charTy → val.length ≤ 100 → KindO n typ val
  | id {n : Nat} {val : Str} : n ≠ 4 → val.length ≤ 100 → KindO n idT val
  | char {n : Nat} (c : List Nat) : n ≠ 4 → c.length ≤ 100 → OkT c → KindO n charTy (ofL c)
  | other {n : Nat} {typ val : Str} : n ≠ 4 → blankT typ = false → typ ≠ strT → typ ≠ charTy → typ ≠ idT → val.length ≤ 100 → KindO n typ val
theorem blanks_ok : ∀ i < 3, ∀ x, blanksM[i]? = some x → blankT x.1 = true ∧ x.1 ≠ strT ∧ x.1 ≠ charTy ∧ x.2.length ≤ 100 := by
  intro i hi x hx
  have : i = 0 ∨ i = 1 ∨ i = 2 := by lia
  rcases this with rfl | rfl | rfl <;> (simp [blanksM] at hx; subst hx; decide +kernel)
theorem numbers_ok : ∀ x ∈ numbersM, x.length ≤ 100 := by decide +kernel
theorem signs_ok : ∀ x ∈ signsM, x.length ≤ 100 ∧ blankT x = false ∧ x ≠ strT ∧ x ≠ charTy ∧ x ≠ idT := by decide +kernel
theorem number_ok : blankT (Str.ofString "NUMBER") = false ∧ Str.ofString "NUMBER" ≠ strT ∧ Str.ofString "NUMBER" ≠ charTy ∧ Str.ofString "NUMBER" ≠ idT := by decide +kernel
theorem pre_char (k : Nat) (h : k < 2) : Txt.mul (Str.ofString "L") (k : Int) ++ Str.ofString "'" = ofL ((if decide (k = 1) then [76] else []) ++ [39]) := by
  have : k = 0 ∨ k = 1 := by lia
  rcases this with rfl | rfl <;> decide +kernel
section
variable {K : Frag} {mg mb : Str → Option Value} {prog : Program} {w : World} {Z : Addr → Prop} {d : Nat} {env : Env} {sc : Scope} {h₀ : Heap} {σ s : Shared} {Ow Ow' : Heap → Prop} {l : List (Str × V)}
variable {A : Around} {rest : List Stmt} {Q : Flow → Shared → Prop} {E : Value → Shared → Prop}
/-- a, b = e1, e2 where the evaluation turns something -/
theorem s_pairG {a b : Str} {e : PySem.Expr} {x y : V} {p1 p2 tp q : Pos} {k0 : Nat} (F0 : Fs K mg mb env sc Z h₀ σ Ow l s) (g : Gd d A) (he : wpAny (model prog w) A (eval e env) (fun v s1 => Fs K mg mb env sc Z h₀ σ Ow' l s1 ∧ Con Z s1.heap (.tup [x, y]) v) E s) (ha : sc.names.lookup a = some .local) (hb : sc.names.lookup b = some .local)
    (hw : ∀ env' : Env, env'.scope = sc → swappedStores [.Tuple [.Name a p1, .Name b p2] k0 tp] e env' = pure (some [a, b]))
    (k : ∀ s', Fs K mg mb env sc Z h₀ σ Ow' ((a, x) :: (b, y) :: l) s' → wpAny (model prog w) A (execs rest env) Q E s')
    (hs : swapsWithSole [.Tuple [.Name a p1, .Name b p2] k0 tp] e q.line env = pure false := by rfl) :
    wpAny (model prog w) A (execs (.Assign [.Tuple [.Name a p1, .Name b p2] k0 tp] e q :: rest) env) Q E s := by
  refine wpAny_execs_cons (Assign_Tuple_swapped (wpAny_mono he (fun v s1 h1 => ?_) fun _ _ x => x) hs (hw env F0.hsc))
  obtain ⟨F1, c1⟩ := h1
  refine unpack_con g c1 rfl fun vs h2 e2 c2 => ?_
  cases c2 with
  | cons c2 c3 =>
    cases c3 with
    | cons c3 c4 =>
      cases c4
      show wpAny _ _ (assignInOrder [fun v => bindName env b v, fun v => bindName env a v] [_, _]) _ _ _
      exact as_cons (wpAny_bindName (st_bindX (F1.ext e2) c3 (fun s' F' e3 => as_cons (wpAny_bindName (st_bind F' (c2.keepX e3) (fun s2 F2 => as_nil (k s2 F2)) ha))) hb))
end
section
variable {prog : Program} {w : World} {mg mb : Str → Option Value} {A : Around} {E : Value → Shared → Prop} {Q : Flow → Shared → Prop} {hb : Heap} {env : Env} {L c1 c2 T R D lw lk : Addr} {ws : List Str} {us : List Value} {nw : Nat} {σ s : Shared} {ms : List Int} {rows : List Rw} {vs : List Value} {l : List (Str × V)} {ds : List DueD} {rest : List Stmt}
noncomputable def lS (txt : List Nat) (l : List (Str × V)) : List (Str × V) := (Str.ofString "val", .str (ofL (34 :: (txt ++ [34])))) :: (Str.ofString "text", .str (ofL txt)) :: (Str.ofString "kind", .str strT) :: l
noncomputable def lO (typ val : Str) (l : List (Str × V)) : List (Str × V) := (Str.ofString "kind", .str typ) :: (Str.ofString "val", .str val) :: l
theorem dq_lit : Str.ofString "\"" = ofL [34] := by decide +kernel
/-- sorts 0, 1, 2: a STRING -/
theorem kind_str (g : Gd 40 A) (S : Stat prog w mg mb hb env L c1 c2 T R D lw lk ws us nw) {j : Bool} {n rl : Nat} (J : LJ w mg mb hb env L T R D σ ms rows vs ds (lH n rl (lB lw lk R D j)) s)
    (kS : n % 10 < 3 → ∀ s' txt k, OkT txt → txt.length ≤ 60 → LJ w mg mb hb env L T R D σ (ms.drop k) rows vs ds (lS txt (lH n rl (lB lw lk R D j))) s' → wpAny (model prog w) A (execs (loopBody.drop 5) env) Q E s')
    (kO : n % 10 ≠ 3 → 3 ≤ n % 10 → ∀ s' typ val k, KindO (n % 10) typ val → LJ w mg mb hb env L T R D σ (ms.drop k) rows vs ds (lO typ val (lH n rl (lB lw lk R D j))) s' → wpAny (model prog w) A (execs (loopBody.drop 5) env) Q E s') (h3 : n % 10 ≠ 3) :
    wpAny (model prog w) A (execs (loopBody.drop 4) env) Q E s := by
  rw [show loopBody.drop 4 = _ :: loopBody.drop 5 from rfl]
  have F := J.fs
  have g0 := g.le (show 20 ≤ 40 by decide)
  have mz : ∀ b : Nat, ((n / 10 : Nat) : Int).fmod (b : Int) = ((n / 10 % b : Nat) : Int) := fun b => mod_nat
  refine s_if (c := decide (((n % 10 : Nat) : Int) < 3)) F g0 (ts_cmp (by walk_at "m_ev") ev_int op_lt (by with_unfolding_all rfl)) ?_ ?_
  · intro h s F
    have hlt : n % 10 < 3 := by have := of_decide_eq_true h; lia
    refine s_assign F g0 ev_str rfl (fun s F => ?_) (by rfl)
    have J := LJ.step S J F
    have F := J.fs
    have e3 := mz 3
    refine wpAny_execs_cons (wpAny_Assign_Name (text_comp (p8 := ⟨0, 0, 0, 0⟩) (X := (· ∈ [L, T, R, D])) (m := 1 + n / 10 % 3) (hb := punch s.heap [L, T, R, D]) (sc := lawScope) (g.le (by decide)) F.wd F.base (by rw [punch_get, if_pos (.tail _ (.head _))]) S.le.fe (S.cell.keeps J.x) S.le.l1 F.ow.t rfl rfl ?_ (by lia) rfl rfl (by rfl) (by rfl) fun h1 tk1 t1 k1 ht1 => ?_) (by rfl))
    · have hv : (1 : Int) + ((n / 10 : Nat) : Int).fmod 3 = ((1 + n / 10 % 3 : Nat) : Int) := by rw [show (3 : Int) = ((3 : Nat) : Int) from rfl, e3]; lia
      rw [← hv]
      exact ev_bin ev_int (ev_bin (by walk_at "m_ev") ev_int (op_mod (by decide))) op_add
    · refine st_bind (FsT.tape S F (tk := tk1) k1 ht1) (.str _ _) (fun s F => ?_) rfl
      have hok := ok_string (takeN ms (1 + n / 10 % 3)) (by rw [takeN_len]; lia)
      have hlen : ((takeN ms (1 + n / 10 % 3)).flatMap piece).length ≤ 60 := by
        have : ∀ l : List Nat, (l.flatMap piece).length ≤ 10 * l.length := fun l => by
          induction l with
          | nil => exact Nat.le_refl _
          | cons a r ih => rw [List.flatMap_cons, List.length_append, List.length_cons]; have := piece_len a; lia
        have := this (takeN ms (1 + n / 10 % 3))
        rw [takeN_len] at this
        lia
      generalize (takeN ms (1 + n / 10 % 3)).flatMap piece = txt at F hok hlen
      have hv : Str.ofString "\"" ++ ofL txt ++ Str.ofString "\"" = ofL (34 :: (txt ++ [34])) := by rw [dq_lit, ofL_app, ofL_app]; simp
      refine s_assign F g0 (ev_bin (ev_bin ev_str (by walk_at "m_ev") (op_cat (by rw [ofL_len, dq_lit, ofL_len]; simp; lia))) ev_str (op_cat (by rw [len_app, ofL_len, dq_lit, ofL_len]; simp; lia))) rfl (fun s F => s_nil ?_) (by rfl)
      rw [hv] at F
      exact kS hlt _ txt _ hok hlen (LJ.step S J F)
  · intro h s F
    have hge : 3 ≤ n % 10 := by have := of_decide_eq_false h; lia
    have hlt10 : n % 10 < 10 := Nat.mod_lt _ (by decide)
    have P1 := @blanks_pf w mg mb prog
    have P2 := @words_pf w mg mb prog
    have P3 := @numbers_pf w mg mb prog
    have P4 := @signs_pf w mg mb prog
    refine s_if (c := (((n % 10 : Nat) : Int) == 4)) F g0 (ts_cmp (by walk_at "m_ev") ev_int op_eq (by with_unfolding_all rfl)) ?_ ?_
    · intro h s F
      have h4 : n % 10 = 4 := by have := eq_of_beq h; lia
      have e3 := mz 3
      have hj : n / 10 % 3 < 3 := Nat.mod_lt _ (by decide)
      have hz : ∃ x, blanksM[n / 10 % 3]? = some x := ⟨_, List.getElem?_eq_getElem (by show _ < 3; exact hj)⟩
      obtain ⟨x, hx⟩ := hz
      have hok := blanks_ok _ hj x hx
      have hz : (blanksM.map fun x => V.tup [.str x.1, .str x.2])[(((n / 10 % 3 : Nat) : Int)).toNat]? = some (V.tup [.str x.1, .str x.2]) := by
        rw [Int.toNat_natCast, List.getElem?_map, hx]; rfl
      have hl3 : (blanksM.map fun x => V.tup [.str x.1, .str x.2]).length ≤ 1000000 := Nat.le_trans (show 3 ≤ 3 from Nat.le_refl 3) (by decide)
      generalize hFl : (blanksM.map fun x => V.tup [.str x.1, .str x.2]) = Fl at hz hl3
      have P1' : Pf (KK w) mg mb prog w 1 252 (fun xs z => xs = [] ∧ z = V.lst Fl) := by rw [← hFl]; exact P1
      clear P1 P2 P3 P4
      have ev1 : Ev prog w (· ∈ [L, T, R, D]) 20 env s.heap _ (.lst Fl) := ev_call0 (fp := ⟨268, 24, 268, 35⟩) (pos := ⟨268, 24, 268, 37⟩) F.world F.xa (F.glob (n := Str.ofString "_law_BLANKS") (v := .ref 252) (by kernel_rfl) rfl (by rfl)) rfl rfl P1' (by decide) ⟨rfl, rfl⟩
      have ev2 : Ev prog w (· ∈ [L, T, R, D]) 20 env s.heap (.BinOp (.Name (Str.ofString "rest") ⟨268, 38, 268, 42⟩) .Mod (.Constant (.int 3) 0 ⟨268, 45, 268, 46⟩) ⟨268, 38, 268, 46⟩) (.int ((n / 10 % 3 : Nat) : Int)) := by rw [← e3]; exact ev_bin (by walk_at "m_ev") ev_int (op_mod (by decide))
      refine s_pair' F g0 (ev_sub (pos := ⟨268, 24, 268, 47⟩) ev1 ev2 (it_lst (Int.natCast_nonneg _) hz hl3 (fun _ _ => rfl))) rfl rfl (by rfl) (fun s F => s_nil (s_nil ?_)) (by rfl)
      have F := F.to (lO x.1 x.2 (lH n rl (lB lw lk R D j))) ⟨rfl, rfl, rfl, rfl, rfl, rfl, rfl, rfl, rfl, rfl, rfl, rfl, rfl, trivial⟩
      exact kO h3 hge _ _ _ 0 (.blank h4 hok.1 hok.2.1 hok.2.2.1 hok.2.2.2) (LJ.step S J F)
    intro h s F
    have h4 : n % 10 ≠ 4 := fun e => by rw [e] at h; cases h
    refine s_if (c := decide (((n % 10 : Nat) : Int) < 7)) F g0 (ts_cmp (by walk_at "m_ev") ev_int op_lt (by with_unfolding_all rfl)) ?_ ?_
    · intro h s F
      have e8 := mz 8
      have hj : n / 10 % 8 < wordsM.length := Nat.lt_trans (Nat.mod_lt _ (by decide)) (show 8 < 11 by decide)
      have hok := wordsM_len _ (List.getElem_mem hj)
      refine s_pair F g0 (ev_tuple F.xa (Nat.le_of_ble_eq_true rfl) (evs_cons ev_str (evs_cons (ev_menuS (by walk_at "m_call0") (ev_bin (by walk_at "m_ev") ev_int (op_mod (by decide))) e8 hj (by decide) (fun _ _ => rfl)) evs_nil rfl) rfl)) rfl rfl ?_ (fun s F => s_nil (s_nil (s_nil ?_))) (by rfl)
      · rintro ⟨_, _, _, _, _, _, _, _, _⟩ hsc; cases hsc; exact rfl
      · exact kO h3 hge _ _ _ 0 (.id h4 hok) (LJ.step S J F)
    intro h s F
    have h7 : 7 ≤ n % 10 := by have := of_decide_eq_false h; lia
    refine s_if (c := (((n % 10 : Nat) : Int) == 7)) F g0 (ts_cmp (by walk_at "m_ev") ev_int op_eq (by with_unfolding_all rfl)) ?_ ?_
    · intro h s F
      have e4 := mz 4
      have hj : n / 10 % 4 < numbersM.length := Nat.mod_lt _ (show 0 < 4 by decide)
      have hok := numbers_ok _ (List.getElem_mem hj)
      refine s_pair F g0 (ev_tuple F.xa (Nat.le_of_ble_eq_true rfl) (evs_cons ev_str (evs_cons (ev_menuS (by walk_at "m_call0") (ev_bin (by walk_at "m_ev") ev_int (op_mod (by decide))) e4 hj (by decide) (fun _ _ => rfl)) evs_nil rfl) rfl)) rfl rfl ?_ (fun s F => s_nil (s_nil (s_nil (s_nil ?_)))) (by rfl)
      · rintro ⟨_, _, _, _, _, _, _, _, _⟩ hsc; cases hsc; exact rfl
      · exact kO h3 hge _ _ _ 0 (.other h4 number_ok.1 number_ok.2.1 number_ok.2.2.1 number_ok.2.2.2 hok) (LJ.step S J F)
    intro h s F
    refine s_if (c := (((n % 10 : Nat) : Int) == 8)) F g0 (ts_cmp (by walk_at "m_ev") ev_int op_eq (by with_unfolding_all rfl)) ?_ ?_
    · intro h s F
      have J := LJ.step S J F
      have F := J.fs
      have e2 := mz 2
      have hj : n / 10 % 2 < 2 := Nat.mod_lt _ (by decide)
      have hpc := pre_char _ hj
      have evL : Ev prog w (· ∈ [L, T, R, D]) 20 env s.heap (.BinOp (.BinOp (.Constant (.str (Str.ofString "L")) 0 ⟨274, 33, 274, 36⟩) .Mult (.BinOp (.Name (Str.ofString "rest") ⟨274, 40, 274, 44⟩) .Mod (.Constant (.int 2) 0 ⟨274, 47, 274, 48⟩) ⟨274, 40, 274, 48⟩) ⟨274, 33, 274, 49⟩) .Add (.Constant (.str (Str.ofString "'")) 0 ⟨274, 52, 274, 55⟩) ⟨274, 33, 274, 55⟩) (.str (ofL ((if decide (n / 10 % 2 = 1) then [76] else []) ++ [39]))) := by
        rw [← hpc]
        refine ev_bin (ev_bin ev_str (by rw [← e2]; exact ev_bin (by walk_at "m_ev") ev_int (op_mod (by decide))) (op_reps (by lia) (by lia) (by decide))) ev_str (op_cat ?_)
        have : n / 10 % 2 = 0 ∨ n / 10 % 2 = 1 := by lia
        rcases this with e | e <;> rw [e] <;> decide +kernel
      generalize hpre : (if decide (n / 10 % 2 = 1) then [76] else []) ++ [39] = pre at evL
      have hprel : pre.length ≤ 2 := by rw [← hpre]; split <;> decide
      refine s_pairG (Ow' := OwT T R D (ms.drop 1) rows vs) (x := .str charTy) (y := .str (ofL (charT (decide (n / 10 % 2 = 1)) (nextN ms)))) F g0 ?_ rfl rfl ?_ (fun s F => s_nil (s_nil (s_nil (s_nil (s_nil ?_))))) (by rfl)
      · refine Tuple_ (spliced_cons (Constant_str (k := 0) (pos := ⟨274, 25, 274, 31⟩) (spliced_cons (wpAny_BinOp (wpAny_BinOp ?_)))))
        have Fc : FsT w mg mb env L T R D s ms rows vs (lH n rl (lB lw lk R D j)) { s with heap := s.heap, toks := s.toks + 1 } := F.ext (.refl _)
        refine evL A _ E { s with heap := s.heap, toks := s.toks + 1 } g0 (.refl _) fun v1 h1 tk1 x1 c1 => ?_
        have F1 := Fc.ext (tk := tk1) x1
        (first | apply c1.refG | apply c1.noneG | apply c1.boolG | (apply c1.strG; intro _) | (apply c1.intG; intro _)); clear c1
        rename_i t1
        refine ev_piece (hb := punch s.heap [L, T, R, D]) (g.le (by decide)) F1.wd F1.base (by rw [punch_get, if_pos (.tail _ (.head _))]) (F1.glob (by kernel_rfl) rfl (by rfl)) (F1.glob (by kernel_rfl) rfl (by rfl)) (FsT.cell S (J.x.trans x1)) F1.ow.t fun h2 tk2 t2 k2 ht2 => ?_
        have F2 := FsT.tape S F1 (tk := tk2) k2 ht2
        have pl := piece_len (nextN ms)
        have o1 := op_cat (prog := prog) (w := w) (X := (· ∈ [L, T, R, D])) (d := 20) (h := h2) (a := ofL pre) (b := ofL (piece (nextN ms))) (by rw [ofL_len, ofL_len]; lia) h2 _ _ (.refl _) (.str _ t1) (.str _ t2)
        refine o1 A _ E _ g0 (.refl _) fun v3 h3 tk3 x3 c3 => ?_
        have F3 := F2.ext (tk := tk3) x3
        (first | apply c3.refG | apply c3.noneG | apply c3.boolG | (apply c3.strG; intro _) | (apply c3.intG; intro _)); clear c3
        rename_i t3
        refine Constant_str (k := 0) (pos := ⟨274, 88, 274, 91⟩) ?_
        have o2 := op_cat (prog := prog) (w := w) (X := (· ∈ [L, T, R, D])) (d := 20) (h := h3) (a := ofL pre ++ ofL (piece (nextN ms))) (b := Str.ofString "'") (by rw [len_app, ofL_len, ofL_len, show (Str.ofString "'").length = 1 from rfl]; lia) h3 _ _ (.refl _) (.str _ t3) (.str _ tk3)
        refine o2 A _ E _ g0 (.refl _) fun v4 h4 tk4 x4 c4 => ?_
        have F4 := F3.ext (tk := tk4) x4
        (first | apply c4.refG | apply c4.noneG | apply c4.boolG | (apply c4.strG; intro _) | (apply c4.intG; intro _)); clear c4
        rename_i t4
        have hv : ofL pre ++ ofL (piece (nextN ms)) ++ Str.ofString "'" = ofL (charT (decide (n / 10 % 2 = 1)) (nextN ms)) := by
          rw [show Str.ofString "'" = ofL [39] by decide +kernel, ofL_app, ofL_app, ← hpre]
          unfold charT
          simp
        refine spliced_nil (wpAny_newObj_type ⟨F4.ext (Ext.push _ _), ?_⟩ (by size_fits))
        refine .tup (vs := [.str charTy _, .str _ t4]) (Heap.get?_push_size _ rfl) F4.xa.fresh (.cons (.str _ _) (.cons ?_ .nil))
        rw [← hv]
        exact .str _ _
      · rintro ⟨_, _, _, _, _, _, _, _, _⟩ hsc; cases hsc; exact rfl
      · have hln : (charT (decide (n / 10 % 2 = 1)) (nextN ms)).length ≤ 100 := by
          unfold charT
          have := piece_len (nextN ms)
          rw [List.length_append, List.length_cons, List.length_append]
          split <;> simp <;> lia
        exact kO h3 hge _ _ _ 1 (.char _ h4 hln (ok_char _ _)) (LJ.step S J F)
    intro h s F
    have e5 := mz 5
    have hj : n / 10 % 5 < signsM.length := Nat.mod_lt _ (show 0 < 5 by decide)
    have hok := signs_ok _ (List.getElem_mem hj)
    refine s_pair F g0 (ev_tuple F.xa (Nat.le_of_ble_eq_true rfl) (evs_cons (ev_menuS (by walk_at "m_call0") (ev_bin (by walk_at "m_ev") ev_int (op_mod (by decide))) e5 hj (by decide) (fun _ _ => rfl)) (evs_cons (ev_menuS (by walk_at "m_call0") (ev_bin (by walk_at "m_ev") ev_int (op_mod (by decide))) e5 hj (by decide) (fun _ _ => rfl)) evs_nil rfl) rfl)) rfl rfl ?_ (fun s F => s_nil (s_nil (s_nil (s_nil (s_nil ?_))))) (by rfl)
    · rintro ⟨_, _, _, _, _, _, _, _, _⟩ hsc; cases hsc; exact rfl
    · exact kO h3 hge _ _ _ 0 (.other h4 hok.2.1 hok.2.2.1 hok.2.2.2.1 hok.2.2.2.2 hok.1) (LJ.step S J F)
end
end
section
section
variable {w : World} {mg mb : Str → Option Value} {A : Around} {E : Value → Shared → Prop} {Q : Flow → Shared → Prop} {hb : Heap} {env : Env} {L c1 c2 T R D lw lk : Addr} {ws : List Str} {us : List Value} {nw : Nat} {σ s : Shared} {ms : List Int} {rows : List Rw} {vs : List Value} {l : List (Str × V)} {ds : List DueD} {rest : List Stmt}
/-- rows.append(CToken(..)) -/
theorem turn_tok (g : Gd 60 A) (S : Stat PW w mg mb hb env L c1 c2 T R D lw lk ws us nw) (J : LJ w mg mb hb env L T R D σ ms rows vs ds l s) (hrl : rows.length ≤ 100) {typ val sp : Str} {b : Bool} {row col : Int}
    (hk : l.lookup (Str.ofString "kind") = some (.str typ)) (hv : l.lookup (Str.ofString "val") = some (.str val)) (hs : l.lookup (Str.ofString "space") = some (.str sp)) (hf : l.lookup (Str.ofString "first") = some (.bool b)) (hl : l.lookup (Str.ofString "line") = some (.int row)) (hc : l.lookup (Str.ofString "column") = some (.int col)) (hr : l.lookup (Str.ofString "rows") = some (.ref R))
    (cv : ∀ i, ConvOk ⟨i, typ, val⟩)
    (k : ∀ s' t, t.typ = typ → t.val = val → t.i.sp = sp → t.i.fst = b → t.i.row = row → t.i.col = col → LJ w mg mb hb env L T R D σ ms (rows ++ [.tok t]) vs ds l s' → wpAny (model PW w) A (execs (loopBody.drop 6) env) Q E s') :
    wpAny (model PW w) A (execs (loopBody.drop 5) env) Q E s := by
  rw [show loopBody.drop 5 = _ :: loopBody.drop 6 from rfl]
  have F := J.fs
  have W := F.world
  refine s_appR S J hr hrl (fun r => ∃ t, r = .tok t ∧ t.typ = typ ∧ t.val = val ∧ t.i.sp = sp ∧ t.i.fst = b ∧ t.i.row = row ∧ t.i.col = col) ?_ (fun s' r hP J' => ?_)
  · refine F.locS (prog := PW) (w := w) hk rfl (by rfl) fun t1 q1 => ?_
    refine F.locS (prog := PW) (w := w) hv rfl (by rfl) fun t2 q2 => ?_
    refine F.locS (prog := PW) (w := w) hs rfl (by rfl) fun t3 q3 => ?_
    refine F.locB (prog := PW) (w := w) hf rfl (by rfl) fun q4 => ?_
    refine F.locI (prog := PW) (w := w) hl rfl (by rfl) fun t5 q5 => ?_
    refine F.locI (prog := PW) (w := w) hc rfl (by rfl) fun t6 q6 => ?_
    refine PyProof.Rows.Call_Name rfl (F.glob (v := .ref 199) (by kernel_rfl) rfl (by rfl) A _ E s _ (.refl _) ?_)
    refine callWith_K W.kin (by kernel_rfl) (spliced_cons (q1 A _ E s _ (.refl _) (spliced_cons (q2 A _ E s _ (.refl _) (spliced_cons (q3 A _ E s _ (.refl _) (spliced_cons (q4 A _ E s _ (.refl _) (spliced_cons ?_)))))))))
    refine PyProof.Rows.Call_Name rfl (F.glob (v := .ref 151) (by kernel_rfl) rfl (by rfl) A _ E s _ (.refl _) ?_)
    refine callWith_K W.kin (by kernel_rfl) (spliced_cons (Constant_str (k := 0) (pos := ⟨277, 67, 277, 72⟩) (spliced_cons (q5 A _ E _ _ (.refl _) (spliced_cons (q6 A _ E _ _ (.refl _) (spliced_cons (wpAny_Constant_int (k := 0) (pos := ⟨277, 88, 277, 89⟩) (spliced_nil ⟨W.kin, ?_⟩)))))))))
    refine make_loc (g.le (by decide)) W fun h1 tk1 x1 e1 e2 => spliced_nil ⟨W.kin.keeps x1, ?_⟩
    dsimp only at x1 e1 e2 ⊢
    refine make_tok (g.le (by decide)) (W.keep x1) e2 rfl fun h2 tk2 es kk u1 u2 x2 e3 es1 es2 e4 => ?_
    dsimp only at x2 e3 e4 ⊢
    obtain ⟨f1, f2, f3, e2'⟩ : ∃ f1 f2 f3, h1.get? (s.heap.objs.size + 1 : Nat) = some { cls := .ref 151, dict := some s.heap.objs.size, data := .plain, slots := #[some (.int col t6), f1, f2, some (.int row t5), f3] } := ⟨_, _, _, e2⟩
    let i : TkI := ⟨h1.objs.size + 1, h1.objs.size, s.heap.objs.size + 1, s.heap.objs.size, es, kk, f1, f2, f3, t6, t5, t3, sp, b, row, col⟩
    have hci : TkC i h2 := ⟨e3, es1, es2, x2 _ _ e2', x2 _ _ e1⟩
    have hmi : TkM i typ val h2 := ⟨u1, u2, e4⟩
    have n0 : s.heap.get? (s.heap.objs.size : Nat) = none := get_size_none _
    have n1 : s.heap.get? (s.heap.objs.size + 1 : Nat) = none := ge_none (Nat.le_succ _)
    have n2 : s.heap.get? (h1.objs.size : Nat) = none := none_of_ext x1 (get_size_none _)
    have n3 : s.heap.get? (h1.objs.size + 1 : Nat) = none := none_of_ext x1 (ge_none (Nat.le_succ _))
    refine ⟨.tok ⟨i, typ, val⟩, h2, tk2, rfl, rfl, x1.trans x2, n3, ⟨hci, fun _ => hmi⟩, fun t ht => ?_, fun t ht => by cases ht; exact ⟨n2, n1, n0⟩, ⟨i, typ, val⟩, rfl, rfl, rfl, rfl, rfl, rfl, rfl⟩
    obtain rfl := List.mem_singleton.mp (keepR_mem ht).1 |> fun e => (Rw.tok.inj e)
    exact ⟨hmi, cv _⟩
  · obtain ⟨t, rfl, a1, a2, a3, a4, a5, a6⟩ := hP
    exact k _ t a1 a2 a3 a4 a5 a6 J'
end
end
section
section
variable {prog : Program} {w : World} {A : Around} {E : Value → Shared → Prop} {s : Shared}
/-- due[-1] = v -/
theorem setItem_last {l : Addr} {xs : List Value} {x0 : Value} {n : Nat} {t : Tok} {v : Value} {Q : Unit → Shared → Prop} (hl : s.heap.get? l = some { cls := .type "list", data := .seq (xs ++ [x0]).toArray n })
    (hQ : ∀ h' n', h'.get? l = some { cls := .type "list", data := .seq (xs ++ [v]).toArray n' } → Heap.SameBut l s.heap h' → Q () { s with heap := h' }) :
    wpAny (model prog w) A (setItem (.ref l) (.int (Int.negSucc 0) t) v) Q E s := by
  obtain ⟨k, hk⟩ : ∃ k, k = Int.negSucc 0 := ⟨_, rfl⟩
  rw [← hk]
  have hL : s.heap.IsList l (xs ++ [x0]).toArray := ⟨_, hl, rfl, _, rfl⟩
  unfold setItem
  try with_reducible refine wpAny_holding ?_
  first | refine wpAny_bind (wpAny_pure ?_) | skip
  refine wpAny_bind (wpAny_sequenceKey hL.typeIs (by decide) ?_)
  refine wpAny_bind (wpAny_callSpecial?_slot (name := Str.ofString "__setitem__") hL.typeIs slot_list_setitem
    (wpAny_call_entry slot_list_setitem hL.typeIs entry_list_setitem ?_ (args_list_setitem _ _ _)))
  show wpAny _ _ (Builtin.List.listSubscript? (.int k t) >>= _) _ _ s
  refine wpAny_bind (wpAny_listSubscript_int (fitsIndex_neg (by rw [hk]; decide) (by rw [hk]; decide)) ?_)
  subst hk
  have hidx := seqIndex_neg (k := Int.negSucc 0) (n := (xs ++ [x0]).toArray.size) (by decide) (by simp; lia)
  have hix : (Int.negSucc 0 + ((xs ++ [x0]).toArray.size : Int)).toNat = xs.length := by simp; lia
  rw [hix] at hidx
  show wpAny _ _ ((Builtin.List.listItems (.ref l) >>= fun xs => pure ((seqIndex? (Int.negSucc 0) xs.size).bind fun i => xs[i]?.map (i, ·))) >>= _) _ _ s
  refine wpAny_bind (wpAny_bind ?_)
  show wpAny _ _ (seqItems? (.ref l) >>= _) _ _ s
  refine wpAny_bind (wpAny_seqItems hl rfl (wpAny_pure (wpAny_pure ?_)))
  rw [hidx]
  have hx : (xs ++ [x0]).toArray[xs.length]? = some x0 := by simp
  simp only [Option.bind_some, hx, Option.map_some]
  show wpAny _ _ (setSeqItemAt l xs.length v >>= _) _ _ s
  have hs : ((xs ++ [x0]).toArray).setIfInBounds xs.length v = (xs ++ [v]).toArray := by
    rw [List.setIfInBounds_toArray]
    congr 1
    rw [List.set_append_right _ _ (Nat.le_refl _), Nat.sub_self]; rfl
  have hu := IsL.update (l := l) hl fun a => a.setIfInBounds xs.length v
  refine wpAny_bind (wpAny_setSeqItemAt hl rfl ?_)
  rw [hs] at hu
  first
    | exact wpAny_bind (wpAny_pure (wpAny_pure ⟨.none, rfl, wpAny_pure (hQ _ _ hu (Heap.SameBut.update ..))⟩))
    | exact wpAny_pure ⟨.none, rfl, wpAny_pure (hQ _ _ hu (Heap.SameBut.update ..))⟩
end
theorem read_R {t : List Nat} (ho : OkT t) (hl : t.length ≤ 500) : readF [.str (ofL t)] (.str (ofL (R t))) := by
  obtain ⟨ps, hps⟩ := split_some t
  exact ⟨t, ps, hl, hps, esc_ok ho hps, rfl, by rw [read_is_rep hps]; rfl⟩
section
variable {prog : Program} {w : World} {mg mb : Str → Option Value} {A : Around} {E : Value → Shared → Prop} {Q : Flow → Shared → Prop} {hb : Heap} {env : Env} {L c1 c2 T R D lw lk : Addr} {ws : List Str} {us : List Value} {nw : Nat} {σ s : Shared} {ms : List Int} {rows : List Rw} {vs : List Value} {l : List (Str × V)} {ds : List DueD} {rest : List Stmt}
/-- the list of what is due has turned -/
theorem LJ.setD (S : Stat prog w mg mb hb env L c1 c2 T R D lw lk ws us nw) (J : LJ w mg mb hb env L T R D σ ms rows vs ds l s) {h1 h2 : Heap} {tk : Nat} {n' : Nat} {vs' : List Value} {ds' : List DueD} (x1 : Ext s.heap h1) (hs2 : Heap.SameBut D h1 h2) (hD : h2.get? D = some { cls := .type "list", data := .seq vs'.toArray n' }) (hd : All2 (DueAt (punch h2 [L, T, R, D])) vs' ds') :
    LJ w mg mb hb env L T R D σ ms rows vs' ds' l { s with heap := h2, toks := tk } := by
  have F1 : FsT w mg mb env L T R D s ms rows vs l { s with heap := h1, toks := tk } := J.fs.ext x1
  have J1 := LJ.step S J F1
  have x12 : Ext (punch h1 [L, T, R, D]) h2 := fun b o e => by
    have hb : b ∉ [L, T, R, D] := fun q => by rw [punch_get, if_pos q] at e; cases e
    rw [punch_get, if_neg hb] at e
    exact (hs2.2 b (fun q => hb (by rw [q]; simp))).trans e
  have xp := ext_pp x12
  have xb : Ext hb h2 := (ext_punch J1.x fun z hz => S.nn z hz).trans x12
  obtain ⟨m, hm, hl⟩ := F1.ns
  rw [S.le.hL] at hm
  have hm2 : h2.Ns L m := hm.at fun o e => (hs2.2 L (fun q => S.LD q.symm)).trans e
  have hl2 : ∀ n y, l.lookup n = some y → ∃ v, m n = some v ∧ Con (· ∈ [L, T, R, D]) h2 y v := fun n y q => by
    obtain ⟨v, a, c⟩ := hl n y q
    exact ⟨v, a, c.keepX fun b o nb e => (hs2.2 b (fun q => nb (by rw [q]; simp))).trans e⟩
  have ow2 : OwT T R D ms rows vs' h2 := ⟨F1.ow.t.at fun o e => (hs2.2 T (fun q => S.TD q.symm)).trans e, let ⟨n, e⟩ := F1.ow.r; ⟨n, (hs2.2 R (fun q => S.RD q.symm)).trans e⟩, ⟨n', hD⟩⟩
  exact ⟨S.rebase (s := { s with heap := h2, toks := tk }) xb hm2 hl2 ow2, xb, hd, fun r hr => (J1.ok r hr).ext xp, fun t ht => ⟨(J1.tm t ht).1.keep xp, (J1.tm t ht).2⟩, J.nd, J.fr, J.gn⟩
theorem ext_setD {h1 h2 : Heap} {D : Addr} {zs : List Addr} (hD : D ∈ zs) (hs2 : Heap.SameBut D h1 h2) : Ext (punch h1 zs) (punch h2 zs) := ext_pp fun b o e => by
  have hb : b ∉ zs := fun q => by rw [punch_get, if_pos q] at e; cases e
  rw [punch_get, if_neg hb] at e
  exact (hs2.2 b (fun q => hb (by rw [q]; exact hD))).trans e
/-- due.append((kind, val, space, first, line, column)) -/
theorem s_appD (g0 : Gd 20 A) (S : Stat prog w mg mb hb env L c1 c2 T R D lw lk ws us nw) (J : LJ w mg mb hb env L T R D σ ms rows vs ds l s) (d : DueD) (hvl : vs.length ≤ 100)
    (hk : l.lookup (Str.ofString "kind") = some (.str d.kind)) (hv : l.lookup (Str.ofString "val") = some (.str d.val)) (hs : l.lookup (Str.ofString "space") = some (.str d.sp)) (hf : l.lookup (Str.ofString "first") = some (.bool d.fst)) (hl : l.lookup (Str.ofString "line") = some (.int d.row)) (hc : l.lookup (Str.ofString "column") = some (.int d.col)) (hdl : l.lookup (Str.ofString "due") = some (.ref D))
    (k : ∀ s' v, LJ w mg mb hb env L T R D σ ms rows (vs ++ [v]) (ds ++ [d]) l s' → Q .next s') :
    wpAny (model prog w) A (execs (loopBody.drop 10) env) Q E s := by
  rw [show loopBody.drop 10 = _ :: [] from rfl]
  have F0 := J.fs
  refine wpAny_execs_cons (wpAny_Expr ?_ (by unfold interactive; rw [F0.hsc]; rfl) (by rfl))
  refine Call_method1 (by rfl) (by rfl) (by rfl) ?_
  refine F0.locR (prog := prog) (w := w) hdl rfl (by rfl) fun hv0 => ?_
  refine hv0 A _ E s _ (.refl _) ?_
  obtain ⟨n, hget⟩ := F0.ow.d
  refine ⟨"list", _, PySem.F.plainAttrs_list, PySem.F.slot_list_append, PySem.F.type_list_append, ⟨_, hget, rfl⟩, (fun b eq => by cases eq; exact ⟨_, hget, rfl⟩), ?_⟩
  refine F0.locS (prog := prog) (w := w) hk rfl (by rfl) fun t1 q1 => ?_
  refine F0.locS (prog := prog) (w := w) hv rfl (by rfl) fun t2 q2 => ?_
  refine F0.locS (prog := prog) (w := w) hs rfl (by rfl) fun t3 q3 => ?_
  refine F0.locB (prog := prog) (w := w) hf rfl (by rfl) fun q4 => ?_
  refine F0.locI (prog := prog) (w := w) hl rfl (by rfl) fun t5 q5 => ?_
  refine F0.locI (prog := prog) (w := w) hc rfl (by rfl) fun t6 q6 => ?_
  refine callWith_builtin (by rfl) (evalArgs_plain (spliced_cons (Tuple_ (spliced_cons (q1 A _ E s _ (.refl _) (spliced_cons (q2 A _ E s _ (.refl _) (spliced_cons (q3 A _ E s _ (.refl _) (spliced_cons (q4 A _ E s _ (.refl _) (spliced_cons (q5 A _ E s _ (.refl _) (spliced_cons (q6 A _ E s _ (.refl _) (spliced_nil (wpAny_newObj_type (spliced_nil ?_) (by size_fits))))))))))))))))))
  have x1 : Ext s.heap (s.heap.push { cls := .type "tuple", data := .seq (dueTup d t1 t2 t3 t5 t6).toArray }) := Ext.push _ _
  have ht : (s.heap.push { cls := .type "tuple", data := .seq (dueTup d t1 t2 t3 t5 t6).toArray }).get? s.heap.objs.size = some { cls := .type "tuple", data := .seq (dueTup d t1 t2 t3 t5 t6).toArray } := Heap.get?_push_size _ rfl
  refine append_at (x1 _ _ hget) (fun h2 hs2 hg2 => wpAny_execs_nil (k _ (.ref s.heap.objs.size) ?_)) (by show vs.toArray.size ≤ sizeLine; rw [List.size_toArray]; exact Nat.le_trans hvl (by decide))
  have hnz : s.heap.objs.size ∉ [L, T, R, D] := fun hz => by have := F0.xa _ hz; rw [get_size_none] at this; cases this
  have xs : Ext (punch s.heap [L, T, R, D]) (punch h2 [L, T, R, D]) := (ext_pp ((punch_ext _ _).trans x1)).trans (ext_setD (by simp) hs2)
  refine LJ.setD S J x1 hs2 (n' := n + 1) (by rw [hg2]; simp) ((J.du.imp fun a b k => k.ext xs).snoc ⟨_, t1, t2, t3, t5, t6, rfl, ?_⟩)
  exact ext_setD (by simp) hs2 _ _ (by rw [punch_get, if_neg hnz]; exact ht)
end
end
section
section
variable {prog : Program} {w : World} {X : Addr → Prop} {d : Nat} {env : Env} {h : Heap}
theorem it_last {a i : PySem.Expr} {D : Addr} {vs0 : List Value} {v0 : Value} {n : Nat} {z : V} (hD : h.get? D = some { cls := .type "list", data := .seq (vs0 ++ [v0]).toArray n }) (hz : Con X h z v0)
    (hs : ∀ o v, subscripted i false o v = operate [o, v] (getItem o v)) :
    ∀ h' u v, Ext h h' → Con X h' (.ref D) u → Con X h' (.int (-1)) v → Yl prog w X d h' (subscriptTail a i u v) z := fun h' u v x c1 c2 A Q E s g e q => by
  (first | apply c1.refG | apply c1.noneG | apply c1.boolG | (apply c1.strG; intro _) | (apply c1.intG; intro _)); clear c1; (first | apply c2.refG | apply c2.noneG | apply c2.boolG | (apply c2.strG; intro _) | (apply c2.intG; intro _)); clear c2
  have hi : s.heap.IsList D (vs0 ++ [v0]).toArray := ⟨_, e _ _ (x _ _ hD), rfl, _, rfl⟩
  refine tail_any hi.typeIs slot_list_getitem.lookup (wpAny_getItem_list_neg hi (by decide) (by simp; lia) (by decide) (x := v0) ?_ (q v0 s.heap s.toks (.refl _) (hz.keep (x.trans e)))) (hs _ _)
  have : ((-1 : Int) + ((vs0 ++ [v0]).toArray.size : Int)).toNat = vs0.length := by simp; lia
  rw [this]; simp
theorem ev_from2 {a : PySem.Expr} {p1 p pos : Pos} {k : Nat} {x y z : V} {l : List V} (xa : XA X h) (ha : Ev prog w X d env h a (.tup (x :: y :: z :: l))) (hl : l.length ≤ 1000) : Ev prog w X d env h (.Subscript a (.Slice (some (.Constant (.int 2) k p1)) none none p) pos) (.tup (z :: l)) :=
  fun A Q E s g e q => Subscript_ (ha A _ E s g e fun u h1 tk1 e1 c1 => by
    refine wpAny_bind (m := eval (.Constant (.int 2) k p1) env) (wpAny_Constant_int ?_)
    refine wpAny_bind (wpAny_holding (wpAny_pure ?_))
    refine wpAny_bind (wpAny_holding (wpAny_pure (newSlice ?_)))
    cases c1 with
    | tup ho hx hc =>
    rename_i vs t
    have hle := hc.length
    cases hc with | cons d1 hc =>
    cases hc with | cons d2 hc =>
    rename_i v1 v2 vs2
    have ht : IsTup (h1.push { cls := .type "slice", data := .fields #[.int 2 tk1, .none, .none] }) t (v1 :: v2 :: vs2).toArray := IsTup.push ⟨_, ho, rfl, _, rfl⟩ _
    simp only [List.length_cons] at hle
    refine tail_any (IsTup.typeIs (s := { s with heap := h1.push { cls := .type "slice", data := .fields #[.int 2 tk1, .none, .none] }, toks := tk1 + 1 }) ht) slot_tuple_getitem.lookup (PyProof.Rows.getItem_tuple_from ht (Heap.IsSliceOf.new ..) (a := 2) (by decide) (by simp) ?_ (by rw [List.size_toArray, List.length_cons, List.length_cons]; exact Nat.le_trans (show vs2.length + 1 + 1 ≤ 1003 by lia) (by decide))) (by with_unfolding_all rfl)
    refine q _ _ _ (e1.trans ((Ext.push _ _).trans (Ext.push _ _))) (.tup (vs := vs2) (Heap.get?_push_size _ rfl) ?_ (hc.keep ((Ext.push _ _).trans (Ext.push _ _))))
    exact (((xa.keep e).keep e1).keep (Ext.push _ _)).fresh)
theorem op_addT {a b : V} {l1 l2 : List V} (xa : XA X h) (hl : l1.length + l2.length ≤ 100) : Op2 prog w X d h (binaryOp .Add) (.tup (a :: l1)) (.tup (b :: l2)) (.tup (a :: l1 ++ b :: l2)) := fun h' u v x c1 c2 A Q E s g e q => by
  cases c1 with
  | tup ho hx hc =>
  cases c2 with
  | tup ho2 hx2 hc2 =>
  rename_i vs1 t1 vs2 t2
  have e1 := hc.length
  have e2 := hc2.length
  refine P.add_tuple (n := 0) (n2 := 0) (e _ _ ho) (e _ _ ho2) ?_ ?_ ?_ ?_
  · intro q
    have : vs1 = [] := by simpa using q
    rw [this] at e1; simp at e1
  · intro q
    have : vs2 = [] := by simpa using q
    rw [this] at e2; simp at e2
  · rw [List.append_toArray]
    exact q _ _ _ (Ext.push _ _) (.tup (Heap.get?_push_size _ rfl) ((xa.keep x).keep e).fresh ((hc.keep (e.trans (Ext.push _ _))).append (hc2.keep (e.trans (Ext.push _ _)))))
  · rw [List.size_toArray, List.size_toArray, e1, e2, List.length_cons, List.length_cons]
    exact Nat.le_trans (show l1.length + 1 + (l2.length + 1) ≤ 102 by lia) (by decide)
end
noncomputable def dueV (d : DueD) : V := .tup [.str d.kind, .str d.val, .str d.sp, .bool d.fst, .int d.row, .int d.col]
theorem due_con {h : Heap} {zs : List Addr} {v : Value} {d : DueD} (k : DueAt (punch h zs) v d) : Con (· ∈ zs) h (dueV d) v := by
  obtain ⟨a, t1, t2, t3, t4, t5, rfl, e⟩ := k
  refine .tup (vs := dueTup d t1 t2 t3 t4 t5) (punch_ext _ _ _ _ e) (fun q => ?_) (.cons (.str _ _) (.cons (.str _ _) (.cons (.str _ _) (.cons (.bool _) (.cons (.int _ _) (.cons (.int _ _) .nil))))))
  rw [punch_get, if_pos q] at e; cases e
theorem con_due {h : Heap} {zs : List Addr} {v : Value} {d : DueD} (c : Con (· ∈ zs) h (dueV d) v) : DueAt (punch h zs) v d := by
  cases c with
  | tup ho hx hc =>
  rename_i vs a
  cases hc with | cons d1 hc =>
  cases hc with | cons d2 hc =>
  cases hc with | cons d3 hc =>
  cases hc with | cons d4 hc =>
  cases hc with | cons d5 hc =>
  cases hc with | cons d6 hc =>
  cases hc
  cases d1; cases d2; cases d3; cases d4; cases d5; cases d6
  exact ⟨a, _, _, _, _, _, rfl, by rw [punch_get, if_neg hx]; exact ho⟩
theorem all2_snoc {α β : Type} {F : α → β → Prop} : ∀ {l : List α} {m : List β} {b : β}, All2 F l (m ++ [b]) → ∃ l0 a, l = l0 ++ [a] ∧ All2 F l0 m ∧ F a b
  | _, [], b, .cons x .nil => ⟨[], _, rfl, .nil, x⟩
  | _, c :: m, b, .cons x y => by
    obtain ⟨l0, a, rfl, h1, h2⟩ := all2_snoc y
    exact ⟨_ :: l0, a, rfl, .cons x h1, h2⟩
end
section
section
variable {prog : Program} {w : World} {mg mb : Str → Option Value} {A : Around} {E : Value → Shared → Prop} {Q : Flow → Shared → Prop} {hb : Heap} {env : Env} {L c1 c2 T R D lw lk : Addr} {ws : List Str} {us : List Value} {nw : Nat} {σ s : Shared} {ms : List Int} {rows : List Rw} {vs : List Value} {l : List (Str × V)} {ds : List DueD} {rest : List Stmt}
/-- the tail after a STRING -/
theorem tail_S (g : Gd 60 A) (S : Stat prog w mg mb hb env L c1 c2 T R D lw lk ws us nw) {j : Bool} {n rl : Nat} {txt : List Nat} (h3 : n % 10 < 3) (hok : OkT txt) (htl : txt.length ≤ 60) (J : LJ w mg mb hb env L T R D σ ms rows vs ds (lS txt (lH n rl (lB lw lk R D j))) s) (hvl : ds.length ≤ 100)
    (hj : j = true → ∃ ds0 d0, ds = ds0 ++ [d0] ∧ d0.kind = strT ∧ d0.val.length ≤ 10000)
    (qT : j = true → ∀ ds0 d0 s' vs', ds = ds0 ++ [d0] → LJ w mg mb hb env L T R D σ ms rows vs' (ds0 ++ [bump d0 (ofL (Mine.R txt))]) (lB lw lk R D true) s' → Q .cont s')
    (qF : j = false → ∀ s' vs', LJ w mg mb hb env L T R D σ ms rows vs' (ds ++ [⟨strT, ofL (Mine.R txt), spN n, n % 7 == 0, 1 + ((rl / 4 : Nat) : Int), 1 + 3 * (rl : Int)⟩]) (lB lw lk R D true) s' → Q .next s') :
    wpAny (model prog w) A (execs (loopBody.drop 6) env) Q E s := by
  rw [show loopBody.drop 6 = _ :: _ :: loopBody.drop 8 from rfl]
  have g0 := g.le (show 20 ≤ 60 by decide)
  have F := J.fs
  have Pr := @read_pf w mg mb prog
  have hRR := read_R hok (by lia)
  have hRl : (ofL (Mine.R txt)).length ≤ 1000 := by
    have := R_len txt
    rw [ofL_len]; lia
  refine s_if (c := (((n % 10 : Nat) : Int) == 4)) F g0 (ts_cmp (by walk_at "m_ev") ev_int op_eq (by with_unfolding_all rfl)) ?_ ?_
  · intro h s F
    have := eq_of_beq h; lia
  intro h s F
  refine s_nil ?_
  show wpAny _ _ _ _ _ _
  have hsort : (((n % 10 : Nat) : Int) < 3) := by lia
  cases hjb : j with
  | true =>
    subst hjb
    obtain ⟨ds0, d0, rfl, hd0, hd0l⟩ := hj rfl
    have J := LJ.step S J F
    have F := J.fs
    obtain ⟨vs0, v0, rfl, hvs0, hv0⟩ := all2_snoc J.du
    obtain ⟨nD, hD⟩ := F.ow.d
    refine s_if (c := (decide (((n % 10 : Nat) : Int) < 3) && (true && true))) F g0 (ts_and (ts_cmp (by walk_at "m_ev") ev_int op_lt (by with_unfolding_all rfl)) fun _ => ts_and (ts_val (by walk_at "m_ev") tr_bool rfl) fun _ => ts_and_nil) ?_ ?_
    · intro _ s F2
      have x2 : ∀ b o, b ∉ [L, T, R, D] → s.heap.get? b = some o → s.heap.get? b = some o := fun _ _ _ e => e
      have J2 := LJ.step S J F2
      have F2 := J2.fs
      obtain ⟨vs0, v0, e0, hvs0, hv0⟩ := all2_snoc J2.du
      obtain ⟨nD, hD⟩ := F2.ow.d
      rw [e0] at hD J2
      have hdc := due_con hv0
      have evD : ∀ pos, Ev prog w (· ∈ [L, T, R, D]) 20 env s.heap (.Name (Str.ofString "due") pos) (.ref D) := fun pos => by walk_at "m_loc"
      have evI : ∀ k p1 p2, Ev prog w (· ∈ [L, T, R, D]) 20 env s.heap (.UnaryOp .USub (.Constant (.int 1) k p1) p2) (.int (-1)) := fun k p1 p2 => ev_neg ev_int
      change Con _ _ (.tup [.str d0.kind, .str d0.val, .str d0.sp, .bool d0.fst, .int d0.row, .int d0.col]) _ at hdc
      have evL : ∀ p0 k p1 p2 p3, Ev prog w (· ∈ [L, T, R, D]) 20 env s.heap (.Subscript (.Name (Str.ofString "due") p0) (.UnaryOp .USub (.Constant (.int 1) k p1) p2) p3) (.tup [.str d0.kind, .str d0.val, .str d0.sp, .bool d0.fst, .int d0.row, .int d0.col]) := fun p0 k p1 p2 p3 => ev_sub (evD _) (evI _ _ _) (it_last hD hdc (fun _ _ => rfl))
      refine wpAny_execs_cons (wpAny_Assign_Subscript ((ev_bin (ev_tuple F2.xa (Nat.le_of_ble_eq_true rfl) (evs_cons ev_str (evs_cons (ev_bin (ev_sub (evL _ _ _ _ _) ev_int (it_tup (z := .str d0.val) (by decide) rfl (Nat.le_of_ble_eq_true rfl) (fun _ _ => rfl))) (ev_call (z := .str (ofL (Mine.R txt))) (Fs.world F2) F2.xa (by walk_at "m_glob") rfl rfl Pr (by decide) (evs_cons (by walk_at "m_ev") evs_nil rfl) hRR rfl) (op_cat (by lia))) evs_nil rfl) rfl)) (ev_from2 F2.xa (evL _ _ _ _ _) (Nat.le_of_ble_eq_true rfl)) (op_addT F2.xa (Nat.le_of_ble_eq_true rfl))) A _ E s g0 (.refl _) fun v h1 tk1 x1 c1 => ?_) (by rfl))
      refine evD _ A _ E { s with heap := h1, toks := tk1 } g0 x1 fun v2 h2 tk2 x2 c2 => ?_
      (first | apply c2.refG | apply c2.noneG | apply c2.boolG | (apply c2.strG; intro _) | (apply c2.intG; intro _)); clear c2
      refine evI _ _ _ A _ E { s with heap := h2, toks := tk2 } g0 (x1.trans x2) fun v3 h3 tk3 x3 c3 => ?_
      (first | apply c3.refG | apply c3.noneG | apply c3.boolG | (apply c3.strG; intro _) | (apply c3.intG; intro _)); clear c3
      refine setItem_last (xs := vs0) (x0 := v0) (n := nD) (x3 _ _ (x2 _ _ (x1 _ _ hD))) fun h4 n' hD4 hs4 => s_cont ?_
      have x123 := x1.trans (x2.trans x3)
      have c4 := (c1.keep (x2.trans x3)).keepX (h' := h4) fun b o nb e => (hs4.2 b (fun q => nb (by rw [q]; simp))).trans e
      have hx4 : Ext (punch s.heap [L, T, R, D]) (punch h4 [L, T, R, D]) := (ext_pp ((punch_ext _ _).trans x123)).trans (ext_setD (by simp) hs4)
      have J4 := LJ.setD (tk := tk3) S J2 x123 hs4 hD4 (ds' := ds0 ++ [bump d0 (ofL (Mine.R txt))]) ((hvs0.imp fun a b k => k.ext hx4).snoc (con_due (by unfold dueV bump; rw [hd0]; exact c4)))
      exact qT rfl ds0 d0 _ _ rfl (LJ.step S J4 (J4.fs.to _ ⟨rfl, rfl, rfl, rfl, rfl, trivial⟩))
    · intro q; rw [decide_eq_true hsort] at q; cases q
  | false =>
    subst hjb
    refine s_if (c := (decide (((n % 10 : Nat) : Int) < 3) && (false && true))) F g0 (ts_and (ts_cmp (by walk_at "m_ev") ev_int op_lt (by with_unfolding_all rfl)) fun _ => ts_and (ts_val (by walk_at "m_ev") tr_bool rfl) fun _ => ts_and_nil) ?_ ?_
    · intro q; rw [decide_eq_true hsort] at q; cases q
    · intro _ s F
      refine s_nil ?_
      show wpAny _ _ _ _ _ _
      rw [show loopBody.drop 8 = _ :: _ :: loopBody.drop 10 from rfl]
      refine s_assign F g0 (ev_cmp (by walk_at "m_ev") ev_int op_lt (by with_unfolding_all rfl)) rfl (fun s F => ?_) (by rfl)
      refine s_if (c := decide (((n % 10 : Nat) : Int) < 3)) F g0 (ts_cmp (by walk_at "m_ev") ev_int op_lt (by with_unfolding_all rfl)) ?_ ?_
      · intro _ s F
        refine s_assign F g0 (ev_call (z := .str (ofL (Mine.R txt))) (Fs.world F) F.xa (by walk_at "m_glob") rfl rfl Pr (by decide) (evs_cons (by walk_at "m_ev") evs_nil rfl) hRR rfl) rfl (fun s F => s_nil ?_) (by rfl)
        have J := LJ.step S J F
        refine s_appD g0 S J ⟨strT, ofL (Mine.R txt), spN n, n % 7 == 0, 1 + ((rl / 4 : Nat) : Int), 1 + 3 * (rl : Int)⟩ (by have := J.du.len; lia) rfl rfl rfl rfl rfl rfl rfl fun s' v J' => qF rfl s' _ (LJ.step S J' (J'.fs.to _ ⟨rfl, rfl, rfl, rfl, ?_, trivial⟩))
        show some (V.bool (decide _)) = _
        rw [decide_eq_true hsort]
      · intro q; rw [decide_eq_true hsort] at q; cases q
end
end
section
noncomputable def convO (typ val : Str) : Str := if typ = charTy then ofL (R val.cps.toList) else val
section
variable {prog : Program} {w : World} {mg mb : Str → Option Value} {A : Around} {E : Value → Shared → Prop} {Q : Flow → Shared → Prop} {hb : Heap} {env : Env} {L c1 c2 T R D lw lk : Addr} {ws : List Str} {us : List Value} {nw : Nat} {σ s : Shared} {ms : List Int} {rows : List Rw} {vs : List Value} {l : List (Str × V)} {ds : List DueD} {rest : List Stmt}
theorem op_inW (S : Stat prog w mg mb hb env L c1 c2 T R D lw lk ws us nw) {X : Addr → Prop} {h : Heap} {x : Str} (xb : Ext hb h) : Op2 prog w X 20 h (compareOp .In) (.str x) (.ref lw) (.bool (ws.contains x)) := fun h' u v e0 c1 c2 A Q E s g e q => by
  (first | apply c1.refG | apply c1.noneG | apply c1.boolG | (apply c1.strG; intro _) | (apply c1.intG; intro _)); clear c1; (first | apply c2.refG | apply c2.noneG | apply c2.boolG | (apply c2.strG; intro _) | (apply c2.intG; intro _)); clear c2
  exact KwFact.ok (.inl ⟨us, nw, S.wl, S.wus⟩) A Q E s _ _ (g.le (by decide)) (xb.trans (e0.trans e)) fun tk => q _ s.heap tk (.refl _) (.bool _)
/-- the tail after anything else -/
theorem tail_O (g : Gd 60 A) (S : Stat prog w mg mb hb env L c1 c2 T R D lw lk ws us nw) {j : Bool} {n rl : Nat} {typ val : Str} (h3 : 3 ≤ n % 10) (hk : KindO (n % 10) typ val) (J : LJ w mg mb hb env L T R D σ ms rows vs ds (lO typ val (lH n rl (lB lw lk R D j))) s) (hvl : ds.length ≤ 100)
    (q4 : n % 10 = 4 → ∀ s', LJ w mg mb hb env L T R D σ ms rows vs ds (lB lw lk R D j) s' → Q .cont s')
    (qN : n % 10 ≠ 4 → ∀ s' vs', LJ w mg mb hb env L T R D σ ms rows vs' (ds ++ [⟨kwT ws typ (convO typ val), convO typ val, spN n, n % 7 == 0, 1 + ((rl / 4 : Nat) : Int), 1 + 3 * (rl : Int)⟩]) (lB lw lk R D false) s' → Q .next s') :
    wpAny (model prog w) A (execs (loopBody.drop 6) env) Q E s := by
  rw [show loopBody.drop 6 = _ :: _ :: _ :: _ :: loopBody.drop 10 from rfl]
  have g0 := g.le (show 20 ≤ 60 by decide)
  have F := J.fs
  have Pr := @read_pf w mg mb prog
  have hsort : ¬ (((n % 10 : Nat) : Int) < 3) := by lia
  refine s_if (c := (((n % 10 : Nat) : Int) == 4)) F g0 (ts_cmp (by walk_at "m_ev") ev_int op_eq (by with_unfolding_all rfl)) ?_ ?_
  · intro h s F
    have h4 : n % 10 = 4 := by have := eq_of_beq h; lia
    exact s_cont (q4 h4 _ (LJ.step S J (F.to _ ⟨rfl, rfl, rfl, rfl, rfl, trivial⟩)))
  intro h s F
  have h4 : n % 10 ≠ 4 := fun e => by rw [e] at h; cases h
  refine s_nil ?_
  show wpAny _ _ _ _ _ _
  refine s_if (c := (decide (((n % 10 : Nat) : Int) < 3) && (j && true))) F g0 (ts_and (ts_cmp (by walk_at "m_ev") ev_int op_lt (by with_unfolding_all rfl)) fun _ => ts_and (ts_val (by walk_at "m_ev") tr_bool rfl) fun _ => ts_and_nil) ?_ ?_
  · intro q; rw [decide_eq_false hsort] at q; cases q
  intro _ s F
  refine s_nil ?_
  show wpAny _ _ _ _ _ _
  refine s_assign F g0 (ev_cmp (by walk_at "m_ev") ev_int op_lt (by with_unfolding_all rfl)) rfl (fun s F => ?_) (by rfl)
  rw [decide_eq_false hsort] at F
  refine s_if (c := decide (((n % 10 : Nat) : Int) < 3)) F g0 (ts_cmp (by walk_at "m_ev") ev_int op_lt (by with_unfolding_all rfl)) ?_ ?_
  · intro q; rw [decide_eq_false hsort] at q; cases q
  intro _ s F
  have J := LJ.step S J F
  have F := J.fs
  have fin : ∀ {s' : Shared} {l' : List (Str × V)} (kd vl : Str), FsT w mg mb env L T R D s ms rows vs l' s' → kd = kwT ws typ (convO typ val) → vl = convO typ val → Sub l' ((Str.ofString "kind", .str kd) :: (Str.ofString "val", .str vl) :: (Str.ofString "joins", .bool false) :: lH n rl (lB lw lk R D false)) → wpAny (model prog w) A (execs (loopBody.drop 10) env) Q E s' := fun {s' l'} kd vl F' e1 e2 hs => by
    have J' := LJ.step S J (F'.to _ hs)
    subst e2
    subst e1
    exact s_appD g0 S J' ⟨kwT ws typ (convO typ val), convO typ val, spN n, n % 7 == 0, 1 + ((rl / 4 : Nat) : Int), 1 + 3 * (rl : Int)⟩ (by have := J'.du.len; lia) rfl rfl rfl rfl rfl rfl rfl fun s2 v J2 => qN h4 s2 _ (LJ.step S J2 (J2.fs.to _ ⟨rfl, rfl, rfl, rfl, rfl, trivial⟩))
  have notchar : ∀ {s' : Shared} {l' : List (Str × V)} {kd : Str}, FsT w mg mb env L T R D s ms rows vs l' s' → True := fun _ => trivial
  cases hk with
  | blank e => exact absurd e h4
  | id _ hvl =>
    have hc : convO idT val = val := if_neg (by decide +kernel)
    rw [hc] at fin
    refine s_if (c := ((idT == Str.ofString "ID") && (ws.contains val && true))) F g0 (ts_and (ts_cmp (by walk_at "m_ev") ev_str op_eqS (by with_unfolding_all rfl)) fun _ => ts_and (ts_cmp (by walk_at "m_ev") (by walk_at "m_ev") (op_inW S J.x) (by with_unfolding_all rfl)) fun _ => ts_and_nil) ?_ ?_
    · intro q s F
      have q2 : ws.contains val = true := by
        rw [show (idT == Str.ofString "ID") = true from beq_self_eq_true _, Bool.true_and, Bool.and_true] at q; exact q
      refine s_assign F g0 (by walk_at "m_ev") rfl (fun s F => s_nil (s_nil (fin val val F ?_ rfl ⟨rfl, rfl, rfl, rfl, rfl, rfl, rfl, rfl, rfl, rfl, rfl, rfl, rfl, rfl, trivial⟩))) (by rfl)
      exact (if_pos ⟨rfl, q2⟩).symm
    · intro q s F
      have q2 : ws.contains val = false := by
        rw [show (idT == Str.ofString "ID") = true from beq_self_eq_true _, Bool.true_and, Bool.and_true] at q; exact q
      refine s_if (c := (idT == Str.ofString "CHAR")) F g0 (ts_cmp (by walk_at "m_ev") ev_str op_eqS (by with_unfolding_all rfl)) ?_ ?_
      · intro q; exact absurd (eq_of_beq q) (by decide +kernel)
      · intro _ s F
        refine s_nil (s_nil (s_nil (fin idT val F ?_ rfl ⟨rfl, rfl, rfl, rfl, rfl, rfl, rfl, rfl, rfl, rfl, rfl, rfl, rfl, rfl, trivial⟩)))
        exact (if_neg (fun e => by rw [q2] at e; cases e.2)).symm
  | char c _ hcl hco =>
    have hc : convO charTy (ofL c) = ofL (Mine.R c) := (if_pos rfl).trans (by rw [ofL_list])
    rw [hc] at fin
    refine s_if (c := ((charTy == Str.ofString "ID") && (ws.contains (ofL c) && true))) F g0 (ts_and (ts_cmp (by walk_at "m_ev") ev_str op_eqS (by with_unfolding_all rfl)) fun _ => ts_and (ts_cmp (by walk_at "m_ev") (by walk_at "m_ev") (op_inW S J.x) (by with_unfolding_all rfl)) fun _ => ts_and_nil) ?_ ?_
    · intro q; rw [show (charTy == Str.ofString "ID") = false by decide +kernel] at q; cases q
    · intro _ s F
      refine s_if (c := (charTy == Str.ofString "CHAR")) F g0 (ts_cmp (by walk_at "m_ev") ev_str op_eqS (by with_unfolding_all rfl)) ?_ ?_
      · intro _ s F
        refine s_assign F g0 (ev_call (z := .str (ofL (Mine.R c))) (Fs.world F) F.xa (by walk_at "m_glob") rfl rfl Pr (by decide) (evs_cons (by walk_at "m_ev") evs_nil rfl) (read_R hco (by lia)) rfl) rfl (fun s F => s_nil (s_nil (s_nil (fin charTy _ F ?_ rfl ⟨rfl, rfl, rfl, rfl, rfl, rfl, rfl, rfl, rfl, rfl, rfl, rfl, rfl, rfl, trivial⟩)))) (by rfl)
        exact (if_neg (fun e => absurd e.1 (by decide +kernel))).symm
      · intro q; rw [show (charTy == Str.ofString "CHAR") = true from beq_self_eq_true _] at q; cases q
  | other _ _ hn1 hn2 hn3 _ =>
    have hc : convO typ val = val := if_neg hn2
    rw [hc] at fin
    refine s_if (c := ((typ == Str.ofString "ID") && (ws.contains val && true))) F g0 (ts_and (ts_cmp (by walk_at "m_ev") ev_str op_eqS (by with_unfolding_all rfl)) fun _ => ts_and (ts_cmp (by walk_at "m_ev") (by walk_at "m_ev") (op_inW S J.x) (by with_unfolding_all rfl)) fun _ => ts_and_nil) ?_ ?_
    · intro q
      rw [show (typ == Str.ofString "ID") = false from beq_false_of_ne hn3] at q; cases q
    · intro _ s F
      refine s_if (c := (typ == Str.ofString "CHAR")) F g0 (ts_cmp (by walk_at "m_ev") ev_str op_eqS (by with_unfolding_all rfl)) ?_ ?_
      · intro q; exact absurd (eq_of_beq q) hn2
      · intro _ s F
        refine s_nil (s_nil (s_nil (fin typ val F ?_ rfl ⟨rfl, rfl, rfl, rfl, rfl, rfl, rfl, rfl, rfl, rfl, rfl, rfl, rfl, rfl, trivial⟩)))
        exact (if_neg (fun e => hn3 e.1)).symm
end
end
section
noncomputable def e0 (ds : List DueD) : Nat := if ds.isEmpty then 1 else 0
theorem conv_str {i : TkI} {txt : List Nat} (ho : OkT txt) (hl : txt.length ≤ 60) : ConvOk ⟨i, strT, ofL (34 :: (txt ++ [34]))⟩ :=
  ⟨fun _ => ⟨34, txt, 34, rfl, by lia, ho⟩, fun e => absurd (show strT = charTy from e) (by decide +kernel), by rw [ofL_len, List.length_cons, List.length_append]; simp; lia⟩
theorem conv_o {i : TkI} {n : Nat} {typ val : Str} (h : KindO n typ val) : ConvOk ⟨i, typ, val⟩ := by
  cases h with
  | blank _ _ h1 h2 h3 => exact ⟨fun e => absurd e h1, fun e => absurd e h2, Nat.le_trans h3 (by decide)⟩
  | id _ h3 => exact ⟨fun e => absurd (show idT = strT from e) (by decide +kernel), fun e => absurd (show idT = charTy from e) (by decide +kernel), Nat.le_trans h3 (by decide)⟩
  | char c _ h1 h2 => exact ⟨fun e => absurd (show charTy = strT from e) (by decide +kernel), fun _ => ⟨c, rfl, by lia, h2⟩, by rw [ofL_len]; lia⟩
  | other _ _ h1 h2 _ h3 => exact ⟨fun e => absurd e h1, fun e => absurd e h2, Nat.le_trans h3 (by decide)⟩
theorem convV_str {t : TkD} {txt : List Nat} (h1 : t.typ = strT) (h2 : t.val = ofL (34 :: (txt ++ [34]))) : convV t = ofL (R txt) := by
  unfold convV
  rw [if_pos h1, h2, ofL_list]
  simp
theorem kindo_ne {n : Nat} {typ val : Str} (h : KindO n typ val) : typ ≠ strT := by
  cases h with
  | blank _ _ h1 h2 h3 => exact h1
  | id _ h3 => decide +kernel
  | char c _ h1 h2 => decide +kernel
  | other _ _ h1 h2 _ h3 => exact h1
theorem kindo_blank {n : Nat} {typ val : Str} (h : KindO n typ val) : n ≠ 4 → blankT typ = false := by
  cases h with
  | blank e _ h1 h2 h3 => exact fun h => absurd e h
  | id _ h3 => intro _; decide +kernel
  | char c _ h1 h2 => intro _; decide +kernel
  | other _ h0 h1 h2 _ h3 => exact fun _ => h0
theorem kindo_blank4 {n : Nat} {typ val : Str} (h : KindO n typ val) : n = 4 → blankT typ = true := by
  cases h with
  | blank e h0 h1 h2 h3 => exact fun _ => h0
  | id h _ => exact fun e => absurd e h
  | char c h h1 h2 => exact fun e => absurd e h
  | other h h0 h1 h2 _ h3 => exact fun e => absurd e h
theorem kindo_len {n : Nat} {typ val : Str} (h : KindO n typ val) : (convO typ val).length ≤ 100 := by
  unfold convO
  cases h with
  | blank e h0 h1 h2 h3 => rw [if_neg h2]; exact h3
  | id h h3 => rw [if_neg (by decide +kernel)]; exact h3
  | char c h h1 h2 => rw [if_pos rfl, ofL_list, ofL_len]; have := R_len c; lia
  | other h h0 h1 h2 _ h3 => rw [if_neg h2]; exact h3
theorem convV_o {t : TkD} (h : t.typ ≠ strT) : convV t = convO t.typ t.val := if_neg h
theorem dec_meas {ms ms' : List Int} {ds ds' : List DueD} (hc : ms ≠ [] ∨ ds = []) (h : ds' ≠ [] ∨ (ms ≠ [] ∧ ds' = ds)) (hl : ms'.length ≤ ms.length - 1) : ms'.length + e0 ds' < ms.length + e0 ds := by
  have hm : ms ≠ [] → 0 < ms.length := fun h => List.length_pos_iff.mpr h
  unfold e0
  rcases h with h | ⟨h, rfl⟩
  · have : ds'.isEmpty = false := by cases ds' with | nil => exact absurd rfl h | cons _ _ => rfl
    rw [this, if_neg Bool.false_ne_true]
    by_cases q : ms = []
    · have : ds = [] := hc.elim (fun x => absurd q x) id
      rw [this, q]
      rw [q] at hl
      simp at hl ⊢
      try rw [hl]
      try simp
    · have := hm q; lia
  · have := hm h; lia
theorem keepR_len : ∀ rows : List Rw, (keepR rows).length ≤ rows.length
  | [] => Nat.le_refl _
  | .mark a :: rs => Nat.le_succ_of_le (keepR_len rs)
  | .tok t :: rs => by
    show (if blankT t.typ then keepR rs else t :: keepR rs).length ≤ _
    split
    · exact Nat.le_succ_of_le (keepR_len rs)
    · exact Nat.succ_le_succ (keepR_len rs)
section
variable {w : World} {mg mb : Str → Option Value} {A : Around} {E : Value → Shared → Prop} {Q : Flow → Shared → Prop} {hb : Heap} {env : Env} {L c1 c2 T R D lw lk : Addr} {ws : List Str} {us : List Value} {nw : Nat} {σ s : Shared} {ms : List Int} {rows : List Rw} {vs : List Value}
/-- what holds at every test of the loop -/
noncomputable def LoopI (w : World) (mg mb : Str → Option Value) (hb : Heap) (env : Env) (L T R D lw lk : Addr) (ws : List Str) (σ : Shared) (k : Nat) (s : Shared) : Prop :=
  ∃ ms rows vs, LJ w mg mb hb env L T R D σ ms rows vs (dueOf ws (keepR rows)) (lB lw lk R D (lastS false (keepR rows))) s ∧ rows.length + k ≤ 25 ∧ k = ms.length + e0 (dueOf ws (keepR rows)) ∧ ∀ d ∈ dueOf ws (keepR rows), d.val.length ≤ 100 * rows.length
theorem lB_sub {n rl : Nat} {lw lk R D : Addr} {j : Bool} : Sub (lH n rl (lB lw lk R D j)) (lB lw lk R D j) := ⟨rfl, rfl, rfl, rfl, rfl, trivial⟩
/-- a whole turn -/
theorem turn_all (g : Gd 60 A) (S : Stat PW w mg mb hb env L c1 c2 T R D lw lk ws us nw) (J : LJ w mg mb hb env L T R D σ ms rows vs (dueOf ws (keepR rows)) (lB lw lk R D (lastS false (keepR rows))) s) {k : Nat} (hk : rows.length + k ≤ 25) (hke : k = ms.length + e0 (dueOf ws (keepR rows))) (hb100 : ∀ d ∈ dueOf ws (keepR rows), d.val.length ≤ 100 * rows.length) (hc : ms ≠ [] ∨ dueOf ws (keepR rows) = [])
    (q : ∀ s' m, m < k → LoopI w mg mb hb env L T R D lw lk ws σ m s' → Q .next s' ∧ Q .cont s') : wpAny (model PW w) A (execs loopBody env) Q E s := by
  have g40 := g.le (show 40 ≤ 60 by decide)
  have hrl : rows.length ≤ 100 := by lia
  have hml : (ms.drop 1).length ≤ ms.length - 1 := by rw [List.length_drop]; lia
  have hmk : ∀ j, ((ms.drop 1).drop j).length ≤ ms.length - 1 := fun j => by rw [List.length_drop, List.length_drop]; lia
  have hdl : (dueOf ws (keepR rows)).length ≤ 100 := by
    have h1 := outs_len (keepR rows)
    have h2 := keepR_len rows
    unfold dueOf; rw [List.length_map]; lia
  have hne : nextN ms % 10 ≠ 0 → ms ≠ [] := fun h e => by rw [e] at h; exact h rfl
  refine turn_head g40 S J hrl fun s1 J1 => ?_
  refine turn_mark g40 S J1 hrl (fun h3 s2 a J2 => ?_) (fun h3 s2 J2 => ?_)
  · have hmm := dec_meas hc (.inr ⟨hne (by lia), rfl⟩) hml
    have ek : keepR (rows ++ [.mark a]) = keepR rows := by rw [keepR_app]; exact List.append_nil _
    refine (q s2 _ (hke ▸ hmm) ⟨ms.drop 1, rows ++ [.mark a], vs, ?_, ?_, ?_, fun d hd => ?_⟩).2
    · rw [ek]; exact LJ.step S J2 (J2.fs.to _ lB_sub)
    · rw [List.length_append, List.length_singleton]; lia
    · rw [ek]
    · rw [ek] at hd; rw [List.length_append, List.length_singleton]; have := hb100 d hd; lia
  · refine kind_str g40 S J2 (fun hlt s3 txt kk hok htl J3 => ?_) (fun _ hge s3 typ val kk hko J3 => ?_) h3
    · refine turn_tok g S J3 hrl rfl rfl rfl rfl rfl rfl rfl (fun i => conv_str hok htl) fun s4 t a1 a2 a3 a4 a5 a6 J4 => ?_
      have hbt : blankT t.typ = false := by rw [a1]; decide +kernel
      have ek : keepR (rows ++ [.tok t]) = keepR rows ++ [t] := by rw [keepR_app, keepR_kept hbt]; rfl
      have hcv := convV_str a1 a2
      have hls : lastS false (keepR rows ++ [t]) = true := by rw [lastS_snoc]; exact decide_eq_true a1
      have hRl := R_len txt
      refine tail_S g S hlt hok htl J4 hdl (fun hj => ?_) (fun hj ds0 d0 s5 vs' e J5 => ?_) (fun hj s5 vs' J5 => ?_)
      · obtain ⟨ds, d, x1, x2, _⟩ := due_join ws (keepR rows) t hj a1
        have := hb100 d (by rw [x1]; simp)
        exact ⟨ds, d, x1, x2, by lia⟩
      · obtain ⟨ds, d, x1, x2, x3⟩ := due_join ws (keepR rows) t hj a1
        rw [x1] at e
        obtain ⟨rfl, e2⟩ := List.append_inj' e rfl
        obtain rfl : d = d0 := by simpa using e2
        rw [← hcv, ← x3] at J5
        have hmm := dec_meas (ds' := dueOf ws (keepR rows ++ [t])) hc (.inl (by rw [x3]; simp)) (hmk kk)
        refine (q s5 _ (hke ▸ hmm) ⟨(ms.drop 1).drop kk, rows ++ [.tok t], vs', ?_, ?_, ?_, fun d' hd => ?_⟩).2
        · rw [ek, hls]; exact J5
        · rw [List.length_append, List.length_singleton]; lia
        · rw [ek]
        · rw [ek, x3] at hd
          rw [List.length_append, List.length_singleton]
          rcases List.mem_append.mp hd with hd | hd
          · have := hb100 d' (by rw [x1]; exact List.mem_append_left _ hd); lia
          · rw [List.mem_singleton.mp hd]
            have := hb100 d (by rw [x1]; simp)
            show (d.val ++ convV t).length ≤ _
            rw [len_app, hcv, ofL_len]; lia
      · have x3 := due_add ws (keepR rows) t (fun h => by rw [hj] at h; cases h.1)
        have hdt : dueT ws t (convV t) = ⟨strT, ofL (Mine.R txt), spN (nextN ms), nextN ms % 7 == 0, 1 + ((rows.length / 4 : Nat) : Int), 1 + 3 * (rows.length : Int)⟩ := by
          unfold dueT
          rw [hcv, a1, kwT_str, a3, a4, a5, a6]
        rw [← hdt, ← x3] at J5
        have hmm := dec_meas (ds' := dueOf ws (keepR rows ++ [t])) hc (.inl (by rw [x3]; simp)) (hmk kk)
        refine (q s5 _ (hke ▸ hmm) ⟨(ms.drop 1).drop kk, rows ++ [.tok t], vs', ?_, ?_, ?_, fun d' hd => ?_⟩).1
        · rw [ek, hls]; exact J5
        · rw [List.length_append, List.length_singleton]; lia
        · rw [ek]
        · rw [ek, x3] at hd
          rw [List.length_append, List.length_singleton]
          rcases List.mem_append.mp hd with hd | hd
          · have := hb100 d' hd; lia
          · rw [List.mem_singleton.mp hd]
            show (convV t).length ≤ _
            rw [hcv, ofL_len]; lia
    · refine turn_tok g S J3 hrl rfl rfl rfl rfl rfl rfl rfl (fun i => conv_o hko) fun s4 t a1 a2 a3 a4 a5 a6 J4 => ?_
      have hts : ¬ t.typ = strT := by rw [a1]; exact kindo_ne hko
      refine tail_O g S hge hko J4 hdl (fun h4 s5 J5 => ?_) (fun h4 s5 vs' J5 => ?_)
      · have hbt : blankT t.typ = true := by rw [a1]; exact kindo_blank4 hko h4
        have ek : keepR (rows ++ [.tok t]) = keepR rows := by rw [keepR_app, keepR_blank hbt]; exact List.append_nil _
        have hmm := dec_meas (ds' := dueOf ws (keepR rows)) hc (.inr ⟨hne (by lia), rfl⟩) (hmk kk)
        refine (q s5 _ (hke ▸ hmm) ⟨(ms.drop 1).drop kk, rows ++ [.tok t], vs, ?_, ?_, ?_, fun d' hd => ?_⟩).2
        · rw [ek]; exact J5
        · rw [List.length_append, List.length_singleton]; lia
        · rw [ek]
        · rw [ek] at hd; rw [List.length_append, List.length_singleton]; have := hb100 d' hd; lia
      · have hbt : blankT t.typ = false := by rw [a1]; exact kindo_blank hko h4
        have ek : keepR (rows ++ [.tok t]) = keepR rows ++ [t] := by rw [keepR_app, keepR_kept hbt]; rfl
        have hls : lastS false (keepR rows ++ [t]) = false := by rw [lastS_snoc]; exact decide_eq_false hts
        have hcv : convV t = convO typ val := by rw [convV_o hts, a1, a2]
        have x3 := due_add ws (keepR rows) t (fun h => hts h.2)
        have hdt : dueT ws t (convV t) = ⟨kwT ws typ (convO typ val), convO typ val, spN (nextN ms), nextN ms % 7 == 0, 1 + ((rows.length / 4 : Nat) : Int), 1 + 3 * (rows.length : Int)⟩ := by
          unfold dueT
          rw [hcv, a1, a3, a4, a5, a6]
        rw [← hdt, ← x3] at J5
        have hmm := dec_meas (ds' := dueOf ws (keepR rows ++ [t])) hc (.inl (by rw [x3]; simp)) (hmk kk)
        refine (q s5 _ (hke ▸ hmm) ⟨(ms.drop 1).drop kk, rows ++ [.tok t], vs', ?_, ?_, ?_, fun d' hd => ?_⟩).1
        · rw [ek, hls]; exact J5
        · rw [List.length_append, List.length_singleton]; lia
        · rw [ek]
        · rw [ek, x3] at hd
          rw [List.length_append, List.length_singleton]
          rcases List.mem_append.mp hd with hd | hd
          · have := hb100 d' hd; lia
          · rw [List.mem_singleton.mp hd]
            show (convV t).length ≤ _
            rw [hcv]; have := kindo_len hko; lia
end
end
section
theorem tr_own {prog : Program} {w : World} {X : Addr → Prop} {d : Nat} {h : Heap} {a : Addr} {vs : List Value} {n : Nat} (e : h.get? a = some { cls := .type "list", data := .seq vs.toArray n }) (hs : vs.length ≤ 1000000) : ∀ h' v, Ext h h' → Con X h' (.ref a) v → YlB prog w d h' (truthy v) (!vs.isEmpty) := fun h' v x c A Q E s g e2 q => by
  cases c
  refine wpAny_truthy_list ⟨_, e2 _ _ (x _ _ e), rfl, n, rfl⟩ (by rw [List.size_toArray]; lia) ?_
  have hq := q s.heap (s.toks + 1 + 1) (.refl _)
  cases vs with
  | nil => exact hq
  | cons a b => simpa using hq
section
variable {w : World} {mg mb : Str → Option Value} {A : Around} {E : Value → Shared → Prop} {Q : Flow → Shared → Prop} {hb : Heap} {env : Env} {L c1 c2 T R D lw lk : Addr} {ws : List Str} {us : List Value} {nw : Nat} {σ s : Shared} {ms : List Int} {rows : List Rw} {vs : List Value} {rest : List Stmt}
/-- the loop -/
theorem law_loop (g : Gd 61 A) (S : Stat PW w mg mb hb env L c1 c2 T R D lw lk ws us nw) {k0 : Nat} (h0 : LoopI w mg mb hb env L T R D lw lk ws σ k0 s)
    (k : ∀ s' ms rows vs, rows.length ≤ 25 → LJ w mg mb hb env L T R D σ ms rows vs (dueOf ws (keepR rows)) (lB lw lk R D (lastS false (keepR rows))) s' → wpAny (model PW w) A (execs (lawBody.drop 10) env) Q E s') :
    wpAny (model PW w) A (execs (lawBody.drop 9) env) Q E s := by
  rw [show lawBody.drop 9 = .While _ loopBody [] _ :: lawBody.drop 10 from rfl]
  have g60 := g.le (show 60 ≤ 61 by decide)
  have g0 := g.le (show 20 ≤ 61 by decide)
  refine wpAny_execs_cons (wpAny_While (codeAny_whileLoop (LoopI w mg mb hb env L T R D lw lk ws σ) (fun n s ⟨ms, rows, vs, J, i1, i2, i3⟩ => ?_) k0 h0))
  have F := J.fs
  obtain ⟨⟨tv, tn, te, tin⟩, tl, tb⟩ := F.ow.t
  obtain ⟨dn, de⟩ := F.ow.d
  have hdl := J.du.len
  have htl := IntsAre.length tin
  have hkl : (dueOf ws (keepR rows)).length ≤ rows.length := by unfold dueOf; rw [List.length_map]; exact Nat.le_trans (outs_len _) (keepR_len rows)
  have evT : ∀ pos, Ev PW w (· ∈ [L, T, R, D]) 20 env s.heap (.Name (Str.ofString "tape") pos) (.ref T) := fun pos => ev_nm ⟨_, .ref T, FsT.cell S J.x⟩
  have evD : ∀ pos, Ev PW w (· ∈ [L, T, R, D]) 20 env s.heap (.Name (Str.ofString "due") pos) (.ref D) := fun pos => ev_loc F rfl rfl (by rfl)
  refine ts_or (wh := eval _ env) (ts_val (evT _) (tr_own te (by lia)) rfl) (fun _ => ts_or (ts_not (ts_val (evD _) (tr_own de (by lia)) rfl)) fun _ => ts_or_nil) A _ _ s g0 (.refl _) fun h1 tk1 x1 => ?_
  have J1 := LJ.step S J (F.ext (tk := tk1) x1)
  split
  · rename_i hcond
    have hc : ms ≠ [] ∨ dueOf ws (keepR rows) = [] := by
      rcases Bool.or_eq_true _ _ ▸ hcond with h | h
      · left
        intro e
        rw [e] at htl
        have : tv = [] := List.eq_nil_of_length_eq_zero htl
        rw [this] at h; cases h
      · right
        rw [Bool.or_false] at h
        have : vs = [] := by simpa using h
        rw [this] at hdl
        exact List.eq_nil_of_length_eq_zero hdl.symm
    exact turn_all g60 S J1 i1 i2 i3 hc fun s' m hm hI => ⟨⟨m, hm, hI⟩, ⟨m, hm, hI⟩⟩
  · exact wpAny_execs_nil (k _ ms rows vs (by lia) J1)
/-- rows, due, joins and the loop -/
theorem law_p2 (g : Gd 61 A) (W : Wd (KK w) mg mb hb) (xb : Ext hb s.heap) (le : LawEnv env L c1 c2) (bL : hb.get? L = none) (bT : hb.get? T = none) {n : Nat} {m : Str → Option Value} (hTL : T ≠ L) (hT1 : T ≠ c1) (hwL : lw ≠ L) (hkL : lk ≠ L) (hTw : T ≠ lw) (hTk : T ≠ lk) (hcell : s.heap.IsCell c1 (some (.ref T))) (ht : TapeAt T ms s.heap) (hm : s.heap.Ns L m) (hmw : m (Str.ofString "words") = some (.ref lw)) (hmk : m (Str.ofString "keywords") = some (.ref lk))
    (hl : s.heap.get? lw = some { cls := .type "list", data := .seq us.toArray nw }) (hus : StrsAre us ws) (hwl : ws.length ≤ 11) (hkw : KwFact PW w ws lk s.heap)
    (k : ∀ s' hb' R D ms rows vs, Ext hb hb' → Stat PW w mg mb hb' env L c1 c2 T R D lw lk ws us nw → rows.length ≤ 25 → LJ w mg mb hb' env L T R D s ms rows vs (dueOf ws (keepR rows)) (lB lw lk R D (lastS false (keepR rows))) s' → wpAny (model PW w) A (execs (lawBody.drop 10) env) Q E s') :
    wpAny (model PW w) A (execs (lawBody.drop 6) env) Q E s := by
  rw [show lawBody.drop 6 = _ :: _ :: _ :: lawBody.drop 9 from rfl]
  have fe := le.fe
  have hL := le.hL
  have g0 := g.le (show 20 ≤ 61 by decide)
  have kin : ∀ n kd, lawScope.names.lookup n = some kd → env.kindOf n = some kd := fun n kd e => by unfold Env.kindOf; rw [fe.hsc]; exact e
  have hpl : (env.scope.kind == .class || (env.scope.kind == .module && env.locals != env.globals)) = false := by rw [fe.hsc]; rfl
  -- rows
  refine wpAny_execs_cons (wpAny_Assign_Name (mk_nil A _ E s g0 (.refl _) fun R h1 tk1 hge1 _ x1 hR => ?_) (by rfl))
  obtain ⟨v1, n1, hR, rfl⟩ := hR
  have hRn : s.heap.get? R = none := ge_none hge1
  have hRL : R ≠ L := fun e => by have := ns_some hm; rw [← e, hRn] at this; cases this
  refine wpAny_storeName_local (kin _ _ rfl) (by rw [hL]; exact hm.keeps x1) (fun h2 m2 s2 => ?_) hpl
  rw [hL] at m2 s2
  have k02 : ∀ b o, b ≠ L → s.heap.get? b = some o → h2.get? b = some o := fun b o nb e => (s2.2 b nb).trans (x1 b o e)
  have hR2 := (s2.2 R hRL).trans hR
  -- due
  refine wpAny_execs_cons (wpAny_Assign_Name (mk_nil A _ E _ g0 (.refl _) fun D h3 tk3 hge3 _ x3 hD => ?_) (by rfl))
  obtain ⟨v3, n3, hD, rfl⟩ := hD
  have hDn : h2.get? D = none := ge_none hge3
  have hDL : D ≠ L := fun e => by have := ns_some m2; rw [← e, hDn] at this; cases this
  have hDR : D ≠ R := fun e => by rw [← e, hDn] at hR2; cases hR2
  refine wpAny_storeName_local (kin _ _ rfl) (by rw [hL]; exact m2.keeps x3) (fun h4 m4 s4 => ?_) hpl
  rw [hL] at m4 s4
  -- joins
  refine wpAny_execs_cons (wpAny_Assign_Name (Constant_bool ?_) (by rfl))
  refine wpAny_storeName_local (kin _ _ rfl) (by rw [hL]; exact m4) (fun h5 m5 s5 => ?_) hpl
  rw [hL] at m5 s5
  have k05 : ∀ b o, b ≠ L → s.heap.get? b = some o → h5.get? b = some o := fun b o nb e => (s5.2 b nb).trans ((s4.2 b nb).trans (x3 b o (k02 b o nb e)))
  have hR5 : h5.get? R = some { cls := .type "list", data := .seq ([] : List Value).toArray n1 } := (s5.2 R hRL).trans ((s4.2 R hRL).trans (x3 _ _ hR2))
  have hD5 : h5.get? D = some { cls := .type "list", data := .seq ([] : List Value).toArray n3 } := (s5.2 D hDL).trans ((s4.2 D hDL).trans hD)
  have xb5 : Ext hb h5 := fun b o e => k05 b o (by first | with_reducible exact neN bL e | exact fun q => by rw [q, bL] at e; cases e) (xb b o e)
  have ht5 : TapeAt T ms h5 := ht.at fun o e => k05 T o hTL e
  have sn : ∀ {b : Addr} {o : Obj}, s.heap.get? b = some o → b ≠ R ∧ b ≠ D := fun {b o} e => by
    refine ⟨(by first | with_reducible exact neN hRn e | exact fun q => by rw [q, hRn] at e; cases e), fun q => ?_⟩
    by_cases hbL : b = L
    · exact hDL (q.symm.trans hbL)
    · have := k02 b o hbL e; rw [q, hDn] at this; cases this
  have hTs := (Option.isSome_iff_exists.mp ht.some).elim fun o ho => sn ho
  have hcs := (cell_some hcell).elim fun o ho => sn ho
  have hws := sn hl
  have hks := (Option.isSome_iff_exists.mp hkw.some).elim fun o ho => sn ho
  have bn : ∀ z ∈ [L, T, R, D], hb.get? z = none := fun z hz => by
    simp only [List.mem_cons, List.not_mem_nil, or_false] at hz
    rcases hz with rfl | rfl | rfl | rfl
    · exact bL
    · exact bT
    · exact none_of_ext xb hRn
    · cases e : hb.get? z with
      | none => rfl
      | some o => have := (sn (xb _ _ e)).2; exact absurd rfl this
  have xhb : Ext hb (punch h5 [L, T, R, D]) := ext_punch xb5 bn
  have pk : ∀ {b : Addr} {o : Obj}, b ≠ L → b ≠ T → b ≠ R → b ≠ D → s.heap.get? b = some o → (punch h5 [L, T, R, D]).get? b = some o := fun {b o} a1 a2 a3 a4 e => by
    rw [punch_get, if_neg (nM4 a1 a2 a3 a4)]
    exact k05 b o a1 e
  have S : Stat PW w mg mb (punch h5 [L, T, R, D]) env L c1 c2 T R D lw lk ws us nw :=
    ⟨le, W.keep xhb, fun z hz => by rw [punch_get, if_pos hz], hTL, hRL, hDL, fun q => hTs.1 q.symm, fun q => hTs.2 q.symm, hDR, (let ⟨o, ho, r⟩ := hcell; ⟨o, pk le.n1 hT1.symm hcs.1 hcs.2 ho, r⟩), pk hwL hTw.symm hws.1 hws.2 hl, hus, hwl, hkw.at fun o e => pk hkL hTk.symm hks.1 hks.2 e⟩
  have ow : OwT T R D ms [] [] h5 := ⟨ht5, ⟨n1, hR5⟩, ⟨n3, hD5⟩⟩
  have lst := law_loop (σ := s) (Q := Q) (E := E) (s := { s with heap := h5, toks := tk3 + 1 + 1 }) g S (k0 := ms.length + 1) ⟨ms, [], [], ?_, by have := ht.2.1; show 0 + (ms.length + 1) ≤ 25; lia, rfl, (fun d hd => by cases hd)⟩ fun s' ms' rows vs hr J => k s' _ R D ms' rows vs xhb S hr J
  · exact lst
  · refine ⟨S.rebase (s := { s with heap := h5, toks := tk3 + 1 + 1 }) (punch_ext _ _) m5 (fun nm y q => ?_) ow, punch_ext _ _, .nil, (fun r hr => by cases hr), (fun t ht => by cases ht), List.nodup_nil, (fun t ht => by cases ht), rfl, rfl, rfl⟩
    have hmem := mem_of_lookup q
    unfold lB at hmem
    simp only [List.mem_cons, List.not_mem_nil, or_false, Prod.mk.injEq] at hmem
    rcases hmem with ⟨rfl, rfl⟩ | ⟨rfl, rfl⟩ | ⟨rfl, rfl⟩ | ⟨rfl, rfl⟩ | ⟨rfl, rfl⟩
    · exact ⟨_, (if_neg (by decide)).trans ((if_neg (by decide)).trans ((if_neg (by decide)).trans hmw)), .ref _⟩
    · exact ⟨_, (if_neg (by decide)).trans ((if_neg (by decide)).trans ((if_neg (by decide)).trans hmk)), .ref _⟩
    · exact ⟨_, (if_neg (by decide)).trans ((if_neg (by decide)).trans (if_pos rfl)), .ref _⟩
    · exact ⟨_, (if_neg (by decide)).trans (if_pos rfl), .ref _⟩
    · exact ⟨_, if_pos rfl, .bool _⟩
end
end
section
open PySem PySem.W PyProof.Rows PySem.Calls PySem.SeqAt
theorem all2_get {α β : Type} {F : α → β → Prop} : ∀ {l : List α} {m : List β} {j : Nat} (h1 : j < l.length) (h2 : j < m.length), All2 F l m → F l[j] m[j]
  | _, _, 0, _, _, .cons x _ => x
  | _, _, j + 1, h1, h2, .cons _ y => all2_get (Nat.lt_of_succ_lt_succ h1) (Nat.lt_of_succ_lt_succ h2) y
theorem due_eqAt {A : Around} {s : Shared} {u v : Value} {d : DueD} (h1 : DueAt s.heap u d) (h2 : DueAt s.heap v d) (hu : A.units + 5 < cLine) : EqAt A s u v true := by
  obtain ⟨a, t1, t2, t3, t4, t5, rfl, e1⟩ := h1
  obtain ⟨b, u1, u2, u3, u4, u5, rfl, e2⟩ := h2
  by_cases hab : a = b
  · subst hab; exact EqAt.same _
  · have := RcAt.tuples (A := A) (e := fun _ => true) (items := (dueTup d t1 t2 t3 t4 t5).toArray) (items2 := (dueTup d u1 u2 u3 u4 u5).toArray) ⟨_, e1, rfl, _, rfl⟩ ⟨_, e2, rfl, _, rfl⟩ (by lia) (fun j j1 j2 => ?_)
    · exact EqAt.of_refs hab this
    · have hj : j < 6 := j1
      have : j = 0 ∨ j = 1 ∨ j = 2 ∨ j = 3 ∨ j = 4 ∨ j = 5 := by lia
      rcases this with rfl | rfl | rfl | rfl | rfl | rfl
      · have := EqAt.str_str (A := A.in1) (s := s) d.kind t1 d.kind u1; rw [beq_self_eq_true] at this; exact this
      · have := EqAt.str_str (A := A.in1) (s := s) d.val t2 d.val u2; rw [beq_self_eq_true] at this; exact this
      · have := EqAt.str_str (A := A.in1) (s := s) d.sp t3 d.sp u3; rw [beq_self_eq_true] at this; exact this
      · have := EqAt.bool_bool (A := A.in1) (s := s) d.fst d.fst; rw [beq_self_eq_true] at this; exact this
      · have := EqAt.int_int (A := A.in1) (s := s) d.row t4 d.row u4; rw [beq_self_eq_true] at this; exact this
      · have := EqAt.int_int (A := A.in1) (s := s) d.col t5 d.col u5; rw [beq_self_eq_true] at this; exact this
theorem got_eq {prog : Program} {w : World} {A : Around} {E : Value → Shared → Prop} {s : Shared} {l1 l2 : Addr} {vs us : List Value} {n1 n2 : Nat} {ds : List DueD} {Q : Value → Shared → Prop} (e1 : s.heap.get? l1 = some { cls := .type "list", data := .seq vs.toArray n1 }) (e2 : s.heap.get? l2 = some { cls := .type "list", data := .seq us.toArray n2 }) (h1 : All2 (DueAt s.heap) vs ds) (h2 : All2 (DueAt s.heap) us ds) (hu : A.units + 10 < cLine)
    (q : Q (.bool true) s) : wpAny (model prog w) A (compareOp .Eq (.ref l1) (.ref l2)) Q E s := by
  have n1 := h1.len
  have n2 := h2.len
  have := RcAt.lists (A := A) (s := s) (e := fun _ => true) (items := vs.toArray) (items2 := us.toArray) ⟨_, e1, rfl, _, rfl⟩ ⟨_, e2, rfl, _, rfl⟩ (by rw [List.size_toArray, List.size_toArray]; lia) (by lia) (fun j j1 j2 => ?_)
  · refine this prog w E Q ?_
    have ht : (List.range vs.toArray.size).all (fun _ => true) = true := by simp
    rw [ht]; exact q
  · have k1 : j < vs.length := by simpa using j1
    have k2 : j < us.length := by simpa using j2
    have a1 := all2_get k1 (by lia : j < ds.length) h1
    have a2 := all2_get k2 (by lia : j < ds.length) h2
    have := due_eqAt (A := A.in1) (s := s) a1 a2 (by show A.units + 1 + 5 < cLine; lia)
    simpa using this
end
section
open PySem PySem.W PyProof.Rows PySem.Calls PySem.SeqAt
section
variable {w : World} {mg mb : Str → Option Value} {A : Around} {E : Value → Shared → Prop} {Q : Flow → Shared → Prop} {hb : Heap} {env : Env} {L c1 c2 T R D lw lk : Addr} {ws : List Str} {us : List Value} {nw : Nat} {σ s : Shared} {ms : List Int} {rows : List Rw} {vs : List Value} {j : Bool}
/-- got, and the answer -/
theorem law_p3 (g : Gd 61 A) (S : Stat PW w mg mb hb env L c1 c2 T R D lw lk ws us nw) (hrl : rows.length ≤ 25) (J : LJ w mg mb hb env L T R D σ ms rows vs (dueOf ws (keepR rows)) (lB lw lk R D j) s) (hgens : s.gens = #[])
    (k : ∀ s', Ext hb s'.heap → s'.os = s.os → AllBare s'.gens → Q (.ret (.bool true)) s') : wpAny (model PW w) A (execs (lawBody.drop 10) env) Q E s := by
  rw [show lawBody.drop 10 = _ :: _ :: [] from rfl]
  obtain ⟨o4, fd4, body4, p1, p2, p3, p4, p5, p6, p7, p8, p9, p10, p11, P⟩ := got_loop w
  have fe := S.le.fe
  have hL := S.le.hL
  have kin : ∀ n kd, lawScope.names.lookup n = some kd → env.kindOf n = some kd := fun n kd e => by unfold Env.kindOf; rw [fe.hsc]; exact e
  have hpl : (env.scope.kind == .class || (env.scope.kind == .module && env.locals != env.globals)) = false := by rw [fe.hsc]; rfl
  have F := J.fs
  have W := F.world
  obtain ⟨nR, hR⟩ := F.ow.r
  obtain ⟨nD, hD⟩ := F.ow.d
  obtain ⟨m, hm, hml⟩ := F.ns
  rw [hL] at hm
  have vof : ∀ n a, (lB lw lk R D j).lookup n = some (.ref a) → m n = some (.ref a) := fun n a e => by obtain ⟨v, h1, h2⟩ := hml n _ e; cases h2; exact h1
  refine wpAny_execs_cons (s_compU (cl := []) (sw_local fe rfl (by rfl) (by rfl)) (closureFor_none (by decide)) (by decide) rfl (by decide) g.hd (kin _ _ rfl) hpl ?_ (by intro _; rfl))
  refine PyProof.Rows.Call_Name rfl (F.glob (v := .ref 93) (by kernel_rfl) rfl (by rfl) A _ E s _ (.refl _) ?_)
  refine callWith_function (o := o4) (fd := fd4) (evalArgs_plain (spliced_cons ?_))
  refine PyProof.Rows.Call_Name1 (F.boot (by kernel_rfl) (by rfl : bootBuiltins (Str.ofString "iter") = some (.builtin "iter")) (by decide) rfl (by rfl) A _ E s _ (.refl _) ?_) (by rfl)
  refine callWith_builtin (by rfl) (evalArgs_plain (spliced_cons (raw_name fe rfl (by rw [hL]; exact hm) (vof _ _ rfl) (spliced_nil ?_))))
  refine call_function_entry (by decide +kernel) (by decide +kernel) kdk_entry_iter (kdk_args_iter _) ?_
  unfold Builtin.«iter»
  refine wpAny_bind (m := someArgs "iter" 1 2 _) (wpAny_of_eq (a := [Value.ref R]) (by first | rfl | kernel_rfl!) ?_)
  show wpAny _ _ (pyIter (.ref R) >>= _) _ _ _
  have hli : s.heap.IsList R (refs rows).toArray := ⟨_, hR, rfl, nR, rfl⟩
  refine wpAny_bind (wpAny_pyIter_list hli (wpAny_pure ⟨_, rfl, ?_⟩))
  have i1 : (s.heap.push { cls := .type "list_iterator", data := .fields #[.ref R, .int 0 0] }).IsListIter s.heap.objs.size R 0 := ⟨_, Heap.get?_push_size _ rfl, rfl, rfl⟩
  have x1 : Ext s.heap (s.heap.push { cls := .type "list_iterator", data := .fields #[.ref R, .int 0 0] }) := Ext.push _ _
  generalize s.heap.push { cls := .type "list_iterator", data := .fields #[.ref R, .int 0 0] } = h1 at i1 x1
  have I0n : s.heap.get? s.heap.objs.size = none := get_size_none _
  generalize hI0 : s.heap.objs.size = I0 at i1 I0n
  refine spliced_cons (raw_name fe rfl (by rw [hL]; exact hm.keeps x1) (vof _ _ rfl) (spliced_nil ⟨⟨W.kin.keeps x1 93 _ p1, p2⟩, wpAny_call ?_⟩))
  have W1 := W.keep x1
  refine gen_make2 g.room (W.kin.keeps x1 93 _ p1) p2 W1.nl (codeRec_of W1.kin p4) p3 (BindsTo.of_eq (p5 _ _)) p6 (fun x hx => ?_) (fun h2 tk2 hns2 x2 hg2 hz2 => ?_) p9 p10 p11
  · simp only [List.mem_cons, List.not_mem_nil, or_false] at hx
    rcases hx with rfl | rfl
    · exact p7
    · exact p8
  dsimp only at hns2 x2 hg2 hz2 ⊢
  have L4n : h1.get? h1.objs.size = none := get_size_none _
  have I4n : h1.get? (h1.objs.size + 1 : Nat) = none := ge_none (Nat.le_succ _)
  have hIL : (h1.objs.size + 1 : Nat) ≠ (h1.objs.size : Nat) := by lia
  have hgs : s.gens.size = 0 := by rw [hgens]; rfl
  rw [hgs] at hg2
  generalize hL4 : h1.objs.size = L4 at hns2 hg2 hz2 L4n I4n hIL ⊢
  generalize hI4 : (L4 + 1 : Nat) = I4 at hg2 I4n hIL ⊢
  refine wpAny_pyIter_gen hg2 ?_
  refine ⟨fun A Q E s' hA e _ q => wpAny_pyIter_gen (hg2.keeps e) q, fun h3 tk3 hC e3 hD' hz3 => ?_⟩
  dsimp only at hC e3 hD' hz3 ⊢
  have D'n : h2.get? h2.objs.size = none := get_size_none _
  have Cn : h2.get? (h2.objs.size + 1 : Nat) = none := ge_none (Nat.le_succ _)
  have hCD : (h2.objs.size + 1 : Nat) ≠ (h2.objs.size : Nat) := by lia
  generalize hDD : h2.objs.size = D' at hC hD' D'n Cn hCD ⊢
  generalize hCC : (D' + 1 : Nat) = C at hC Cn hCD ⊢
  have x02 : Ext s.heap h2 := x1.trans x2
  have x03 : Ext s.heap h3 := x02.trans e3
  have sn : ∀ {b : Addr} {o : Obj}, s.heap.get? b = some o → b ≠ I0 ∧ b ≠ L4 ∧ b ≠ I4 ∧ b ≠ C ∧ b ≠ D' := fun {b o} e =>
    ⟨(by first | with_reducible exact neN I0n e | exact fun q => by rw [q, I0n] at e; cases e), (fun q => by rw [q] at e; rw [x1 _ _ e] at L4n; cases L4n), (fun q => by rw [q] at e; rw [x1 _ _ e] at I4n; cases I4n), (fun q => by rw [q] at e; rw [x02 _ _ e] at Cn; cases Cn), (fun q => by rw [q] at e; rw [x02 _ _ e] at D'n; cases D'n)⟩
  have hI0s : ∃ o, h1.get? I0 = some o := let ⟨o, ho, _⟩ := i1; ⟨o, ho⟩
  have hLI0 : L4 ≠ I0 := fun q => by obtain ⟨o, ho⟩ := hI0s; rw [← q, L4n] at ho; cases ho
  have hII0 : I4 ≠ I0 := fun q => by obtain ⟨o, ho⟩ := hI0s; rw [← q, I4n] at ho; cases ho
  have s2 : ∀ {b : Addr}, (h2.get? b).isSome = true → b ≠ C ∧ b ≠ D' := fun {b} e => ⟨(by first | with_reducible exact neN Cn e | exact fun q => by rw [q, Cn] at e; cases e), (fun q => by rw [q, D'n] at e; cases e)⟩
  have hI02 := s2 (b := I0) (by obtain ⟨o, ho⟩ := hI0s; rw [x2 _ _ ho]; rfl)
  have hL42 := s2 (b := L4) (ns_some hns2)
  have hI42 := s2 (b := I4) (isGen_some hg2)
  let kp : List Addr := (keepR rows).map (·.i.a)
  let pz : List Addr := [I0, L4, I4, C, D'] ++ kp
  have htk : ∀ t ∈ keepR rows, TkM t.i t.typ t.val s.heap := fun t ht => (J.tm t ht).1.keep (punch_ext _ _)
  have hkn : ∀ t ∈ keepR rows, t.i.a ≠ I0 ∧ t.i.a ≠ L4 ∧ t.i.a ≠ I4 ∧ t.i.a ≠ C ∧ t.i.a ≠ D' := fun t ht => by obtain ⟨t1, t2, e⟩ := htk t ht; exact sn e
  have hkz : ∀ t ∈ keepR rows, t.i.a ∉ [L, T, R, D] := fun t ht q => by obtain ⟨t1, t2, e⟩ := (J.tm t ht).1; rw [punch_get, if_pos q] at e; cases e
  -- what is no kept token stands under the generators
  have pkp : ∀ {b : Addr} {o : Obj}, s.heap.get? b = some o → (∀ t ∈ keepR rows, t.i.a ≠ b) → (punch h3 pz).get? b = some o := fun {b o} e n => by
    rw [punch_get, if_neg, x03 _ _ e]
    intro q
    rcases List.mem_append.mp q with q | q
    · have := sn e
      simp only [List.mem_cons, List.not_mem_nil, or_false] at q
      exact q.elim this.1 fun q => q.elim this.2.1 fun q => q.elim this.2.2.1 fun q => q.elim this.2.2.2.1 this.2.2.2.2
    · obtain ⟨t, ht, e2⟩ := List.mem_map.mp q
      exact n t ht e2
  have nk : ∀ {b : Addr} {o : Obj}, s.heap.get? b = some o → (∀ t ∈ keepR rows, ∀ t1 t2, o ≠ tkObj t.i t.typ t.val t1 t2) → ∀ t ∈ keepR rows, t.i.a ≠ b := fun {b o} e n t ht q => by
    obtain ⟨t1, t2, e2⟩ := htk t ht
    rw [q, e] at e2
    exact n t ht t1 t2 (Option.some.inj e2)
  have nkc : ∀ {b : Addr} {o : Obj}, s.heap.get? b = some o → o.cls ≠ .ref 199 → ∀ t ∈ keepR rows, t.i.a ≠ b := fun {b o} e n => nk e fun t ht t1 t2 q => n (by rw [q]; rfl)
  have xHp : Ext hb (punch h3 pz) := fun b o e => pkp (J.x _ _ e) fun t ht q => by have := J.fr t ht; rw [q, e] at this; cases this
  have okHp : ∀ r ∈ rows, RowOk (punch h3 pz) r := fun r hr => by
    have ok := (J.ok r hr).ext (punch_ext _ _)
    cases r with
    | mark a => obtain ⟨o, e, c⟩ := ok; exact ⟨o, pkp e (nkc e (by rw [c]; intro q; cases q)), c⟩
    | tok t =>
      obtain ⟨c, b⟩ := ok
      refine ⟨⟨pkp c.d (nkc c.d (by intro q; cases q)), c.sp, c.fs, pkp c.l (nkc c.l (by intro q; cases q)), pkp c.ld (nkc c.ld (by intro q; cases q))⟩, fun hbl => ?_⟩
      obtain ⟨t1, t2, e⟩ := b hbl
      refine ⟨t1, t2, pkp e (nk e fun u hu u1 u2 q => ?_)⟩
      have hub := (keepR_mem hu).2
      have hty : t.typ = u.typ := by
        have hsl := congrArg Obj.slots q
        unfold tkObj at hsl
        simp at hsl
        exact hsl.2.1.1
      rw [hty, hub] at hbl; cases hbl
  have GR : Ground2 w mg mb (punch h3 pz) rows I0 R :=
    ⟨S.W.keep xHp, okHp, fun t ht => by rw [punch_get, if_pos (List.mem_append_right _ (List.mem_map.mpr ⟨t, ht, rfl⟩))], J.nd, by rw [punch_get, if_pos (by simp [pz])], fun t ht => (hkn t ht).1, by rw [pkp hR (nkc hR (by intro q; cases q))]; rfl⟩
  have hlen : (keepR rows).length ≤ 100 := Nat.le_trans (keepR_len rows) (by lia)
  refine P (Hp := punch h3 pz) (rows := rows) (I0 := I0) (ax := R) (words := ws) (ka := lk) (L4 := L4) (I4 := I4) (g.le (by decide)) GR (fun t ht => (J.tm t ht).2) hlen (KwFact.ok (S.kw.at fun o e => xHp _ _ e)) (by rw [punch_get, if_pos (by simp [pz])]) (by rw [punch_get, if_pos (by simp [pz])]) hLI0 hII0 hIL (fun t ht => ⟨(hkn t ht).2.1, (hkn t ht).2.2.1⟩) (by rw [hgens]; rfl) (hg2.keeps e3) (punch_ext _ _) (let ⟨o, ho, r⟩ := i1; ⟨o, e3 _ _ (x2 _ _ ho), r⟩) ⟨_, x03 _ _ hR, rfl, nR, rfl⟩
    ⟨_, hns2.keeps e3, rfl, rfl⟩ (fun t ht => (htk t ht).keep x03) (fenv_comp fe rfl) rfl hCD (fun b hb => ?_) hD' ⟨_, hC⟩ (fun s' vs' n' d1 d2 d3 d4 d5 d6 => ⟨rfl, ?_⟩)
  · rcases hb with rfl | rfl
    · exact ⟨by rw [punch_get, if_pos (by simp [pz])], hI02.1.symm, hL42.1.symm, hI42.1.symm, fun t ht => (hkn t ht).2.2.2.1⟩
    · exact ⟨by rw [punch_get, if_pos (by simp [pz])], hI02.2.symm, hL42.2.symm, hI42.2.symm, fun t ht => (hkn t ht).2.2.2.2⟩
  · have k1 : ∀ b o, (∀ t ∈ keepR rows, t.i.a ≠ b) → s.heap.get? b = some o → s'.heap.get? b = some o := fun b o n e => d3 b o (sn e).2.1 (sn e).1 (sn e).2.2.2.1 (sn e).2.2.2.2 n (x03 _ _ e)
    have nL : ∀ t ∈ keepR rows, t.i.a ≠ L := fun t ht q => hkz t ht (by rw [q]; exact .head _)
    have mL : s'.heap.Ns L m := hm.at fun o e => k1 L o nL e
    obtain ⟨mC, nC⟩ := d6
    have hLs : L ≠ C ∧ L ≠ D' := let ⟨o, ho⟩ := Option.isSome_iff_exists.mp (ns_some hm); ⟨(sn ho).2.2.2.1, (sn ho).2.2.2.2⟩
    refine ⟨m, mC, by rw [hL]; exact mL, nC, by rw [hL]; exact hLs.1, fun h9 tk9 n9 k9 => ?_⟩
    rw [hL] at n9 k9
    have hDs := sn hD
    have nDD : ∀ t ∈ keepR rows, t.i.a ≠ D := nkc hD (by intro q; cases q)
    have hD9 : h9.get? D = some { cls := .type "list", data := .seq vs.toArray nD } := k9 D _ S.LD hDs.2.2.2.1 (k1 D _ nDD hD)
    have hG9 : h9.get? D' = some { cls := .type "list", data := .seq vs'.toArray n' } := k9 D' _ hLs.2.symm hCD.symm d1
    have due9 : All2 (DueAt h9) vs (dueOf ws (keepR rows)) := J.du.imp fun v d ⟨a, t1, t2, t3, t4, t5, e, e2⟩ => by
      have haz : a ∉ [L, T, R, D] := fun q => by rw [punch_get, if_pos q] at e2; cases e2
      have e3 := punch_ext _ _ _ _ e2
      exact ⟨a, t1, t2, t3, t4, t5, e, k9 a _ (fun q => haz (by rw [q]; exact .head _)) (sn e3).2.2.2.1 (k1 a _ (nkc e3 (by intro q; cases q)) e3)⟩
    have ntup : ∀ {h : Heap} {a : Addr} {mm : Str → Option Value} {c : Value} {xs : Array Value}, h.Ns a mm → h.get? a ≠ some { cls := c, data := .seq xs } := fun {h a mm c xs} x e => by
      obtain ⟨o, es, ep, ho, hd, _⟩ := x
      rw [e] at ho
      rw [← Option.some.inj ho] at hd
      cases hd
    have got9 : All2 (DueAt h9) vs' (dueOf ws (keepR rows)) := d2.imp fun v d ⟨a, t1, t2, t3, t4, t5, e, e2⟩ =>
      ⟨a, t1, t2, t3, t4, t5, e, k9 a _ (fun q => ntup mL (q ▸ e2)) (fun q => ntup nC (q ▸ e2)) e2⟩
    have xh9 : Ext hb h9 := fun b o e => by
      have e1 := J.x _ _ e
      have nb : b ≠ L := fun q => by rw [q, S.nn L (.head _)] at e; cases e
      exact k9 b o nb (sn e1).2.2.2.1 (k1 b o (fun t ht q => by have := J.fr t ht; rw [q, e] at this; cases this) e1)
    have hgot : (fun z => if z = Str.ofString "got" then some (Value.ref D') else m z) (Str.ofString "got") = some (.ref D') := if_pos rfl
    have hdue : (fun z => if z = Str.ofString "got" then some (Value.ref D') else m z) (Str.ofString "due") = some (.ref D) := (if_neg (by decide)).trans (vof _ _ rfl)
    refine wpAny_execs_cons (wpAny_Return_some (wpAny_Compare1 (raw_name (m := fun z => if z = Str.ofString "got" then some (Value.ref D') else m z) fe rfl (by rw [hL]; exact n9) hgot (raw_name (m := fun z => if z = Str.ofString "got" then some (Value.ref D') else m z) fe rfl (by rw [hL]; exact n9) hdue ?_)) (by with_unfolding_all rfl)))
    refine got_eq (ds := dueOf ws (keepR rows)) hG9 hD9 got9 due9 (by have := (g.le (show 10 ≤ 61 by decide)).units; lia) ?_
    exact k _ xh9 d4 d5
end
end
section
open PySem PySem.W PyProof.Rows PySem.Calls PySem.SeqAt
theorem law_walk : ∀ (w : World) (mg mb : Str → Option Value) (s₁ : Shared) (fa : Addr) (o : Obj) (fd : FuncData) (a : Addr) (vs : List Value) (ns : List Int), LawFn s₁.heap fa o fd → Wd (KK w) mg mb s₁.heap → s₁.heap.IsList a vs.toArray → IntsAre vs ns → ns.length ≤ 63 → s₁.gens = #[] → ∀ A : Around, Gd 100 A →
    codeAny (model PySem.Challenge.pw_qt0004_01 w) A (.call (.ref fa) ⟨[.ref a], []⟩) (fun r s' => r = .ok (.ret (.bool true)) ∧ Ext s₁.heap s'.heap ∧ s'.os = s₁.os ∧ AllBare s'.gens) s₁ := by
  intro w mg mb s₁ fa o fd a vs ns LF W ha hv hl hg A g
  have hk1 : fd.scope.names.lookup (Str.ofString "script") = some .local := by rw [LF.sc]; rfl
  refine codeAny_call_cells g.room LF.ho LF.hd W.nl LF.cd LF.body (LF.bind _) LF.clo (fun x hx => ?_) (fun s0 x => ?_) (by rw [LF.sc]; rfl) (by rw [LF.sc]; rfl) (by rw [LF.sc]; rfl)
  · rw [List.mem_singleton.mp hx]
    exact .inl hk1
  have hsc : (callEnvC fd s₁.heap.objs.size fa).scope = lawScope := LF.sc
  have le : LawEnv (callEnvC fd s₁.heap.objs.size fa) s₁.heap.objs.size (s₁.heap.objs.size + 1 : Nat) (s₁.heap.objs.size + 2 : Nat) := by
    refine ⟨⟨LF.sc, LF.g, LF.b, rfl⟩, rfl, ?_, ?_, ?_, ?_, ?_⟩
    · show (cellsFrom (s₁.heap.objs.size + 1) fd.scope.names []).lookup _ = _
      rw [LF.sc]; rfl
    · show (cellsFrom (s₁.heap.objs.size + 1) fd.scope.names []).lookup _ = _
      rw [LF.sc]; rfl
    · exact fun e => absurd (show s₁.heap.objs.size + 1 = s₁.heap.objs.size + 2 from e) (by lia)
    · exact fun e => absurd (show s₁.heap.objs.size + 1 = s₁.heap.objs.size from e) (by lia)
    · exact fun e => absurd (show s₁.heap.objs.size + 2 = s₁.heap.objs.size from e) (by lia)
  have hkL : (callEnvC fd s₁.heap.objs.size fa).kindOf (Str.ofString "script") = some .local := by unfold Env.kindOf; rw [hsc]; rfl
  obtain ⟨h0, tk0, rfl⟩ := x.toInCall.same
  have hns := x.toInCall.ns
  have hcell := x.cell
  have hkp : Ext s₁.heap h0 := x.toInCall.keep
  have c1 := hcell _ _ le.l1
  have c2 := hcell _ _ le.l2
  have gA := (g.le (show 99 + 1 ≤ 100 by decide)).deeper (callEnvC fd s₁.heap.objs.size fa)
  have e1 : (bindC (callEnvC fd s₁.heap.objs.size fa).kindOf [(Str.ofString "script", Value.ref a)] fun _ => none) (Str.ofString "tape") = none := by
    unfold bindC; rw [if_pos hkL]; rfl
  have e2 : (bindC (callEnvC fd s₁.heap.objs.size fa).kindOf [(Str.ofString "script", Value.ref a)] fun _ => none) (Str.ofString "mask") = none := by
    unfold bindC; rw [if_pos hkL]; rfl
  have e3 : (bindL (callEnvC fd s₁.heap.objs.size fa).kindOf [(Str.ofString "script", Value.ref a)] fun _ => none) (Str.ofString "script") = some (.ref a) := by
    unfold bindL; rw [if_pos hkL]; show (if Str.ofString "script" = Str.ofString "script" then some (Value.ref a) else none) = _; exact if_pos rfl
  rw [e1] at c1
  rw [e2] at c2
  have b0 : s₁.heap.get? s₁.heap.objs.size = none := get_size_none _
  have b1 : s₁.heap.get? (s₁.heap.objs.size + 1 : Nat) = none := ge_none (Nat.le_succ _)
  have b2 : s₁.heap.get? (s₁.heap.objs.size + 2 : Nat) = none := ge_none (Nat.le_add_right _ _)
  refine law_p1 (hb := s₁.heap) (prog := PW) (gA.le (by decide)) W hkp le b0 b1 b2 hns e3 c1 c2 ha hv hl fun s T ms ws lw lk us n m' x1 bT bw bk n1 n2 n3 n4 n5 n6 hc ht hm hmw hmk hlw hus hwl hkw g1 g2 g3 => ?_
  refine law_p2 (hb := s₁.heap) (n := n) (gA.le (by decide)) W x1 le b0 bT n1 n2 n3 n4 n5 n6 hc ht hm hmw hmk hlw hus hwl hkw fun s2 hb2 R D ms2 rows vs2 xb2 S hr J => ?_
  refine law_p3 (gA.le (by decide)) S hr J (by rw [J.gn.1, g1]; exact hg) fun s3 x3 o3 ab => ⟨rfl, xb2.trans x3, ?_, ab⟩
  rw [o3, J.gn.2.2, g3]
end
set_option maxHeartbeats 8000000 in
set_option Elab.async true in
theorem top : PySem.Challenge.rw_qt0004_01.Holds := by
  w_on
  o_law
  o_head (kHook KKf (2 :: 3 :: 15 :: 17 :: 18 :: 20 :: 21 :: 29 :: 30 :: 31 :: 33 :: 34 :: 36 :: 37 :: 38 :: 40 :: 41 :: 43 :: 44 :: 45 :: 46 :: 47 :: 48 :: 49 :: 52 :: 54 :: 55 :: 57 :: 58 :: 59 :: 61 :: 62 :: 64 :: 65 :: 66 :: 68 :: 69 :: 71 :: 72 :: 73 :: 75 :: 76 :: 78 :: 79 :: 80 :: 82 :: 83 :: 85 :: 86 :: 87 :: 89 :: 90 :: 92 :: 93 :: 101 :: 102 :: 104 :: 105 :: 107 :: 108 :: 109 :: 111 :: 112 :: 114 :: 115 :: 116 :: 118 :: 119 :: 120 :: 121 :: 122 :: 132 :: 133 :: 134 :: 136 :: 137 :: 139 :: 140 :: 141 :: 143 :: 144 :: 146 :: 147 :: 148 :: 150 :: 151 :: 152 :: 153 :: 154 :: 155 :: 156 :: 159 :: 162 :: 167 :: 168 :: 170 :: 171 :: 173 :: 174 :: 175 :: 177 :: 178 :: 180 :: 181 :: 182 :: 184 :: 185 :: 187 :: 188 :: 189 :: 190 :: 192 :: 193 :: 195 :: 196 :: 197 :: 198 :: 199 :: 200 :: 201 :: 204 :: 206 :: 207 :: 209 :: 210 :: 211 :: 213 :: 214 :: 216 :: 217 :: 218 :: 220 :: 221 :: 223 :: 224 :: 225 :: 227 :: 228 :: 230 :: 231 :: 232 :: 234 :: 235 :: 237 :: 238 :: 239 :: 241 :: 242 :: 244 :: 245 :: 246 :: 248 :: 249 :: 251 :: 252 :: 253 :: 255 :: 256 :: 258 :: 259 :: 260 :: 262 :: 263 :: 265 :: 266 :: 267 :: 269 :: 270 :: 272 :: 273 :: 274 :: 276 :: 277 :: 279 :: 280 :: 281 :: 283 :: 284 :: 286 :: 287 :: 288 :: 290 :: 291 :: 293 :: 294 :: 295 :: 297 :: 298 :: 300 :: 301 :: 302 :: 304 :: 305 :: 307 :: 308 :: 309 :: 312 :: 313 :: []) (fun _ => by kernel_rfl))
  case hw => w_witness2
  w_strict (k_fill
            intro w s₀ s₁ mg mb G Y fa o pm cd doc dV kV ho hd hcd hD hmg hg args vals as hpre hlay hrd hwl hlo
            have KX := kIn_of Y
            refine Ground.open G ?_
            intro T B D TE TW
            wrow_args hpre hlay hrd hwl hlo)
  have W : Wd (KK w) mg mb s₁.heap := ⟨KX, T.g, T.b, T.nolimit, T.builtins⟩
  have e1 := Dflts.pos_none hD rfl
  have e2 := Dflts.kw_none hD rfl
  subst e1 e2
  refine enter_call (codeAny_mono (law_walk w mg mb s₁ fa o _ _ _ _ ⟨ho, hd, hcd, rfl, rfl, rfl, rfl, rfl, fun _ => rfl⟩ W (by assumption) (by assumption) ?_ hg _ ?_) ?_)
  · lia
  · exact ⟨rfl, by decide, by decide⟩
  · rintro r s' ⟨rfl, h1, h2, h3⟩
    exact ⟨.inl ⟨_, .bool true, [], rfl, fun _ => rfl, ReadsW.bool true, by first | rfl | wrow_post, fun _ => ⟨List.nodup_nil, fun _ hm => (nomatch hm)⟩⟩, .of_keep h1, h2, h3⟩
end Mine
theorem PySem.Challenge.cw_qt0004_01_holds : PySem.Challenge.rw_qt0004_01.Holds := by
  exact Mine.top
